/-
  SlhVerifies, part 27: an interpreter of my own over abstract values, the pure functions, the walks and the plain law.
-/

import Derived.Test.YtciddcopcdmnbaaGreatDoorSlhVerifiesZ
import Derived.Test.YtciddcopcdmnbaaGreatDoorSlhVerifiesM
import Derived.Test.YtciddcopcdmnbaaGreatDoorSlhVerifiesL
import Derived.Test.YtciddcopcdmnbaaGreatDoorSlhVerifiesK
import Derived.Test.YtciddcopcdmnbaaGreatDoorSlhVerifiesY
import Derived.Test.YtciddcopcdmnbaaGreatDoorSlhVerifiesI
open Nat renaming mul_le_mul → Aa, pow_le_pow_right → Ah, le_refl → Am, div_le_self → Ao, succ_mul → Ap, two_pow_pos → Ar, mul_comm → Av, add_sub_cancel_left → Aw, le_mul_of_pos_right → A9, one_mul → Bb, and_two_pow_sub_one_eq_mod → Bc, add_mul → Bf, mod_lt → Bh
open Go.IntKind renaming i64 → Ab, u64 → Ai
open List renaming length_append → Ac, length_drop → Ad, length_take → Ae, drop_zero → Ag, take → Aj, drop → Ak, take_length → Al, getD_eq_getElem?_getD → Aq, drop_drop → Au, take_of_length_le → Ba, drop_take → Bd, nil_append → Bj, replicate → Bl, range → Bn
open Int renaming natCast_mul → Af, tmod_eq_emod_of_nonneg → Ay, tdiv_eq_ediv_of_nonneg → Az, mul_comm → A8, natCast_nonneg → Bg

section
/- wots: sums at places. -/
namespace Q
open QK
open Go Go.Abs
set_option linter.unusedVariables false
set_option linter.unusedSimpArgs false
theorem buj{kind:Int}(w blk b:List Int)(hl:blk.length=bsz kind):awx kind (awx kind w blk) b=awx kind w (blk++b):=by
 unfold awx
 rcases alj kind with ⟨h,e⟩ | ⟨h,e⟩
 ·rw[e] at hl
  have:=(be2 p32 (toV 32 w) blk b 1 (by omega) (b.length/64)).1
  simp only[if_pos h]
  rw[bwo _ (aot _ _ (aor _ _) _ _),Ac,hl,show (64+b.length)/64=1+b.length/64 by omega,Nat.div_self (by omega),this]
 ·rw[e] at hl
  have:=(be2 p64 (toV 64 w) blk b 1 (by omega) (b.length/128)).1
  simp only[if_neg h]
  rw[bwo _ (aot _ _ (aor _ _) _ _),Ac,hl,show (128+b.length)/128=1+b.length/128 by omega,Nat.div_self (by omega),this]
theorem bv0{n:Nat}(hn:0<n)(blk b:List Int)(hl:blk.length=n):rest n (blk++b)=rest n b:=by
 unfold rest
 rw[Ac,hl,Nat.add_comm n,Nat.add_div_right _ hn,Nat.mul_succ,List.drop_append,List.drop_eq_nil_of_le (by omega),Bj,hl,Nat.add_sub_cancel]
def blk(kind:Int)(pub:List Int):List Int:=pub++Bl (bsz kind-pub.length) 0
theorem bl8(kind:Int)(pub:List Int)(h:pub.length≤64):(blk kind pub).length=bsz kind:=by
 unfold blk
 rcases alj kind with ⟨_,e⟩ | ⟨_,e⟩<;>rw[Ac,List.length_replicate,e]<;>omega
theorem bwg{kind:Int}{pub:List Int}(h:In 256 pub):In 256 (blk kind pub):=h.app (fun x hx=>by rw[List.mem_replicate] at hx;omega)
theorem zu{kind:Int}(h:K3 kind)(pub:List Int)(hp:In 256 pub)(hn:pub.length≤64)(B:Int)(hB:B=((bsz kind:Nat):Int)){ρ:Type}(k:Int→List Int→List Int→Int→Option ρ) :
    P.zu kind B pub k=k kind (awx kind (bjj kind) (blk kind pub)) [] B:=by
 have hb:bsz kind=64∨bsz kind=128:=by rcases alj kind with ⟨_,e⟩ | ⟨_,e⟩<;>omega
 have hw:=bm1 kind
 have e1:[pub].flatten=pub:=by simp
 have e2:Ab.wrap (B-(pub.length:Int))=((bsz kind-pub.length:Nat):Int):=by rw[nu (by omega) (by omega)];omega
 have hl:=bl8 kind pub hn
 have er:rest (bsz kind) (blk kind pub)=[]:=List.eq_nil_of_length_eq_zero (by rw[az1 _ (ark kind),hl,Nat.mod_self])
 have e3:=bgy (blk kind pub) (by omega)
 rw[P.as7];unfold P.aku
 rw[afn h,jd _ (by simp) (by rw[e1];omega),e1,e2,toNat_cast,bf (by omega),bf (by omega)]
 show P.zo kind (bjj kind) [] 0 (blk kind pub) _=_
 rw[zo kind _ [] _ _ hw.1 hw.2.1 In.nil (bwg hp) (by rw[List.length_nil];omega),Bj,er,e3,hl,hB]
def sho(a:List Int):List Int:=(a.drop 3).take 1++((a.drop 8).take 8++(a.drop 19).take 13)
theorem bg4(a:List Int):(sho a).length≤22:=by unfold sho;simp;omega
theorem bwh{a:List Int}(h:In 256 a):In 256 (sho a):=((h.drop _).take _).app (((h.drop _).take _).app ((h.drop _).take _))
theorem zw(a:List Int){ρ:Type}(k:List Int→Option ρ):P.zw a k=k (sho a):=by
 have e:[Aj 1 (Ak 3 a),Aj 8 (Ak 8 a),Aj 13 (Ak 19 a)].flatten=sho a:=by unfold sho;simp
 have:=bg4 a
 rw[P.avp];unfold P.amk
 rw[jd _ (by simp) (by rw[e];omega),e]
theorem abl(a:List Int){ρ:Type}(k:List Int→Option ρ):P.abl a k=k (sho a):=by
 have e0:Aj 13 (Ak 19 a)=Aj 1 (Ak 19 a)++Aj 12 (Ak 20 a):=by
  rw[show (13:Nat)=1+12 from rfl,List.take_add,Au]
 have e:[Aj 1 (Ak 3 a),Aj 8 (Ak 8 a),Aj 1 (Ak 19 a),Aj 12 (Ak 20 a)].flatten=sho a:=by unfold sho;rw[e0];simp
 have:=bg4 a
 rw[P.ayw];unfold P.an7
 rw[ji _ (by simp) (by rw[e];omega),e]
def hk(n:Nat)(t:List Int):Int:=if 16<n∧n<t.length then 3 else 1
def bgw(n:Nat)(sh:Bool)(pub a t:List Int):List Int:=if sh then btp 7 (pub++(a++t)) n else (bp5 (hk n t) (blk (hk n t) pub++(sho a++t))).take n
theorem bmv{kd:Int}(h:kd=1∨kd=3)(b:List Int):32≤(bp5 kd b).length:=by
 rw[az6];rcases h with rfl | rfl<;>simp
theorem hk13(n:Nat)(t:List Int):hk n t=1∨hk n t=3:=by unfold hk;split;exact .inr rfl;exact .inl rfl
theorem alh{n:Nat}(hn:n≤32)(sh:Bool)(pub a t:List Int):(bgw n sh pub a t).length=n:=by
 unfold bgw
 split
 ·exact bgu _ _ _
 ·have:=bmv (hk13 n t) (blk (hk n t) pub++(sho a++t))
  rw[Ae];omega
theorem aqn(n:Nat)(sh:Bool)(pub a t:List Int):In 256 (bgw n sh pub a t):=by
 unfold bgw
 split
 ·exact bmr _ _ _
 ·exact (bsb _ _).take _
theorem bb9{kind:Int}(h:kind=1∨kind=3){n:Nat}(hn:n≤32)(pub:List Int)(hp:In 256 pub)(np:pub.length≤64)(q:List Int)(hq:In 256 q)(nq:q.length≤100000)(B:Int)(hB:B=((bsz kind:Nat):Int)){ρ:Type}(k:List Int→Option ρ) :
    (P.zo kind (awx kind (bjj kind) (blk kind pub)) [] B q fun (q2:Int) (q3 q4:List Int) (q5:Int)=>P.ac8 q2 q3 q4 q5 fun (q6:List Int) =>
     br (decide ((0:Int)≤(n:Int))) (br (decide ((n:Int)≤(q6.length:Int))) (k (Aj ((n:Int)-(0:Int)).toNat (Ak 0 q6))) none) none)=k ((bp5 kind (blk kind pub++q)).take n):=by
 have hb:bsz kind=64∨bsz kind=128:=by rcases alj kind with ⟨_,e⟩ | ⟨_,e⟩<;>omega
 have hw:=atp kind (bjj kind) (blk kind pub)
 have hl:=bl8 kind pub np
 have hw2:=atp kind (awx kind (bjj kind) (blk kind pub)) ([]++q)
 have hr:=az1 (bsz kind) (ark kind) ([]++q)
 have hm:=Bh ([]++q).length (ark kind)
 have e3:Ai.wrap (B+Ai.wrap (q.length:Int))=(((blk kind pub++q).length:Nat):Int):=by
  rw[aik _ (by omega),hB,←Int.natCast_add,aik _ (by omega),Ac,hl]
 have hs:=bmv h (blk kind pub++q)
 rw[zo kind _ [] _ q hw.1 hw.2.1 In.nil hq (by rw[List.length_nil];omega),e3,ac8 _ _ _ _ hw2.1 hw2.2.1 (bmi (In.nil.app hq)) (by omega)]
 have e4:btd kind (awx kind (awx kind (bjj kind) (blk kind pub)) ([]++q)) (rest (bsz kind) ([]++q)) (blk kind pub++q).length=bp5 kind (blk kind pub++q):=by
  unfold bp5
  rw[Bj,buj _ _ _ hl,bv0 (ark kind) _ _ hl]
 rw[e4,bf (by omega),bf (by omega),Ag,Int.sub_zero,toNat_cast]
theorem bso{n:Nat}(hn:n≤32)(pub a t:List Int)(hp:In 256 pub)(np:pub.length≤64)(ha:In 256 a)(ht:In 256 t)(nt:t.length≤90000){ρ:Type}(k:List Int→Option ρ) :
    P.jq a t 1 (awx 1 (bjj 1) (blk 1 pub)) [] 64 (n:Int) 3 (awx 3 (bjj 3) (blk 3 pub)) [] 128 k=k (bgw n false pub a t):=by
 have e:[sho a,t].flatten=sho a++t:=by simp
 have hs:=bg4 a
 have hl:(sho a++t).length≤100000:=by rw[Ac];omega
 have hq:In 256 (sho a++t):=(bwh ha).app ht
 rw[P.amx];unfold P.af4 bgw hk
 by_cases h1:16<n
 ·rw[bf (by omega)]
  by_cases h2:n<t.length
  ·rw[bf (by omega),if_neg (by simp),if_pos ⟨h1,h2⟩,zw,jd _ (by simp) (by rw[e];omega),e]
   exact bb9 (.inr rfl) hn pub hp np _ hq hl 128 rfl k
  ·rw[dh (by omega),if_neg (by simp),if_neg (by omega),zw,jd _ (by simp) (by rw[e];omega),e]
   exact bb9 (.inl rfl) hn pub hp np _ hq hl 64 rfl k
 ·rw[dh (by omega),if_neg (by simp),if_neg (by omega),zw,jd _ (by simp) (by rw[e];omega),e]
  exact bb9 (.inl rfl) hn pub hp np _ hq hl 64 rfl k
theorem R7t:Rt 7 136:=.inr (.inr (.inr ⟨rfl,rfl⟩))
theorem g0:Good 136 (Z25,0):=⟨bxi,by decide⟩
theorem bqj{n:Nat}(hn:n≤32)(pub a t:List Int)(la:a.length=32)(nt:t.length≤90000){ρ:Type}(k:List Int→Option ρ) :
    P.jo a t 7 (aw6 136 (Z25,0) pub).1 ((aw6 136 (Z25,0) pub).2:Int) false (n:Int) k=k (bgw n true pub a t):=by
 have e:[Aj 32 (Ak 0 a),t].flatten=a++t:=by rw[Ag,Ba (by omega)];simp
 have hl:(a++t).length≤100000:=by rw[Ac];omega
 rw[P.am7];unfold P.agh bgw
 rw[jd _ (by simp) (by rw[e];omega),e,if_pos rfl]
 refine (om R7t _ _ (ait pub g0) (a++t) (by omega) _).trans ?_
 refine (pq R7t _ (ait (a++t) (ait pub g0)) n (by omega) _).trans ?_
 unfold btp
 show k (sqO 136 (trn 7 136 (aw6 136 (aw6 136 (Z25,0) pub) (a++t)),0) n)=k (sqO 136 (trn 7 136 (aw6 136 (Z25,0) (pub++(a++t))),0) n)
 simp only[bvt]
def Sg(n:Nat)(sh:Bool)(pub:List Int)(tg:Nat)(cK:Int)(cW:List Int)(cA:Int)(cO:Bool)(c1 dK:Int)(dW dT:List Int)(dS d1 eK:Int)(eW eT:List Int)(eS:Int):Prop :=
 (sh=true∧tg=1∧cK=7∧cW=(aw6 136 (Z25,0) pub).1∧cA=((aw6 136 (Z25,0) pub).2:Int)∧cO=false∧c1=(n:Int)) ∨
 (sh=false∧tg=2∧dK=1∧dW=awx 1 (bjj 1) (blk 1 pub)∧dT=[]∧dS=64∧d1=(n:Int)∧eK=3∧eW=awx 3 (bjj 3) (blk 3 pub)∧eT=[]∧eS=128)
theorem call{n:Nat}{sh:Bool}{pub:List Int}{tg:Nat}{cK:Int}{cW:List Int}{cA:Int}{cO:Bool}{c1 dK:Int}{dW dT:List Int}{dS d1 eK:Int}{eW eT:List Int}{eS:Int}(h:Sg n sh pub tg cK cW cA cO c1 dK dW dT dS d1 eK eW eT eS)
    (hn:n≤32) (hp:In 256 pub) (np:pub.length≤64) {a t:List Int} (la:a.length=32) (ha:In 256 a) (ht:In 256 t) (nt:t.length≤90000) {ρ:Type} (k:List Int→Option ρ) :
    br (decide (tg=1)) (P.jo a t cK cW cA cO c1 fun (q:List Int)=>k q) (br (decide (tg=2)) (P.jq a t dK dW dT dS d1 eK eW eT eS fun (q:List Int)=>k q) none)=k (bgw n sh pub a t):=by
 rcases h with ⟨rfl,rfl,rfl,rfl,rfl,rfl,rfl⟩ | ⟨rfl,rfl,rfl,rfl,rfl,rfl,rfl,rfl,rfl,rfl,rfl⟩
 ·rw[bf rfl]
  exact bqj hn pub a t la nt k
 ·rw[dh (by omega),bf rfl]
  exact bso hn pub a t hp np ha ht nt k
theorem bn4{n:Nat}{H D A K:Int}(hf:acf n H D A K)(sh:Bool)(pub:List Int)(hp:In 256 pub)(np:pub.length=n) :
    ∃tg cK cW cA cO c1 dK dW dT dS d1 eK eW eT eS,Sg n sh pub tg cK cW cA cO c1 dK dW dT dS d1 eK eW eT eS ∧
     ∀{ρ:Type} (k:Int→Int→Int→Int→Int→Bool→Nat→Int→(List Int)→Int→Bool→Int→Int→(List Int)→(List Int)→Int→Int→Int→(List Int)→(List Int)→Int→Bool→Option ρ),
      P.abk n H D A K sh pub k=k n H D A K sh tg cK cW cA cO c1 dK dW dT dS d1 eK eW eT eS true:=by
 have hn:n≤32:=by unfold acf at hf;omega
 cases sh with
 | true =>
  refine ⟨1,7,_,_,false,(n:Int),0,[],[],0,0,0,[],[],0,.inl ⟨rfl,rfl,rfl,rfl,rfl,rfl,rfl⟩,fun k=>?_⟩
  rw[P.an8];unfold P.ah5
  rw[jv,decide_eq_true hf,jl,oz,fq (by omega),oz,P.asq];unfold P.akz
  rw[P.aol];unfold P.ah3
  rw[bep R7t,gy (by omega)]
  exact om R7t Z25 0 g0 pub (by omega) _
 | false =>
  refine ⟨2,0,[],0,false,0,1,_,_,64,(n:Int),3,_,_,128,.inr ⟨rfl,rfl,rfl,rfl,rfl,rfl,rfl,rfl,rfl,rfl,rfl⟩,fun k=>?_⟩
  rw[P.an8];unfold P.ah5
  rw[jv,decide_eq_true hf,jl,oz,fq (by omega),wo,P.as1];unfold P.aj7
  rw[zu (.inl rfl) pub hp (by omega) 64 rfl,zu (.inr (.inr rfl)) pub hp (by omega) 128 rfl]
theorem aao{n:Nat}{H D A K:Int}(hf:acf n H D A K)(sh:Bool)(pub:List Int)(hp:In 256 pub)(np:pub.length=n)(a t:List Int)(la:a.length=32)(ha:In 256 a)(ht:In 256 t)(nt:t.length≤90000){ρ:Type}(k:List Int→Option ρ) :
    P.aao n H D A K sh pub a t k=k (bgw n sh pub a t):=by
 have hn:n≤32:=by unfold acf at hf;omega
 obtain ⟨tg,cK,cW,cA,cO,c1,dK,dW,dT,dS,d1,eK,eW,eT,eS,hs,hb⟩:=bn4 hf sh pub hp np
 rw[P.bdk];unfold P.aqz
 rw[hb,jl,oz]
 exact call hs hn hp (by omega) la ha ht nt k
theorem wu{n:Nat}{H D A K:Int}(hf:acf n H D A K)(sh:Bool)(pub:List Int)(hp:In 256 pub)(np:pub.length=n)(a t:List Int)(la:a.length=32)(ha:In 256 a)(ht:In 256 t)(nt:t.length≤90000){ρ:Type}(k:List Int→Option ρ) :
    P.wu n H D A K sh pub a t k=k (bgw n sh pub a t):=by
 have hn:n≤32:=by unfold acf at hf;omega
 have hsl:=bg4 a
 have path:∀(kind:Int) (h:kind=1∨kind=3) (B:Int),B=((bsz kind:Nat):Int) →
     (br (decide ((0:Int)≤Ab.wrap (B-(n:Int)))) (br (decide (Ab.wrap (B-(n:Int))≤Ab.wrap (B-(n:Int))))
      (br (decide (Ab.wrap (B-(n:Int))*((1:Nat):Int)≤((140737488355328:Nat):Int)))
       (P.abl a fun (q4:List Int) =>
        P.ji [pub,Bl (Ab.wrap (B-(n:Int))).toNat (0:Int),q4,t] fun (q5:List Int) =>
         P.abg kind q5 fun (q6:List Int) (q7:Int) =>
          br (decide ((0:Int)≤(n:Int))) (br (decide ((n:Int)≤(q6.length:Int))) (k (Aj ((n:Int)-(0:Int)).toNat (Ak 0 q6))) none) none) none) none) none)=k ((bp5 kind (blk kind pub++(sho a++t))).take n):=by
  intro kind h B hB
  have hb:bsz kind=64∨bsz kind=128:=by rcases alj kind with ⟨_,e⟩ | ⟨_,e⟩<;>omega
  have e:Ab.wrap (B-(n:Int))=((bsz kind-pub.length:Nat):Int):=by rw[nu (by omega) (by omega)];omega
  have ej:[pub,Bl (bsz kind-pub.length) (0:Int),sho a,t].flatten=blk kind pub++(sho a++t):=by unfold blk;simp
  have hl:=bl8 kind pub (by omega)
  have hll:(blk kind pub++(sho a++t)).length≤100000:=by rw[Ac,Ac];omega
  have hs:=bmv h (blk kind pub++(sho a++t))
  rw[e,bf (by omega),bf (by omega),bf (by omega),abl,toNat_cast,ji _ (by simp) (by rw[ej];omega),ej,abg (by unfold K3;omega) _ ((bwg hp).app ((bwh ha).app ht)) (by omega),bf (by omega),bf (by omega),Ag,Int.sub_zero,toNat_cast]
 rw[P.beh];unfold P.au1
 rw[fq (by omega),lg,decide_eq_true hf,jl,oz]
 unfold bgw hk
 cases sh with
 | true =>
  have ej:[pub,Aj 32 (Ak 0 a),t].flatten=pub++(a++t):=by rw[Ag,Ba (by omega)];simp
  have hll:(pub++(a++t)).length≤100000:=by rw[Ac,Ac];omega
  rw[oz,ji _ (by simp) (by rw[ej];omega),ej,acg (by omega) _ (by omega) n (by omega),if_pos rfl]
 | false =>
  rw[wo,if_neg (by simp)]
  by_cases h1:16<n
  ·rw[bf (by omega)]
   by_cases h2:n<t.length
   ·rw[bf (by omega),if_pos ⟨h1,h2⟩]
    exact path 3 (.inr rfl) 128 rfl
   ·rw[dh (by omega),if_neg (by omega)]
    exact path 1 (.inl rfl) 64 rfl
  ·rw[dh (by omega),if_neg (by omega)]
   exact path 1 (.inl rfl) 64 rfl
end Q
end

section
/- wots: chains, keys, signatures, by the program. -/
namespace Q
open QK
open Go Go.Abs
set_option linter.unusedVariables false
set_option linter.unusedSimpArgs false
def chn(n:Nat)(sh:Bool)(pub a:List Int)(f:Nat):Nat→List Int→List Int
 | 0,y=>y
 | m+1,y=>bgw n sh pub (ak7 a 5 (f+m)) (chn n sh pub a f m y)
theorem bgd{n:Nat}(hn:n≤32)(sh:Bool)(pub a:List Int)(f:Nat)(y:List Int)(hy:y.length=n):∀m,(chn n sh pub a f m y).length=n
 | 0=>hy
 | m+1=>alh hn sh pub _ _
theorem bnf(n:Nat)(sh:Bool)(pub a:List Int)(f:Nat)(y:List Int)(hy:In 256 y):∀m,In 256 (chn n sh pub a f m y)
 | 0=>hy
 | m+1=>aqn n sh pub _ _
theorem along{n:Nat}{sh:Bool}{pub:List Int}{tg:Nat}{cK:Int}{cW:List Int}{cA:Int}{cO:Bool}{c1 dK:Int}{dW dT:List Int}{dS d1 eK:Int}{eW eT:List Int}{eS:Int}(hs:Sg n sh pub tg cK cW cA cO c1 dK dW dT dS d1 eK eW eT eS)(hn:n≤32)(hp:In 256 pub)(np:pub.length≤64){a y:List Int}(la:a.length=32)(ha:In 256 a)(hy:In 256 y)(ly:y.length=n)(H D A K:Int)(f m:Nat)(hm:f+m<4294967295){ρ:Type}(k:List Int→Option ρ) :
    P.uz (n:Int) H D A K sh tg cK cW cA cO c1 dK dW dT dS d1 eK eW eT eS a y (f:Int) ((f+m:Nat):Int) k=k (chn n sh pub a f m y):=by
 rw[P.aja];unfold P.adl
 rw[P.an0];unfold P.ajg P.b7r P.b3s P.cb8
 refine xu (fun i=>(chn n sh pub a f i y,((f+m:Nat):Int),((f+i:Nat):Int),(n:Int),H,D,A,K,sh,tg,cK,cW,cA,cO,c1,dK,dW,dT,dS,d1,eK,eW,eT,eS,a)) m rfl (fun i hi next hnx=>?_) (fun next=>?_) (by omega)
 ·have hl:=bgd hn sh pub a f y ly i
  simp only[P.ae0]
  rw[bf (by omega),aik _ (by omega),jc la 5 _ (by omega),show ((f+i:Nat):Int)+1=((f+(i+1):Nat):Int) by omega,bq1 _ (by omega)]
  exact (call hs hn hp np (jh la 5 (f+i)) (xk ha 5 (f+i)) (bnf n sh pub a f y hy i) (by omega) _).trans hnx
 ·simp only[P.ae0]
  rw[dh (by omega)]
def prn(a:List Int):Nat:=T 8 ((a.drop 20).take 4).reverse%2^64
theorem bfp(a:List Int):prn a<18446744073709551616:=Bh _ (by decide)
theorem zy{a:List Int}(ha:In 256 a){ρ:Type}(k:Int→Option ρ):P.zy a 3 k=k (prn a:Int):=by
 rw[P.asz];unfold P.akx
 rw[show Ab.wrap ((8:Int)+Ab.wrap ((4:Int)*3))=20 from rfl,show Ab.wrap ((12:Int)+Ab.wrap ((4:Int)*3))=24 from rfl,bf (by omega),bf (by omega),bf (by omega)]
 exact uy _ ((ha.drop 20).take 4) (by simp;omega) k
def fsW(n:Nat)(sh:Bool)(pub sec a:List Int)(i:Nat):List Int:=bgw n sh pub (ak7 (ak7 (ak7 a 2 5) 3 (prn a)) 4 i) sec
theorem first'{n:Nat}{sh:Bool}{pub:List Int}{tg:Nat}{cK:Int}{cW:List Int}{cA:Int}{cO:Bool}{c1 dK:Int}{dW dT:List Int}{dS d1 eK:Int}{eW eT:List Int}{eS:Int}(hs:Sg n sh pub tg cK cW cA cO c1 dK dW dT dS d1 eK eW eT eS)(hn:n≤32)(hp:In 256 pub)(np:pub.length≤64){a y:List Int}(la:a.length=32)(ha:In 256 a)(hy:In 256 y)(ly:y.length≤1000)(H D A K:Int)(i:Nat)(hi:i<1000){ρ:Type}(k:List Int→Option ρ) :
    P.aha (n:Int) H D A K sh tg cK cW cA cO c1 dK dW dT dS d1 eK eW eT eS y a (i:Int) k=k (fsW n sh pub y a i):=by
 rw[P.asc];unfold P.aee
 rw[show (5:Int)=((5:Nat):Int) from rfl,jc la 2 5 (by omega),zy ha,jc (jh la _ _) 3 _ (bfp a),aik _ (by omega),jc (jh (jh la _ _) _ _) 4 _ (by omega)]
 exact call hs hn hp np (jh (jh (jh la _ _) _ _) _ _) (xk (xk (xk ha _ _) _ _) _ _) hy (by omega) k
def kyW(n:Nat)(sh:Bool)(pub a ends:List Int):List Int:=bgw n sh pub (ak7 (ak7 a 2 1) 3 (prn a)) ends
theorem key'{n:Nat}{sh:Bool}{pub:List Int}{tg:Nat}{cK:Int}{cW:List Int}{cA:Int}{cO:Bool}{c1 dK:Int}{dW dT:List Int}{dS d1 eK:Int}{eW eT:List Int}{eS:Int}(hs:Sg n sh pub tg cK cW cA cO c1 dK dW dT dS d1 eK eW eT eS)(hn:n≤32)(hp:In 256 pub)(np:pub.length≤64){a y:List Int}(la:a.length=32)(ha:In 256 a)(hy:In 256 y)(ly:y.length≤90000)(H D A K:Int){ρ:Type}(k:List Int→Option ρ) :
    P.yu (n:Int) H D A K sh tg cK cW cA cO c1 dK dW dT dS d1 eK eW eT eS y a k=k (kyW n sh pub a y):=by
 rw[P.alg];unfold P.afi
 rw[show P.jc (ρ:=ρ) a 2 1=P.jc a 2 ((1:Nat):Int) from rfl,jc la 2 1 (by omega),zy ha,jc (jh la _ _) 3 _ (bfp a)]
 exact call hs hn hp np (jh (jh la _ _) _ _) (xk (xk ha _ _) _ _) hy (by omega) k
theorem count'{n:Nat}(hn:n≤32)(H D A K:Int)(sh:Bool)(tg:Nat)(cK:Int)(cW:List Int)(cA:Int)(cO:Bool)(c1 dK:Int)(dW dT:List Int)(dS d1 eK:Int)(eW eT:List Int)(eS:Int){ρ:Type}(k:Int→Option ρ) :
    P.uw (n:Int) H D A K sh tg cK cW cA cO c1 dK dW dT dS d1 eK eW eT eS k=k ((2*n+3:Nat):Int):=by
 rw[P.aji];unfold P.aef
 rw[nu (x:=(2:Int)*(n:Int)) (by omega) (by omega),nu (by omega) (by omega)]
 congr 1
theorem gd_l{l r:List Int}{d:Int}{i:Nat}(h:i<l.length):(l++r).getD i d=l.getD i d:=by
 rw[Aq,Aq,List.getElem?_append_left h]
theorem gd_r{l r:List Int}{d:Int}{i:Nat}(h:l.length≤i):(l++r).getD i d=r.getD (i-l.length) d:=by
 rw[Aq,Aq,List.getElem?_append_right h]
theorem wdn{n:Nat}(hn:N3 n)(x:List Int)(hl:x.length=n)(i:Nat):∃d:Nat,(wd n x).getD i 0=(d:Int)∧d≤15:=by
 by_cases h:i<2*n
 ·obtain ⟨d,hd,hd2⟩:=bmd (w:=4) (bqa n x) i
  refine ⟨d,?_,by omega⟩
  unfold wd
  rw[gd_l (by rw[ara n x hl];omega),hd]
 ·have h9:=bxt hn x
  have hr:(wd n x).getD i 0=[((wl n x/2^8:Nat):Int),((wl n x/2^4%2^4:Nat):Int),((wl n x%2^4:Nat):Int)].getD (i-2*n) 0:=by
   unfold wd
   rw[gd_r (by rw[ara n x hl];omega),ara n x hl]
  rw[hr]
  match i-2*n with
  | 0=>exact ⟨_,rfl,by omega⟩
  | 1=>exact ⟨_,rfl,by omega⟩
  | 2=>exact ⟨_,rfl,by omega⟩
  | q+3=>exact ⟨0,rfl,by omega⟩
def dgt(n:Nat)(x:List Int)(i:Nat):Nat:=((wd n x).getD i 0).toNat
theorem bwk{n:Nat}(hn:N3 n)(x:List Int)(hl:x.length=n)(i:Nat):(wd n x).getD i 0=((dgt n x i:Nat):Int)∧dgt n x i≤15:=by
 obtain ⟨d,h1,h2⟩:=wdn hn x hl i
 unfold dgt
 rw[h1]
 exact ⟨rfl,h2⟩
theorem bw3{n:Nat}{H D A K:Int}(hf:acf n H D A K):N3 n:=by unfold acf at hf;unfold N3;omega
def bj8(n:Nat)(sh:Bool)(sig pub a t:List Int)(i:Nat):List Int:=chn n sh pub (ak7 a 4 i) (dgt n t i) (15-dgt n t i) ((sig.drop (i*n)).take n)
theorem vv{n:Nat}{H D A K:Int}(hf:acf n H D A K)(sh:Bool)(sig t pub a:List Int)(hsig:In 256 sig)(lsig:sig.length=(2*n+3)*n)(ht:In 256 t)(lt:t.length=n)(hp:In 256 pub)(np:pub.length=n)(la:a.length=32)(ha:In 256 a){ρ:Type}(k:List Int→Option ρ) :
    P.vv n H D A K sh sig t pub a k=k (kyW n sh pub a (cat (bj8 n sh sig pub a t) (2*n+3))):=by
 have hn:n≤32:=by unfold acf at hf;omega
 have hn3:=bw3 hf
 have hdl:=bv5 n t lt
 obtain ⟨tg,cK,cW,cA,cO,c1,dK,dW,dT,dS,d1,eK,eW,eT,eS,hs,hb⟩:=bn4 hf sh pub hp np
 have hlen:∀i,i<2*n+3→i*n+n≤sig.length:=fun i hi=>by
  rw[lsig,←Ap]
  exact Aa (by omega) (Am _)
 have hT:∀i,i<2*n+3→(bj8 n sh sig pub a t i).length=n:=fun i hi=>bgd hn sh pub _ _ _ (by have:=hlen i hi;rw[Ae,Ad];omega) _
 have hTi:∀i,In 256 (bj8 n sh sig pub a t i):=fun i=>bnf n sh pub _ _ _ ((hsig.drop _).take _) _
 have hcl:∀i,i≤2*n+3→(cat (bj8 n sh sig pub a t) i).length=i*n:=by
  intro i
  induction i with
  | zero=>intro _;simp[cat]
  | succ i ih=>intro hi;rw[cat,Ac,ih (by omega),hT i (by omega),Ap]
 have hbd:∀i,i≤2*n+3→(cat (bj8 n sh sig pub a t) i).length≤2200:=fun i hi=>by
  rw[hcl i hi]
  have:=Aa (show i≤67 by omega) hn
  omega
 have hmul:(2*n+3)*n≤67*32:=Aa (by omega) hn
 have hc:(n:Int)*((2*n+3:Nat):Int)=(((2*n+3)*n:Nat):Int):=by rw[Af,A8]
 rw[P.am9];unfold P.agb
 rw[hb,jl,oz,fq (by omega),count' hn,hc,nu (by omega) (by omega),fq (by rw[lsig]),aau hn3 t ht lt,hdl,P.asj];unfold P.ano P.b72 P.b4a P.cai
 refine xu (fun i=>(sig.drop (i*n),((2*n+3:Nat):Int),(i:Int),cat (bj8 n sh sig pub a t) i,(n:Int),H,D,A,K,sh,a,(n:Int),H,D,A,K,sh,tg,cK,cW,cA,cO,c1,dK,dW,dT,dS,d1,eK,eW,eT,eS,wd n t)) (2*n+3) (by simp[cat]) (fun i hi next hnx=>?_) (fun next=>?_) (by omega)
 ·have hb1:=hbd i (by omega)
  have hl1:=hlen i hi
  obtain ⟨e1,e2⟩:=bwk hn3 t lt i
  have ld:(sig.drop (i*n)).length=sig.length-i*n:=Ad
  simp only[P.ahh,toNat_cast]
  rw[bf (by omega),bf (by omega),bf (by omega),aik _ (by omega),jc la 4 _ (by omega),bf (by omega),bf (by omega),Ag,e1,show (15:Int)=((dgt n t i+(15-dgt n t i):Nat):Int) by omega,
   along hs hn hp (by omega) (jh la 4 i) (xk ha 4 i) ((hsig.drop _).take _) (by rw[Ae];omega) H D A K _ _ (by omega)]
  have e:=hT i hi
  unfold bj8 at e
  rw[bf (by omega),bf (by omega),bf (by omega),bf (by omega),nu (by omega) (by omega),Al,Au]
  rw[Ap] at hnx
  exact hnx
 ·simp only[P.ahh]
  rw[dh (by omega),key' hs hn hp (by omega) la ha (bfw hTi _) (by have:=hbd (2*n+3) (by omega);omega)]
end Q
end

section
/- wots: keys, signatures, candidates, by the document. -/
namespace Q
open QK
open Go Go.Abs
set_option linter.unusedVariables false
set_option linter.unusedSimpArgs false
theorem an9(T:Nat→List Int):∀m,((Bn m).map T).flatten=cat T m
 | 0=>rfl
 | m+1=>by rw[List.range_succ,List.map_append,List.flatten_append,an9 T m];simp[cat]
theorem agz{a:List Int}(ha:In 256 a){ρ:Type}(k:Int→Option ρ):P.agz a k=k (prn a:Int):=by
 rw[P.bc8];unfold P.aqy
 exact uj _ ((ha.drop 20).take 4) (by simp;omega) k
theorem adu{n:Nat}{H D A K:Int}(hf:acf n H D A K)(sh:Bool){pub:List Int}(hp:In 256 pub)(np:pub.length=n){a y:List Int}(la:a.length=32)(ha:In 256 a)(hy:In 256 y)(ly:y.length=n)(f m:Nat)(hm:f+m<4294967295){ρ:Type}(k:List Int→Option ρ) :
    P.adu (n:Int) H D A K sh y (f:Int) ((f+m:Nat):Int) pub a k=k (chn n sh pub a f m y):=by
 have hn:n≤32:=by unfold acf at hf;omega
 rw[P.azc];unfold P.aox
 rw[P.bcv];unfold P.ayx P.b6v P.b4k P.ce8
 refine xu (fun i=>(chn n sh pub a f i y,((f+m:Nat):Int),pub,((f+i:Nat):Int),(n:Int),H,D,A,K,sh,a)) m rfl (fun i hi next hnx=>?_) (fun next=>?_) (by omega)
 ·have hl:=bgd hn sh pub a f y ly i
  simp only[P.aqg]
  rw[bf (by omega),aik _ (by omega),jg la 5 _ (by omega),wu hf sh pub hp np _ _ (jh la 5 (f+i)) (xk ha 5 (f+i)) (bnf n sh pub a f y hy i) (by omega),show ((f+i:Nat):Int)+1=((f+(i+1):Nat):Int) by omega,bq1 _ (by omega)]
  exact hnx
 ·simp only[P.aqg]
  rw[dh (by omega)]
theorem akt{n:Nat}{H D A K:Int}(hf:acf n H D A K)(sh:Bool){pub a:List Int}(hp:In 256 pub)(np:pub.length=n)(la:a.length=32)(ha:In 256 a)(l:List (List Int))(hl:l.length≤1000)(hi:In 256 l.flatten)(hb:l.flatten.length≤90000){ρ:Type}(k:List Int→Option ρ) :
    P.akt (n:Int) H D A K sh l pub a k=k (kyW n sh pub a l.flatten):=by
 rw[P.bei];unfold P.auz
 rw[show P.jg (ρ:=ρ) a 2 1=P.jg a 2 ((1:Nat):Int) from rfl,jg la 2 1 (by omega),agz ha,jg (jh la _ _) 3 _ (bfp a),ji l (by omega) (by omega),wu hf sh pub hp np _ _ (jh (jh la _ _) _ _) (xk (xk ha _ _) _ _) hi (by omega)]
 rfl
theorem adp{n:Nat}{H D A K:Int}(hf:acf n H D A K)(sh:Bool){sec pub:List Int}(lsec:sec.length=n)(np:pub.length=n){ρ:Type}(k:Bool→Option ρ):P.adp (n:Int) H D A K sh sec pub k=k false:=by
 rw[P.ayu];unfold P.aos
 rw[lg,decide_eq_true hf,jl,oz,fq (by omega)]
 congr 1
 rw[np]
 simp
theorem yx{n:Nat}{H D A K:Int}(hf:acf n H D A K)(sh:Bool)(sig t pub a:List Int)(hsig:In 256 sig)(lsig:sig.length=(2*n+3)*n)(ht:In 256 t)(lt:t.length=n)(hp:In 256 pub)(np:pub.length=n)(la:a.length=32)(ha:In 256 a){ρ:Type}(k:List Int→Option ρ) :
    P.yx n H D A K sh sig t pub a k=k (kyW n sh pub a (cat (bj8 n sh sig pub a t) (2*n+3))):=by
 have hn:n≤32:=by unfold acf at hf;omega
 have hn3:=bw3 hf
 have hdl:=bv5 n t lt
 have hlen:∀i,i<2*n+3→i*n+n≤sig.length:=fun i hi=>by
  rw[lsig,←Ap]
  exact Aa (by omega) (Am _)
 have hT:∀i,i<2*n+3→(bj8 n sh sig pub a t i).length=n:=fun i hi=>bgd hn sh pub _ _ _ (by have:=hlen i hi;rw[Ae,Ad];omega) _
 have hTi:∀i,In 256 (bj8 n sh sig pub a t i):=fun i=>bnf n sh pub _ _ _ ((hsig.drop _).take _) _
 have hcl:∀i,i≤2*n+3→(cat (bj8 n sh sig pub a t) i).length=i*n:=by
  intro i
  induction i with
  | zero=>intro _;simp[cat]
  | succ i ih=>intro hi;rw[cat,Ac,ih (by omega),hT i (by omega),Ap]
 have hmul:(2*n+3)*n≤67*32:=Aa (by omega) hn
 have hc:(n:Int)*((2*n+3:Nat):Int)=(((2*n+3)*n:Nat):Int):=by rw[Af,A8]
 have e3:Ab.wrap (Ab.wrap ((2:Int)*(n:Int))+(3:Int))=((2*n+3:Nat):Int):=by
  rw[nu (x:=(2:Int)*(n:Int)) (by omega) (by omega),nu (by omega) (by omega)];omega
 rw[P.aps];unfold P.ahc
 rw[adp hf sh lt np,wo,e3,hc,nu (by omega) (by omega),fq (by rw[lsig]),ab0 hn3 t ht lt,P.au5];unfold P.apl P.b6g P.b2j P.ced
 refine xu (fun i=>(sig,pub,(i:Int),(Bn i).map (bj8 n sh sig pub a t),(n:Int),H,D,A,K,sh,a,wd n t)) (2*n+3) rfl (fun i hi next hnx=>?_) (fun next=>?_) (by omega)
 ·have hl1:=hlen i hi
  have hm2:i*n≤67*32:=Aa (by omega) hn
  obtain ⟨e1,e2⟩:=bwk hn3 t lt i
  have ec:(n:Int)*(i:Int)=((i*n:Nat):Int):=by rw[Af,A8]
  have ld:(sig.drop (i*n)).length=sig.length-i*n:=Ad
  simp only[P.ai7,ec]
  rw[nu (x:=((i*n:Nat):Int)) (by omega) (by omega),show ((i*n:Nat):Int)+(n:Int)=((i*n+n:Nat):Int) by omega,nu (x:=((i*n+n:Nat):Int)) (by omega) (by omega)]
  simp only[toNat_cast]
  rw[bf (by omega),bf (by omega),bf (by omega),bf (by omega),bf (by omega),bf (by omega),aik _ (by omega),jg la 4 _ (by omega),e1,show (15:Int)=((dgt n t i+(15-dgt n t i):Nat):Int) by omega,Bd,Aw,
   adu hf sh hp np (jh la 4 i) (xk ha 4 i) ((hsig.drop _).take _) (by rw[Ae];omega) _ _ (by omega),bf (by simp;omega),nu (by omega) (by omega)]
  rw[←ae6] at hnx
  exact hnx
 ·simp only[P.ai7]
  rw[dh (by omega),akt hf sh hp np la ha _ (by simp;omega) (by rw[an9];exact bfw hTi _) (by rw[an9,hcl _ (Am _)];omega),an9]
end Q
end

section
/- xmss: knots, signatures, tops, by the program. -/
namespace Q
open QK
open Go Go.Abs
set_option linter.unusedVariables false
set_option linter.unusedSimpArgs false
def Kd(n:Nat)(H D A K:Int)(h:Nat):Prop:=acf n H D A K∧Ab.wrap (H.tdiv D)=(h:Int)
theorem Kd.n{n:Nat}{H D A K:Int}{h:Nat}(k:Kd n H D A K h):n≤32:=by have:=k.1;unfold acf at this;omega
theorem Kd.h{n:Nat}{H D A K:Int}{h:Nat}(k:Kd n H D A K h):h≤9:=by have:=k.1;have e:=k.2;unfold acf at this;omega
theorem kr{n:Nat}{H D A K:Int}{h:Nat}(kd:Kd n H D A K h)(sh:Bool){ρ:Type}(k:Int→Option ρ):P.kr n H D A K sh k=k (h:Int):=by
 have hf:=kd.1
 unfold acf at hf
 rw[P.ay4];unfold P.an6
 rw[dh (by omega),kd.2]
theorem brx{n:Nat}{H D A K:Int}{h:Nat}(kd:Kd n H D A K h)(sh:Bool)(l:List (List Int))(hl:l.length≤100)(hn:∀i,i<l.length→(l.getD i []).length=n){ρ:Type}(k:Bool→Option ρ):P.zn n H D A K sh l k=k true:=by
 rw[P.ayd];unfold P.aoo
 rw[P.bbj];unfold P.ay6 P.b6m P.b2i P.chd
 refine xu (fun i=>(l,(l.length:Int),(i:Int),(n:Int),H,D,A,K,sh)) l.length rfl (fun i hi next hnx=>?_) (fun next=>?_) (by omega)
 ·have:=hn i hi
  simp only[P.arh,toNat_cast,Sum.elim_inl,Sum.elim_inr]
  rw[bf (by omega),bf (by omega),bf (by omega),fq (by omega),nu (by omega) (by omega)]
  exact hnx
 ·simp only[P.arh,toNat_cast,Sum.elim_inl,Sum.elim_inr]
  rw[dh (by omega),jv,decide_eq_true kd.1]
theorem mulN(n m:Nat)(hn:n≤32)(hm:m≤1000):Ab.wrap ((n:Int)*(m:Int))=((n*m:Nat):Int):=by
 have:n*m≤32*1000:=Aa hn hm
 rw[show (n:Int)*(m:Int)=((n*m:Nat):Int) by rw[Af],nu (by omega) (by omega)]
theorem o7{n:Nat}{H D A K:Int}{h:Nat}(kd:Kd n H D A K h)(sh:Bool){ρ:Type}(k:Int→Option ρ):P.o7 n H D A K sh k=k ((n*(2*n+3+h):Nat):Int):=by
 have h1:=kd.n
 have h2:=kd.h
 rw[P.ayr];unfold P.anp
 rw[jv,decide_eq_true kd.1,jl,oz,kr kd,nu (x:=(2:Int)*(n:Int)) (by omega) (by omega),nu (x:=(2:Int)*(n:Int)+3) (by omega) (by omega),nu (x:=(2:Int)*(n:Int)+3+(h:Int)) (by omega) (by omega),show (2:Int)*(n:Int)+3+(h:Int)=((2*n+3+h:Nat):Int) by omega,mulN _ _ h1 (by omega)]
def lfA(at':List Int)(i:Nat):List Int:=ak7 (ak7 at' 2 0) 3 i
theorem bqv{a:List Int}(la:a.length=32)(i:Nat):(lfA a i).length=32:=jh (jh la _ _) _ _
theorem bw2{a:List Int}(ha:In 256 a)(i:Nat):In 256 (lfA a i):=xk (xk ha _ _) _ _
theorem brc{a:List Int}(la:a.length=32)(N H D A K:Int)(sh:Bool)(sec pub:List Int)(i:Nat)(hi:i<18446744073709551616){ρ:Type}(k:List Int→Option ρ) :
    P.z8 N H D A K sh sec pub a (i:Int) k=k (lfA a i):=by
 rw[P.anm];unfold P.af9
 rw[show P.jc (ρ:=ρ) a 2 0=P.jc a 2 ((0:Nat):Int) from rfl,jc la 2 0 (by omega),jc (jh la _ _) 3 i hi]
 rfl
def ovW(n:Nat)(sh:Bool)(pub at':List Int)(z i:Nat)(l r:List Int):List Int:=bgw n sh pub (ak7 (ak7 (ak7 at' 2 2) 4 z) 5 i) (l++r)
theorem bjw{n:Nat}{H D A K:Int}(hf:acf n H D A K)(sh:Bool)(sec pub a l r:List Int)(hp:In 256 pub)(np:pub.length=n)(la:a.length=32)(ha:In 256 a)(hl:In 256 l)(hr:In 256 r)(nl:l.length≤1000)(nr:r.length≤1000)(z i:Nat)(hz:z<1000)(hi:i<18446744073709551616){ρ:Type}(k:List Int→Option ρ) :
    P.x9 n H D A K sh sec pub a (z:Int) (i:Int) l r k=k (ovW n sh pub a z i l r):=by
 have e:[l,r].flatten=l++r:=by simp
 have hlr:(l++r).length≤2000:=by rw[Ac];omega
 rw[P.amv];unfold P.agk
 rw[show P.jc (ρ:=ρ) a 2 2=P.jc a 2 ((2:Nat):Int) from rfl,jc la 2 2 (by omega),aik _ (by omega),jc (jh la _ _) 4 z (by omega),jc (jh (jh la _ _) _ _) 5 i hi,jd _ (by simp) (by rw[e];omega),e,
  aao hf sh pub hp np _ _ (jh (jh (jh la _ _) _ _) _ _) (xk (xk (xk ha _ _) _ _) _ _) (hl.app hr) (by omega)]
 rfl
theorem sh0(i h:Nat)(hh:h≤64)(hi:i<2^h):(i:Int).fdiv ((2:Int)^min h 64)=0:=by
 rw[fdiv_pow _ _ _ hh,Nat.div_eq_of_lt hi]
 rfl
def cnW(n:Nat)(sh:Bool)(pub a k0 path:List Int)(leaf:Nat):Nat→List Int
 | 0=>k0
 | z+1=>if leaf/2^z%2=1 then ovW n sh pub a (z+1) (leaf/2^(z+1)) ((path.drop (z*n)).take n) (cnW n sh pub a k0 path leaf z)
  else ovW n sh pub a (z+1) (leaf/2^(z+1)) (cnW n sh pub a k0 path leaf z) ((path.drop (z*n)).take n)
theorem bls{n:Nat}(hn:n≤32)(sh:Bool)(pub a k0 path:List Int)(hk:k0.length=n)(leaf:Nat):∀z,(cnW n sh pub a k0 path leaf z).length=n
 | 0=>hk
 | z+1=>by rw[cnW];split<;>exact alh hn _ _ _ _
theorem bqz(n:Nat)(sh:Bool)(pub a k0 path:List Int)(hk:In 256 k0)(leaf:Nat):∀z,In 256 (cnW n sh pub a k0 path leaf z)
 | 0=>hk
 | z+1=>by rw[cnW];split<;>exact aqn _ _ _ _ _
def tpW(n:Nat)(sh:Bool)(pub a sig t:List Int)(leaf h:Nat):List Int :=
 cnW n sh pub a (kyW n sh pub (lfA a leaf) (cat (bj8 n sh (sig.take ((2*n+3)*n)) pub (lfA a leaf) t) (2*n+3))) (sig.drop ((2*n+3)*n)) leaf h
theorem bxn{n:Nat}(hn:n≤32)(sh:Bool)(pub a sig t:List Int)(leaf h:Nat):(tpW n sh pub a sig t leaf h).length=n:=bls hn _ _ _ _ _ (alh hn _ _ _ _) _ _
theorem b0b(n:Nat)(sh:Bool)(pub a sig t:List Int)(leaf h:Nat):In 256 (tpW n sh pub a sig t leaf h):=bqz _ _ _ _ _ _ (aqn _ _ _ _ _) _ _
theorem l8{n:Nat}{H D A K:Int}{h:Nat}(kd:Kd n H D A K h)(sh:Bool)(sig t pub a:List Int)(hsig:In 256 sig)(lsig:sig.length=n*(2*n+3+h))(ht:In 256 t)(lt:t.length=n)(hp:In 256 pub)(np:pub.length=n)(la:a.length=32)(ha:In 256 a)(leaf:Nat)(hleaf:leaf<2^h){ρ:Type}(k:List Int→Option ρ) :
    P.l8 n H D A K sh sig t pub a (leaf:Int) k=k (tpW n sh pub a sig t leaf h):=by
 have hn:=kd.n
 have h2:=kd.h
 have h9:2^h≤2^9:=Ah (by omega) h2
 have hmul:(2*n+3)*n≤67*32:=Aa (by omega) hn
 have hm2:n*h≤32*9:=Aa hn h2
 have hsz:n*(2*n+3+h)=(2*n+3)*n+n*h:=by rw[Nat.mul_add,Av n (2*n+3)]
 have e1:Ab.wrap ((sig.length:Int)-((n*h:Nat):Int))=(((2*n+3)*n:Nat):Int):=by
  rw[nu (by omega) (by omega)];omega
 have lt1:(sig.take ((2*n+3)*n)).length=(2*n+3)*n:=by rw[Ae];omega
 have ld:(sig.drop ((2*n+3)*n)).length=n*h:=by rw[Ad];omega
 have hpath:In 256 (sig.drop ((2*n+3)*n)):=hsig.drop _
 have hk0:=alh hn sh pub (ak7 (ak7 (lfA a leaf) 2 1) 3 (prn (lfA a leaf))) (cat (bj8 n sh (sig.take ((2*n+3)*n)) pub (lfA a leaf) t) (2*n+3))
 rw[P.amw];unfold P.ag3
 rw[brx kd sh _ (by simp) (fun j hj=>by
  match j with
  | 0=>exact np
  | 1=>exact lt
  | j+2=>simp at hj;omega),jl,oz,o7 kd,fq (by rw[lsig]),kr kd,dh (by omega),toNat_cast,sh0 leaf h (by omega) hleaf,fq rfl,kr kd,mulN _ _ hn (by omega),e1,bf (by omega),bf (by omega),brc la _ _ _ _ _ _ _ _ leaf (by omega),Ag,toNat_cast,
  vv kd.1 sh _ t pub _ (hsig.take _) lt1 ht lt hp np (bqv la _) (bw2 ha _),bf (by omega),bf (by omega),bf (by omega),kr kd,toNat_cast,Al,P.asi]
 unfold P.am0 P.b6e P.b2a P.cbo tpW
 have hk1:=aqn n sh pub (ak7 (ak7 (lfA a leaf) 2 1) 3 (prn (lfA a leaf))) (cat (bj8 n sh (sig.take ((2*n+3)*n)) pub (lfA a leaf) t) (2*n+3))
 generalize sig.drop ((2*n+3)*n)=path at ld hpath
 unfold kyW
 generalize bgw n sh pub (ak7 (ak7 (lfA a leaf) 2 1) 3 (prn (lfA a leaf))) (cat (bj8 n sh (sig.take ((2*n+3)*n)) pub (lfA a leaf) t) (2*n+3))=k0 at hk0 hk1
 refine xu (fun z=>((leaf:Int),cnW n sh pub a k0 path leaf z,path.drop (z*n),(h:Int),(z:Int),(n:Int),H,D,A,K,sh,(n:Int),H,D,A,K,sh,pub,a)) h (by simp[cnW]) (fun z hz next hnx=>?_) (fun next=>?_) (by omega)
 ·have hd:=Ao leaf (2^z)
  have hd1:=Ao leaf (2^(z+1))
  have hzn:z*n+n≤n*h:=by rw[←Ap,Av n h];exact Aa hz (Am _)
  have lp2:(path.drop (z*n)).length=n*h-z*n:=by rw[Ad];omega
  have lc:=bls hn sh pub a k0 path hk0 leaf z
  have ic:=bqz n sh pub a k0 path hk1 leaf z
  have lq:((path.drop (z*n)).take n).length=n:=by rw[Ae];omega
  have iq:In 256 ((path.drop (z*n)).take n):=(hpath.drop _).take _
  rw[Ap,←Au] at hnx
  simp only[P.ahk,toNat_cast]
  rw[bf (by omega),bf (by omega),bf (by omega),dh (by omega),fdiv_pow _ _ _ (by omega),show bits BinOp.and Ai ((leaf/2^z:Nat):Int) 1=((leaf/2^z%2:Nat):Int) by
   rw[show (1:Int)=((1:Nat):Int) from rfl,aou _ _ (by omega) (by omega),Nat.and_one_is_mod]]
  have ez:Ab.wrap ((z:Int)+1)=((z+1:Nat):Int):=by rw[nu (by omega) (by omega)];omega
  rw[ez,toNat_cast,fdiv_pow _ _ _ (by omega),Ag,Al]
  by_cases hb:leaf/2^z%2=1
  ·rw[cnW,if_pos hb] at hnx
   rw[gu (by omega),dh (by omega),bjw kd.1 sh _ pub a _ _ hp np la ha iq ic (by omega) (by omega) (z+1) _ (by omega) (by omega),bf (by omega),bf (by omega),bf (by omega)]
   exact hnx
  ·rw[cnW,if_neg hb] at hnx
   rw[gy (by omega),dh (by omega),bjw kd.1 sh _ pub a _ _ hp np la ha ic iq (by omega) (by omega) (z+1) _ (by omega) (by omega),bf (by omega),bf (by omega),bf (by omega)]
   exact hnx
 ·simp only[P.ahk]
  rw[dh (by omega)]
end Q
end

section
/- xmss: knots, signatures, tops, by the document; and where there are none. -/
namespace Q
open QK
open Go Go.Abs
set_option linter.unusedVariables false
set_option linter.unusedSimpArgs false
theorem bvk(h:Nat):(2:Int)^h=((2^h:Nat):Int):=by rw[Int.natCast_pow];rfl
theorem btf(a z:Nat)(hz:z≤64)(hb:a*2^z<18446744073709551616):Ai.wrap ((a:Int)*(2:Int)^min z 64)=((a*2^z:Nat):Int):=by
 rw[Nat.min_eq_left hz,bvk,←Af,aik _ hb]
theorem bt3(h:Nat)(hh:h≤63):Ai.wrap ((1:Int)*(2:Int)^min h 64)=((2^h:Nat):Int):=by
 have:=btf 1 h (by omega) (by rw[Bb];exact Nat.pow_lt_pow_right (a:=2) (m:=h) (n:=64) (by omega) (by omega))
 rw[Bb] at this
 exact this
theorem Kd.d{n:Nat}{H D A K:Int}{h:Nat}(k:Kd n H D A K h):¬D=0:=by have:=k.1;unfold acf at this;omega
theorem zi{n:Nat}{H D A K:Int}{h:Nat}(kd:Kd n H D A K h)(sh:Bool){ρ:Type}(k:Int→Option ρ):P.zi n H D A K sh k=k ((n*(2*n+3+h):Nat):Int):=by
 have h1:=kd.n
 have h2:=kd.h
 rw[P.bah];unfold P.ard
 rw[lg,decide_eq_true kd.1,jl,oz,dh kd.d,kd.2,nu (x:=(2:Int)*(n:Int)) (by omega) (by omega),nu (x:=(2:Int)*(n:Int)+3) (by omega) (by omega),nu (x:=(2:Int)*(n:Int)+3+(h:Int)) (by omega) (by omega),show (2:Int)*(n:Int)+3+(h:Int)=((2*n+3+h:Nat):Int) by omega,mulN _ _ h1 (by omega)]
theorem agv{a:List Int}(la:a.length=32)(i:Nat)(hi:i<18446744073709551616){ρ:Type}(k:List Int→Option ρ):P.agv a (i:Int) k=k (lfA a i):=by
 rw[P.bb5];unfold P.aq9
 rw[show P.jg (ρ:=ρ) a 2 0=P.jg a 2 ((0:Nat):Int) from rfl,jg la 2 0 (by omega),jg (jh la _ _) 3 i hi]
 rfl
theorem aeo{n:Nat}{H D A K:Int}(hf:acf n H D A K)(sh:Bool)(pub a l r:List Int)(hp:In 256 pub)(np:pub.length=n)(la:a.length=32)(ha:In 256 a)(hl:In 256 l)(hr:In 256 r)(nl:l.length≤1000)(nr:r.length≤1000)(z i:Nat)(hz:z<1000)(hi:i<18446744073709551616){ρ:Type}(k:List Int→Option ρ) :
    P.aeo n H D A K sh pub a (z:Int) (i:Int) l r k=k (ovW n sh pub a z i l r):=by
 have e:[l,r].flatten=l++r:=by simp
 have hlr:(l++r).length≤2000:=by rw[Ac];omega
 rw[P.bda];unfold P.aq8
 rw[show P.jg (ρ:=ρ) a 2 2=P.jg a 2 ((2:Nat):Int) from rfl,jg la 2 2 (by omega),aik _ (by omega),jg (jh la _ _) 4 z (by omega),jg (jh (jh la _ _) _ _) 5 i hi,ji _ (by simp) (by rw[e];omega),e,
  wu hf sh pub hp np _ _ (jh (jh (jh la _ _) _ _) _ _) (xk (xk (xk ha _ _) _ _) _ _) (hl.app hr) (by omega)]
 rfl
theorem y9{n:Nat}{H D A K:Int}{h:Nat}(kd:Kd n H D A K h)(sh:Bool)(sig t pub a:List Int)(hsig:In 256 sig)(lsig:sig.length=n*(2*n+3+h))(ht:In 256 t)(lt:t.length=n)(hp:In 256 pub)(np:pub.length=n)(la:a.length=32)(ha:In 256 a)(leaf:Nat)(hleaf:leaf<2^h){ρ:Type}(k:List Int→Option ρ) :
    P.y9 n H D A K sh sig t pub a (leaf:Int) k=k (tpW n sh pub a sig t leaf h):=by
 have hn:=kd.n
 have h2:=kd.h
 have h9:2^h≤2^9:=Ah (by omega) h2
 have hmul:(2*n+3)*n≤67*32:=Aa (by omega) hn
 have hc:(n:Int)*((2*n+3:Nat):Int)=(((2*n+3)*n:Nat):Int):=by rw[Af,A8]
 have e3:Ab.wrap (Ab.wrap ((2:Int)*(n:Int))+(3:Int))=((2*n+3:Nat):Int):=by
  rw[nu (x:=(2:Int)*(n:Int)) (by omega) (by omega),nu (by omega) (by omega)];omega
 have hsz:n*(2*n+3+h)=(2*n+3)*n+h*n:=by rw[Nat.mul_add,Av n h,Av n (2*n+3)]
 obtain ⟨kk,hkk,lk,ik⟩:∃kk,kk=kyW n sh pub (lfA a leaf) (cat (bj8 n sh (sig.take ((2*n+3)*n)) pub (lfA a leaf) t) (2*n+3))∧kk.length=n∧In 256 kk:=⟨_,rfl,alh hn _ _ _ _,aqn _ _ _ _ _⟩
 rw[P.aoz];unfold P.aho
 rw[lg,decide_eq_true kd.1,jl,oz,fq (by omega),fq (by omega),zi kd,fq (by omega),dh kd.d,kd.2,dh (by omega),toNat_cast,bt3 _ (by omega),dh (by omega),e3,hc,nu (by omega) (by omega),toNat_cast,bf (by omega),bf (by omega),agv la _ (by omega),Ag,
  yx kd.1 sh _ t pub _ (hsig.take _) (by rw[Ae];omega) ht lt hp np (bqv la _) (bw2 ha _),P.at5]
 unfold P.ape P.b6u P.b4w P.cff
 refine xu (fun z=>(sig,pub,(leaf:Int),(((2*n+3)*n:Nat):Int),cnW n sh pub a kk (sig.drop ((2*n+3)*n)) leaf z,(z:Int),(n:Int),H,D,A,K,sh,a)) h (by rw[hkk];rfl) (fun z hz next hnx=>?_) (fun next=>?_) (by omega)
 ·have hd:=Ao leaf (2^z)
  have hd2:=Ao leaf (2^(z+1))
  have hm2:z*n≤9*32:=Aa (by omega) hn
  have hm3:(z+1)*n≤h*n:=Aa (by omega) (Am _)
  rw[Ap] at hm3
  have ec:(n:Int)*(z:Int)=((z*n:Nat):Int):=by rw[Af,A8]
  have es:Ak ((2*n+3)*n+z*n) (Aj ((2*n+3)*n+z*n+n) sig)=((sig.drop ((2*n+3)*n)).drop (z*n)).take n:=by
   rw[Bd,Au,Aw]
  have ic:=bqz n sh pub a kk (sig.drop ((2*n+3)*n)) ik leaf z
  have lc:=bls hn sh pub a kk (sig.drop ((2*n+3)*n)) lk leaf z
  have is':In 256 (((sig.drop ((2*n+3)*n)).drop (z*n)).take n):=((hsig.drop _).drop _).take _
  have ls':(((sig.drop ((2*n+3)*n)).drop (z*n)).take n).length≤n:=by rw[Ae];omega
  simp only[P.ai1,ec]
  rw[dh kd.d,kd.2,bf (by omega),nu (x:=((z*n:Nat):Int)) (by omega) (by omega),show (((2*n+3)*n:Nat):Int)+((z*n:Nat):Int)=(((2*n+3)*n+z*n:Nat):Int) by omega,nu (x:=(((2*n+3)*n+z*n:Nat):Int)) (by omega) (by omega),
   show (((2*n+3)*n+z*n:Nat):Int)+(n:Int)=(((2*n+3)*n+z*n+n:Nat):Int) by omega,nu (x:=(((2*n+3)*n+z*n+n:Nat):Int)) (by omega) (by omega)]
  simp only[toNat_cast]
  rw[bf (by omega),bf (by omega),bf (by omega),dh (by omega),nu (x:=(z:Int)+1) (by omega) (by omega),show (z:Int)+1=((z+1:Nat):Int) by omega,dh (by omega),toNat_cast,fdiv_pow _ _ _ (by omega),fdiv_pow _ _ _ (by omega),es]
  have em:((leaf/2^z:Nat):Int).tmod 2=((leaf/2^z%2:Nat):Int):=by rw[Ay (Bg _)];rfl
  rw[em]
  rw[cnW] at hnx
  by_cases hb:leaf/2^z%2=1
  ·rw[if_pos hb] at hnx
   rw[hb,gy (by omega),dh (by omega)]
   have:=aeo kd.1 sh pub a _ _ hp np la ha is' ic (by omega) (by omega) (z+1) (leaf/2^(z+1)) (by omega) (by omega) (ρ:=ρ)
   rw[this]
   exact hnx
  ·rw[if_neg hb] at hnx
   rw[show leaf/2^z%2=0 by omega,gu (by omega)]
   have:=aeo kd.1 sh pub a _ _ hp np la ha ic is' (by omega) (by omega) (z+1) (leaf/2^(z+1)) (by omega) (by omega) (ρ:=ρ)
   rw[this]
   exact hnx
 ·simp only[P.ai1]
  rw[dh kd.d,kd.2,dh (by omega),hkk]
  rfl
end Q
end

section
/- xmss: trees in trees, by the program. -/
namespace Q
open QK
open Go Go.Abs
set_option linter.unusedVariables false
set_option linter.unusedSimpArgs false
abbrev Z32:List Int:=[0,0,0,0,0,0,0,0,0,0,0,0,0,0,0,0,0,0,0,0,0,0,0,0,0,0,0,0,0,0,0,0]
theorem bxa:In 256 Z32:=fun x hx=>by
 have:x=0:=by simpa [Z32] using hx
 omega
def plA(d num:Nat):List Int:=ak7 (ak7 Z32 0 d) 1 num
theorem bqp(d num:Nat):(plA d num).length=32:=jh (jh rfl _ _) _ _
theorem bwt(d num:Nat):In 256 (plA d num):=xk (xk bxa _ _) _ _
def nmb(h num d:Nat):Nat:=num/2^(h*d)
theorem bwb(h num d:Nat):nmb h num d≤num:=Ao _ _
theorem bom(h num d:Nat):nmb h num (d+1)=nmb h num d/2^h:=by
 unfold nmb
 rw[Nat.div_div_eq_div_mul,←Nat.pow_add,Nat.mul_succ]
def lfN(h num leaf:Nat):Nat→Nat
 | 0=>leaf
 | d+1=>nmb h num d%2^h
theorem bwv{h leaf:Nat}(num:Nat)(hl:leaf<2^h):∀d,lfN h num leaf d<2^h
 | 0=>hl
 | d+1=>Bh _ (Ar h)
def vrT(n:Nat)(sh:Bool)(pub sig t:List Int)(num leaf h sz:Nat):Nat→List Int
 | 0=>t
 | d+1=>tpW n sh pub (plA d (nmb h num d)) ((sig.drop (d*sz)).take sz) (vrT n sh pub sig t num leaf h sz d) (lfN h num leaf d) h
theorem bg2{n:Nat}(hn:n≤32)(sh:Bool)(pub sig t:List Int)(lt:t.length=n)(num leaf h sz:Nat):∀d,(vrT n sh pub sig t num leaf h sz d).length=n
 | 0=>lt
 | d+1=>bxn hn _ _ _ _ _ _ _
theorem bqq(n:Nat)(sh:Bool)(pub sig t:List Int)(ht:In 256 t)(num leaf h sz:Nat):∀d,In 256 (vrT n sh pub sig t num leaf h sz d)
 | 0=>ht
 | d+1=>b0b _ _ _ _ _ _ _ _
theorem btt(num h:Nat)(hn:num<18446744073709551616)(hh:h≤9):(num:Int).fdiv ((2:Int)^min h 64)=((num/2^h:Nat):Int) ∧
    bits .and .u64 (num:Int) (Ai.wrap (Ai.wrap ((1:Int)*(2:Int)^min h 64)-(1:Int)))=((num%2^h:Nat):Int):=by
 have h9:2^h≤2^9:=Ah (by omega) hh
 refine ⟨fdiv_pow _ _ _ (by omega),?_⟩
 rw[bv9 h (by omega),aou _ _ hn (by omega),Bc]
theorem ug{n:Nat}{H D A K:Int}{h:Nat}(kd:Kd n H D A K h)(sh:Bool)(r:Nat)(hr:H-(h:Int)=(r:Int))(r64:r≤64)(num leaf:Nat)(hnum:num<2^r)(hleaf:leaf<2^h){ρ:Type}(k:Bool→Option ρ) :
    P.ug n H D A K sh (num:Int) (leaf:Int) k=k true:=by
 have h2:=kd.h
 rw[P.ath];unfold P.ak1
 rw[kr kd,hr,nu (by omega) (by omega),dh (by omega),toNat_cast,sh0 num r r64 hnum,gu rfl,kr kd,dh (by omega),toNat_cast,sh0 leaf h (by omega) hleaf]
 rfl
theorem aak{n:Nat}{H A K:Int}{h D:Nat}(kd:Kd n H D A K h)(hD:D≤68)(sh:Bool)(t sig pub top:List Int)(ht:In 256 t)(lt:t.length=n)(hsig:In 256 sig)(lsig:sig.length=D*(n*(2*n+3+h)))(hp:In 256 pub)(np:pub.length=n)(ltop:top.length=n)(itop:In 256 top)(r:Nat)(hr:H-(h:Int)=(r:Int))(r64:r≤64)(num leaf:Nat)(hnum:num<2^r)(hleaf:leaf<2^h){ρ:Type}(k:Bool→Option ρ) :
    P.aak n H D A K sh t sig pub top (num:Int) (leaf:Int) k=k (decide (vrT n sh pub sig t num leaf h (n*(2*n+3+h)) D=top)):=by
 have hn:=kd.n
 have h2:=kd.h
 have hsz:n*(2*n+3+h)≤32*76:=Aa hn (by omega)
 have hDs:D*(n*(2*n+3+h))≤68*(32*76):=Aa hD hsz
 have h64:num<18446744073709551616:=Nat.lt_of_lt_of_le hnum (Ah (n:=2) (by omega) r64)
 generalize hz:n*(2*n+3+h)=sz at lsig hsz hDs
 have eD:Ab.wrap ((D:Int)*(sz:Int))=((D*sz:Nat):Int):=by
  rw[show (D:Int)*(sz:Int)=((D*sz:Nat):Int) by rw[Af],nu (by omega) (by omega)]
 rw[P.asx];unfold P.akv
 rw[brx kd sh _ (by simp) (fun j hj=>by
  match j with
  | 0=>exact lt
  | 1=>exact np
  | 2=>exact ltop
  | j+3=>simp at hj;omega),jl,oz,o7 kd,hz,eD,fq (by rw[lsig]),ug kd sh r hr r64 num leaf hnum hleaf,jl,oz,P.ati]
 unfold P.ao8 P.b7b P.b3e P.cak
 refine xu (fun d=>(top,(D:Int),(d:Int),(n:Int),H,(D:Int),A,K,sh,vrT n sh pub sig t num leaf h sz d,sig.drop (d*sz),pub,(n:Int),H,(D:Int),A,K,sh,((nmb h num d:Nat):Int),((lfN h num leaf d:Nat):Int))) D (by simp[nmb,lfN,vrT]) (fun d hd next hnx=>?_) (fun next=>?_) (by omega)
 ·have hle:=bwb h num d
  have hs:=btt (nmb h num d) h (by omega) h2
  have hds:d*sz+sz≤D*sz:=by rw[←Ap];exact Aa hd (Am _)
  have ld:(sig.drop (d*sz)).length=D*sz-d*sz:=by rw[Ad];omega
  have lq:((sig.drop (d*sz)).take sz).length=sz:=by rw[Ae];omega
  rw[Ap,←Au,bom] at hnx
  simp only[P.ai9,toNat_cast]
  rw[bf (by omega),show P.jc (ρ:=ρ) [0,0,0,0,0,0,0,0,0,0,0,0,0,0,0,0,0,0,0,0,0,0,0,0,0,0,0,0,0,0,0,0]=P.jc Z32 from rfl,aik _ (by omega),jc rfl 0 d (by omega),jc (jh rfl _ _) 1 _ (by omega),o7 kd,hz,bf (by omega),bf (by omega),Ag,toNat_cast]
  rw[show P.l8 (ρ:=ρ) (n:Int) H (D:Int) A K sh ((sig.drop (d*sz)).take sz) (vrT n sh pub sig t num leaf h sz d) pub (ak7 (ak7 Z32 0 d) 1 (nmb h num d))=P.l8 (n:Int) H (D:Int) A K sh ((sig.drop (d*sz)).take sz) (vrT n sh pub sig t num leaf h sz d) pub (plA d (nmb h num d)) from rfl,
   l8 kd sh _ _ pub _ ((hsig.drop _).take _) (by rw[hz,lq]) (bqq n sh pub sig t ht _ _ _ _ _) (bg2 hn sh pub sig t lt _ _ _ _ _) hp np (bqp _ _) (bwt _ _) _ (bwv num hleaf d),o7 kd,hz,bf (by omega),bf (by omega),bf (by omega),kr kd,dh (by omega),kr kd,dh (by omega),toNat_cast,toNat_cast,Al,hs.1,hs.2,nu (by omega) (by omega)]
  exact hnx
 ·simp only[P.ai9]
  rw[dh (by omega),aag _ _ (bqq n sh pub sig t ht _ _ _ _ _) itop (by rw[bg2 hn sh pub sig t lt];omega)]
end Q
end

section
/- xmss: what trees in trees sign leads to the top of all. -/
namespace Q
open QK
open Go Go.Abs
set_option linter.unusedVariables false
set_option linter.unusedSimpArgs false
end Q
end

section
/- xmss: the chapter's examples. -/
namespace Q
open QK
open Go Go.Abs
set_option linter.unusedVariables false
set_option linter.unusedSimpArgs false
end Q
end

section
/- xmss: what the program and the document say of any bun, signature and top. -/
namespace Q
open QK
open Go Go.Abs
set_option linter.unusedVariables false
set_option linter.unusedSimpArgs false
theorem b3r{n:Nat}{H D A K:Int}(hf:acf n H D A K):∃h,Kd n H D A K h:=by
 have h0:=hf
 unfold acf at h0
 have h1:0≤H.tdiv D:=Int.tdiv_nonneg (by omega) (by omega)
 have h2:H.tdiv D≤H:=by
  rw[Az (by omega)]
  exact Int.ediv_le_self _ (by omega)
 exact ⟨(H.tdiv D).toNat,hf,by rw[nu (by omega) (by omega)];omega⟩
end Q
end

section
/- xmss: trees in trees sign, by the program. -/
namespace Q
open QK
open Go Go.Abs
set_option linter.unusedVariables false
set_option linter.unusedSimpArgs false
end Q
end

section
/- xmss: trees in trees, by the document; and where there are none. -/
namespace Q
open QK
open Go Go.Abs
set_option linter.unusedVariables false
set_option linter.unusedSimpArgs false
theorem ad9(d num:Nat)(hd:d<1000)(hn:num<18446744073709551616){ρ:Type}(k:List Int→Option ρ):P.ad9 (d:Int) (num:Int) k=k (plA d num):=by
 rw[P.ay8];unfold P.an2
 rw[show P.jg (ρ:=ρ) [0,0,0,0,0,0,0,0,0,0,0,0,0,0,0,0,0,0,0,0,0,0,0,0,0,0,0,0,0,0,0,0]=P.jg Z32 from rfl,aik _ (by omega),jg rfl 0 d (by omega),jg (jh rfl _ _) 1 _ hn]
 rfl
theorem afw{n:Nat}{H D A K:Int}{h:Nat}(kd:Kd n H D A K h)(sh:Bool)(r:Nat)(hr:H-(h:Int)=(r:Int))(r63:r≤64)(num leaf:Nat)(n64:num<18446744073709551616){ρ:Type}(k:Bool→Option ρ) :
    P.afw n H D A K sh (num:Int) (leaf:Int) k=k (decide (num<2^r∧leaf<2^h)):=by
 have h2:=kd.h
 rw[P.bbd];unfold P.ap7
 rw[lg,decide_eq_true kd.1,oz,dh kd.d,kd.2,dh (by omega),toNat_cast,bt3 _ (by omega)]
 by_cases hl:leaf<2^h
 ·by_cases r4:r=64
  ·rw[bf (by omega),dh kd.d,hr,nu (by omega) (by omega),bf (by omega),decide_eq_true ⟨by rw[r4];omega,hl⟩]
  ·rw[bf (by omega),dh kd.d,hr,nu (by omega) (by omega),dh (by omega),dh kd.d,dh (by omega),toNat_cast,bt3 _ (by omega)]
   congr 1
   exact decide_eq_decide.2 ⟨fun h=>⟨by omega,hl⟩,fun h=>by omega⟩
 ·rw[dh (by omega),decide_eq_false (fun h=>hl h.2)]
theorem cam(a b:Nat):(a:Int).tmod (b:Int)=((a%b:Nat):Int):=by rw[Ay (Bg _)];rfl
theorem ab6{n:Nat}{H A K:Int}{h D:Nat}(kd:Kd n H D A K h)(hD:D≤68)(sh:Bool)(t sig pub top:List Int)(ht:In 256 t)(lt:t.length=n)(hsig:In 256 sig)(lsig:sig.length=D*(n*(2*n+3+h)))(hp:In 256 pub)(np:pub.length=n)(ltop:top.length=n)(r:Nat)(hr:H-(h:Int)=(r:Int))(r63:r≤64)(num leaf:Nat)(hnum:num<2^r)(hleaf:leaf<2^h){ρ:Type}(k:Bool→Option ρ) :
    P.ab6 n H D A K sh t sig pub top (num:Int) (leaf:Int) k=k (decide (vrT n sh pub sig t num leaf h (n*(2*n+3+h)) D=top)):=by
 have hn:=kd.n
 have h2:=kd.h
 have h9:2^h≤2^9:=Ah (by omega) h2
 have h0:=Ar h
 have hsz:n*(2*n+3+h)≤32*76:=Aa hn (by omega)
 have hDs:D*(n*(2*n+3+h))≤68*(32*76):=Aa hD hsz
 have h64:num<18446744073709551616:=Nat.lt_of_lt_of_le hnum (Ah (n:=2) (by omega) (show r≤64 by omega))
 have hz0:n*(2*n+3+h)=n*(2*n+3+h):=rfl
 generalize hz:n*(2*n+3+h)=sz at lsig hsz hDs
 have eD:Ab.wrap ((D:Int)*(sz:Int))=((D*sz:Nat):Int):=by
  rw[show (D:Int)*(sz:Int)=((D*sz:Nat):Int) by rw[Af],nu (by omega) (by omega)]
 rw[P.awn];unfold P.al6
 rw[afw kd sh r hr r63 num leaf h64,decide_eq_true ⟨hnum,hleaf⟩,jl,oz,fq (by omega),fq (by omega),fq (by omega),zi kd,hz,eD,fq (by omega),zi kd,hz,P.azp]
 unfold P.avd P.b6o P.b4o P.cb5
 refine xu (fun d=>(vrT n sh pub sig t num leaf h sz d,sig,pub,top,((nmb h num d:Nat):Int),((lfN h num leaf d:Nat):Int),(sz:Int),(d:Int),(n:Int),H,(D:Int),A,K,sh)) D (by simp[nmb,lfN,vrT]) (fun d hd next hnx=>?_) (fun next=>?_) (by omega)
 ·have hle:=bwb h num d
  have hlt:=bwv num hleaf d
  have hds:d*sz+sz≤D*sz:=by rw[←Ap];exact Aa hd (Am _)
  have ec:(sz:Int)*(d:Int)=((d*sz:Nat):Int):=by rw[Af,A8]
  have lq:((sig.drop (d*sz)).take sz).length=sz:=by rw[Ae,Ad];omega
  rw[bom] at hnx
  simp only[P.aoj,ec]
  rw[nu (x:=((d*sz:Nat):Int)) (by omega) (by omega),show ((d*sz:Nat):Int)+(sz:Int)=((d*sz+sz:Nat):Int) by omega,nu (x:=((d*sz+sz:Nat):Int)) (by omega) (by omega),toNat_cast,toNat_cast,bf (by omega),bf (by omega),bf (by omega),bf (by omega),ad9 d _ (by omega) (by omega),Bd,Aw,
   y9 kd sh _ _ pub _ ((hsig.drop _).take _) (by rw[hz,lq]) (bqq n sh pub sig t ht _ _ _ _ _) (bg2 hn sh pub sig t lt _ _ _ _ _) hp np (bqp _ _) (bwt _ _) _ hlt,dh kd.d,kd.2,dh (by omega),toNat_cast,bt3 _ (by omega),dh (by omega),dh kd.d,dh (by omega),fdiv_pow _ _ _ (by omega),cam,nu (by omega) (by omega)]
  exact hnx
 ·simp only[P.aoj]
  rw[dh (by omega),agt _ _ (by rw[bg2 hn sh pub sig t lt];omega)]
end Q
end

section
/- fors: places, leaves, knots, by the program and by the document. -/
namespace Q
open QK
open Go Go.Abs
set_option linter.unusedVariables false
set_option linter.unusedSimpArgs false
def ofA(a:List Int)(kind:Nat):List Int:=ak7 (ak7 a 2 kind) 3 (prn a)
theorem bgk{a:List Int}(la:a.length=32)(kind:Nat):(ofA a kind).length=32:=jh (jh la _ _) _ _
theorem bwu{a:List Int}(ha:In 256 a)(kind:Nat):In 256 (ofA a kind):=xk (xk ha _ _) _ _
def ktA(a:List Int)(z i:Nat):List Int:=ak7 (ak7 (ofA a 3) 4 z) 5 i
theorem bhs{a:List Int}(la:a.length=32)(z i:Nat):(ktA a z i).length=32:=jh (jh (bgk la _) _ _) _ _
theorem bn0{a:List Int}(ha:In 256 a)(z i:Nat):In 256 (ktA a z i):=xk (xk (bwu ha _) _ _) _ _
def ovF(n:Nat)(sh:Bool)(pub a:List Int)(z i:Nat)(t:List Int):List Int:=bgw n sh pub (ktA a z i) t
def kyF(n:Nat)(sh:Bool)(pub a tops:List Int):List Int:=bgw n sh pub (ofA a 4) tops
theorem byz{n:Nat}(hn:n≤32)(sh:Bool)(pub a t:List Int):(kyF n sh pub a t).length=n:=alh hn _ _ _ _
theorem bqi{n:Nat}{H D A K:Int}(hf:acf n H D A K)(sh:Bool){sec pub a:List Int}(hp:In 256 pub)(np:pub.length=n)(la:a.length=32)(ha:In 256 a)(kind:Nat)(hk:kind<100){ρ:Type}(k:List Int→Option ρ):P.qb (n:Int) H D A K sh sec pub a (kind:Int) k=k (ofA a kind):=by
 rw[P.apt];unfold P.ahf
 rw[jc la 2 kind (by omega),uy _ ((ha.drop 20).take 4) (by simp;omega)]
 exact jc (jh la _ _) 3 _ (bfp a) k
theorem bmm{n:Nat}{H D A K:Int}(hf:acf n H D A K)(sh:Bool){sec pub a:List Int}(hp:In 256 pub)(np:pub.length=n)(la:a.length=32)(ha:In 256 a)(z i:Nat)(hz:z<1000)(hi:i<18446744073709551616){ρ:Type}(k:List Int→Option ρ):P.uo (n:Int) H D A K sh sec pub a (z:Int) (i:Int) k=k (ktA a z i):=by
 rw[P.ajb];unfold P.ad2
 rw[show P.qb (ρ:=ρ) (n:Int) H D A K sh sec pub a 3=P.qb (n:Int) H D A K sh sec pub a ((3:Nat):Int) from rfl,bqi hf sh hp np la ha 3 (by omega),aik _ (by omega),jc (bgk la _) 4 z (by omega),jc (jh (bgk la _) _ _) 5 i hi]
 rfl
theorem bao{n:Nat}{H D A K:Int}(hf:acf n H D A K)(sh:Bool){sec pub a:List Int}(hp:In 256 pub)(np:pub.length=n)(la:a.length=32)(ha:In 256 a)(z i:Nat)(hz:z<1000)(hi:i<18446744073709551616)(l:List (List Int))(hl:l.length≤1000)(li:In 256 l.flatten)(lb:l.flatten.length≤90000){ρ:Type}(k:List Int→Option ρ):P.qc (n:Int) H D A K sh sec pub a (z:Int) (i:Int) l k=k (ovF n sh pub a z i l.flatten):=by
 rw[P.alo];unfold P.afd
 rw[bmm hf sh hp np la ha z i hz hi,jd l (by omega) (by omega),aao hf sh pub hp np _ _ (bhs la _ _) (bn0 ha _ _) li (by omega)]
 rfl
theorem buo{n:Nat}{H D A K:Int}(hf:acf n H D A K)(sh:Bool){sec pub a:List Int}(hp:In 256 pub)(np:pub.length=n)(la:a.length=32)(ha:In 256 a)(t:List Int)(ht:In 256 t)(lt:t.length≤90000){ρ:Type}(k:List Int→Option ρ):P.pz (n:Int) H D A K sh sec pub a t k=k (kyF n sh pub a t):=by
 rw[P.amt];unfold P.agm
 rw[show P.qb (ρ:=ρ) (n:Int) H D A K sh sec pub a 4=P.qb (n:Int) H D A K sh sec pub a ((4:Nat):Int) from rfl,bqi hf sh hp np la ha 4 (by omega),aao hf sh pub hp np _ _ (bgk la _) (bwu ha _) ht lt]
 rfl
theorem acn{n:Nat}{H D A K:Int}(hf:acf n H D A K){pub a:List Int}(hp:In 256 pub)(np:pub.length=n)(la:a.length=32)(ha:In 256 a){ρ:Type}(k:Int→Option ρ):P.acn a k=k (prn a:Int):=by
 rw[P.bct];unfold P.aro
 exact uj _ ((ha.drop 20).take 4) (by simp;omega) k
theorem ae9{n:Nat}{H D A K:Int}(hf:acf n H D A K){pub a:List Int}(hp:In 256 pub)(np:pub.length=n)(la:a.length=32)(ha:In 256 a)(kind z i:Nat)(hk:kind<100)(hz:z<1000)(hi:i<18446744073709551616){ρ:Type}(k:List Int→Option ρ):P.ae9 a (kind:Int) (z:Int) (i:Int) k=k (ak7 (ak7 (ofA a kind) 4 z) 5 i):=by
 rw[P.bk4];unfold P.axu
 rw[jg la 2 kind (by omega),acn hf hp np la ha,jg (jh la _ _) 3 _ (bfp a),aik _ (by omega),jg (jh (jh la _ _) _ _) 4 z (by omega),jg (jh (jh (jh la _ _) _ _) _ _) 5 i hi]
 rfl
theorem akw{n:Nat}{H D A K:Int}(hf:acf n H D A K)(sh:Bool){pub a:List Int}(hp:In 256 pub)(np:pub.length=n)(la:a.length=32)(ha:In 256 a)(l:List (List Int))(hl:l.length≤1000)(li:In 256 l.flatten)(lb:l.flatten.length≤90000){ρ:Type}(k:List Int→Option ρ):P.akw (n:Int) H D A K sh l pub a k=k (kyF n sh pub a l.flatten):=by
 rw[P.bee];unfold P.at0
 rw[show P.jg (ρ:=ρ) a 2 4=P.jg a 2 ((4:Nat):Int) from rfl,jg la 2 4 (by omega),acn hf hp np la ha,jg (jh la _ _) 3 _ (bfp a),ji l (by omega) (by omega),wu hf sh pub hp np _ _ (jh (jh la _ _) _ _) (xk (xk ha _ _) _ _) li (by omega)]
 rfl
end Q
end

section
/- A stack of what is joined two by two: as many entries as a number has ones. -/
namespace Q
open Go Go.Abs
set_option linter.unusedVariables false
end Q
end

section
/- fors: a bun by a stack. -/
namespace Q
open QK
open Go Go.Abs
set_option linter.unusedVariables false
set_option linter.unusedSimpArgs false
def hs(T:List (Nat×List Int)):List Int:=T.map fun x=>(x.1:Int)
def ns(T:List (Nat×List Int)):List (List Int):=T.map fun x=>x.2
end Q
end

section
/- fors: knots and keys, by the program and by the document. -/
namespace Q
open QK
open Go Go.Abs
set_option linter.unusedVariables false
set_option linter.unusedSimpArgs false
def szF(n A K:Nat):Nat:=K*(n*(A+1))
def txF(A K:Nat):Nat:=(K*A+7)/8
theorem bfj{n A K:Nat}(hn:n≤32)(hA:A≤14)(hK:K≤40):Ab.wrap (Ab.wrap ((n:Int)*(K:Int))*Ab.wrap ((A:Int)+(1:Int)))=((szF n A K:Nat):Int)∧Ab.wrap ((Ab.wrap (Ab.wrap ((K:Int)*(A:Int))+(7:Int))).tdiv (8:Int))=((txF A K:Nat):Int):=by
 have h1:n*K≤32*40:=Aa hn hK
 have h2:n*K*(A+1)≤32*40*15:=Aa h1 (by omega)
 have h3:K*A≤40*14:=Aa hK hA
 constructor
 ·rw[show (n:Int)*(K:Int)=((n*K:Nat):Int) by rw[Af],nu (x:=((n*K:Nat):Int)) (by omega) (by omega),nu (x:=(A:Int)+1) (by omega) (by omega),show (A:Int)+1=((A+1:Nat):Int) by omega,←Af,nu (by omega) (by omega)]
  congr 1
  unfold szF
  rw[Av n K,Nat.mul_assoc]
 ·rw[show (K:Int)*(A:Int)=((K*A:Nat):Int) by rw[Af],nu (x:=((K*A:Nat):Int)) (by omega) (by omega),nu (x:=((K*A:Nat):Int)+7) (by omega) (by omega),Az (by omega),nu (by omega) (by omega)]
  unfold txF
  omega
theorem ow{n A K:Nat}{H D:Int}(hf:acf n H D A K)(sh:Bool){ρ:Type}(k:Int→Int→Option ρ):P.ow (n:Int) H D A K sh k=k (szF n A K:Nat) (txF A K:Nat):=by
 have hq:=hf
 unfold acf at hq
 obtain ⟨e1,e2⟩:=bfj (n:=n) (A:=A) (K:=K) (by omega) (by omega) (by omega)
 rw[P.ayk];unfold P.anq
 rw[jv,decide_eq_true hf,jl,oz,e1,e2]
theorem xg{n A K:Nat}{H D:Int}(hf:acf n H D A K)(sh:Bool){ρ:Type}(k:Int→Int→Option ρ):P.xg (n:Int) H D A K sh k=k (szF n A K:Nat) (txF A K:Nat):=by
 have hq:=hf
 unfold acf at hq
 obtain ⟨e1,e2⟩:=bfj (n:=n) (A:=A) (K:=K) (by omega) (by omega) (by omega)
 rw[P.bbn];unfold P.aqb
 rw[lg,decide_eq_true hf,jl,oz,e1,e2]
end Q
end

section
/- fors: the chapter's examples; what is few and light. -/
namespace Q
open QK
open Go Go.Abs
set_option linter.unusedVariables false
set_option linter.unusedSimpArgs false
end Q
end

section
/- fors: signatures and what they lead to, by the program and by the document. -/
namespace Q
open QK
open Go Go.Abs
set_option linter.unusedVariables false
set_option linter.unusedSimpArgs false
def dF(A:Nat)(t:List Int)(k:Nat):Nat:=T 8 t.reverse/2^(8*t.length-A*(k+1))%2^A
def ixF(A:Nat)(t:List Int)(k:Nat):Nat:=k*2^A+dF A t k
theorem b1p(A:Nat)(t:List Int)(k:Nat):dF A t k<2^A:=Bh _ (Ar A)
theorem bwa{A K k:Nat}(t:List Int)(hk:k<K):ixF A t k<K*2^A:=by
 have h1:=b1p A t k
 have h2:(k+1)*2^A≤K*2^A:=Aa hk (Am _)
 rw[Bf,Bb] at h2
 unfold ixF;omega
theorem bm9{A K:Nat}(t:List Int)(h1:1≤A)(h2:A≤14)(ht:t.length=txF A K):(tq t (A:Int) (K:Int)).length=K∧∀k,k<K→(tq t (A:Int) (K:Int)).getD k 0=((dF A t k:Nat):Int):=by
 rw[ax0 t A K h1 (by omega) (by unfold txF at ht;omega)]
 refine ⟨by simp,fun k hk=>?_⟩
 rw[Aq,List.getElem?_map,List.getElem?_range hk]
 rfl
theorem cad{A:Nat}(t:List Int)(k:Nat)(hb:ixF A t k<18446744073709551616)(hA:A≤64):bits .or .u64 (Ai.wrap (Ai.wrap (k:Int)*(2:Int)^min A 64)) (Ai.wrap ((dF A t k:Nat):Int))=((ixF A t k:Nat):Int):=by
 have h1:k*2^A≤ixF A t k:=Nat.le_add_right _ _
 have h2:k≤k*2^A:=A9 _ (Ar A)
 have h3:dF A t k≤ixF A t k:=Nat.le_add_left _ _
 rw[aik k (by omega),btf k A hA (by omega),aik _ (by omega),bo0 _ _ (by omega) (by omega)]
 congr 1
 unfold ixF
 rw[Av k (2^A),Nat.two_pow_add_eq_or_of_lt (b1p A t k)]
theorem b5v{A:Nat}(t:List Int)(k:Nat)(hb:ixF A t k<18446744073709551616)(hA:A≤64):Ai.wrap (Ai.wrap (Ai.wrap (k:Int)*(2:Int)^min A 64)+Ai.wrap ((dF A t k:Nat):Int))=((ixF A t k:Nat):Int):=by
 have h1:k*2^A≤ixF A t k:=Nat.le_add_right _ _
 have h2:k≤k*2^A:=A9 _ (Ar A)
 have h3:dF A t k≤ixF A t k:=Nat.le_add_left _ _
 rw[aik k (by omega),btf k A hA (by omega),aik _ (by omega),show ((k*2^A:Nat):Int)+((dF A t k:Nat):Int)=((ixF A t k:Nat):Int) by unfold ixF;omega,aik _ hb]
def upF(n:Nat)(sh:Bool)(pub a:List Int)(i:Nat)(part:List Int):Nat→List Int
 | 0=>ovF n sh pub a 0 i (part.take n)
 | z+1=>ovF n sh pub a (z+1) (i/2^(z+1)) (if i/2^z%2=1 then (part.drop ((z+1)*n)).take n++upF n sh pub a i part z else upF n sh pub a i part z++(part.drop ((z+1)*n)).take n)
theorem bbc{n:Nat}(hn:n≤32)(sh:Bool)(pub a:List Int)(i:Nat)(part:List Int):∀z,(upF n sh pub a i part z).length=n
 | 0=>alh hn _ _ _ _
 | z+1=>alh hn _ _ _ _
theorem bno(n:Nat)(sh:Bool)(pub a:List Int)(i:Nat)(part:List Int):∀z,In 256 (upF n sh pub a i part z)
 | 0=>aqn _ _ _ _ _
 | z+1=>aqn _ _ _ _ _
def ptF(n A:Nat)(sig:List Int)(k:Nat):List Int:=sig.drop (k*(n*(A+1)))
def cdF(n:Nat)(sh:Bool)(pub a:List Int)(A:Nat)(t sig:List Int)(k:Nat):List Int:=upF n sh pub a (ixF A t k) (ptF n A sig k) A
theorem bxr{n A K:Nat}{H D:Int}(hf:acf n H D A K)(sh:Bool){pub a:List Int}(hp:In 256 pub)(np:pub.length=n)(la:a.length=32)(ha:In 256 a)(sec:List Int)(i:Nat)(hi:i<18446744073709551616)(part:List Int)(ip:In 256 part)(lp':(A+1)*n≤part.length)(lb:part.length≤1000000){ρ:Type}(k:List Int→Option ρ):P.qp (n:Int) H D A K sh sec pub a (i:Int) part k=k (upF n sh pub a i part A):=by
 have hq:=hf
 unfold acf at hq
 have hn:n≤32:=by omega
 have hA:A≤14:=by omega
 have hsp:n≤(A+1)*n:=Nat.le_mul_of_pos_left _ (by omega)
 have hf1:[part.take n].flatten=part.take n:=by simp
 have ht1:(part.take n).length=n:=by rw[Ae];omega
 rw[P.ao6];unfold P.ahw
 rw[bf (by omega),bf (by omega),toNat_cast,Ag,show ∀(x:Int) (l:List (List Int)) (kk:List Int→Option ρ),P.qc (n:Int) H D A K sh sec pub a 0 x l kk=P.qc (n:Int) H D A K sh sec pub a ((0:Nat):Int) x l kk from fun _ _ _=>rfl,
  bao hf sh hp np la ha 0 i (by omega) hi _ (by simp) (by rw[hf1];exact ip.take n) (by rw[hf1];omega),hf1,P.atq]
 unfold P.apa P.b6j P.b56 P.cca
 refine xu (fun z=>((i:Int),part.drop (z*n),upF n sh pub a i part z,(A:Int),(z:Int),(n:Int),H,D,(A:Int),(K:Int),sh,sec,pub,a)) A (by simp[upF]) (fun z hz next hnx=>?_) (fun next=>?_) (by omega)
 ·have hd:=Ao i (2^z)
  have hd2:=Ao i (2^(z+1))
  have hz2:(z+2)*n≤(A+1)*n:=Aa (by omega) (Am _)
  have e2:(z+2)*n=z*n+n+n:=by rw[Bf];omega
  have e1:(z+1)*n=z*n+n:=by rw[Bf,Bb]
  have hl0:(part.drop (z*n)).length=part.length-z*n:=Ad
  have hdd:(part.drop (z*n)).drop n=part.drop ((z+1)*n):=by rw[Au,e1]
  have hl1:(part.drop ((z+1)*n)).length=part.length-(z+1)*n:=Ad
  have lu:=bbc hn sh pub a i part z
  have iu:=bno n sh pub a i part z
  have is':In 256 ((part.drop ((z+1)*n)).take n):=(ip.drop _).take _
  have ls':((part.drop ((z+1)*n)).take n).length≤n:=by rw[Ae];omega
  simp only[P.aiy,toNat_cast,Al,Ag,hdd]
  rw[bf (by omega),bf (by omega),bf (by omega),bf (by omega),bf (by omega),bf (by omega),dh (by omega),nu (x:=(z:Int)+1) (by omega) (by omega),show (z:Int)+1=((z+1:Nat):Int) by omega,dh (by omega),toNat_cast,fdiv_pow _ _ _ (by omega),fdiv_pow _ _ _ (by omega),show (1:Int)=((1:Nat):Int) from rfl,aou _ _ (by omega) (by omega),Nat.and_one_is_mod]
  rw[upF] at hnx
  by_cases hb:i/2^z%2=1
  ·rw[if_pos hb] at hnx
   have hfl:[(part.drop ((z+1)*n)).take n,upF n sh pub a i part z].flatten=(part.drop ((z+1)*n)).take n++upF n sh pub a i part z:=by simp
   rw[hb,gu rfl,bao hf sh hp np la ha (z+1) _ (by omega) (by omega) _ (by simp) (by rw[hfl];exact is'.app iu) (by rw[hfl,Ac];omega),hfl]
   exact hnx
  ·rw[if_neg hb] at hnx
   have hfl:[upF n sh pub a i part z,(part.drop ((z+1)*n)).take n].flatten=upF n sh pub a i part z++(part.drop ((z+1)*n)).take n:=by simp
   rw[show i/2^z%2=0 by omega,gy (by omega),dh (by omega),bao hf sh hp np la ha (z+1) _ (by omega) (by omega) _ (by simp) (by rw[hfl];exact iu.app is') (by rw[hfl,Ac];omega),hfl]
   exact hnx
 ·simp only[P.aiy]
  rw[dh (by omega)]
theorem um{n A K:Nat}{H D:Int}(hf:acf n H D A K)(sh:Bool){pub a:List Int}(hp:In 256 pub)(np:pub.length=n)(la:a.length=32)(ha:In 256 a)(t sig:List Int)(ht:In 256 t)(lt:t.length=txF A K)(hsig:In 256 sig)(lsig:sig.length=szF n A K){ρ:Type}(k:List Int→Option ρ):P.um (n:Int) H D A K sh sig t pub a k=k (kyF n sh pub a (cat (cdF n sh pub a A t sig) K)):=by
 have hq:=hf
 unfold acf at hq
 have hn:n≤32:=by omega
 have hA:A≤14:=by omega
 have hK:K≤40:=by omega
 have h3:K*A≤40*14:=Aa hK hA
 have hpw:K*2^A≤655360:=by
  have h1:2^A≤2^14:=Ah (by omega) hA
  have:=Aa hK h1
  omega
 have htx:txF A K≤100:=by unfold txF;omega
 obtain ⟨d1,d2⟩:=bm9 (A:=A) (K:=K) t (by omega) hA lt
 have hl:=ax8 (T:=cdF n sh pub a A t sig) (fun i=>bbc hn sh pub a _ _ _)
 have hsz:n*(A+1)≤32*15:=Aa hn (by omega)
 have eN:Ab.wrap ((n:Int)*Ab.wrap ((A:Int)+1))=((n*(A+1):Nat):Int):=by
  rw[nu (x:=(A:Int)+1) (by omega) (by omega),show (A:Int)+1=((A+1:Nat):Int) by omega,←Af,nu (by omega) (by omega)]
 unfold szF at lsig
 rw[P.amz];unfold P.agp
 rw[ow hf,jv,decide_eq_true hf,jl,oz,fq (by omega),fq (by omega),fq (by unfold szF;omega),ny t A K ht (by omega),d1,P.ap0];unfold P.ak2 P.b6h P.b5h P.cf2
 refine xu (fun j=>((K:Int),(j:Int),cat (cdF n sh pub a A t sig) j,(n:Int),H,D,(A:Int),(K:Int),sh,ptF n A sig j,(n:Int),H,D,(A:Int),(K:Int),sh,pub,a,(n:Int),H,D,(A:Int),(K:Int),sh,pub,a,tq t (A:Int) (K:Int))) K (by simp[cat,ptF]) (fun j hj next hnx=>?_) (fun next=>?_) (by omega)
 ·have hix:=bwa (A:=A) t hj
  have hm:j*n≤40*32:=Aa (by omega) hn
  have hj1:(j+1)*(n*(A+1))≤K*(n*(A+1)):=Aa hj (Am _)
  have e1:(j+1)*(n*(A+1))=j*(n*(A+1))+n*(A+1):=by rw[Bf,Bb]
  have hKs:K*(n*(A+1))≤40*(32*15):=Aa hK hsz
  have hpl:(ptF n A sig j).length=sig.length-j*(n*(A+1)):=Ad
  have hpn:(ptF n A sig j).drop (n*(A+1))=ptF n A sig (j+1):=by unfold ptF;rw[Au,e1]
  simp only[P.afm,d1,toNat_cast,eN,Al,hpn]
  rw[bf (by omega),bf (by omega),bf (by omega),dh (by omega),d2 j hj,cad t j (by omega) (by omega),bxr hf sh hp np la ha [] _ (by omega) _ (show In 256 (ptF n A sig j) from hsig.drop _) (by rw[hpl,Av];omega) (by rw[hpl];omega),bf (by rw[hl,bbc hn];omega),bf (by omega),bf (by omega),bf (by omega),nu (by omega) (by omega)]
  exact hnx
 ·have hm:K*n≤40*32:=Aa (by omega) hn
  simp only[P.afm]
  rw[dh (by omega),buo hf sh hp np la ha _ (bfw (T:=cdF n sh pub a A t sig) (fun i=>bno _ _ _ _ _ _ _) _) (by rw[hl];omega)]
theorem yg{n A K:Nat}{H D:Int}(hf:acf n H D A K)(sh:Bool){pub a:List Int}(hp:In 256 pub)(np:pub.length=n)(la:a.length=32)(ha:In 256 a)(t sig:List Int)(ht:In 256 t)(lt:t.length=txF A K)(hsig:In 256 sig)(lsig:sig.length=szF n A K){ρ:Type}(k:List Int→Option ρ):P.yg (n:Int) H D A K sh sig t pub a k=k (kyF n sh pub a (cat (cdF n sh pub a A t sig) K)):=by
 have hq:=hf
 unfold acf at hq
 have hn:n≤32:=by omega
 have hA:A≤14:=by omega
 have hK:K≤40:=by omega
 have h3:K*A≤40*14:=Aa hK hA
 have hpw:K*2^A≤655360:=by
  have h1:2^A≤2^14:=Ah (by omega) hA
  have:=Aa hK h1
  omega
 have htx:txF A K≤100:=by unfold txF;omega
 obtain ⟨d1,d2⟩:=bm9 (A:=A) (K:=K) t (by omega) hA lt
 have hl:=ax8 (T:=cdF n sh pub a A t sig) (fun i=>bbc hn sh pub a _ _ _)
 have hsz:n*(A+1)≤32*15:=Aa hn (by omega)
 unfold szF at lsig
 rw[P.ao3];unfold P.ahr
 rw[xg hf,lg,decide_eq_true hf,jl,oz,fq (by omega),fq (by omega),fq (by unfold szF;omega),qd t A K ht (by omega),P.atz];unfold P.ao9 P.b6y P.b2g P.cee
 refine xu (fun j=>(sig,pub,(j:Int),(Bn j).map (cdF n sh pub a A t sig),(n:Int),H,D,(A:Int),(K:Int),sh,a,tq t (A:Int) (K:Int))) K rfl (fun j hj next hnx=>?_) (fun next=>?_) (by omega)
 ·have hix:=bwa (A:=A) t hj
  have hj1:(j+1)*(n*(A+1))≤K*(n*(A+1)):=Aa hj (Am _)
  have e1:(j+1)*(n*(A+1))=j*(n*(A+1))+n*(A+1):=by rw[Bf,Bb]
  have hKs:K*(n*(A+1))≤40*(32*15):=Aa hK hsz
  have hjn:j*n≤40*32:=Aa (by omega) hn
  have hnA:n≤n*(A+1):=A9 _ (by omega)
  have hpl:(ptF n A sig j).length=sig.length-j*(n*(A+1)):=Ad
  have eJ:Ab.wrap (Ab.wrap ((j:Int)*(n:Int))*Ab.wrap ((A:Int)+1))=((j*(n*(A+1)):Nat):Int):=by
   rw[←Af,nu (x:=((j*n:Nat):Int)) (by omega) (by omega),nu (x:=(A:Int)+1) (by omega) (by omega),show (A:Int)+1=((A+1:Nat):Int) by omega,←Af,Nat.mul_assoc,nu (by omega) (by omega)]
  simp only[P.ai6,d1,toNat_cast,eJ,Al,Ag]
  rw[show sig.drop (j*(n*(A+1)))=ptF n A sig j from rfl,bf (by omega),dh (by omega),bf (by omega),bf (by omega),bf (by omega),bf (by omega),bf (by omega),d2 j hj,b5v t j (by omega) (by omega)]
  rw[show P.ae9 (ρ:=ρ) a 3 0 ((ixF A t j:Nat):Int)=P.ae9 a ((3:Nat):Int) ((0:Nat):Int) ((ixF A t j:Nat):Int) from rfl,ae9 hf hp np la ha 3 0 _ (by omega) (by omega) (by omega),show ak7 (ak7 (ofA a 3) 4 0) 5 (ixF A t j)=ktA a 0 (ixF A t j) from rfl,bf (by omega),bf (by omega),
   wu hf sh pub hp np _ _ (bhs la _ _) (bn0 ha _ _) (show In 256 ((ptF n A sig j).take n) from (hsig.drop _).take _) (by rw[Ae];omega),P.asf]
  unfold P.am3 P.b7t P.b1t P.cde
  refine xu (fun z=>(sig,pub,(j:Int),((ixF A t j:Nat):Int),ptF n A sig j,upF n sh pub a (ixF A t j) (ptF n A sig j) z,(z:Int),tq t (A:Int) (K:Int),a,(n:Int),H,D,(A:Int),(K:Int),sh,(Bn j).map (cdF n sh pub a A t sig))) A rfl (fun z hz next2 hnx2=>?_) (fun next2=>?_) (by omega)
  ·generalize hpt:ptF n A sig j=part at hpl hnx2
   have ip:In 256 part:=by rw[←hpt];exact hsig.drop _
   generalize hi0:ixF A t j=i at hix hnx2
   have hd:=Ao i (2^z)
   have hd2:=Ao i (2^(z+1))
   have hz2:n*(z+2)≤n*(A+1):=Aa (Am _) (by omega)
   have hz1:n*(z+1)≤n*(A+1):=Aa (Am _) (by omega)
   have e2:n*(z+2)=n*(z+1)+n:=by rw[Nat.mul_add n (z+1) 1,Nat.mul_one]
   have eA:Ab.wrap ((n:Int)*Ab.wrap ((z:Int)+1))=((n*(z+1):Nat):Int):=by
    rw[nu (x:=(z:Int)+1) (by omega) (by omega),show (z:Int)+1=((z+1:Nat):Int) by omega,←Af,nu (by omega) (by omega)]
   have eB:Ab.wrap ((n:Int)*Ab.wrap ((z:Int)+2))=((n*(z+2):Nat):Int):=by
    rw[nu (x:=(z:Int)+2) (by omega) (by omega),show (z:Int)+2=((z+2:Nat):Int) by omega,←Af,nu (by omega) (by omega)]
   have es:Ak (n*(z+1)) (Aj (n*(z+2)) part)=(part.drop ((z+1)*n)).take n:=by rw[Bd,e2,Aw,Av]
   have lu:=bbc hn sh pub a i part z
   have iu:=bno n sh pub a i part z
   have is':In 256 ((part.drop ((z+1)*n)).take n):=(ip.drop _).take _
   have ls':((part.drop ((z+1)*n)).take n).length≤n:=by rw[Ae];omega
   have em:((i/2^z:Nat):Int).tmod 2=((i/2^z%2:Nat):Int):=by rw[Ay (Bg _)];rfl
   have f1:[upF n sh pub a i part z,(part.drop ((z+1)*n)).take n].flatten=upF n sh pub a i part z++(part.drop ((z+1)*n)).take n:=by simp
   have f2:[(part.drop ((z+1)*n)).take n,upF n sh pub a i part z].flatten=(part.drop ((z+1)*n)).take n++upF n sh pub a i part z:=by simp
   simp only[P.ahj,eA,eB,toNat_cast,es]
   rw[bf (by omega),bf (by omega),bf (by omega),bf (by omega),ji _ (by simp) (by rw[f1,Ac];omega),f1,dh (by omega),fdiv_pow _ _ _ (by omega),em]
   rw[upF] at hnx2
   by_cases hb:i/2^z%2=1
   ·rw[if_pos hb] at hnx2
    rw[hb,gu (by omega),ji _ (by simp) (by rw[f2,Ac];omega),f2,nu (x:=(z:Int)+1) (by omega) (by omega),show (z:Int)+1=((z+1:Nat):Int) by omega,dh (by omega),toNat_cast,fdiv_pow _ _ _ (by omega),show P.ae9 (ρ:=ρ) a 3 ((z+1:Nat):Int) ((i/2^(z+1):Nat):Int)=P.ae9 a ((3:Nat):Int) ((z+1:Nat):Int) ((i/2^(z+1):Nat):Int) from rfl,ae9 hf hp np la ha 3 (z+1) _ (by omega) (by omega) (by omega),show ak7 (ak7 (ofA a 3) 4 (z+1)) 5 (i/2^(z+1))=ktA a (z+1) (i/2^(z+1)) from rfl,
     wu hf sh pub hp np _ _ (bhs la _ _) (bn0 ha _ _) (is'.app iu) (by rw[Ac];omega)]
    exact hnx2
   ·rw[if_neg hb] at hnx2
    rw[show i/2^z%2=0 by omega,gy (by omega),nu (x:=(z:Int)+1) (by omega) (by omega),show (z:Int)+1=((z+1:Nat):Int) by omega,dh (by omega),toNat_cast,fdiv_pow _ _ _ (by omega),show P.ae9 (ρ:=ρ) a 3 ((z+1:Nat):Int) ((i/2^(z+1):Nat):Int)=P.ae9 a ((3:Nat):Int) ((z+1:Nat):Int) ((i/2^(z+1):Nat):Int) from rfl,ae9 hf hp np la ha 3 (z+1) _ (by omega) (by omega) (by omega),show ak7 (ak7 (ofA a 3) 4 (z+1)) 5 (i/2^(z+1))=ktA a (z+1) (i/2^(z+1)) from rfl,
     wu hf sh pub hp np _ _ (bhs la _ _) (bn0 ha _ _) (iu.app is') (by rw[Ac];omega)]
    exact hnx2
  ·simp only[P.ahj]
   rw[dh (by omega),bf (by simp;omega),nu (by omega) (by omega)]
   rw[←ae6] at hnx
   exact hnx
 ·have hm:K*n≤40*32:=Aa (by omega) hn
  simp only[P.ai6]
  rw[dh (by omega),akw hf sh hp np la ha _ (by simp;omega) (by rw[an9];exact bfw (T:=cdF n sh pub a A t sig) (fun i=>bno _ _ _ _ _ _ _) _) (by rw[an9,hl];omega),an9]
end Q
end

section
/- fors: what any signature is; what is signed leads to the tops. -/
namespace Q
open QK
open Go Go.Abs
set_option linter.unusedVariables false
set_option linter.unusedSimpArgs false
end Q
end

section
/- mac: digests with keys, and keys that grow, by the program. -/
namespace Q
open QK
open Go Go.Abs
set_option linter.unusedVariables false
set_option linter.unusedSimpArgs false
theorem b50{kd:Int}(h:1≤kd∧kd≤5):(([0,0,32,64,48,128,64,128,32,136,64,72,32,168,64,136]:List Int).getD (kd.toNat*2+1) 0)=((bk kd:Nat):Int):=by
 have:kd=1∨kd=2∨kd=3∨kd=4∨kd=5:=by omega
 rcases this with rfl | rfl | rfl | rfl | rfl<;>decide
theorem af5{kd:Int}(h:1≤kd∧kd≤5)(key:List Int)(hk:In 256 key)(nk:key.length≤100000){ρ:Type}(k:Int→List Int→List Int→Option ρ):P.af5 kd key k=k kd (bi4 (b3n kd key) (bk kd) 92) (bi4 (b3n kd key) (bk kd) 54):=by
 have hK:K7 kd:=K7.of (by omega)
 have h2:=b2d hK
 have hd:=avo hK
 rw[P.bae];unfold P.aqd
 rw[bf7,bf (by omega),bf (by omega),bf (by omega),b50 h]
 unfold b3n
 by_cases hg:bk kd<key.length
 ·rw[bf (by omega),if_pos hg,ax5 hK [key] (by simp) (by simpa using hk) (by simp;omega)]
  have e:[key].flatten=key:=by simp
  rw[e,uf _ _ _ (by rw[amm hK];omega) (by omega),uf _ _ _ (by rw[amm hK];omega) (by omega)]
 ·rw[dh (by omega),if_neg hg,uf _ _ _ (by omega) (by omega),uf _ _ _ (by omega) (by omega)]
theorem keyed{kd:Int}{ρ:Type}(k:Bool→Option ρ):P.afz kd k=k (decide (1≤kd∧kd≤5)):=by
 rw[P.aym];unfold P.aoq
 by_cases h1:kd≥1
 ·rw[bf h1]
  congr 1
  exact decide_eq_decide.2 ⟨fun h=>⟨h1,h⟩,fun h=>h.2⟩
 ·rw[dh h1,decide_eq_false (fun h=>h1 h.1)]
theorem ah4{kd:Int}(h:1≤kd∧kd≤5)(key b:List Int)(hk:In 256 key)(hb:In 256 b)(nk:key.length≤100000)(nb:b.length≤900000){ρ:Type}(k:List Int→Int→Option ρ):P.ah4 kd key b k=k (hmc kd key b) 0:=by
 have hK:K7 kd:=K7.of (by omega)
 have h2:=b2d hK
 rw[P.bc4];unfold P.arf
 rw[keyed,decide_eq_true h,jl,oz,af5 h key hk nk,bx5 hK [b] (by simp) (by simpa using hb) (by simp;omega) _ _ (bro _ _ _) (bro _ _ _) (by rw[bh5];omega) (by rw[bh5];omega)]
 simp[hmc]
theorem hm1:(hmc 1 [] []).take 4=[182,19,103,154]:=by decide +kernel
end Q
end

section
/- slh: digests, and what they tell, by the program. -/
namespace Q
open QK
open Go Go.Abs
set_option linter.unusedVariables false
set_option linter.unusedSimpArgs false
theorem maskN(w:Nat)(hw:w≤64):Ai.wrap (Ai.wrap ((1:Int)*(2:Int)^min w 64)-(1:Int))=((2^w-1:Nat):Int):=by
 by_cases h4:w=64
 ·subst h4;rfl
 ·have h2:2^w≤2^63:=Ah (by omega) (by omega)
  have h1:=Ar w
  rw[Nat.min_eq_left (by omega),Int.one_mul,show ((2:Int)^w)=((2^w:Nat):Int) by simp,aik _ (by omega),show ((2^w:Nat):Int)-(1:Int)=((2^w-1:Nat):Int) by omega,aik _ (by omega)]
theorem bs0(x w:Nat)(hx:x<18446744073709551616)(hw:w≤64):bits .and .u64 (x:Int) (Ai.wrap (Ai.wrap ((1:Int)*(2:Int)^min w 64)-(1:Int)))=((x%2^w:Nat):Int):=by
 have h2:2^w≤2^64:=Ah (by omega) hw
 rw[maskN w hw,aou _ _ hx (by omega),Bc]
def by8(w:Nat):Nat:=(w+7)/8
theorem apv{w:Nat}(h:w≤64):by8 w≤8:=by unfold by8;omega
theorem bpm(w:Nat)(hw:w≤100000):Ab.wrap ((Ab.wrap ((w:Int)+(7:Int))).tdiv (8:Int))=((by8 w:Nat):Int):=by
 rw[nu (x:=(w:Int)+7) (by omega) (by omega),Az (by omega),nu (by omega) (by omega)]
 unfold by8
 omega
def nbW(b:List Int)(w:Nat):Nat:=T 8 (b.take (by8 w)).reverse%2^w
theorem bwf(b:List Int)(w:Nat):nbW b w<2^w:=Bh _ (Ar w)
theorem az9(b:List Int)(w:Nat)(hw:w≤64):T 8 (b.take (by8 w)).reverse<18446744073709551616:=by
 have h1:=bzx 8 (b.take (by8 w)).reverse
 have h8:=apv hw
 have h2:8*((b.take (by8 w)).reverse).length≤64:=by rw[List.length_reverse,Ae];omega
 have h3:2^(8*((b.take (by8 w)).reverse).length)≤2^64:=Ah (by omega) h2
 omega
theorem bjq(b:List Int)(hb:In 256 b)(hbl:b.length≤1000000)(w:Nat)(hw:w≤64)(hl:by8 w≤b.length){ρ:Type}(k:Int→List Int→Option ρ):P.aai b (w:Int) k=k ((nbW b w:Nat):Int) (b.drop (by8 w)):=by
 have ht:=az9 b w hw
 have h8:=apv hw
 rw[P.avz];unfold P.amb
 rw[bpm w (by omega),bf (by omega),bf (by omega),toNat_cast,Ag,uy _ (hb.take _) (by rw[Ae];omega),Nat.mod_eq_of_lt ht,dh (by omega),bf (by omega),bf (by omega),bf (by omega),toNat_cast,toNat_cast,Al,bs0 _ w ht hw]
 rfl
def kdS(n:Nat):Int:=if n=16 then 1 else 3
theorem bxw(n:Nat):1≤kdS n∧kdS n≤3:=by unfold kdS;split<;>omega
def bpi(n:Nat)(sh:Bool)(size:Nat)(r pub text:List Int):List Int :=
 if sh then btp 7 (r++(pub++text)) size else grow (maT (kdS n) (r++(pub.take n++dig (kdS n) (r++(pub++text))))) (dl (kdS n)) size
theorem K7S(n:Nat):K7 (kdS n):=K7.of (by have:=bxw n;omega)
theorem aw0(n:Nat)(sh:Bool)(size:Nat)(r pub text:List Int):(bpi n sh size r pub text).length=size:=by
 unfold bpi
 have:=avo (K7S n)
 split
 ·exact bgu _ _ _
 ·exact buv (fun i=>amm (K7S n) _) (by omega) _
theorem bmk(n:Nat)(sh:Bool)(size:Nat)(r pub text:List Int):In 256 (bpi n sh size r pub text):=by
 unfold bpi
 split
 ·exact bmr _ _ _
 ·exact (bfw (fun i=>bok _ _) _).take _
theorem zf(a b c:List Int):[a,b,c].flatten=a++(b++c):=by simp
theorem b52(n size:Nat)(hs:size≤10000)(r pub text:List Int)(h1:In 256 r)(h2:In 256 pub)(h3:In 256 text)(l1:r.length≤100000)(l2:pub.length≤100000)(l3:text.length≤100000){ρ:Type}(k:List Int→Option ρ) :
    P.qo (size:Int) r pub text k=k (bpi n true size r pub text):=by
 rw[P.apj];unfold P.ahi
 rw[P.apb];unfold P.ahx
 rw[jd _ (by simp) (by rw[zf];simp;omega),zf,zq (by omega) _ (by simp;omega) size (by omega)]
 rfl
theorem b4p{n:Nat}(hn:n=16∨n=24∨n=32)(size:Nat)(hs:size≤10000)(H D A K:Int)(s:Bool)(r pub text:List Int)(h1:In 256 r)(h2:In 256 pub)(h3:In 256 text)(l1:r.length≤40000)(l2:pub.length≤40000)(np:n≤pub.length)(l3:text.length≤100000){ρ:Type}(k:List Int→Option ρ) :
    P.qj (size:Int) r pub text (kdS n) (n:Int) H D A K s k=k (bpi n false size r pub text):=by
 have h3':=bxw n
 have hK:=K7S n
 have hdp:=avo hK
 have hdl:=amm hK (r++(pub++text))
 rw[P.ao4];unfold P.ahy
 rw[jd _ (by simp) (by rw[zf];simp;omega),zf,zx hK _ (h1.app (h2.app h3)) (by simp;omega),bf (by omega),bf (by omega),toNat_cast,Ag,jd _ (by simp) (by rw[zf];simp;omega),zf,
  af0 h3' _ (h1.app ((h2.take _).app (bok _ _))) (by simp;omega) size hs]
 rfl
def ap2(text beside:List Int):List Int:=[0,((beside.length%256:Nat):Int)]++(beside++text)
theorem bqf(text beside:List Int)(h1:In 256 text)(h2:In 256 beside):In 256 (ap2 text beside):=by
 refine In.app (fun y hy=>?_) (h2.app h1)
 simp at hy
 omega
theorem bnw(text beside:List Int):(ap2 text beside).length=2+(beside.length+text.length):=by simp[ap2];omega
theorem u8L(n:Nat):IntKind.u8.wrap (n:Int)=((n%256:Nat):Int):=by rw[u8m];omega
theorem bnr(text beside:List Int)(h1:text.length≤100000)(h2:beside.length≤100000){ρ:Type}(k:List Int→Option ρ):P.af3 text beside k=k (ap2 text beside):=by
 rw[P.ayh];unfold P.aoa
 rw[u8L,jd _ (by simp) (by rw[zf];simp;omega),zf]
 rfl
def plS(tree leaf:Nat):List Int:=ak7 (ak7 (ak7 Z32 1 tree) 2 3) 3 leaf
theorem bqo(tree leaf:Nat):(plS tree leaf).length=32:=jh (jh (jh rfl _ _) _ _) _ _
theorem bwx(tree leaf:Nat):In 256 (plS tree leaf):=xk (xk (xk bxa _ _) _ _) _ _
theorem bu5(t:List Int)(tree leaf:Nat)(h1:tree<18446744073709551616)(h2:leaf<18446744073709551616){ρ:Type}(k:List Int→Option ρ):P.xw t (tree:Int) (leaf:Int) k=k (plS tree leaf):=by
 rw[P.am6];unfold P.afy
 rw[show P.jc (ρ:=ρ) [0,0,0,0,0,0,0,0,0,0,0,0,0,0,0,0,0,0,0,0,0,0,0,0,0,0,0,0,0,0,0,0]=P.jc Z32 from rfl,jc rfl 1 tree h1,show (3:Int)=((3:Nat):Int) from rfl,jc (jh rfl _ _) 2 3 (by omega),jc (jh (jh rfl _ _) _ _) _ leaf h2]
 rfl
def bmj(n:Nat)(sh:Bool)(A K r h:Nat)(R pub all:List Int):List Int:=(bpi n sh (txF A K+by8 r+by8 h) R pub all).take (txF A K)
def bi8(n:Nat)(sh:Bool)(A K r h:Nat)(R pub all:List Int):Nat:=nbW ((bpi n sh (txF A K+by8 r+by8 h) R pub all).drop (txF A K)) r
def biv(n:Nat)(sh:Bool)(A K r h:Nat)(R pub all:List Int):Nat:=nbW (((bpi n sh (txF A K+by8 r+by8 h) R pub all).drop (txF A K)).drop (by8 r)) h
end Q
end

section
/- slh: what a digest tells; signatures, by the program. -/
namespace Q
open QK
open Go Go.Abs
set_option linter.unusedVariables false
set_option linter.unusedSimpArgs false
structure Ks (n:Nat) (H D A K h r:Nat):Prop where
 kd:Kd n H D A K h
 hr:H=h+r
 r64:r≤64
section
variable {n H D A K h r:Nat}
theorem Ks.f(ks:Ks n H D A K h r):acf n H D A K:=ks.kd.1
theorem Ks.n3(ks:Ks n H D A K h r):n=16∨n=24∨n=32:=by have:=ks.f;unfold acf at this;omega
theorem Ks.nums(ks:Ks n H D A K h r):1≤D∧D≤68∧H≤68∧1≤A∧A≤14∧1≤K∧K≤40∧h≤9∧n≤32:=by
 have:=ks.f
 have h2:=ks.kd.h
 have h3:=ks.kd.n
 unfold acf at this
 omega
theorem bi7(ks:Ks n H D A K h r):txF A K≤71:=by
 obtain ⟨_,_,_,_,a2,_,k2,_,_⟩:=ks.nums
 unfold txF
 have:K*A≤40*14:=Aa k2 a2
 omega
theorem bof(n:Nat)(sh:Bool)(A K r h:Nat)(R pub all:List Int):(bmj n sh A K r h R pub all).length=txF A K:=by
 unfold bmj
 rw[Ae,aw0]
 omega
theorem brw(n:Nat)(sh:Bool)(A K r h:Nat)(R pub all:List Int):In 256 (bmj n sh A K r h R pub all):=(bmk _ _ _ _ _ _).take _
theorem bkc(ks:Ks n H D A K h r)(sh:Bool)(R pub all:List Int){ρ:Type}(k:List Int→Int→Int→Option ρ)(dg:List Int)(hdg:dg=bpi n sh (txF A K+by8 r+by8 h) R pub all) :
    (P.aai (dg.drop (txF A K)) (r:Int) fun (q3:Int) (q4:List Int)=>P.aai q4 (h:Int) fun (q5:Int) (q6:List Int)=>k (dg.take (txF A K)) q3 q5)=k (bmj n sh A K r h R pub all) ((bi8 n sh A K r h R pub all:Nat):Int) ((biv n sh A K r h R pub all:Nat):Int):=by
 obtain ⟨_,_,_,_,_,_,_,h9,_⟩:=ks.nums
 have ht:=bi7 ks
 have r64:=ks.r64
 have b1:=apv r64
 have b2:=apv (w:=h) (by omega)
 have hl:dg.length=txF A K+by8 r+by8 h:=by rw[hdg,aw0]
 have hi:In 256 dg:=by rw[hdg];exact bmk _ _ _ _ _ _
 rw[bjq _ (hi.drop _) (by rw[Ad];omega) r r64 (by rw[Ad];omega),bjq _ ((hi.drop _).drop _) (by rw[Ad,Ad];omega) h (by omega) (by rw[Ad,Ad];omega)]
 unfold bmj bi8 biv
 rw[←hdg]
theorem bmn(ks:Ks n H D A K h r):Ab.wrap (Ab.wrap (((txF A K:Nat):Int)+((by8 r:Nat):Int))+((by8 h:Nat):Int))=((txF A K+by8 r+by8 h:Nat):Int):=by
 have ht:=bi7 ks
 obtain ⟨_,_,_,_,_,_,_,h9,_⟩:=ks.nums
 have b1:=apv ks.r64
 have b2:=apv (w:=h) (by omega)
 rw[nu (x:=((txF A K:Nat):Int)+((by8 r:Nat):Int)) (by omega) (by omega),nu (by omega) (by omega)]
 omega
theorem blg(ks:Ks n H D A K h r):Ab.wrap ((H:Int)-Ab.wrap ((H:Int).tdiv (D:Int)))=(r:Int):=by
 have:=ks.hr
 have:=ks.r64
 have:=ks.nums
 rw[ks.kd.2,show (H:Int)-(h:Int)=(r:Int) by omega,nu (by omega) (by omega)]
theorem b51(ks:Ks n H D A K h r)(s:Bool)(dw:Nat)(c1 c2 c3 c4 c5:Int)(c6:Bool)(d0 d1 d2 d3 d4 d5:Int)(d6:Bool)(e0 e1 e2 e3 e4 e5:Int)(e6:Bool)(R pub all:List Int)(h1:In 256 R)(h2:In 256 pub)(h3:In 256 all)(l1:R.length≤40000)(l2:pub.length≤40000)(l3:all.length≤100000){ρ:Type}(k:List Int→Int→Int→Option ρ) :
    P.wh n H D A K s dw c1 c2 c3 c4 c5 c6 d0 d1 d2 d3 d4 d5 d6 1 e0 e1 e2 e3 e4 e5 e6 R pub all k=k (bmj n true A K r h R pub all) ((bi8 n true A K r h R pub all:Nat):Int) ((biv n true A K r h R pub all:Nat):Int):=by
 have ht:=bi7 ks
 obtain ⟨_,_,_,_,_,_,_,h9,_⟩:=ks.nums
 have b1:=apv ks.r64
 have b2:=apv (w:=h) (by omega)
 have hl:=aw0 n true (txF A K+by8 r+by8 h) R pub all
 rw[P.ag2];unfold P.acv
 rw[ow ks.f,dh ks.kd.d,bf rfl,blg ks,ks.kd.2,bpm r (by have:=ks.r64;omega),bpm h (by omega),bmn ks,b52 n _ (by omega) R pub all h1 h2 h3 (by omega) (by omega) l3,
  bf (by omega),bf (by omega),bf (by omega),bf (by omega),bf (by omega),toNat_cast,Ba (by rw[Ad];omega)]
 rw[show (((txF A K:Nat):Int)-(0:Int)).toNat=txF A K by omega,Ag]
 exact bkc ks true R pub all k _ rfl
theorem b5d(ks:Ks n H D A K h r)(s:Bool)(dw:Nat)(c1 c2 c3 c4 c5:Int)(c6:Bool)(d0 d1 d2 d3 d4 d5:Int)(d6:Bool)(e2 e3 e4 e5:Int)(e6:Bool)(R pub all:List Int)(h1:In 256 R)(h2:In 256 pub)(h3:In 256 all)(l1:R.length≤40000)(l2:pub.length≤40000)(np:n≤pub.length)(l3:all.length≤100000){ρ:Type}(k:List Int→Int→Int→Option ρ) :
    P.wh n H D A K s dw c1 c2 c3 c4 c5 c6 d0 d1 d2 d3 d4 d5 d6 2 (kdS n) n e2 e3 e4 e5 e6 R pub all k=k (bmj n false A K r h R pub all) ((bi8 n false A K r h R pub all:Nat):Int) ((biv n false A K r h R pub all:Nat):Int):=by
 have ht:=bi7 ks
 obtain ⟨_,_,_,_,_,_,_,h9,_⟩:=ks.nums
 have b1:=apv ks.r64
 have b2:=apv (w:=h) (by omega)
 have hl:=aw0 n false (txF A K+by8 r+by8 h) R pub all
 rw[P.ag2];unfold P.acv
 rw[ow ks.f,dh ks.kd.d,dh (by omega),bf rfl,blg ks,ks.kd.2,bpm r (by have:=ks.r64;omega),bpm h (by omega),bmn ks,b4p ks.n3 _ (by omega) _ _ _ _ _ R pub all h1 h2 h3 l1 l2 np l3,
  bf (by omega),bf (by omega),bf (by omega),bf (by omega),bf (by omega),toNat_cast,toNat_cast,Al,Ag]
 exact bkc ks false R pub all k _ rfl
theorem bvz(n H D A K:Int){ρ:Type}(k:Int→Int→Int→Int→Int→Bool→Nat→Int→Int→Int→Int→Int→Bool→Int→Int→Int→Int→Int→Int→Bool→Nat→Int→Int→Int→Int→Int→Int→Bool→Option ρ) :
    P.ae4 n H D A K true k=k n H D A K true 1 n H D A K true 0 0 0 0 0 0 false 1 0 0 0 0 0 0 false:=by
 rw[P.arl];unfold P.ajr
 rw[oz,P.aws];unfold P.al5
 rfl
theorem bux(n:Nat)(H D A K:Int){ρ:Type}(k:Int→Int→Int→Int→Int→Bool→Nat→Int→Int→Int→Int→Int→Bool→Int→Int→Int→Int→Int→Int→Bool→Nat→Int→Int→Int→Int→Int→Int→Bool→Option ρ) :
    P.ae4 n H D A K false k=k n H D A K false 2 0 0 0 0 0 false (kdS n) n H D A K false 2 (kdS n) n H D A K false:=by
 rw[P.arl];unfold P.ajr
 rw[wo,P.awo];unfold P.al9 kdS
 by_cases e:n=16
 ·subst e;rw[gu (by decide),if_pos rfl]
 ·rw[gy (by omega),if_neg e]
def sgZ(n D A K h:Nat):Nat:=n+szF n A K+D*(n*(2*n+3+h))
theorem bnv(ks:Ks n H D A K h r):szF n A K≤20000∧D*(n*(2*n+3+h))≤166000:=by
 obtain ⟨_,d2,_,_,a2,_,k2,h9,n2⟩:=ks.nums
 have e1:n*(A+1)≤32*15:=Aa n2 (by omega)
 have e2:K*(n*(A+1))≤40*(32*15):=Aa k2 e1
 have e3:n*(2*n+3+h)≤32*76:=Aa n2 (by omega)
 have e4:D*(n*(2*n+3+h))≤68*(32*76):=Aa d2 e3
 unfold szF
 omega
theorem afp(ks:Ks n H D A K h r)(sh:Bool){ρ:Type}(k:Int→Int→Int→Option ρ):P.aby n H D A K sh k=k ((2*n:Nat):Int) ((4*n:Nat):Int) ((sgZ n D A K h:Nat):Int):=by
 obtain ⟨z1,z2⟩:=bnv ks
 obtain ⟨_,d2,_,_,a2,_,k2,h9,n2⟩:=ks.nums
 rw[P.ale];unfold P.afx
 rw[jv,decide_eq_true ks.f,jl,oz,ow ks.f,o7 ks.kd,show (D:Int)*((n*(2*n+3+h):Nat):Int)=((D*(n*(2*n+3+h)):Nat):Int) by rw[Af D]]
 unfold sgZ
 generalize D*(n*(2*n+3+h))=Y at *
 generalize szF n A K=X at *
 rw[nu (x:=(2:Int)*(n:Int)) (by omega) (by omega),nu (x:=(4:Int)*(n:Int)) (by omega) (by omega),nu (x:=(Y:Int)) (by omega) (by omega),nu (x:=(n:Int)+(X:Int)) (by omega) (by omega),nu (by omega) (by omega)]
 congr 1
end
end Q
end
