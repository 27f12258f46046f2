/-
  SlhSigns, part 28: lemmas for the law.
-/

import Derived.Test.YtciddcopcdmnbaaGreatDoorSlhSignsZA
import Derived.Test.YtciddcopcdmnbaaGreatDoorSlhSignsL
import Derived.Test.YtciddcopcdmnbaaGreatDoorSlhSignsM
import Derived.Test.YtciddcopcdmnbaaGreatDoorSlhSignsK
import Derived.Test.YtciddcopcdmnbaaGreatDoorSlhSignsZ
open Nat renaming mul_le_mul → Aa, pow_le_pow_right → Ac, div_le_self → Aj, succ_mul → Al, two_pow_pos → Ao, le_refl → Aq, pow_succ → Ar, mul_comm → Au, pow_zero → Bb, one_mul → Bd, sub_add_cancel → Bf, lt_of_lt_of_le → Bg, mul_div_cancel → Bh, pow_le_pow_iff_right → Bp, add_sub_cancel_left → Bq, le_mul_of_pos_right → Br, add_mul → Bu, mul_add → Bv, pow_add → Bw, div_div_eq_div_mul → Bz, mul_assoc → Ca
open List renaming length_append → Ab, length_take → Ae, getD_eq_getElem?_getD → Af, range → Ag, take → Ah, drop → Ai, drop_zero → Ak, length_drop → Ap, drop_eq_nil_of_le → Av, replicate → Aw, nil_append → Az, drop_drop → A8, take_length → A9, take_left' → Bc, append_assoc → Bn, drop_append → Bo, take_of_length_le → Bt
open Go.IntKind renaming i64 → Ad, u64 → Ay
open Int renaming natCast_mul → Am, mul_comm → Ba, tdiv_eq_ediv_of_nonneg → Bj, tmod_eq_emod_of_nonneg → Bl
set_option linter.unusedVariables false
set_option linter.unusedSimpArgs false

section
/- wots: sums at places. -/
namespace Q
open QK
open Go Go.Abs
theorem b0q{kind:Int}(w blk b:List Int)(hl:blk.length=bsz kind):azk kind (azk kind w blk) b=azk kind w (blk++b):=by
 unfold azk
 rcases amk kind with ⟨h,e⟩ | ⟨h,e⟩
 ·rw[e] at hl
  have:=(bjy p32 (toV 32 w) blk b 1 (by omega) (b.length/64)).1
  simp only[if_pos h]
  rw[b1p _ (aqj _ _ (ap0 _ _) _ _),Ab,hl,show (64+b.length)/64=1+b.length/64 by omega,Nat.div_self (by omega),this]
 ·rw[e] at hl
  have:=(bjy p64 (toV 64 w) blk b 1 (by omega) (b.length/128)).1
  simp only[if_neg h]
  rw[b1p _ (aqj _ _ (ap0 _ _) _ _),Ab,hl,show (128+b.length)/128=1+b.length/128 by omega,Nat.div_self (by omega),this]
theorem by3{n:Nat}(hn:0<n)(blk b:List Int)(hl:blk.length=n):rest n (blk++b)=rest n b:=by
 unfold rest
 rw[Ab,hl,Nat.add_comm n,Nat.add_div_right _ hn,Nat.mul_succ,Bo,Av (by omega),Az,hl,Nat.add_sub_cancel]
def blk(kind:Int)(pub:List Int):List Int:=pub++Aw (bsz kind-pub.length) 0
theorem brj(kind:Int)(pub:List Int)(h:pub.length≤64):(blk kind pub).length=bsz kind:=by
 unfold blk
 rcases amk kind with ⟨_,e⟩ | ⟨_,e⟩<;>rw[Ab,List.length_replicate,e]<;>omega
theorem b2k{kind:Int}{pub:List Int}(h:In 256 pub):In 256 (blk kind pub):=h.app (fun x hx=>by rw[List.mem_replicate] at hx;omega)
theorem aah{kind:Int}(h:K3 kind)(pub:List Int)(hp:In 256 pub)(hn:pub.length≤64)(B:Int)(hB:B=((bsz kind:Nat):Int)){ρ:Type}(k:Int→List Int→List Int→Int→Option ρ) :
    P.aah kind B pub k=k kind (azk kind (bpl kind) (blk kind pub)) [] B:=by
 have hb:bsz kind=64∨bsz kind=128:=by rcases amk kind with ⟨_,e⟩ | ⟨_,e⟩<;>omega
 have hw:=bqg kind
 have e1:[pub].flatten=pub:=by simp
 have e2:Ad.wrap (B-(pub.length:Int))=((bsz kind-pub.length:Nat):Int):=by rw[l7 (by omega) (by omega)];omega
 have hl:=brj kind pub hn
 have er:rest (bsz kind) (blk kind pub)=[]:=List.eq_nil_of_length_eq_zero (by rw[bd2 _ (asy kind),hl,Nat.mod_self])
 have e3:=blm (blk kind pub) (by omega)
 rw[P.avu];unfold P.alk
 rw[af8 h,jc _ (by simp) (by rw[e1];omega),e1,e2,toNat_cast,bf (by omega),bf (by omega)]
 show P.aaf kind (bpl kind) [] 0 (blk kind pub) _=_
 rw[aaf kind _ [] _ _ hw.1 hw.2.1 In.nil (b2k hp) (by rw[List.length_nil];omega),Az,er,e3,hl,hB]
def sho(a:List Int):List Int:=(a.drop 3).take 1++((a.drop 8).take 8++(a.drop 19).take 13)
theorem bm5(a:List Int):(sho a).length≤22:=by unfold sho;simp;omega
theorem b1g{a:List Int}(h:In 256 a):In 256 (sho a):=((h.drop _).take _).app (((h.drop _).take _).app ((h.drop _).take _))
theorem aae(a:List Int){ρ:Type}(k:List Int→Option ρ):P.aae a k=k (sho a):=by
 have e:[Ah 1 (Ai 3 a),Ah 8 (Ai 8 a),Ah 13 (Ai 19 a)].flatten=sho a:=by unfold sho;simp
 have:=bm5 a
 rw[P.azy];unfold P.anw
 rw[jc _ (by simp) (by rw[e];omega),e]
theorem ab0(a:List Int){ρ:Type}(k:List Int→Option ρ):P.ab0 a k=k (sho a):=by
 have e0:Ah 13 (Ai 19 a)=Ah 1 (Ai 19 a)++Ah 12 (Ai 20 a):=by
  rw[show (13:Nat)=1+12 from rfl,List.take_add,A8]
 have e:[Ah 1 (Ai 3 a),Ah 8 (Ai 8 a),Ah 1 (Ai 19 a),Ah 12 (Ai 20 a)].flatten=sho a:=by unfold sho;rw[e0];simp
 have:=bm5 a
 rw[P.bct];unfold P.apl
 rw[iy _ (by simp) (by rw[e];omega),e]
def hk(n:Nat)(t:List Int):Int:=if 16<n∧n<t.length then 3 else 1
def bjj(n:Nat)(sh:Bool)(pub a t:List Int):List Int:=if sh then bxs 7 (pub++(a++t)) n else (bu9 (hk n t) (blk (hk n t) pub++(sho a++t))).take n
theorem brh{kd:Int}(h:kd=1∨kd=3)(b:List Int):32≤(bu9 kd b).length:=by
 rw[bdz];rcases h with rfl | rfl<;>simp
theorem hk13(n:Nat)(t:List Int):hk n t=1∨hk n t=3:=by unfold hk;split;exact .inr rfl;exact .inl rfl
theorem ach{n:Nat}(hn:n≤32)(sh:Bool)(pub a t:List Int):(bjj n sh pub a t).length=n:=by
 unfold bjj
 split
 ·exact bd3 _ _ _
 ·have:=brh (hk13 n t) (blk (hk n t) pub++(sho a++t))
  rw[Ae];omega
theorem afp(n:Nat)(sh:Bool)(pub a t:List Int):In 256 (bjj n sh pub a t):=by
 unfold bjj
 split
 ·exact bmf _ _ _
 ·exact (bxh _ _).take _
theorem bgd{kind:Int}(h:kind=1∨kind=3){n:Nat}(hn:n≤32)(pub:List Int)(hp:In 256 pub)(np:pub.length≤64)(q:List Int)(hq:In 256 q)(nq:q.length≤100000)(B:Int)(hB:B=((bsz kind:Nat):Int)){ρ:Type}(k:List Int→Option ρ) :
    (P.aaf kind (azk kind (bpl kind) (blk kind pub)) [] B q fun (q2:Int) (q3 q4:List Int) (q5:Int)=>P.adw q2 q3 q4 q5 fun (q6:List Int) =>
     br (decide ((0:Int)≤(n:Int))) (br (decide ((n:Int)≤(q6.length:Int))) (k (Ah ((n:Int)-(0:Int)).toNat (Ai 0 q6))) none) none)=k ((bu9 kind (blk kind pub++q)).take n):=by
 have hb:bsz kind=64∨bsz kind=128:=by rcases amk kind with ⟨_,e⟩ | ⟨_,e⟩<;>omega
 have hw:=aw4 kind (bpl kind) (blk kind pub)
 have hl:=brj kind pub np
 have hw2:=aw4 kind (azk kind (bpl kind) (blk kind pub)) ([]++q)
 have hr:=bd2 (bsz kind) (asy kind) ([]++q)
 have hm:=Nat.mod_lt ([]++q).length (asy kind)
 have e3:Ay.wrap (B+Ay.wrap (q.length:Int))=(((blk kind pub++q).length:Nat):Int):=by
  rw[ad3 _ (by omega),hB,←Int.natCast_add,ad3 _ (by omega),Ab,hl]
 have hs:=brh h (blk kind pub++q)
 rw[aaf kind _ [] _ q hw.1 hw.2.1 In.nil hq (by rw[List.length_nil];omega),e3,adw _ _ _ _ hw2.1 hw2.2.1 (bqn (In.nil.app hq)) (by omega)]
 have e4:bvy kind (azk kind (azk kind (bpl kind) (blk kind pub)) ([]++q)) (rest (bsz kind) ([]++q)) (blk kind pub++q).length=bu9 kind (blk kind pub++q):=by
  unfold bu9
  rw[Az,b0q _ _ _ hl,by3 (asy kind) _ _ hl]
 rw[e4,bf (by omega),bf (by omega),Ak,Int.sub_zero,toNat_cast]
theorem bwj{n:Nat}(hn:n≤32)(pub a t:List Int)(hp:In 256 pub)(np:pub.length≤64)(ha:In 256 a)(ht:In 256 t)(nt:t.length≤90000){ρ:Type}(k:List Int→Option ρ) :
    P.jm a t 1 (azk 1 (bpl 1) (blk 1 pub)) [] 64 (n:Int) 3 (azk 3 (bpl 3) (blk 3 pub)) [] 128 k=k (bjj n false pub a t):=by
 have e:[sho a,t].flatten=sho a++t:=by simp
 have hs:=bm5 a
 have hl:(sho a++t).length≤100000:=by rw[Ab];omega
 have hq:In 256 (sho a++t):=(b1g ha).app ht
 rw[P.aos];unfold P.agq bjj hk
 by_cases h1:16<n
 ·rw[bf (by omega)]
  by_cases h2:n<t.length
  ·rw[bf (by omega),if_neg (by simp),if_pos ⟨h1,h2⟩,aae,jc _ (by simp) (by rw[e];omega),e]
   exact bgd (.inr rfl) hn pub hp np _ hq hl 128 rfl k
  ·rw[bn (by omega),if_neg (by simp),if_neg (by omega),aae,jc _ (by simp) (by rw[e];omega),e]
   exact bgd (.inl rfl) hn pub hp np _ hq hl 64 rfl k
 ·rw[bn (by omega),if_neg (by simp),if_neg (by omega),aae,jc _ (by simp) (by rw[e];omega),e]
  exact bgd (.inl rfl) hn pub hp np _ hq hl 64 rfl k
theorem R7t:Rt 7 136:=.inr (.inr (.inr ⟨rfl,rfl⟩))
theorem g0:Good 136 (Z25,0):=⟨b3n,by decide⟩
theorem bwf{n:Nat}(hn:n≤32)(pub a t:List Int)(la:a.length=32)(nt:t.length≤90000){ρ:Type}(k:List Int→Option ρ) :
    P.jq a t 7 (az0 136 (Z25,0) pub).1 ((az0 136 (Z25,0) pub).2:Int) false (n:Int) k=k (bjj n true pub a t):=by
 have e:[Ah 32 (Ai 0 a),t].flatten=a++t:=by rw[Ak,Bt (by omega)];simp
 have hl:(a++t).length≤100000:=by rw[Ab];omega
 rw[P.aoc];unfold P.ag4 bjj
 rw[jc _ (by simp) (by rw[e];omega),e,if_pos rfl]
 refine (o7 R7t _ _ (ajl pub g0) (a++t) (by omega) _).trans ?_
 refine (qz R7t _ (ajl (a++t) (ajl pub g0)) n (by omega) _).trans ?_
 unfold bxs
 show k (sqO 136 (trn 7 136 (az0 136 (az0 136 (Z25,0) pub) (a++t)),0) n)=k (sqO 136 (trn 7 136 (az0 136 (Z25,0) (pub++(a++t))),0) n)
 simp only[b0v]
def Sg(n:Nat)(sh:Bool)(pub:List Int)(tg:Nat)(cK:Int)(cW:List Int)(cA:Int)(cO:Bool)(c1 dK:Int)(dW dT:List Int)(dS d1 eK:Int)(eW eT:List Int)(eS:Int):Prop :=
 (sh=true∧tg=1∧cK=7∧cW=(az0 136 (Z25,0) pub).1∧cA=((az0 136 (Z25,0) pub).2:Int)∧cO=false∧c1=(n:Int)) ∨
 (sh=false∧tg=2∧dK=1∧dW=azk 1 (bpl 1) (blk 1 pub)∧dT=[]∧dS=64∧d1=(n:Int)∧eK=3∧eW=azk 3 (bpl 3) (blk 3 pub)∧eT=[]∧eS=128)
theorem call{n:Nat}{sh:Bool}{pub:List Int}{tg:Nat}{cK:Int}{cW:List Int}{cA:Int}{cO:Bool}{c1 dK:Int}{dW dT:List Int}{dS d1 eK:Int}{eW eT:List Int}{eS:Int}(h:Sg n sh pub tg cK cW cA cO c1 dK dW dT dS d1 eK eW eT eS)
    (hn:n≤32) (hp:In 256 pub) (np:pub.length≤64) {a t:List Int} (la:a.length=32) (ha:In 256 a) (ht:In 256 t) (nt:t.length≤90000) {ρ:Type} (k:List Int→Option ρ) :
    br (decide (tg=1)) (P.jq a t cK cW cA cO c1 fun (q:List Int)=>k q) (br (decide (tg=2)) (P.jm a t dK dW dT dS d1 eK eW eT eS fun (q:List Int)=>k q) none)=k (bjj n sh pub a t):=by
 rcases h with ⟨rfl,rfl,rfl,rfl,rfl,rfl,rfl⟩ | ⟨rfl,rfl,rfl,rfl,rfl,rfl,rfl,rfl,rfl,rfl,rfl⟩
 ·rw[bf rfl]
  exact bwf hn pub a t la nt k
 ·rw[bn (by omega),bf rfl]
  exact bwj hn pub a t hp np ha ht nt k
theorem bd1{n:Nat}{H D A K:Int}(hf:aak n H D A K)(sh:Bool)(pub:List Int)(hp:In 256 pub)(np:pub.length=n) :
    ∃tg cK cW cA cO c1 dK dW dT dS d1 eK eW eT eS,Sg n sh pub tg cK cW cA cO c1 dK dW dT dS d1 eK eW eT eS ∧
     ∀{ρ:Type} (k:Int→Int→Int→Int→Int→Bool→Nat→Int→(List Int)→Int→Bool→Int→Int→(List Int)→(List Int)→Int→Int→Int→(List Int)→(List Int)→Int→Bool→Option ρ),
      P.xw n H D A K sh pub k=k n H D A K sh tg cK cW cA cO c1 dK dW dT dS d1 eK eW eT eS true:=by
 have hn:n≤32:=by unfold aak at hf;omega
 cases sh with
 | true =>
  refine ⟨1,7,_,_,false,(n:Int),0,[],[],0,0,0,[],[],0,.inl ⟨rfl,rfl,rfl,rfl,rfl,rfl,rfl⟩,fun k=>?_⟩
  rw[P.ap4];unfold P.ai8
  rw[jy,decide_eq_true hf,jv,oq,dh (by omega),oq,P.avf];unfold P.alx
  rw[P.ap8];unfold P.ai1
  rw[bjl R7t,gq (by omega)]
  exact o7 R7t Z25 0 g0 pub (by omega) _
 | false =>
  refine ⟨2,0,[],0,false,0,1,_,_,64,(n:Int),3,_,_,128,.inr ⟨rfl,rfl,rfl,rfl,rfl,rfl,rfl,rfl,rfl,rfl,rfl⟩,fun k=>?_⟩
  rw[P.ap4];unfold P.ai8
  rw[jy,decide_eq_true hf,jv,oq,dh (by omega),w9,P.avb];unfold P.al0
  rw[aah (.inl rfl) pub hp (by omega) 64 rfl,aah (.inr (.inr rfl)) pub hp (by omega) 128 rfl]
theorem zk{n:Nat}{H D A K:Int}(hf:aak n H D A K)(sh:Bool)(pub:List Int)(hp:In 256 pub)(np:pub.length=n)(a t:List Int)(la:a.length=32)(ha:In 256 a)(ht:In 256 t)(nt:t.length≤90000){ρ:Type}(k:List Int→Option ρ) :
    P.zk n H D A K sh pub a t k=k (bjj n sh pub a t):=by
 have hn:n≤32:=by unfold aak at hf;omega
 obtain ⟨tg,cK,cW,cA,cO,c1,dK,dW,dT,dS,d1,eK,eW,eT,eS,hs,hb⟩:=bd1 hf sh pub hp np
 rw[P.bfe];unfold P.asc
 rw[hb,jv,oq]
 exact call hs hn hp (by omega) la ha ht nt k
theorem su{n:Nat}{H D A K:Int}(hf:aak n H D A K)(sh:Bool)(pub:List Int)(hp:In 256 pub)(np:pub.length=n)(a t:List Int)(la:a.length=32)(ha:In 256 a)(ht:In 256 t)(nt:t.length≤90000){ρ:Type}(k:List Int→Option ρ) :
    P.su n H D A K sh pub a t k=k (bjj n sh pub a t):=by
 have hn:n≤32:=by unfold aak at hf;omega
 have hsl:=bm5 a
 have path:∀(kind:Int) (h:kind=1∨kind=3) (B:Int),B=((bsz kind:Nat):Int) →
     (br (decide ((0:Int)≤Ad.wrap (B-(n:Int)))) (br (decide (Ad.wrap (B-(n:Int))≤Ad.wrap (B-(n:Int))))
      (br (decide (Ad.wrap (B-(n:Int))*((1:Nat):Int)≤((140737488355328:Nat):Int)))
       (P.ab0 a fun (q4:List Int) =>
        P.iy [pub,Aw (Ad.wrap (B-(n:Int))).toNat (0:Int),q4,t] fun (q5:List Int) =>
         P.abr kind q5 fun (q6:List Int) (q7:Int) =>
          br (decide ((0:Int)≤(n:Int))) (br (decide ((n:Int)≤(q6.length:Int))) (k (Ah ((n:Int)-(0:Int)).toNat (Ai 0 q6))) none) none) none) none) none)=k ((bu9 kind (blk kind pub++(sho a++t))).take n):=by
  intro kind h B hB
  have hb:bsz kind=64∨bsz kind=128:=by rcases amk kind with ⟨_,e⟩ | ⟨_,e⟩<;>omega
  have e:Ad.wrap (B-(n:Int))=((bsz kind-pub.length:Nat):Int):=by rw[l7 (by omega) (by omega)];omega
  have ej:[pub,Aw (bsz kind-pub.length) (0:Int),sho a,t].flatten=blk kind pub++(sho a++t):=by unfold blk;simp
  have hl:=brj kind pub (by omega)
  have hll:(blk kind pub++(sho a++t)).length≤100000:=by rw[Ab,Ab];omega
  have hs:=brh h (blk kind pub++(sho a++t))
  rw[e,bf (by omega),bf (by omega),bf (by omega),ab0,toNat_cast,iy _ (by simp) (by rw[ej];omega),ej,abr (by unfold K3;omega) _ ((b2k hp).app ((b1g ha).app ht)) (by omega),bf (by omega),bf (by omega),Ak,Int.sub_zero,toNat_cast]
 rw[P.bja];unfold P.awz
 rw[dh (by omega),kg,decide_eq_true hf,jv,oq]
 unfold bjj hk
 cases sh with
 | true =>
  have ej:[pub,Ah 32 (Ai 0 a),t].flatten=pub++(a++t):=by rw[Ak,Bt (by omega)];simp
  have hll:(pub++(a++t)).length≤100000:=by rw[Ab,Ab];omega
  rw[oq,iy _ (by simp) (by rw[ej];omega),ej,abk (by omega) _ (by omega) n (by omega),if_pos rfl]
 | false =>
  rw[w9,if_neg (by simp)]
  by_cases h1:16<n
  ·rw[bf (by omega)]
   by_cases h2:n<t.length
   ·rw[bf (by omega),if_pos ⟨h1,h2⟩]
    exact path 3 (.inr rfl) 128 rfl
   ·rw[bn (by omega),if_neg (by omega)]
    exact path 1 (.inl rfl) 64 rfl
  ·rw[bn (by omega),if_neg (by omega)]
   exact path 1 (.inl rfl) 64 rfl
end Q
end

section
/- wots: chains, keys, signatures, by the program. -/
namespace Q
open QK
open Go Go.Abs
def chn(n:Nat)(sh:Bool)(pub a:List Int)(f:Nat):Nat→List Int→List Int
 | 0,y=>y
 | m+1,y=>bjj n sh pub (ahx a 5 (f+m)) (chn n sh pub a f m y)
theorem az5{n:Nat}(hn:n≤32)(sh:Bool)(pub a:List Int)(f:Nat)(y:List Int)(hy:y.length=n):∀m,(chn n sh pub a f m y).length=n
 | 0=>hy
 | m+1=>ach hn sh pub _ _
theorem bjs(n:Nat)(sh:Bool)(pub a:List Int)(f:Nat)(y:List Int)(hy:In 256 y):∀m,In 256 (chn n sh pub a f m y)
 | 0=>hy
 | m+1=>afp n sh pub _ _
theorem along{n:Nat}{sh:Bool}{pub:List Int}{tg:Nat}{cK:Int}{cW:List Int}{cA:Int}{cO:Bool}{c1 dK:Int}{dW dT:List Int}{dS d1 eK:Int}{eW eT:List Int}{eS:Int}(hs:Sg n sh pub tg cK cW cA cO c1 dK dW dT dS d1 eK eW eT eS)(hn:n≤32)(hp:In 256 pub)(np:pub.length≤64){a y:List Int}(la:a.length=32)(ha:In 256 a)(hy:In 256 y)(ly:y.length=n)(H D A K:Int)(f m:Nat)(hm:f+m<4294967295){ρ:Type}(k:List Int→Option ρ) :
    P.mo (n:Int) H D A K sh tg cK cW cA cO c1 dK dW dT dS d1 eK eW eT eS a y (f:Int) ((f+m:Nat):Int) k=k (chn n sh pub a f m y):=by
 rw[P.akd];unfold P.ael
 rw[P.ao0];unfold P.akc P.cds P.ccp P.cjb
 refine u7 (fun i=>(chn n sh pub a f i y,((f+m:Nat):Int),((f+i:Nat):Int),(n:Int),H,D,A,K,sh,tg,cK,cW,cA,cO,c1,dK,dW,dT,dS,d1,eK,eW,eT,eS,a)) m rfl (fun i hi next hnx=>?_) (fun next=>?_) (by omega)
 ·have hl:=az5 hn sh pub a f y ly i
  simp only[P.afo]
  rw[bf (by omega),ad3 _ (by omega),dz la 5 _ (by omega),show ((f+i:Nat):Int)+1=((f+(i+1):Nat):Int) by omega,bv9 _ (by omega)]
  exact (call hs hn hp np (jg la 5 (f+i)) (uo ha 5 (f+i)) (bjs n sh pub a f y hy i) (by omega) _).trans hnx
 ·simp only[P.afo]
  rw[bn (by omega)]
def prn(a:List Int):Nat:=T 8 ((a.drop 20).take 4).reverse%2^64
theorem bec(a:List Int):prn a<18446744073709551616:=Nat.mod_lt _ (by decide)
theorem yw{a:List Int}(ha:In 256 a){ρ:Type}(k:Int→Option ρ):P.yw a 3 k=k (prn a:Int):=by
 rw[P.avc];unfold P.ak9
 rw[show Ad.wrap ((8:Int)+Ad.wrap ((4:Int)*3))=20 from rfl,show Ad.wrap ((12:Int)+Ad.wrap ((4:Int)*3))=24 from rfl,bf (by omega),bf (by omega),bf (by omega)]
 exact wz _ ((ha.drop 20).take 4) (by simp;omega) k
def fsW(n:Nat)(sh:Bool)(pub sec a:List Int)(i:Nat):List Int:=bjj n sh pub (ahx (ahx (ahx a 2 5) 3 (prn a)) 4 i) sec
theorem bl8{n:Nat}(hn:n≤32)(sh:Bool)(pub sec a:List Int)(i:Nat):(fsW n sh pub sec a i).length=n:=ach hn sh pub _ _
theorem bsq(n:Nat)(sh:Bool)(pub sec a:List Int)(i:Nat):In 256 (fsW n sh pub sec a i):=afp n sh pub _ _
theorem first'{n:Nat}{sh:Bool}{pub:List Int}{tg:Nat}{cK:Int}{cW:List Int}{cA:Int}{cO:Bool}{c1 dK:Int}{dW dT:List Int}{dS d1 eK:Int}{eW eT:List Int}{eS:Int}(hs:Sg n sh pub tg cK cW cA cO c1 dK dW dT dS d1 eK eW eT eS)(hn:n≤32)(hp:In 256 pub)(np:pub.length≤64){a y:List Int}(la:a.length=32)(ha:In 256 a)(hy:In 256 y)(ly:y.length≤1000)(H D A K:Int)(i:Nat)(hi:i<1000){ρ:Type}(k:List Int→Option ρ) :
    P.qc (n:Int) H D A K sh tg cK cW cA cO c1 dK dW dT dS d1 eK eW eT eS y a (i:Int) k=k (fsW n sh pub y a i):=by
 rw[P.aj8];unfold P.ae2
 rw[show (5:Int)=((5:Nat):Int) from rfl,dz la 2 5 (by omega),yw ha,dz (jg la _ _) 3 _ (bec a),ad3 _ (by omega),dz (jg (jg la _ _) _ _) 4 _ (by omega)]
 exact call hs hn hp np (jg (jg (jg la _ _) _ _) _ _) (uo (uo (uo ha _ _) _ _) _ _) hy (by omega) k
def kyW(n:Nat)(sh:Bool)(pub a ends:List Int):List Int:=bjj n sh pub (ahx (ahx a 2 1) 3 (prn a)) ends
theorem key'{n:Nat}{sh:Bool}{pub:List Int}{tg:Nat}{cK:Int}{cW:List Int}{cA:Int}{cO:Bool}{c1 dK:Int}{dW dT:List Int}{dS d1 eK:Int}{eW eT:List Int}{eS:Int}(hs:Sg n sh pub tg cK cW cA cO c1 dK dW dT dS d1 eK eW eT eS)(hn:n≤32)(hp:In 256 pub)(np:pub.length≤64){a y:List Int}(la:a.length=32)(ha:In 256 a)(hy:In 256 y)(ly:y.length≤90000)(H D A K:Int){ρ:Type}(k:List Int→Option ρ) :
    P.uw (n:Int) H D A K sh tg cK cW cA cO c1 dK dW dT dS d1 eK eW eT eS y a k=k (kyW n sh pub a y):=by
 rw[P.amw];unfold P.af3
 rw[show P.dz (ρ:=ρ) a 2 1=P.dz a 2 ((1:Nat):Int) from rfl,dz la 2 1 (by omega),yw ha,dz (jg la _ _) 3 _ (bec a)]
 exact call hs hn hp np (jg (jg la _ _) _ _) (uo (uo ha _ _) _ _) hy (by omega) k
theorem count'{n:Nat}(hn:n≤32)(H D A K:Int)(sh:Bool)(tg:Nat)(cK:Int)(cW:List Int)(cA:Int)(cO:Bool)(c1 dK:Int)(dW dT:List Int)(dS d1 eK:Int)(eW eT:List Int)(eS:Int){ρ:Type}(k:Int→Option ρ) :
    P.qd (n:Int) H D A K sh tg cK cW cA cO c1 dK dW dT dS d1 eK eW eT eS k=k ((2*n+3:Nat):Int):=by
 rw[P.aj7];unfold P.aeh
 rw[l7 (x:=(2:Int)*(n:Int)) (by omega) (by omega),l7 (by omega) (by omega)]
 congr 1
def b1j(n:Nat)(sh:Bool)(pub sec a:List Int)(i:Nat):List Int:=chn n sh pub (ahx a 4 i) 0 15 (fsW n sh pub sec a i)
theorem btj{n:Nat}(hn:n≤32)(sh:Bool)(pub sec a:List Int)(i:Nat):(b1j n sh pub sec a i).length=n:=az5 hn sh pub _ 0 _ (ach hn sh pub _ _) 15
theorem bva(n:Nat)(sh:Bool)(pub sec a:List Int)(i:Nat):In 256 (b1j n sh pub sec a i):=bjs n sh pub _ 0 _ (afp n sh pub _ _) 15
theorem boc{n:Nat}(hn:n≤32)(T:Nat→List Int)(hT:∀i,(T i).length=n)(j:Nat)(hj:j≤2*n+3):(cat T j).length≤2200:=by
 rw[ab7 hT]
 have:=Aa (show j≤67 by omega) hn
 omega
theorem aa8{n:Nat}{H D A K:Int}(hf:aak n H D A K)(sh:Bool)(sec pub a:List Int)(hsec:In 256 sec)(lsec:sec.length=n)(hp:In 256 pub)(np:pub.length=n)(la:a.length=32)(ha:In 256 a){ρ:Type}(k:List Int→Option ρ) :
    P.aa8 n H D A K sh sec pub a k=k (kyW n sh pub a (cat (b1j n sh pub sec a) (2*n+3))):=by
 have hn:n≤32:=by unfold aak at hf;omega
 obtain ⟨tg,cK,cW,cA,cO,c1,dK,dW,dT,dS,d1,eK,eW,eT,eS,hs,hb⟩:=bd1 hf sh pub hp np
 have hT:=btj hn sh pub sec a
 rw[P.avt];unfold P.ak1
 rw[hb,jv,oq,dh (by omega),count' hn,P.baw];unfold P.av3 P.cbd P.caf P.clp
 refine u7 (fun i=>(sec,((2*n+3:Nat):Int),(i:Int),cat (b1j n sh pub sec a) i,a,(n:Int),H,D,A,K,sh,tg,cK,cW,cA,cO,c1,dK,dW,dT,dS,d1,eK,eW,eT,eS)) (2*n+3) rfl (fun i hi next hnx=>?_) (fun next=>?_) (by omega)
 ·have hb1:=boc hn _ hT i (by omega)
  simp only[P.an2]
  rw[bf (by omega),ad3 _ (by omega),dz la 4 _ (by omega),first' hs hn hp (by omega) la ha hsec (by omega) H D A K i (by omega),show (15:Int)=((0+15:Nat):Int) from rfl,show (0:Int)=((0:Nat):Int) from rfl,
   along hs hn hp (by omega) (jg la 4 i) (uo ha 4 i) (bsq n sh pub sec a i) (bl8 hn sh pub sec a i) H D A K 0 15 (by omega)]
  have e:=hT i
  unfold b1j at e
  rw[bf (by omega),l7 (by omega) (by omega)]
  exact hnx
 ·simp only[P.an2]
  rw[bn (by omega),key' hs hn hp (by omega) la ha (aq6 (bva n sh pub sec a) _) (by have:=boc hn _ hT (2*n+3) (by omega);omega)]
theorem gd_l{l r:List Int}{d:Int}{i:Nat}(h:i<l.length):(l++r).getD i d=l.getD i d:=by
 rw[Af,Af,List.getElem?_append_left h]
theorem gd_r{l r:List Int}{d:Int}{i:Nat}(h:l.length≤i):(l++r).getD i d=r.getD (i-l.length) d:=by
 rw[Af,Af,List.getElem?_append_right h]
theorem wdn{n:Nat}(hn:N3 n)(x:List Int)(hl:x.length=n)(i:Nat):∃d:Nat,(wd n x).getD i 0=(d:Int)∧d≤15:=by
 by_cases h:i<2*n
 ·obtain ⟨d,hd,hd2⟩:=brc (w:=4) (bvn n x) i
  refine ⟨d,?_,by omega⟩
  unfold wd
  rw[gd_l (by rw[atq n x hl];omega),hd]
 ·have h9:=b4z hn x
  have hr:(wd n x).getD i 0=[((wl n x/2^8:Nat):Int),((wl n x/2^4%2^4:Nat):Int),((wl n x%2^4:Nat):Int)].getD (i-2*n) 0:=by
   unfold wd
   rw[gd_r (by rw[atq n x hl];omega),atq n x hl]
  rw[hr]
  match i-2*n with
  | 0=>exact ⟨_,rfl,by omega⟩
  | 1=>exact ⟨_,rfl,by omega⟩
  | 2=>exact ⟨_,rfl,by omega⟩
  | q+3=>exact ⟨0,rfl,by omega⟩
def dgt(n:Nat)(x:List Int)(i:Nat):Nat:=((wd n x).getD i 0).toNat
theorem btv{n:Nat}(hn:N3 n)(x:List Int)(hl:x.length=n)(i:Nat):(wd n x).getD i 0=((dgt n x i:Nat):Int)∧dgt n x i≤15:=by
 obtain ⟨d,h1,h2⟩:=wdn hn x hl i
 unfold dgt
 rw[h1]
 exact ⟨rfl,h2⟩
def byt(n:Nat)(sh:Bool)(pub sec a t:List Int)(i:Nat):List Int:=chn n sh pub (ahx a 4 i) 0 (dgt n t i) (fsW n sh pub sec a i)
theorem azc{n:Nat}(hn:n≤32)(sh:Bool)(pub sec a t:List Int)(i:Nat):(byt n sh pub sec a t i).length=n:=az5 hn sh pub _ 0 _ (ach hn sh pub _ _) _
theorem b4i(n:Nat)(sh:Bool)(pub sec a t:List Int)(i:Nat):In 256 (byt n sh pub sec a t i):=bjs n sh pub _ 0 _ (afp n sh pub _ _) _
theorem btt{n:Nat}{H D A K:Int}(hf:aak n H D A K):N3 n:=by unfold aak at hf;unfold N3;omega
theorem aea{n:Nat}{H D A K:Int}(hf:aak n H D A K)(sh:Bool)(t sec pub a:List Int)(ht:In 256 t)(lt:t.length=n)(hsec:In 256 sec)(lsec:sec.length=n)(hp:In 256 pub)(np:pub.length=n)(la:a.length=32)(ha:In 256 a){ρ:Type}(k:List Int→Option ρ) :
    P.aea n H D A K sh t sec pub a k=k (cat (byt n sh pub sec a t) (2*n+3)):=by
 have hn:n≤32:=by unfold aak at hf;omega
 have hn3:=btt hf
 have hdl:=bts n t lt
 obtain ⟨tg,cK,cW,cA,cO,c1,dK,dW,dT,dS,d1,eK,eW,eT,eS,hs,hb⟩:=bd1 hf sh pub hp np
 have hT:=azc hn sh pub sec a t
 rw[P.bbk];unfold P.aoy
 rw[hb,jv,oq,dh (by omega),dh (by omega),yu hn3 t ht lt,hdl,P.bfm];unfold P.bb8 P.cbx P.cbt P.cmi
 refine u7 (fun i=>(sec,((2*n+3:Nat):Int),(i:Int),cat (byt n sh pub sec a t) i,a,(n:Int),H,D,A,K,sh,tg,cK,cW,cA,cO,c1,dK,dW,dT,dS,d1,eK,eW,eT,eS,wd n t)) (2*n+3) rfl (fun i hi next hnx=>?_) (fun next=>?_) (by omega)
 ·have hb1:=boc hn _ hT i (by omega)
  obtain ⟨e1,e2⟩:=btv hn3 t lt i
  simp only[P.as0,toNat_cast]
  rw[bf (by omega),bf (by omega),bf (by omega),ad3 _ (by omega),dz la 4 _ (by omega),first' hs hn hp (by omega) la ha hsec (by omega) H D A K i (by omega),e1,show ((dgt n t i:Nat):Int)=((0+dgt n t i:Nat):Int) by omega,show (0:Int)=((0:Nat):Int) from rfl,
   along hs hn hp (by omega) (jg la 4 i) (uo ha 4 i) (bsq n sh pub sec a i) (bl8 hn sh pub sec a i) H D A K 0 _ (by omega)]
  have e:=hT i
  unfold byt at e
  rw[bf (by omega),l7 (by omega) (by omega)]
  exact hnx
 ·simp only[P.as0]
  rw[bn (by omega)]
def bo7(n:Nat)(sh:Bool)(sig pub a t:List Int)(i:Nat):List Int:=chn n sh pub (ahx a 4 i) (dgt n t i) (15-dgt n t i) ((sig.drop (i*n)).take n)
theorem yh{n:Nat}{H D A K:Int}(hf:aak n H D A K)(sh:Bool)(sig t pub a:List Int)(hsig:In 256 sig)(lsig:sig.length=(2*n+3)*n)(ht:In 256 t)(lt:t.length=n)(hp:In 256 pub)(np:pub.length=n)(la:a.length=32)(ha:In 256 a){ρ:Type}(k:List Int→Option ρ) :
    P.yh n H D A K sh sig t pub a k=k (kyW n sh pub a (cat (bo7 n sh sig pub a t) (2*n+3))):=by
 have hn:n≤32:=by unfold aak at hf;omega
 have hn3:=btt hf
 have hdl:=bts n t lt
 obtain ⟨tg,cK,cW,cA,cO,c1,dK,dW,dT,dS,d1,eK,eW,eT,eS,hs,hb⟩:=bd1 hf sh pub hp np
 have hlen:∀i,i<2*n+3→i*n+n≤sig.length:=fun i hi=>by
  rw[lsig,←Al]
  exact Aa (by omega) (Aq _)
 have hT:∀i,i<2*n+3→(bo7 n sh sig pub a t i).length=n:=fun i hi=>az5 hn sh pub _ _ _ (by have:=hlen i hi;rw[Ae,Ap];omega) _
 have hTi:∀i,In 256 (bo7 n sh sig pub a t i):=fun i=>bjs n sh pub _ _ _ ((hsig.drop _).take _) _
 have hcl:∀i,i≤2*n+3→(cat (bo7 n sh sig pub a t) i).length=i*n:=by
  intro i
  induction i with
  | zero=>intro _;simp[cat]
  | succ i ih=>intro hi;rw[cat,Ab,ih (by omega),hT i (by omega),Al]
 have hbd:∀i,i≤2*n+3→(cat (bo7 n sh sig pub a t) i).length≤2200:=fun i hi=>by
  rw[hcl i hi]
  have:=Aa (show i≤67 by omega) hn
  omega
 have hmul:(2*n+3)*n≤67*32:=Aa (by omega) hn
 have hc:(n:Int)*((2*n+3:Nat):Int)=(((2*n+3)*n:Nat):Int):=by rw[Am,Ba]
 rw[P.aok];unfold P.agz
 rw[hb,jv,oq,dh (by omega),count' hn,hc,l7 (by omega) (by omega),dh (by rw[lsig]),yu hn3 t ht lt,hdl,P.auz];unfold P.aom P.ca4 P.cew P.ch3
 refine u7 (fun i=>(sig.drop (i*n),((2*n+3:Nat):Int),(i:Int),cat (bo7 n sh sig pub a t) i,(n:Int),H,D,A,K,sh,a,(n:Int),H,D,A,K,sh,tg,cK,cW,cA,cO,c1,dK,dW,dT,dS,d1,eK,eW,eT,eS,wd n t)) (2*n+3) (by simp[cat]) (fun i hi next hnx=>?_) (fun next=>?_) (by omega)
 ·have hb1:=hbd i (by omega)
  have hl1:=hlen i hi
  obtain ⟨e1,e2⟩:=btv hn3 t lt i
  have ld:(sig.drop (i*n)).length=sig.length-i*n:=Ap
  simp only[P.aiy,toNat_cast]
  rw[bf (by omega),bf (by omega),bf (by omega),ad3 _ (by omega),dz la 4 _ (by omega),bf (by omega),bf (by omega),Ak,e1,show (15:Int)=((dgt n t i+(15-dgt n t i):Nat):Int) by omega,
   along hs hn hp (by omega) (jg la 4 i) (uo ha 4 i) ((hsig.drop _).take _) (by rw[Ae];omega) H D A K _ _ (by omega)]
  have e:=hT i hi
  unfold bo7 at e
  rw[bf (by omega),bf (by omega),bf (by omega),bf (by omega),l7 (by omega) (by omega),A9,A8]
  rw[Al] at hnx
  exact hnx
 ·simp only[P.aiy]
  rw[bn (by omega),key' hs hn hp (by omega) la ha (aq6 hTi _) (by have:=hbd (2*n+3) (by omega);omega)]
end Q
end

section
/- wots: keys, signatures, candidates, by the document. -/
namespace Q
open QK
open Go Go.Abs
theorem aby(T:Nat→List Int):∀m,((Ag m).map T).flatten=cat T m
 | 0=>rfl
 | m+1=>by rw[List.range_succ,List.map_append,List.flatten_append,aby T m];simp[cat]
theorem ac4{a:List Int}(ha:In 256 a){ρ:Type}(k:Int→Option ρ):P.ac4 a k=k (prn a:Int):=by
 rw[P.bg1];unfold P.ar5
 exact wm _ ((ha.drop 20).take 4) (by simp;omega) k
theorem yc{n:Nat}{H D A K:Int}(hf:aak n H D A K)(sh:Bool){pub:List Int}(hp:In 256 pub)(np:pub.length=n){a y:List Int}(la:a.length=32)(ha:In 256 a)(hy:In 256 y)(ly:y.length=n)(f m:Nat)(hm:f+m<4294967295){ρ:Type}(k:List Int→Option ρ) :
    P.yc (n:Int) H D A K sh y (f:Int) ((f+m:Nat):Int) pub a k=k (chn n sh pub a f m y):=by
 have hn:n≤32:=by unfold aak at hf;omega
 rw[P.bcf];unfold P.aql
 rw[P.bfd];unfold P.bbn P.ceg P.cen P.coy
 refine u7 (fun i=>(chn n sh pub a f i y,((f+m:Nat):Int),pub,((f+i:Nat):Int),(n:Int),H,D,A,K,sh,a)) m rfl (fun i hi next hnx=>?_) (fun next=>?_) (by omega)
 ·have hl:=az5 hn sh pub a f y ly i
  simp only[P.asb]
  rw[bf (by omega),ad3 _ (by omega),jf la 5 _ (by omega),su hf sh pub hp np _ _ (jg la 5 (f+i)) (uo ha 5 (f+i)) (bjs n sh pub a f y hy i) (by omega),show ((f+i:Nat):Int)+1=((f+(i+1):Nat):Int) by omega,bv9 _ (by omega)]
  exact hnx
 ·simp only[P.asb]
  rw[bn (by omega)]
theorem abd{n:Nat}{H D A K:Int}(hf:aak n H D A K)(sh:Bool){sec pub a:List Int}(hsec:In 256 sec)(lsec:sec.length=n)(hp:In 256 pub)(np:pub.length=n)(la:a.length=32)(ha:In 256 a)(i:Nat)(hi:i<1000){ρ:Type}(k:List Int→Option ρ) :
    P.abd (n:Int) H D A K sh sec pub a (i:Int) k=k (fsW n sh pub sec a i):=by
 have hn:n≤32:=by unfold aak at hf;omega
 rw[P.bbx];unfold P.aqe
 rw[show P.jf (ρ:=ρ) a 2 5=P.jf a 2 ((5:Nat):Int) from rfl,jf la 2 5 (by omega),ac4 ha,jf (jg la _ _) 3 _ (bec a),ad3 _ (by omega),jf (jg (jg la _ _) _ _) 4 _ (by omega),P.awu]
 unfold P.ami
 rw[dh (by omega),su hf sh pub hp np _ _ (jg (jg (jg la _ _) _ _) _ _) (uo (uo (uo ha _ _) _ _) _ _) hsec (by omega)]
 rfl
theorem af0{n:Nat}{H D A K:Int}(hf:aak n H D A K)(sh:Bool){pub a:List Int}(hp:In 256 pub)(np:pub.length=n)(la:a.length=32)(ha:In 256 a)(l:List (List Int))(hl:l.length≤1000)(hi:In 256 l.flatten)(hb:l.flatten.length≤90000){ρ:Type}(k:List Int→Option ρ) :
    P.af0 (n:Int) H D A K sh l pub a k=k (kyW n sh pub a l.flatten):=by
 rw[P.bkx];unfold P.aww
 rw[show P.jf (ρ:=ρ) a 2 1=P.jf a 2 ((1:Nat):Int) from rfl,jf la 2 1 (by omega),ac4 ha,jf (jg la _ _) 3 _ (bec a),iy l (by omega) (by omega),su hf sh pub hp np _ _ (jg (jg la _ _) _ _) (uo (uo ha _ _) _ _) hi (by omega)]
 rfl
theorem zi{n:Nat}{H D A K:Int}(hf:aak n H D A K)(sh:Bool){sec pub:List Int}(lsec:sec.length=n)(np:pub.length=n){ρ:Type}(k:Bool→Option ρ):P.zi (n:Int) H D A K sh sec pub k=k false:=by
 rw[P.bcn];unfold P.aqk
 rw[kg,decide_eq_true hf,jv,oq,dh (by omega)]
 congr 1
 rw[np]
 simp
theorem acn{n:Nat}{H D A K:Int}(hf:aak n H D A K)(sh:Bool)(sec pub a:List Int)(hsec:In 256 sec)(lsec:sec.length=n)(hp:In 256 pub)(np:pub.length=n)(la:a.length=32)(ha:In 256 a){ρ:Type}(k:List Int→Option ρ) :
    P.acn n H D A K sh sec pub a k=k (kyW n sh pub a (cat (b1j n sh pub sec a) (2*n+3))):=by
 have hn:n≤32:=by unfold aak at hf;omega
 have hT:=btj hn sh pub sec a
 rw[P.ay6];unfold P.am1
 rw[zi hf sh lsec np,w9,P.bdk];unfold P.azn P.cbk P.cbw P.cnv
 refine u7 (fun i=>(sec,pub,(i:Int),(Ag i).map (b1j n sh pub sec a),(n:Int),H,D,A,K,sh,a)) (2*n+3) rfl (fun i hi next hnx=>?_) (fun next=>?_) (by omega)
 ·simp only[P.apz]
  rw[l7 (x:=(2:Int)*(n:Int)) (by omega) (by omega),l7 (x:=(2:Int)*(n:Int)+3) (by omega) (by omega),bf (by omega),abd hf sh hsec lsec hp np la ha i (by omega),ad3 _ (by omega),jf la 4 _ (by omega),show (15:Int)=((0+15:Nat):Int) from rfl,show (0:Int)=((0:Nat):Int) from rfl,
   yc hf sh hp np (jg la 4 i) (uo ha 4 i) (bsq n sh pub sec a i) (bl8 hn sh pub sec a i) 0 15 (by omega),bf (by simp;omega),l7 (by omega) (by omega)]
  rw[←wo] at hnx
  exact hnx
 ·simp only[P.apz]
  rw[l7 (x:=(2:Int)*(n:Int)) (by omega) (by omega),l7 (x:=(2:Int)*(n:Int)+3) (by omega) (by omega),bn (by omega)]
  have hb:=boc hn _ hT (2*n+3) (by omega)
  rw[af0 hf sh hp np la ha _ (by simp;omega) (by rw[aby];exact aq6 (bva n sh pub sec a) _) (by rw[aby];omega),aby]
theorem ag1{n:Nat}{H D A K:Int}(hf:aak n H D A K)(sh:Bool)(t sec pub a:List Int)(ht:In 256 t)(lt:t.length=n)(hsec:In 256 sec)(lsec:sec.length=n)(hp:In 256 pub)(np:pub.length=n)(la:a.length=32)(ha:In 256 a){ρ:Type}(k:List Int→Option ρ) :
    P.ag1 n H D A K sh t sec pub a k=k (cat (byt n sh pub sec a t) (2*n+3)):=by
 have hn:n≤32:=by unfold aak at hf;omega
 have hn3:=btt hf
 have hdl:=bts n t lt
 have hT:=azc hn sh pub sec a t
 rw[P.bgh];unfold P.atl
 rw[zi hf sh lsec np,w9,dh (by omega),aag hn3 t ht lt,P.bil];unfold P.bgg P.cbq P.ce1 P.cob
 refine u7 (fun i=>(sec,pub,(i:Int),(Ag i).map (byt n sh pub sec a t),(n:Int),H,D,A,K,sh,a,wd n t)) (2*n+3) rfl (fun i hi next hnx=>?_) (fun next=>?_) (by omega)
 ·obtain ⟨e1,e2⟩:=btv hn3 t lt i
  simp only[P.awq,toNat_cast]
  rw[bf (by omega),abd hf sh hsec lsec hp np la ha i (by omega),bf (by omega),bf (by omega),ad3 _ (by omega),jf la 4 _ (by omega),e1,show P.yc (ρ:=ρ) (n:Int) H D A K sh (fsW n sh pub sec a i) 0 ((dgt n t i:Nat):Int)=P.yc (n:Int) H D A K sh (fsW n sh pub sec a i) ((0:Nat):Int) ((0+dgt n t i:Nat):Int) by rw[Nat.zero_add];rfl,
   yc hf sh hp np (jg la 4 i) (uo ha 4 i) (bsq n sh pub sec a i) (bl8 hn sh pub sec a i) 0 _ (by omega),bf (by simp;omega),l7 (by omega) (by omega)]
  rw[←wo] at hnx
  exact hnx
 ·simp only[P.awq]
  rw[bn (by omega)]
  have hb:=boc hn _ hT (2*n+3) (by omega)
  rw[iy _ (by simp;omega) (by rw[aby];omega),aby]
theorem zh{n:Nat}{H D A K:Int}(hf:aak n H D A K)(sh:Bool)(sig t pub a:List Int)(hsig:In 256 sig)(lsig:sig.length=(2*n+3)*n)(ht:In 256 t)(lt:t.length=n)(hp:In 256 pub)(np:pub.length=n)(la:a.length=32)(ha:In 256 a){ρ:Type}(k:List Int→Option ρ) :
    P.zh n H D A K sh sig t pub a k=k (kyW n sh pub a (cat (bo7 n sh sig pub a t) (2*n+3))):=by
 have hn:n≤32:=by unfold aak at hf;omega
 have hn3:=btt hf
 have hdl:=bts n t lt
 have hlen:∀i,i<2*n+3→i*n+n≤sig.length:=fun i hi=>by
  rw[lsig,←Al]
  exact Aa (by omega) (Aq _)
 have hT:∀i,i<2*n+3→(bo7 n sh sig pub a t i).length=n:=fun i hi=>az5 hn sh pub _ _ _ (by have:=hlen i hi;rw[Ae,Ap];omega) _
 have hTi:∀i,In 256 (bo7 n sh sig pub a t i):=fun i=>bjs n sh pub _ _ _ ((hsig.drop _).take _) _
 have hcl:∀i,i≤2*n+3→(cat (bo7 n sh sig pub a t) i).length=i*n:=by
  intro i
  induction i with
  | zero=>intro _;simp[cat]
  | succ i ih=>intro hi;rw[cat,Ab,ih (by omega),hT i (by omega),Al]
 have hmul:(2*n+3)*n≤67*32:=Aa (by omega) hn
 have hc:(n:Int)*((2*n+3:Nat):Int)=(((2*n+3)*n:Nat):Int):=by rw[Am,Ba]
 have e3:Ad.wrap (Ad.wrap ((2:Int)*(n:Int))+(3:Int))=((2*n+3:Nat):Int):=by
  rw[l7 (x:=(2:Int)*(n:Int)) (by omega) (by omega),l7 (by omega) (by omega)];omega
 rw[P.aqw];unfold P.aiw
 rw[zi hf sh lt np,w9,e3,hc,l7 (by omega) (by omega),dh (by rw[lsig]),aag hn3 t ht lt,P.awl];unfold P.ari P.cav P.ceu P.chm
 refine u7 (fun i=>(sig,pub,(i:Int),(Ag i).map (bo7 n sh sig pub a t),(n:Int),H,D,A,K,sh,a,wd n t)) (2*n+3) rfl (fun i hi next hnx=>?_) (fun next=>?_) (by omega)
 ·have hl1:=hlen i hi
  have hm2:i*n≤67*32:=Aa (by omega) hn
  obtain ⟨e1,e2⟩:=btv hn3 t lt i
  have ec:(n:Int)*(i:Int)=((i*n:Nat):Int):=by rw[Am,Ba]
  have ld:(sig.drop (i*n)).length=sig.length-i*n:=Ap
  simp only[P.aj4,ec]
  rw[l7 (x:=((i*n:Nat):Int)) (by omega) (by omega),show ((i*n:Nat):Int)+(n:Int)=((i*n+n:Nat):Int) by omega,l7 (x:=((i*n+n:Nat):Int)) (by omega) (by omega)]
  simp only[toNat_cast]
  rw[bf (by omega),bf (by omega),bf (by omega),bf (by omega),bf (by omega),bf (by omega),ad3 _ (by omega),jf la 4 _ (by omega),e1,show (15:Int)=((dgt n t i+(15-dgt n t i):Nat):Int) by omega,List.drop_take,Bq,
   yc hf sh hp np (jg la 4 i) (uo ha 4 i) ((hsig.drop _).take _) (by rw[Ae];omega) _ _ (by omega),bf (by simp;omega),l7 (by omega) (by omega)]
  rw[←wo] at hnx
  exact hnx
 ·simp only[P.aj4]
  rw[bn (by omega),af0 hf sh hp np la ha _ (by simp;omega) (by rw[aby];exact aq6 hTi _) (by rw[aby,hcl _ (Aq _)];omega),aby]
end Q
end

section
/- xmss: knots, signatures, tops, by the program. -/
namespace Q
open QK
open Go Go.Abs
def Kd(n:Nat)(H D A K:Int)(h:Nat):Prop:=aak n H D A K∧Ad.wrap (H.tdiv D)=(h:Int)
theorem Kd.n{n:Nat}{H D A K:Int}{h:Nat}(k:Kd n H D A K h):n≤32:=by have:=k.1;unfold aak at this;omega
theorem Kd.h{n:Nat}{H D A K:Int}{h:Nat}(k:Kd n H D A K h):h≤9:=by have:=k.1;have e:=k.2;unfold aak at this;omega
theorem jh{n:Nat}{H D A K:Int}{h:Nat}(kd:Kd n H D A K h)(sh:Bool){ρ:Type}(k:Int→Option ρ):P.jh n H D A K sh k=k (h:Int):=by
 have hf:=kd.1
 unfold aak at hf
 rw[P.bbp];unfold P.ao2
 rw[bn (by omega),kd.2]
theorem bl0{n:Nat}{H D A K:Int}{h:Nat}(kd:Kd n H D A K h)(sh:Bool)(l:List (List Int))(hl:l.length≤100)(hn:∀i,i<l.length→(l.getD i []).length=n){ρ:Type}(k:Bool→Option ρ):P.qb n H D A K sh l k=k true:=by
 rw[P.bdf];unfold P.ap2
 rw[P.bf4];unfold P.bbq P.cai P.ce0 P.cqf
 refine u7 (fun i=>(l,(l.length:Int),(i:Int),(n:Int),H,D,A,K,sh)) l.length rfl (fun i hi next hnx=>?_) (fun next=>?_) (by omega)
 ·have:=hn i hi
  simp only[P.aud,toNat_cast,Sum.elim_inl,Sum.elim_inr]
  rw[bf (by omega),bf (by omega),bf (by omega),dh (by omega),l7 (by omega) (by omega)]
  exact hnx
 ·simp only[P.aud,toNat_cast,Sum.elim_inl,Sum.elim_inr]
  rw[bn (by omega),jy,decide_eq_true kd.1]
theorem mulN(n m:Nat)(hn:n≤32)(hm:m≤1000):Ad.wrap ((n:Int)*(m:Int))=((n*m:Nat):Int):=by
 have:n*m≤32*1000:=Aa hn hm
 rw[show (n:Int)*(m:Int)=((n*m:Nat):Int) by rw[Am],l7 (by omega) (by omega)]
theorem qh{n:Nat}{H D A K:Int}{h:Nat}(kd:Kd n H D A K h)(sh:Bool){ρ:Type}(k:Int→Option ρ):P.qh n H D A K sh k=k ((n*(2*n+3+h):Nat):Int):=by
 have h1:=kd.n
 have h2:=kd.h
 rw[P.bdc];unfold P.aqm
 rw[jy,decide_eq_true kd.1,jv,oq,jh kd,l7 (x:=(2:Int)*(n:Int)) (by omega) (by omega),l7 (x:=(2:Int)*(n:Int)+3) (by omega) (by omega),l7 (x:=(2:Int)*(n:Int)+3+(h:Int)) (by omega) (by omega),show (2:Int)*(n:Int)+3+(h:Int)=((2*n+3+h:Nat):Int) by omega,mulN _ _ h1 (by omega)]
def lfA(at':List Int)(i:Nat):List Int:=ahx (ahx at' 2 0) 3 i
theorem bau{a:List Int}(la:a.length=32)(i:Nat):(lfA a i).length=32:=jg (jg la _ _) _ _
theorem bkm{a:List Int}(ha:In 256 a)(i:Nat):In 256 (lfA a i):=uo (uo ha _ _) _ _
theorem bf1{a:List Int}(la:a.length=32)(N H D A K:Int)(sh:Bool)(sec pub:List Int)(i:Nat)(hi:i<18446744073709551616){ρ:Type}(k:List Int→Option ρ) :
    P.qy N H D A K sh sec pub a (i:Int) k=k (lfA a i):=by
 rw[P.aoa];unfold P.ahj
 rw[show P.dz (ρ:=ρ) a 2 0=P.dz a 2 ((0:Nat):Int) from rfl,dz la 2 0 (by omega),dz (jg la _ _) 3 i hi]
 rfl
def ovW(n:Nat)(sh:Bool)(pub at':List Int)(z i:Nat)(l r:List Int):List Int:=bjj n sh pub (ahx (ahx (ahx at' 2 2) 4 z) 5 i) (l++r)
theorem ben{n:Nat}{H D A K:Int}(hf:aak n H D A K)(sh:Bool)(sec pub a l r:List Int)(hp:In 256 pub)(np:pub.length=n)(la:a.length=32)(ha:In 256 a)(hl:In 256 l)(hr:In 256 r)(nl:l.length≤1000)(nr:r.length≤1000)(z i:Nat)(hz:z<1000)(hi:i<18446744073709551616){ρ:Type}(k:List Int→Option ρ) :
    P.u6 n H D A K sh sec pub a (z:Int) (i:Int) l r k=k (ovW n sh pub a z i l r):=by
 have e:[l,r].flatten=l++r:=by simp
 have hlr:(l++r).length≤2000:=by rw[Ab];omega
 rw[P.aop];unfold P.ahu
 rw[show P.dz (ρ:=ρ) a 2 2=P.dz a 2 ((2:Nat):Int) from rfl,dz la 2 2 (by omega),ad3 _ (by omega),dz (jg la _ _) 4 z (by omega),dz (jg (jg la _ _) _ _) 5 i hi,jc _ (by simp) (by rw[e];omega),e,
  zk hf sh pub hp np _ _ (jg (jg (jg la _ _) _ _) _ _) (uo (uo (uo ha _ _) _ _) _ _) (hl.app hr) (by omega)]
 rfl
def pbW(n:Nat)(sh:Bool)(pub sec a:List Int):List Int:=kyW n sh pub a (cat (b1j n sh pub sec a) (2*n+3))
def knW(n:Nat)(sh:Bool)(pub sec at':List Int):Nat→Nat→List Int
 | 0,i=>pbW n sh pub sec (lfA at' i)
 | z+1,i=>ovW n sh pub at' (z+1) i (knW n sh pub sec at' z (2*i)) (knW n sh pub sec at' z (2*i+1))
theorem aw9{n:Nat}(hn:n≤32)(sh:Bool)(pub sec at':List Int):∀z i,(knW n sh pub sec at' z i).length=n
 | 0,i=>ach hn _ _ _ _
 | z+1,i=>ach hn _ _ _ _
theorem br5(n:Nat)(sh:Bool)(pub sec at':List Int):∀z i,In 256 (knW n sh pub sec at' z i)
 | 0,i=>afp _ _ _ _ _
 | z+1,i=>afp _ _ _ _ _
theorem bfi{n:Nat}{H D A K:Int}(hf:aak n H D A K)(sh:Bool)(sec pub a:List Int)(hsec:In 256 sec)(lsec:sec.length=n)(hp:In 256 pub)(np:pub.length=n)(la:a.length=32)(ha:In 256 a) :
    ∀(z i m:Nat),z<m→z<1000→(i+1)*2^z≤9223372036854775808→∀{ρ:Type} (k:List Int→Option ρ),P.yg m n H D A K sh sec pub a (z:Int) (i:Int) k=k (knW n sh pub sec a z i)
 | z,i,0,hm,hz,hi,ρ,k=>by omega
 | 0,i,m+1,hm,hz,hi,ρ,k=>by
  rw[P.aiz];unfold P.ad1
  rw[eu (show ((0:Nat):Int)=0 from rfl),bf1 la _ _ _ _ _ _ _ _ i (by omega),aa8 hf sh sec pub _ hsec lsec hp np (bau la i) (bkm ha i)]
  rfl
 | z+1,i,m+1,hm,hz,hi,ρ,k=>by
  have hn:n≤32:=by unfold aak at hf;omega
  have hpow:(i+1)*2^(z+1)=(2*i+2)*2^z:=by rw[Ar,Au (2^z) 2,←Ca];congr 1;omega
  have h1:(2*i+2)≤(2*i+2)*2^z:=Br _ (Ao z)
  have h2:(2*i+1)*2^z≤(2*i+2)*2^z:=Aa (by omega) (Aq _)
  have h3:(2*i+1+1)*2^z=(2*i+2)*2^z:=rfl
  rw[P.aiz];unfold P.ad1
  rw[gq (by omega),l7 (by omega) (by omega),show ((z+1:Nat):Int)-1=(z:Int) by omega,show (2:Int)*(i:Int)=((2*i:Nat):Int) by omega,ad3 _ (by omega),show ((2*i:Nat):Int)+1=((2*i+1:Nat):Int) by omega,ad3 _ (by omega),
   bfi hf sh sec pub a hsec lsec hp np la ha z (2*i) m (by omega) (by omega) (by omega),bfi hf sh sec pub a hsec lsec hp np la ha z (2*i+1) m (by omega) (by omega) (by omega),
   ben hf sh sec pub a _ _ hp np la ha (br5 _ _ _ _ _ _ _) (br5 _ _ _ _ _ _ _) (by rw[aw9 hn];omega) (by rw[aw9 hn];omega) (z+1) i hz (by omega)]
  rfl
theorem sh0(i h:Nat)(hh:h≤64)(hi:i<2^h):(i:Int).fdiv ((2:Int)^min h 64)=0:=by
 rw[fdiv_pow _ _ _ hh,Nat.div_eq_of_lt hi]
 rfl
theorem xor1(x:Nat):x ^^^ 1=if x%2=0 then x+1 else x-1:=by
 have h1:(x ^^^ 1)/2=x/2:=by rw[Nat.xor_div_two];simp
 have h2:(x ^^^ 1)%2=(x+1)%2:=by
  have:=Nat.xor_mod_two_pow (a:=x) (b:=1) (n:=1)
  rw[Nat.pow_one] at this
  rw[this]
  rcases Nat.mod_two_eq_zero_or_one x with e | e<;>rw[e]
  ·show 0 ^^^ 1=_
   simp;omega
  ·show 1 ^^^ 1=_
   simp;omega
 split<;>omega
def auT(n:Nat)(sh:Bool)(pub sec a:List Int)(leaf z:Nat):List Int:=knW n sh pub sec a z ((leaf/2^z) ^^^ 1)
def sgW(n:Nat)(sh:Bool)(pub sec a t:List Int)(leaf h:Nat):List Int:=cat (byt n sh pub sec (lfA a leaf) t) (2*n+3)++cat (auT n sh pub sec a leaf) h
theorem b6z{leaf h z:Nat}(hl:leaf<2^h)(hz:z<h)(hh:h≤9):((leaf/2^z) ^^^ 1)+1≤2^h∧(((leaf/2^z) ^^^ 1)+1)*2^z≤9223372036854775808:=by
 have h9:2^h≤2^9:=Ac (by omega) hh
 have hz9:2^z≤2^9:=Ac (by omega) (by omega)
 have hd:=Aj leaf (2^z)
 have hx:((leaf/2^z) ^^^ 1)<2^h:=Nat.xor_lt_two_pow (by omega) (Nat.one_lt_two_pow (by omega))
 refine ⟨hx,?_⟩
 have:=Aa (show ((leaf/2^z) ^^^ 1)+1≤2^9 by omega) hz9
 omega
theorem bp4{n:Nat}(hn:n≤32)(sh:Bool)(pub sec a t:List Int)(leaf h:Nat):(sgW n sh pub sec a t leaf h).length=n*(2*n+3+h):=by
 unfold sgW
 rw[Ab,ab7 (azc hn _ _ _ _ _),ab7 (T:=auT n sh pub sec a leaf) (fun z=>aw9 hn _ _ _ _ _ _),←Bu,Au]
theorem b2l(n:Nat)(sh:Bool)(pub sec a t:List Int)(leaf h:Nat):In 256 (sgW n sh pub sec a t leaf h):=(aq6 (b4i n sh _ _ _ _) _).app (aq6 (fun z=>br5 _ _ _ _ _ _ _) _)
theorem aan{n:Nat}{H D A K:Int}{h:Nat}(kd:Kd n H D A K h)(sh:Bool)(t sec pub a:List Int)(ht:In 256 t)(lt:t.length=n)(hsec:In 256 sec)(lsec:sec.length=n)(hp:In 256 pub)(np:pub.length=n)(la:a.length=32)(ha:In 256 a)(leaf:Nat)(hleaf:leaf<2^h){ρ:Type}(k:List Int→Option ρ) :
    P.aan n H D A K sh t sec pub a (leaf:Int) k=k (sgW n sh pub sec a t leaf h):=by
 have hn:=kd.n
 have h2:=kd.h
 have h9:2^h≤2^9:=Ac (by omega) h2
 have l1:=ab7 (azc hn sh pub sec (lfA a leaf) t) (2*n+3)
 have hmul:(2*n+3)*n≤67*32:=Aa (by omega) hn
 rw[P.bcr];unfold P.ap7
 rw[bl0 kd sh _ (by simp) (fun j hj=>by
  match j with
  | 0=>exact lsec
  | 1=>exact np
  | 2=>exact lt
  | j+3=>simp at hj;omega),jv,oq,jh kd,bn (by omega),toNat_cast,sh0 leaf h (by omega) hleaf,dh rfl,bf1 la _ _ _ _ _ _ _ _ leaf (by omega),
  aea kd.1 sh t sec pub _ ht lt hsec lsec hp np (bau la _) (bkm ha _),jh kd,P.bhy]
 unfold P.bcm P.caj P.cdo P.cm2
 refine u7 (fun z=>((leaf:Int),(h:Int),(z:Int),cat (byt n sh pub sec (lfA a leaf) t) (2*n+3)++cat (auT n sh pub sec a leaf) z,(n:Int),H,D,A,K,sh,sec,pub,a)) h (by simp[cat]) (fun z hz next hnx=>?_) (fun next=>?_) (by omega)
 ·have l2:=ab7 (T:=auT n sh pub sec a leaf) (fun z=>aw9 hn _ _ _ _ _ _) z
  have hb:=b6z hleaf hz h2
  have hd:=Aj leaf (2^z)
  have hm2:z*n≤9*32:=Aa (by omega) hn
  simp only[P.at6,toNat_cast]
  rw[bf (by omega),bn (by omega),fdiv_pow _ _ _ (by omega),show (1:Int)=((1:Nat):Int) from rfl,bgb _ _ (by omega) (by omega),
   bfi kd.1 sh sec pub a hsec lsec hp np la ha z _ (z+1) (by omega) (by omega) hb.2,bf (by rw[aw9 hn,Ab];omega),l7 (by omega) (by omega),Bn]
  exact hnx
 ·simp only[P.at6]
  rw[bn (by omega)]
  rfl
def cnW(n:Nat)(sh:Bool)(pub a k0 path:List Int)(leaf:Nat):Nat→List Int
 | 0=>k0
 | z+1=>if leaf/2^z%2=1 then ovW n sh pub a (z+1) (leaf/2^(z+1)) ((path.drop (z*n)).take n) (cnW n sh pub a k0 path leaf z)
  else ovW n sh pub a (z+1) (leaf/2^(z+1)) (cnW n sh pub a k0 path leaf z) ((path.drop (z*n)).take n)
theorem bqt{n:Nat}(hn:n≤32)(sh:Bool)(pub a k0 path:List Int)(hk:k0.length=n)(leaf:Nat):∀z,(cnW n sh pub a k0 path leaf z).length=n
 | 0=>hk
 | z+1=>by rw[cnW];split<;>exact ach hn _ _ _ _
theorem bw4(n:Nat)(sh:Bool)(pub a k0 path:List Int)(hk:In 256 k0)(leaf:Nat):∀z,In 256 (cnW n sh pub a k0 path leaf z)
 | 0=>hk
 | z+1=>by rw[cnW];split<;>exact afp _ _ _ _ _
def tpW(n:Nat)(sh:Bool)(pub a sig t:List Int)(leaf h:Nat):List Int :=
 cnW n sh pub a (kyW n sh pub (lfA a leaf) (cat (bo7 n sh (sig.take ((2*n+3)*n)) pub (lfA a leaf) t) (2*n+3))) (sig.drop ((2*n+3)*n)) leaf h
theorem bxo{n:Nat}(hn:n≤32)(sh:Bool)(pub a sig t:List Int)(leaf h:Nat):(tpW n sh pub a sig t leaf h).length=n:=bqt hn _ _ _ _ _ (ach hn _ _ _ _) _ _
theorem b2m(n:Nat)(sh:Bool)(pub a sig t:List Int)(leaf h:Nat):In 256 (tpW n sh pub a sig t leaf h):=bw4 _ _ _ _ _ _ (afp _ _ _ _ _) _ _
theorem ji{n:Nat}{H D A K:Int}{h:Nat}(kd:Kd n H D A K h)(sh:Bool)(sig t pub a:List Int)(hsig:In 256 sig)(lsig:sig.length=n*(2*n+3+h))(ht:In 256 t)(lt:t.length=n)(hp:In 256 pub)(np:pub.length=n)(la:a.length=32)(ha:In 256 a)(leaf:Nat)(hleaf:leaf<2^h){ρ:Type}(k:List Int→Option ρ) :
    P.ji n H D A K sh sig t pub a (leaf:Int) k=k (tpW n sh pub a sig t leaf h):=by
 have hn:=kd.n
 have h2:=kd.h
 have h9:2^h≤2^9:=Ac (by omega) h2
 have hmul:(2*n+3)*n≤67*32:=Aa (by omega) hn
 have hm2:n*h≤32*9:=Aa hn h2
 have hsz:n*(2*n+3+h)=(2*n+3)*n+n*h:=by rw[Bv,Au n (2*n+3)]
 have e1:Ad.wrap ((sig.length:Int)-((n*h:Nat):Int))=(((2*n+3)*n:Nat):Int):=by
  rw[l7 (by omega) (by omega)];omega
 have lt1:(sig.take ((2*n+3)*n)).length=(2*n+3)*n:=by rw[Ae];omega
 have ld:(sig.drop ((2*n+3)*n)).length=n*h:=by rw[Ap];omega
 have hpath:In 256 (sig.drop ((2*n+3)*n)):=hsig.drop _
 have hk0:=ach hn sh pub (ahx (ahx (lfA a leaf) 2 1) 3 (prn (lfA a leaf))) (cat (bo7 n sh (sig.take ((2*n+3)*n)) pub (lfA a leaf) t) (2*n+3))
 rw[P.an4];unfold P.agw
 rw[bl0 kd sh _ (by simp) (fun j hj=>by
  match j with
  | 0=>exact np
  | 1=>exact lt
  | j+2=>simp at hj;omega),jv,oq,qh kd,dh (by rw[lsig]),jh kd,bn (by omega),toNat_cast,sh0 leaf h (by omega) hleaf,dh rfl,jh kd,mulN _ _ hn (by omega),e1,bf (by omega),bf (by omega),bf1 la _ _ _ _ _ _ _ _ leaf (by omega),Ak,toNat_cast,
  yh kd.1 sh _ t pub _ (hsig.take _) lt1 ht lt hp np (bau la _) (bkm ha _),bf (by omega),bf (by omega),bf (by omega),jh kd,toNat_cast,A9,P.auv]
 unfold P.aog P.cdk P.cc9 P.cl4 tpW
 have hk1:=afp n sh pub (ahx (ahx (lfA a leaf) 2 1) 3 (prn (lfA a leaf))) (cat (bo7 n sh (sig.take ((2*n+3)*n)) pub (lfA a leaf) t) (2*n+3))
 generalize sig.drop ((2*n+3)*n)=path at ld hpath
 unfold kyW
 generalize bjj n sh pub (ahx (ahx (lfA a leaf) 2 1) 3 (prn (lfA a leaf))) (cat (bo7 n sh (sig.take ((2*n+3)*n)) pub (lfA a leaf) t) (2*n+3))=k0 at hk0 hk1
 refine u7 (fun z=>((leaf:Int),cnW n sh pub a k0 path leaf z,path.drop (z*n),(h:Int),(z:Int),(n:Int),H,D,A,K,sh,(n:Int),H,D,A,K,sh,pub,a)) h (by simp[cnW]) (fun z hz next hnx=>?_) (fun next=>?_) (by omega)
 ·have hd:=Aj leaf (2^z)
  have hd1:=Aj leaf (2^(z+1))
  have hzn:z*n+n≤n*h:=by rw[←Al,Au n h];exact Aa hz (Aq _)
  have lp2:(path.drop (z*n)).length=n*h-z*n:=by rw[Ap];omega
  have lc:=bqt hn sh pub a k0 path hk0 leaf z
  have ic:=bw4 n sh pub a k0 path hk1 leaf z
  have lq:((path.drop (z*n)).take n).length=n:=by rw[Ae];omega
  have iq:In 256 ((path.drop (z*n)).take n):=(hpath.drop _).take _
  rw[Al,←A8] at hnx
  simp only[P.aiq,toNat_cast]
  rw[bf (by omega),bf (by omega),bf (by omega),bn (by omega),fdiv_pow _ _ _ (by omega),show bits BinOp.and Ay ((leaf/2^z:Nat):Int) 1=((leaf/2^z%2:Nat):Int) by
   rw[show (1:Int)=((1:Nat):Int) from rfl,apr _ _ (by omega) (by omega),Nat.and_one_is_mod]]
  have ez:Ad.wrap ((z:Int)+1)=((z+1:Nat):Int):=by rw[l7 (by omega) (by omega)];omega
  rw[ez,toNat_cast,fdiv_pow _ _ _ (by omega),Ak,A9]
  by_cases hb:leaf/2^z%2=1
  ·rw[cnW,if_pos hb] at hnx
   rw[eu (by omega),bn (by omega),ben kd.1 sh _ pub a _ _ hp np la ha iq ic (by omega) (by omega) (z+1) _ (by omega) (by omega),bf (by omega),bf (by omega),bf (by omega)]
   exact hnx
  ·rw[cnW,if_neg hb] at hnx
   rw[gq (by omega),bn (by omega),ben kd.1 sh _ pub a _ _ hp np la ha ic iq (by omega) (by omega) (z+1) _ (by omega) (by omega),bf (by omega),bf (by omega),bf (by omega)]
   exact hnx
 ·simp only[P.aiq]
  rw[bn (by omega)]
end Q
end

section
/- xmss: knots, signatures, tops, by the document; and where there are none. -/
namespace Q
open QK
open Go Go.Abs
theorem b0h(h:Nat):(2:Int)^h=((2^h:Nat):Int):=by rw[Int.natCast_pow];rfl
theorem aqu(a z:Nat)(hz:z≤64)(hb:a*2^z<18446744073709551616):Ay.wrap ((a:Int)*(2:Int)^min z 64)=((a*2^z:Nat):Int):=by
 rw[Nat.min_eq_left hz,b0h,←Am,ad3 _ hb]
theorem buo(h:Nat)(hh:h≤63):Ay.wrap ((1:Int)*(2:Int)^min h 64)=((2^h:Nat):Int):=by
 have:=aqu 1 h (by omega) (by rw[Bd];exact Nat.pow_lt_pow_right (a:=2) (m:=h) (n:=64) (by omega) (by omega))
 rw[Bd] at this
 exact this
theorem Kd.d{n:Nat}{H D A K:Int}{h:Nat}(k:Kd n H D A K h):¬D=0:=by have:=k.1;unfold aak at this;omega
theorem ahl{n:Nat}{H D A K:Int}{h:Nat}(kd:Kd n H D A K h)(sh:Bool){ρ:Type}(k:Int→Option ρ):P.ahl n H D A K sh k=k ((n*(2*n+3+h):Nat):Int):=by
 have h1:=kd.n
 have h2:=kd.h
 rw[P.bhd];unfold P.as7
 rw[kg,decide_eq_true kd.1,jv,oq,bn kd.d,kd.2,l7 (x:=(2:Int)*(n:Int)) (by omega) (by omega),l7 (x:=(2:Int)*(n:Int)+3) (by omega) (by omega),l7 (x:=(2:Int)*(n:Int)+3+(h:Int)) (by omega) (by omega),show (2:Int)*(n:Int)+3+(h:Int)=((2*n+3+h:Nat):Int) by omega,mulN _ _ h1 (by omega)]
theorem aay{a:List Int}(la:a.length=32)(i:Nat)(hi:i<18446744073709551616){ρ:Type}(k:List Int→Option ρ):P.aay a (i:Int) k=k (lfA a i):=by
 rw[P.bhf];unfold P.at7
 rw[show P.jf (ρ:=ρ) a 2 0=P.jf a 2 ((0:Nat):Int) from rfl,jf la 2 0 (by omega),jf (jg la _ _) 3 i hi]
 rfl
theorem ab2{n:Nat}{H D A K:Int}(hf:aak n H D A K)(sh:Bool)(pub a l r:List Int)(hp:In 256 pub)(np:pub.length=n)(la:a.length=32)(ha:In 256 a)(hl:In 256 l)(hr:In 256 r)(nl:l.length≤1000)(nr:r.length≤1000)(z i:Nat)(hz:z<1000)(hi:i<18446744073709551616){ρ:Type}(k:List Int→Option ρ) :
    P.ab2 n H D A K sh pub a (z:Int) (i:Int) l r k=k (ovW n sh pub a z i l r):=by
 have e:[l,r].flatten=l++r:=by simp
 have hlr:(l++r).length≤2000:=by rw[Ab];omega
 rw[P.bf8];unfold P.asa
 rw[show P.jf (ρ:=ρ) a 2 2=P.jf a 2 ((2:Nat):Int) from rfl,jf la 2 2 (by omega),ad3 _ (by omega),jf (jg la _ _) 4 z (by omega),jf (jg (jg la _ _) _ _) 5 i hi,iy _ (by simp) (by rw[e];omega),e,
  su hf sh pub hp np _ _ (jg (jg (jg la _ _) _ _) _ _) (uo (uo (uo ha _ _) _ _) _ _) (hl.app hr) (by omega)]
 rfl
theorem getD_map(f:Nat→List Int)(m i:Nat)(h:i<m):((Ag m).map f).getD i []=f i:=by
 rw[Af,List.getElem?_map,List.getElem?_range h]
 rfl
def rwK(n:Nat)(sh:Bool)(pub sec a:List Int)(z i y:Nat)(j:Nat):List Int:=knW n sh pub sec a y (i*2^(z-y)+j)
theorem b1r(n:Nat)(sh:Bool)(pub sec a:List Int)(z i y j:Nat):In 256 (rwK n sh pub sec a z i y j):=br5 _ _ _ _ _ _ _
theorem byf{n:Nat}(hn:n≤32)(sh:Bool)(pub sec a:List Int)(z i y j:Nat):(rwK n sh pub sec a z i y j).length=n:=aw9 hn _ _ _ _ _ _
theorem b3l{n:Nat}{H D A K:Int}(hf:aak n H D A K)(sh:Bool)(sec pub a:List Int)(hp:In 256 pub)(np:pub.length=n)(la:a.length=32)(ha:In 256 a)(z i y:Nat)(hy:y<z)(hz:z≤9)(hb:(i+1)*2^z≤512){ρ:Type}
    (k0:(List Int)→Int→Int→(List (List Int))→Int→Int→(List (List Int))→(List Int)→Int→Int→Int→Int→Int→Bool→Option ρ) (r:Option ρ)
    (hk:k0 pub z i ((Ag (2^(z-y))).map (rwK n sh pub sec a z i y)) ((y+1:Nat):Int) ((2^(z-y):Nat):Int) ((Ag (2^(z-(y+1)))).map (rwK n sh pub sec a z i (y+1))) a n H D A K sh=r) :
    P.asu pub z i ((Ag (2^(z-y))).map (rwK n sh pub sec a z i y)) ((y+1:Nat):Int) 0 [] a n H D A K sh k0=r:=by
 have hn:n≤32:=by unfold aak at hf;omega
 have e2:2^(z-y)=2*2^(z-(y+1)):=by rw[show z-y=(z-(y+1))+1 by omega,Ar];omega
 have hp2:2^(z-(y+1))≤2^9:=Ac (by omega) (by omega)
 have hi2:i*2^(z-(y+1))≤512:=by
  have h1:i*2^(z-(y+1))≤(i+1)*2^z:=Aa (by omega) (Ac (by omega) (by omega))
  omega
 rw[P.bh2];unfold P.bby P.ccj P.cb8 P.cnb
 refine u7 (fun j=>(pub,(z:Int),(i:Int),(Ag (2^(z-y))).map (rwK n sh pub sec a z i y),((y+1:Nat):Int),((2*j:Nat):Int),(Ag j).map (rwK n sh pub sec a z i (y+1)),a,(n:Int),H,D,A,K,sh)) (2^(z-(y+1))) rfl (fun j hj next hnx=>?_) (fun next=>?_) (by omega)
 ·simp only[P.ar2]
  have ll:((Ag (2^(z-y))).map (rwK n sh pub sec a z i y)).length=2^(z-y):=by simp
  have et:((2*j:Nat):Int).tdiv 2=(j:Int):=by rw[Bj (by omega)];omega
  rw[l7 (x:=((2*j:Nat):Int)+1) (by omega) (by omega),ll,bf (by omega),l7 (x:=(z:Int)-((y+1:Nat):Int)) (by omega) (by omega),bn (by omega),bf (by omega),bf (by omega),bf (by omega),bf (by omega),et,
   show ((z:Int)-((y+1:Nat):Int)).toNat=z-(y+1) by omega,aqu i (z-(y+1)) (by omega) (by omega),l7 (x:=(j:Int)) (by omega) (by omega),ad3 j (by omega),show ((i*2^(z-(y+1)):Nat):Int)+(j:Int)=((i*2^(z-(y+1))+j:Nat):Int) by omega,ad3 _ (by omega),toNat_cast,
   show (((2*j:Nat):Int)+1).toNat=2*j+1 by omega,getD_map _ _ _ (by omega),getD_map _ _ _ (by omega),
   ab2 hf sh pub a _ _ hp np la ha (b1r _ _ _ _ _ _ _ _ _) (b1r _ _ _ _ _ _ _ _ _) (by rw[byf hn];omega) (by rw[byf hn];omega) (y+1) _ (by omega) (by omega),bf (by simp;omega),l7 (x:=((2*j:Nat):Int)+2) (by omega) (by omega),show ((2*j:Nat):Int)+2=((2*(j+1):Nat):Int) by omega]
  have e:rwK n sh pub sec a z i (y+1) j=ovW n sh pub a (y+1) (i*2^(z-(y+1))+j) (rwK n sh pub sec a z i y (2*j)) (rwK n sh pub sec a z i y (2*j+1)):=by
   unfold rwK
   rw[knW,e2,show i*(2*2^(z-(y+1)))+2*j=2*(i*2^(z-(y+1))+j) by rw[Bv,Nat.mul_left_comm],show i*(2*2^(z-(y+1)))+(2*j+1)=2*(i*2^(z-(y+1))+j)+1 by rw[Bv,Nat.mul_left_comm];omega]
  rw[←wo,e] at hnx
  exact hnx
 ·simp only[P.ar2]
  rw[l7 (x:=((2*2^(z-(y+1)):Nat):Int)+1) (by omega) (by omega),bn (by rw[List.length_map,List.length_range,e2];omega),←e2]
  exact hk
theorem agn{n:Nat}{H D A K:Int}{h:Nat}(kd:Kd n H D A K h)(sh:Bool)(sec pub a:List Int)(hsec:In 256 sec)(lsec:sec.length=n)(hp:In 256 pub)(np:pub.length=n)(la:a.length=32)(ha:In 256 a)(z i:Nat)(hz:z≤h)(hi:i<2^(h-z)){ρ:Type}(k:List Int→Option ρ) :
    P.agn n H D A K sh sec pub a (z:Int) (i:Int) k=k (knW n sh pub sec a z i):=by
 have hn:=kd.n
 have h2:=kd.h
 have hb:(i+1)*2^z≤2^h:=by
  have:(i+1)*2^z≤2^(h-z)*2^z:=Aa hi (Aq _)
  rw[←Bw,Bf hz] at this
  exact this
 have h9:2^h≤2^9:=Ac (by omega) h2
 have hz9:2^z≤2^9:=Ac (by omega) (by omega)
 have e1:(i+1)*2^z=i*2^z+2^z:=by rw[Bu,Bd]
 have p0:0<2^z:=Ao z
 have hi9:i<512:=by
  have:2^(h-z)≤2^9:=Ac (by omega) (by omega)
  omega
 rw[P.bgc];unfold P.arz
 rw[kg,decide_eq_true kd.1,jv,oq,dh (by omega),dh (by omega),bn (by omega),bn kd.d,kd.2,bn (by omega),bn kd.d,l7 (x:=(h:Int)-(z:Int)) (by omega) (by omega),bn (by omega),show ((h:Int)-(z:Int)).toNat=h-z by omega,buo _ (by omega),bn (by omega),bn (by omega),toNat_cast,aqu i z (by omega) (by omega),P.bim]
 unfold P.bfl P.cah P.cb6 P.cf1
 refine u7 (fun j=>(sec,pub,(z:Int),(i:Int),((i*2^z+j:Nat):Int),(Ag j).map (rwK n sh pub sec a z i 0),(n:Int),H,D,A,K,sh,a)) (2^z) rfl (fun j hj next hnx=>?_) (fun next=>?_) (by omega)
 ·simp only[P.ax0,toNat_cast]
  rw[bn (by omega),show (i:Int)+1=((i+1:Nat):Int) by omega,ad3 (i+1) (by omega),aqu (i+1) z (by omega) (by omega),bf (by omega),aay la _ (by omega),acn kd.1 sh sec pub _ hsec lsec hp np (bau la _) (bkm ha _),bf (by simp;omega),
   show ((i*2^z+j:Nat):Int)+1=((i*2^z+(j+1):Nat):Int) by omega,ad3 _ (by omega)]
  rw[←wo] at hnx
  exact hnx
 ·simp only[P.ax0,toNat_cast]
  rw[bn (by omega),show (i:Int)+1=((i+1:Nat):Int) by omega,ad3 (i+1) (by omega),aqu (i+1) z (by omega) (by omega),bn (by omega),P.bio]
  unfold P.bhi P.ceh P.cd1 P.ckj
  refine u7 (fun y=>(pub,(z:Int),(i:Int),(Ag (2^(z-y))).map (rwK n sh pub sec a z i y),((y+1:Nat):Int),(n:Int),H,D,A,K,sh,a)) z rfl (fun y hy next hnx=>?_) (fun next=>?_) (by omega)
  ·simp only[P.awo]
   rw[bf (by omega)]
   refine b3l kd.1 sh sec pub a hp np la ha z i y hy (by omega) (by omega) _ _ ?_
   rw[show ((y+1:Nat):Int)+1=((y+1+1:Nat):Int) by omega,l7 (by omega) (by omega)]
   exact hnx
  ·simp only[P.awo]
   rw[bn (by omega),Nat.sub_self,Bb,bf (by simp),getD_map _ _ _ (by omega)]
   unfold rwK
   rw[Nat.sub_self,Bb,Nat.mul_one,Nat.add_zero]
theorem ag8{n:Nat}{H D A K:Int}{h:Nat}(kd:Kd n H D A K h)(sh:Bool)(t sec pub a:List Int)(ht:In 256 t)(lt:t.length=n)(hsec:In 256 sec)(lsec:sec.length=n)(hp:In 256 pub)(np:pub.length=n)(la:a.length=32)(ha:In 256 a)(leaf:Nat)(hleaf:leaf<2^h){ρ:Type}(k:List Int→Option ρ) :
    P.ag8 n H D A K sh t sec pub a (leaf:Int) k=k (sgW n sh pub sec a t leaf h):=by
 have hn:=kd.n
 have h2:=kd.h
 have h9:2^h≤2^9:=Ac (by omega) h2
 have l1:=ab7 (azc hn sh pub sec (lfA a leaf) t) (2*n+3)
 have hmul:(2*n+3)*n≤67*32:=Aa (by omega) hn
 rw[P.bfr];unfold P.asr
 rw[kg,decide_eq_true kd.1,jv,oq,dh (by omega),dh (by omega),dh (by omega),bn kd.d,kd.2,bn (by omega),toNat_cast,buo _ (by omega),bn (by omega),aay la _ (by omega),ag1 kd.1 sh t sec pub _ ht lt hsec lsec hp np (bau la _) (bkm ha _),P.bi2]
 unfold P.bfh P.cbo P.cej P.cld
 refine u7 (fun z=>(sec,pub,(leaf:Int),(z:Int),cat (byt n sh pub sec (lfA a leaf) t) (2*n+3)::(Ag z).map (auT n sh pub sec a leaf),(n:Int),H,D,A,K,sh,a)) h rfl (fun z hz next hnx=>?_) (fun next=>?_) (by omega)
 ·have hb:=b6z hleaf hz h2
  have hd:=Aj leaf (2^z)
  have hlt:(leaf/2^z) ^^^ 1<2^(h-z):=Nat.xor_lt_two_pow (by
   rw[Nat.div_lt_iff_lt_mul (Ao z),←Bw,Bf (by omega)]
   exact hleaf) (Nat.one_lt_two_pow (by omega))
  simp only[P.awf,toNat_cast]
  rw[bn kd.d,kd.2,bf (by omega),bn (by omega),fdiv_pow _ _ _ (by omega),show (1:Int)=((1:Nat):Int) from rfl,bgb _ _ (by omega) (by omega),
   agn kd sh sec pub a hsec lsec hp np la ha z _ (by omega) hlt,bf (by simp;omega),l7 (by omega) (by omega),List.cons_append]
  rw[←wo] at hnx
  exact hnx
 ·have l2:=ab7 (T:=auT n sh pub sec a leaf) (fun z=>aw9 hn _ _ _ _ _ _) h
  have hm2:h*n≤9*32:=Aa (by omega) hn
  simp only[P.awf]
  rw[bn kd.d,kd.2,bn (by omega),iy _ (by simp;omega) (by rw[List.flatten_cons,aby,Ab];omega),List.flatten_cons,aby]
  rfl
theorem zu{n:Nat}{H D A K:Int}{h:Nat}(kd:Kd n H D A K h)(sh:Bool)(sig t pub a:List Int)(hsig:In 256 sig)(lsig:sig.length=n*(2*n+3+h))(ht:In 256 t)(lt:t.length=n)(hp:In 256 pub)(np:pub.length=n)(la:a.length=32)(ha:In 256 a)(leaf:Nat)(hleaf:leaf<2^h){ρ:Type}(k:List Int→Option ρ) :
    P.zu n H D A K sh sig t pub a (leaf:Int) k=k (tpW n sh pub a sig t leaf h):=by
 have hn:=kd.n
 have h2:=kd.h
 have h9:2^h≤2^9:=Ac (by omega) h2
 have hmul:(2*n+3)*n≤67*32:=Aa (by omega) hn
 have hc:(n:Int)*((2*n+3:Nat):Int)=(((2*n+3)*n:Nat):Int):=by rw[Am,Ba]
 have e3:Ad.wrap (Ad.wrap ((2:Int)*(n:Int))+(3:Int))=((2*n+3:Nat):Int):=by
  rw[l7 (x:=(2:Int)*(n:Int)) (by omega) (by omega),l7 (by omega) (by omega)];omega
 have hsz:n*(2*n+3+h)=(2*n+3)*n+h*n:=by rw[Bv,Au n h,Au n (2*n+3)]
 obtain ⟨kk,hkk,lk,ik⟩:∃kk,kk=kyW n sh pub (lfA a leaf) (cat (bo7 n sh (sig.take ((2*n+3)*n)) pub (lfA a leaf) t) (2*n+3))∧kk.length=n∧In 256 kk:=⟨_,rfl,ach hn _ _ _ _,afp _ _ _ _ _⟩
 rw[P.aq2];unfold P.air
 rw[kg,decide_eq_true kd.1,jv,oq,dh (by omega),dh (by omega),ahl kd,dh (by omega),bn kd.d,kd.2,bn (by omega),toNat_cast,buo _ (by omega),bn (by omega),e3,hc,l7 (by omega) (by omega),toNat_cast,bf (by omega),bf (by omega),aay la _ (by omega),Ak,
  zh kd.1 sh _ t pub _ (hsig.take _) (by rw[Ae];omega) ht lt hp np (bau la _) (bkm ha _),P.axw]
 unfold P.aqy P.ccu P.cby P.cje
 refine u7 (fun z=>(sig,pub,(leaf:Int),(((2*n+3)*n:Nat):Int),cnW n sh pub a kk (sig.drop ((2*n+3)*n)) leaf z,(z:Int),(n:Int),H,D,A,K,sh,a)) h (by rw[hkk];rfl) (fun z hz next hnx=>?_) (fun next=>?_) (by omega)
 ·have hd:=Aj leaf (2^z)
  have hd2:=Aj leaf (2^(z+1))
  have hm2:z*n≤9*32:=Aa (by omega) hn
  have hm3:(z+1)*n≤h*n:=Aa (by omega) (Aq _)
  rw[Al] at hm3
  have ec:(n:Int)*(z:Int)=((z*n:Nat):Int):=by rw[Am,Ba]
  have es:Ai ((2*n+3)*n+z*n) (Ah ((2*n+3)*n+z*n+n) sig)=((sig.drop ((2*n+3)*n)).drop (z*n)).take n:=by
   rw[List.drop_take,A8,Bq]
  have ic:=bw4 n sh pub a kk (sig.drop ((2*n+3)*n)) ik leaf z
  have lc:=bqt hn sh pub a kk (sig.drop ((2*n+3)*n)) lk leaf z
  have is':In 256 (((sig.drop ((2*n+3)*n)).drop (z*n)).take n):=((hsig.drop _).drop _).take _
  have ls':(((sig.drop ((2*n+3)*n)).drop (z*n)).take n).length≤n:=by rw[Ae];omega
  simp only[P.ajv,ec]
  rw[bn kd.d,kd.2,bf (by omega),l7 (x:=((z*n:Nat):Int)) (by omega) (by omega),show (((2*n+3)*n:Nat):Int)+((z*n:Nat):Int)=(((2*n+3)*n+z*n:Nat):Int) by omega,l7 (x:=(((2*n+3)*n+z*n:Nat):Int)) (by omega) (by omega),
   show (((2*n+3)*n+z*n:Nat):Int)+(n:Int)=(((2*n+3)*n+z*n+n:Nat):Int) by omega,l7 (x:=(((2*n+3)*n+z*n+n:Nat):Int)) (by omega) (by omega)]
  simp only[toNat_cast]
  rw[bf (by omega),bf (by omega),bf (by omega),bn (by omega),l7 (x:=(z:Int)+1) (by omega) (by omega),show (z:Int)+1=((z+1:Nat):Int) by omega,bn (by omega),toNat_cast,fdiv_pow _ _ _ (by omega),fdiv_pow _ _ _ (by omega),es]
  have em:((leaf/2^z:Nat):Int).tmod 2=((leaf/2^z%2:Nat):Int):=by rw[Bl (Int.natCast_nonneg _)];rfl
  rw[em]
  rw[cnW] at hnx
  by_cases hb:leaf/2^z%2=1
  ·rw[if_pos hb] at hnx
   rw[hb,gq (by omega),bn (by omega)]
   have:=ab2 kd.1 sh pub a _ _ hp np la ha is' ic (by omega) (by omega) (z+1) (leaf/2^(z+1)) (by omega) (by omega) (ρ:=ρ)
   rw[this]
   exact hnx
  ·rw[if_neg hb] at hnx
   rw[show leaf/2^z%2=0 by omega,eu (by omega)]
   have:=ab2 kd.1 sh pub a _ _ hp np la ha ic is' (by omega) (by omega) (z+1) (leaf/2^(z+1)) (by omega) (by omega) (ρ:=ρ)
   rw[this]
   exact hnx
 ·simp only[P.ajv]
  rw[bn kd.d,kd.2,bn (by omega),hkk]
  rfl
end Q
end

section
/- xmss: trees in trees, by the program. -/
namespace Q
open QK
open Go Go.Abs
abbrev Z32:List Int:=[0,0,0,0,0,0,0,0,0,0,0,0,0,0,0,0,0,0,0,0,0,0,0,0,0,0,0,0,0,0,0,0]
theorem b1f:In 256 Z32:=fun x hx=>by
 have:x=0:=by simpa [Z32] using hx
 omega
def plA(d num:Nat):List Int:=ahx (ahx Z32 0 d) 1 num
theorem bho(d num:Nat):(plA d num).length=32:=jg (jg rfl _ _) _ _
theorem bob(d num:Nat):In 256 (plA d num):=uo (uo b1f _ _) _ _
def nmb(h num d:Nat):Nat:=num/2^(h*d)
theorem bwk(h num d:Nat):nmb h num d≤num:=Aj _ _
theorem bmx(h num d:Nat):nmb h num (d+1)=nmb h num d/2^h:=by
 unfold nmb
 rw[Bz,←Bw,Nat.mul_succ]
def lfN(h num leaf:Nat):Nat→Nat
 | 0=>leaf
 | d+1=>nmb h num d%2^h
theorem bvv{h leaf:Nat}(num:Nat)(hl:leaf<2^h):∀d,lfN h num leaf d<2^h
 | 0=>hl
 | d+1=>Nat.mod_lt _ (Ao h)
def vrT(n:Nat)(sh:Bool)(pub sig t:List Int)(num leaf h sz:Nat):Nat→List Int
 | 0=>t
 | d+1=>tpW n sh pub (plA d (nmb h num d)) ((sig.drop (d*sz)).take sz) (vrT n sh pub sig t num leaf h sz d) (lfN h num leaf d) h
theorem bw8{n:Nat}(hn:n≤32)(sh:Bool)(pub sig t:List Int)(lt:t.length=n)(num leaf h sz:Nat):∀d,(vrT n sh pub sig t num leaf h sz d).length=n
 | 0=>lt
 | d+1=>bxo hn _ _ _ _ _ _ _
theorem b1d(n:Nat)(sh:Bool)(pub sig t:List Int)(ht:In 256 t)(num leaf h sz:Nat):∀d,In 256 (vrT n sh pub sig t num leaf h sz d)
 | 0=>ht
 | d+1=>b2m _ _ _ _ _ _ _ _
theorem btl(num h:Nat)(hn:num<18446744073709551616)(hh:h≤9):(num:Int).fdiv ((2:Int)^min h 64)=((num/2^h:Nat):Int) ∧
    bits .and .u64 (num:Int) (Ay.wrap (Ay.wrap ((1:Int)*(2:Int)^min h 64)-(1:Int)))=((num%2^h:Nat):Int):=by
 have h9:2^h≤2^9:=Ac (by omega) hh
 refine ⟨fdiv_pow _ _ _ (by omega),?_⟩
 rw[b2p h (by omega),apr _ _ hn (by omega),Nat.and_two_pow_sub_one_eq_mod]
theorem mh{n:Nat}{H D A K:Int}{h:Nat}(kd:Kd n H D A K h)(sh:Bool)(r:Nat)(hr:H-(h:Int)=(r:Int))(r64:r≤64)(num leaf:Nat)(hnum:num<2^r)(hleaf:leaf<2^h){ρ:Type}(k:Bool→Option ρ) :
    P.mh n H D A K sh (num:Int) (leaf:Int) k=k true:=by
 have h2:=kd.h
 rw[P.avk];unfold P.ald
 rw[jh kd,hr,l7 (by omega) (by omega),bn (by omega),toNat_cast,sh0 num r r64 hnum,eu rfl,jh kd,bn (by omega),toNat_cast,sh0 leaf h (by omega) hleaf]
 rfl
theorem ab8{n:Nat}{H A K:Int}{h D:Nat}(kd:Kd n H D A K h)(hD:D≤68)(sh:Bool)(t sig pub top:List Int)(ht:In 256 t)(lt:t.length=n)(hsig:In 256 sig)(lsig:sig.length=D*(n*(2*n+3+h)))(hp:In 256 pub)(np:pub.length=n)(ltop:top.length=n)(itop:In 256 top)(r:Nat)(hr:H-(h:Int)=(r:Int))(r64:r≤64)(num leaf:Nat)(hnum:num<2^r)(hleaf:leaf<2^h){ρ:Type}(k:Bool→Option ρ) :
    P.ab8 n H D A K sh t sig pub top (num:Int) (leaf:Int) k=k (decide (vrT n sh pub sig t num leaf h (n*(2*n+3+h)) D=top)):=by
 have hn:=kd.n
 have h2:=kd.h
 have hsz:n*(2*n+3+h)≤32*76:=Aa hn (by omega)
 have hDs:D*(n*(2*n+3+h))≤68*(32*76):=Aa hD hsz
 have h64:num<18446744073709551616:=Bg hnum (Ac (n:=2) (by omega) r64)
 generalize hz:n*(2*n+3+h)=sz at lsig hsz hDs
 have eD:Ad.wrap ((D:Int)*(sz:Int))=((D*sz:Nat):Int):=by
  rw[show (D:Int)*(sz:Int)=((D*sz:Nat):Int) by rw[Am],l7 (by omega) (by omega)]
 rw[P.ave];unfold P.alq
 rw[bl0 kd sh _ (by simp) (fun j hj=>by
  match j with
  | 0=>exact lt
  | 1=>exact np
  | 2=>exact ltop
  | j+3=>simp at hj;omega),jv,oq,qh kd,hz,eD,dh (by rw[lsig]),mh kd sh r hr r64 num leaf hnum hleaf,jv,oq,P.awn]
 unfold P.aqr P.cel P.cbf P.cis
 refine u7 (fun d=>(top,(D:Int),(d:Int),(n:Int),H,(D:Int),A,K,sh,vrT n sh pub sig t num leaf h sz d,sig.drop (d*sz),pub,(n:Int),H,(D:Int),A,K,sh,((nmb h num d:Nat):Int),((lfN h num leaf d:Nat):Int))) D (by simp[nmb,lfN,vrT]) (fun d hd next hnx=>?_) (fun next=>?_) (by omega)
 ·have hle:=bwk h num d
  have hs:=btl (nmb h num d) h (by omega) h2
  have hds:d*sz+sz≤D*sz:=by rw[←Al];exact Aa hd (Aq _)
  have ld:(sig.drop (d*sz)).length=D*sz-d*sz:=by rw[Ap];omega
  have lq:((sig.drop (d*sz)).take sz).length=sz:=by rw[Ae];omega
  rw[Al,←A8,bmx] at hnx
  simp only[P.aj5,toNat_cast]
  rw[bf (by omega),show P.dz (ρ:=ρ) [0,0,0,0,0,0,0,0,0,0,0,0,0,0,0,0,0,0,0,0,0,0,0,0,0,0,0,0,0,0,0,0]=P.dz Z32 from rfl,ad3 _ (by omega),dz rfl 0 d (by omega),dz (jg rfl _ _) 1 _ (by omega),qh kd,hz,bf (by omega),bf (by omega),Ak,toNat_cast]
  rw[show P.ji (ρ:=ρ) (n:Int) H (D:Int) A K sh ((sig.drop (d*sz)).take sz) (vrT n sh pub sig t num leaf h sz d) pub (ahx (ahx Z32 0 d) 1 (nmb h num d))=P.ji (n:Int) H (D:Int) A K sh ((sig.drop (d*sz)).take sz) (vrT n sh pub sig t num leaf h sz d) pub (plA d (nmb h num d)) from rfl,
   ji kd sh _ _ pub _ ((hsig.drop _).take _) (by rw[hz,lq]) (b1d n sh pub sig t ht _ _ _ _ _) (bw8 hn sh pub sig t lt _ _ _ _ _) hp np (bho _ _) (bob _ _) _ (bvv num hleaf d),qh kd,hz,bf (by omega),bf (by omega),bf (by omega),jh kd,bn (by omega),jh kd,bn (by omega),toNat_cast,toNat_cast,A9,hs.1,hs.2,l7 (by omega) (by omega)]
  exact hnx
 ·simp only[P.aj5]
  rw[bn (by omega),aam _ _ (b1d n sh pub sig t ht _ _ _ _ _) itop (by rw[bw8 hn sh pub sig t lt];omega)]
end Q
end

section
/- xmss: what trees in trees sign leads to the top of all. -/
namespace Q
open QK
open Go Go.Abs
def hyT(n:Nat)(sh:Bool)(pub sec t:List Int)(num leaf h:Nat):Nat→List Int
 | 0=>t
 | d+1=>tpW n sh pub (plA d (nmb h num d)) (sgW n sh pub sec (plA d (nmb h num d)) (hyT n sh pub sec t num leaf h d) (lfN h num leaf d) h) (hyT n sh pub sec t num leaf h d) (lfN h num leaf d) h
def hyS(n:Nat)(sh:Bool)(pub sec t:List Int)(num leaf h:Nat)(d:Nat):List Int:=sgW n sh pub sec (plA d (nmb h num d)) (hyT n sh pub sec t num leaf h d) (lfN h num leaf d) h
theorem bv8{n:Nat}(hn:n≤32)(sh:Bool)(pub sec t:List Int)(lt:t.length=n)(num leaf h:Nat):∀d,(hyT n sh pub sec t num leaf h d).length=n
 | 0=>lt
 | d+1=>bxo hn _ _ _ _ _ _ _
theorem b1x(n:Nat)(sh:Bool)(pub sec t:List Int)(ht:In 256 t)(num leaf h:Nat):∀d,In 256 (hyT n sh pub sec t num leaf h d)
 | 0=>ht
 | d+1=>b2m _ _ _ _ _ _ _ _
theorem bp6{n:Nat}(hn:n≤32)(sh:Bool)(pub sec t:List Int)(num leaf h d:Nat):(hyS n sh pub sec t num leaf h d).length=n*(2*n+3+h):=bp4 hn _ _ _ _ _ _ _
end Q
end

section
/- xmss: the chapter's examples. -/
namespace Q
open QK
open Go Go.Abs
end Q
end

section
/- xmss: what the program and the document say of any by5, signature and top. -/
namespace Q
open QK
open Go Go.Abs
theorem cfk{n:Nat}{H D A K:Int}(hf:aak n H D A K):∃h,Kd n H D A K h:=by
 have h0:=hf
 unfold aak at h0
 have h1:0≤H.tdiv D:=Int.tdiv_nonneg (by omega) (by omega)
 have h2:H.tdiv D≤H:=by
  rw[Bj (by omega)]
  exact Int.ediv_le_self _ (by omega)
 exact ⟨(H.tdiv D).toNat,hf,by rw[l7 (by omega) (by omega)];omega⟩
end Q
end

section
/- xmss: trees in trees sign, by the program. -/
namespace Q
open QK
open Go Go.Abs
theorem aa1{n:Nat}{H A K:Int}{h D:Nat}(kd:Kd n H D A K h)(hD:D≤68)(sh:Bool)(t sec pub:List Int)(ht:In 256 t)(lt:t.length=n)(hsec:In 256 sec)(lsec:sec.length=n)(hp:In 256 pub)(np:pub.length=n)(r:Nat)(hr:H-(h:Int)=(r:Int))(r64:r≤64)(num leaf:Nat)(hnum:num<2^r)(hleaf:leaf<2^h){ρ:Type}(k:List Int→Option ρ) :
    P.aa1 n H D A K sh t sec pub (num:Int) (leaf:Int) k=k (cat (hyS n sh pub sec t num leaf h) D):=by
 have hn:=kd.n
 have h2:=kd.h
 have hsz:n*(2*n+3+h)≤32*76:=Aa hn (by omega)
 have hDs:D*(n*(2*n+3+h))≤68*(32*76):=Aa hD hsz
 have h64:num<18446744073709551616:=Bg hnum (Ac (n:=2) (by omega) r64)
 have hl:=ab7 (bp6 hn sh pub sec t num leaf h)
 rw[P.ayy];unfold P.am2
 rw[bl0 kd sh _ (by simp) (fun j hj=>by
  match j with
  | 0=>exact lt
  | 1=>exact lsec
  | 2=>exact np
  | j+3=>simp at hj;omega),jv,oq,mh kd sh r hr r64 num leaf hnum hleaf,jv,oq,P.azm]
 unfold P.asj P.cay P.ca2 P.cng
 refine u7 (fun d=>((D:Int),(d:Int),cat (hyS n sh pub sec t num leaf h) d,(n:Int),H,(D:Int),A,K,sh,hyT n sh pub sec t num leaf h d,sec,pub,(n:Int),H,(D:Int),A,K,sh,((nmb h num d:Nat):Int),((lfN h num leaf d:Nat):Int))) D (by simp[nmb,lfN,hyT,cat]) (fun d hd next hnx=>?_) (fun next=>?_) (by omega)
 ·have hle:=bwk h num d
  have hs:=btl (nmb h num d) h (by omega) h2
  have hlt:=bvv num hleaf d
  have hd1:d*(n*(2*n+3+h))≤68*(32*76):=Aa (by omega) hsz
  have hT:=bv8 hn sh pub sec t lt num leaf h d
  have hTi:=b1x n sh pub sec t ht num leaf h d
  have hc:=hl d
  have hsl:=bp4 hn sh pub sec (plA d (nmb h num d)) (hyT n sh pub sec t num leaf h d) (lfN h num leaf d) h
  rw[bmx] at hnx
  simp only[P.ale]
  rw[bf (by omega),show P.dz (ρ:=ρ) [0,0,0,0,0,0,0,0,0,0,0,0,0,0,0,0,0,0,0,0,0,0,0,0,0,0,0,0,0,0,0,0]=P.dz Z32 from rfl,ad3 _ (by omega),dz rfl 0 d (by omega),dz (jg rfl _ _) 1 _ (by omega),show ahx (ahx Z32 0 d) 1 (nmb h num d)=plA d (nmb h num d) from rfl,
   aan kd sh _ sec pub _ hTi hT hsec lsec hp np (bho _ _) (bob _ _) _ hlt,bf (by omega),
   ji kd sh _ _ pub _ (b2l _ _ _ _ _ _ _ _) hsl hTi hT hp np (bho _ _) (bob _ _) _ hlt,jh kd,bn (by omega),jh kd,bn (by omega),toNat_cast,hs.1,hs.2,l7 (by omega) (by omega)]
  exact hnx
 ·simp only[P.ale]
  rw[bn (by omega)]
end Q
end

section
/- xmss: trees in trees, by the document; and where there are none. -/
namespace Q
open QK
open Go Go.Abs
theorem aex(d num:Nat)(hd:d<1000)(hn:num<18446744073709551616){ρ:Type}(k:List Int→Option ρ):P.aex (d:Int) (num:Int) k=k (plA d num):=by
 rw[P.bcd];unfold P.apt
 rw[show P.jf (ρ:=ρ) [0,0,0,0,0,0,0,0,0,0,0,0,0,0,0,0,0,0,0,0,0,0,0,0,0,0,0,0,0,0,0,0]=P.jf Z32 from rfl,ad3 _ (by omega),jf rfl 0 d (by omega),jf (jg rfl _ _) 1 _ hn]
 rfl
theorem aha{n:Nat}{H D A K:Int}{h:Nat}(kd:Kd n H D A K h)(sh:Bool)(r:Nat)(hr:H-(h:Int)=(r:Int))(r63:r≤64)(num leaf:Nat)(n64:num<18446744073709551616){ρ:Type}(k:Bool→Option ρ) :
    P.aha n H D A K sh (num:Int) (leaf:Int) k=k (decide (num<2^r∧leaf<2^h)):=by
 have h2:=kd.h
 rw[P.be7];unfold P.as6
 rw[kg,decide_eq_true kd.1,oq,bn kd.d,kd.2,bn (by omega),toNat_cast,buo _ (by omega)]
 by_cases hl:leaf<2^h
 ·by_cases r4:r=64
  ·rw[bf (by omega),bn kd.d,hr,l7 (by omega) (by omega),bf (by omega),decide_eq_true ⟨by rw[r4];omega,hl⟩]
  ·rw[bf (by omega),bn kd.d,hr,l7 (by omega) (by omega),bn (by omega),bn kd.d,bn (by omega),toNat_cast,buo _ (by omega)]
   congr 1
   exact decide_eq_decide.2 ⟨fun h=>⟨by omega,hl⟩,fun h=>by omega⟩
 ·rw[bn (by omega),decide_eq_false (fun h=>hl h.2)]
theorem cpk(a b:Nat):(a:Int).tmod (b:Int)=((a%b:Nat):Int):=by rw[Bl (Int.natCast_nonneg _)];rfl
theorem adk{n:Nat}{H A K:Int}{h D:Nat}(kd:Kd n H D A K h)(hD:D≤68)(sh:Bool)(t sec pub:List Int)(ht:In 256 t)(lt:t.length=n)(hsec:In 256 sec)(lsec:sec.length=n)(hp:In 256 pub)(np:pub.length=n)(r:Nat)(hr:H-(h:Int)=(r:Int))(r63:r≤64)(num leaf:Nat)(hnum:num<2^r)(hleaf:leaf<2^h){ρ:Type}(k:List Int→Option ρ) :
    P.adk n H D A K sh t sec pub (num:Int) (leaf:Int) k=k (cat (hyS n sh pub sec t num leaf h) D):=by
 have hn:=kd.n
 have h2:=kd.h
 have h9:2^h≤2^9:=Ac (by omega) h2
 have h0:=Ao h
 have hsz:n*(2*n+3+h)≤32*76:=Aa hn (by omega)
 have h64:num<18446744073709551616:=Bg hnum (Ac (n:=2) (by omega) (show r≤64 by omega))
 have hl:=ab7 (bp6 hn sh pub sec t num leaf h)
 rw[P.bcw];unfold P.aqb
 rw[aha kd sh r hr r63 num leaf h64,decide_eq_true ⟨hnum,hleaf⟩,jv,oq,dh (by omega),dh (by omega),dh (by omega),P.bfw]
 unfold P.bc7 P.cb3 P.cc4 P.ci6
 refine u7 (fun d=>(hyT n sh pub sec t num leaf h d,sec,pub,((nmb h num d:Nat):Int),((lfN h num leaf d:Nat):Int),(d:Int),(Ag d).map (hyS n sh pub sec t num leaf h),(n:Int),H,(D:Int),A,K,sh)) D (by simp[nmb,lfN,hyT]) (fun d hd next hnx=>?_) (fun next=>?_) (by omega)
 ·have hle:=bwk h num d
  have hlt:=bvv num hleaf d
  have hT:=bv8 hn sh pub sec t lt num leaf h d
  have hTi:=b1x n sh pub sec t ht num leaf h d
  have hsl:=bp4 hn sh pub sec (plA d (nmb h num d)) (hyT n sh pub sec t num leaf h d) (lfN h num leaf d) h
  rw[bmx] at hnx
  simp only[P.asn]
  rw[bf (by omega),aex d _ (by omega) (by omega),ag8 kd sh _ sec pub _ hTi hT hsec lsec hp np (bho _ _) (bob _ _) _ hlt,bf (by simp;omega),
   zu kd sh _ _ pub _ (b2l _ _ _ _ _ _ _ _) hsl hTi hT hp np (bho _ _) (bob _ _) _ hlt,bn kd.d,kd.2,bn (by omega),toNat_cast,buo _ (by omega),bn (by omega),bn kd.d,bn (by omega),fdiv_pow _ _ _ (by omega),cpk,l7 (by omega) (by omega)]
  rw[←wo] at hnx
  exact hnx
 ·simp only[P.asn]
  have hDs:D*(n*(2*n+3+h))≤68*(32*76):=Aa hD hsz
  rw[bn (by omega),iy _ (by simp;omega) (by rw[aby,hl];omega),aby]
end Q
end

section
/- fors: places, leaves, knots, by the program and by the document. -/
namespace Q
open QK
open Go Go.Abs
def ofA(a:List Int)(kind:Nat):List Int:=ahx (ahx a 2 kind) 3 (prn a)
theorem axr{a:List Int}(la:a.length=32)(kind:Nat):(ofA a kind).length=32:=jg (jg la _ _) _ _
theorem bsg{a:List Int}(ha:In 256 a)(kind:Nat):In 256 (ofA a kind):=uo (uo ha _ _) _ _
theorem b88{a:List Int}(la:a.length=32)(kind:Nat):ofA a kind=(a.take 16++be4 4 kind++be4 4 (prn a))++Aw 8 0:=by
 have h4:=acz 4 kind
 have h5:=acz 4 (prn a)
 have e2:ahx a 2 kind=(a.take 16++be4 4 kind)++Aw 12 0:=by
  show bh9 a 16 (be4 4 kind++Aw 12 0)=_
  unfold bh9
  rw[Av (by simp;omega),List.append_nil,Bn]
 have hl:(a.take 16++be4 4 kind).length=20:=by rw[Ab,Ae];omega
 unfold ofA
 rw[e2]
 show bh9 _ 20 (be4 4 (prn a))=_
 unfold bh9
 rw[Bc hl,Bo,hl,Av (by omega),h5,Az,List.drop_replicate]
theorem b57{a:List Int}(la:a.length=32)(kind:Nat):ahx (ofA a kind) 4 0=ofA a kind:=by
 have h4:=acz 4 kind
 have h5:=acz 4 (prn a)
 rw[b88 la]
 have hl:(a.take 16++be4 4 kind++be4 4 (prn a)).length=24:=by rw[Ab,Ab,Ae];omega
 show bh9 _ 24 (be4 4 0)=_
 unfold bh9
 rw[Bc hl,Bo,hl,Av (by rw[acz];omega),Az,Bn]
 rfl
def ktA(a:List Int)(z i:Nat):List Int:=ahx (ahx (ofA a 3) 4 z) 5 i
theorem bat{a:List Int}(la:a.length=32)(z i:Nat):(ktA a z i).length=32:=jg (jg (axr la _) _ _) _ _
theorem blc{a:List Int}(ha:In 256 a)(z i:Nat):In 256 (ktA a z i):=uo (uo (bsg ha _) _ _) _ _
def lfF(n:Nat)(sh:Bool)(pub sec a:List Int)(i:Nat):List Int:=bjj n sh pub (ahx (ofA a 6) 5 i) sec
def ovF(n:Nat)(sh:Bool)(pub a:List Int)(z i:Nat)(t:List Int):List Int:=bjj n sh pub (ktA a z i) t
def kyF(n:Nat)(sh:Bool)(pub a tops:List Int):List Int:=bjj n sh pub (ofA a 4) tops
theorem bgu{n:Nat}(hn:n≤32)(sh:Bool)(pub sec a:List Int)(i:Nat):(lfF n sh pub sec a i).length=n:=ach hn _ _ _ _
theorem bxf(n:Nat)(sh:Bool)(pub sec a:List Int)(i:Nat):In 256 (lfF n sh pub sec a i):=afp _ _ _ _ _
theorem b2w{n:Nat}(hn:n≤32)(sh:Bool)(pub a t:List Int):(kyF n sh pub a t).length=n:=ach hn _ _ _ _
def fkW(n:Nat)(sh:Bool)(pub sec a:List Int):Nat→Nat→List Int
 | 0,i=>ovF n sh pub a 0 i (lfF n sh pub sec a i)
 | z+1,i=>ovF n sh pub a (z+1) i (fkW n sh pub sec a z (2*i)++fkW n sh pub sec a z (2*i+1))
theorem ar0{n:Nat}(hn:n≤32)(sh:Bool)(pub sec a:List Int):∀z i,(fkW n sh pub sec a z i).length=n
 | 0,i=>ach hn _ _ _ _
 | z+1,i=>ach hn _ _ _ _
theorem bpk(n:Nat)(sh:Bool)(pub sec a:List Int):∀z i,In 256 (fkW n sh pub sec a z i)
 | 0,i=>afp _ _ _ _ _
 | z+1,i=>afp _ _ _ _ _
theorem bq9{n:Nat}{H D A K:Int}(hf:aak n H D A K)(sh:Bool){sec pub a:List Int}(hp:In 256 pub)(np:pub.length=n)(la:a.length=32)(ha:In 256 a)(kind:Nat)(hk:kind<100){ρ:Type}(k:List Int→Option ρ):P.ny (n:Int) H D A K sh sec pub a (kind:Int) k=k (ofA a kind):=by
 rw[P.aqn];unfold P.aib
 rw[dz la 2 kind (by omega),wz _ ((ha.drop 20).take 4) (by simp;omega)]
 exact dz (jg la _ _) 3 _ (bec a) k
theorem bq8{n:Nat}{H D A K:Int}(hf:aak n H D A K)(sh:Bool){sec pub a:List Int}(hp:In 256 pub)(np:pub.length=n)(la:a.length=32)(ha:In 256 a)(z i:Nat)(hz:z<1000)(hi:i<18446744073709551616){ρ:Type}(k:List Int→Option ρ):P.wu (n:Int) H D A K sh sec pub a (z:Int) (i:Int) k=k (ktA a z i):=by
 rw[P.ake];unfold P.ad5
 rw[show P.ny (ρ:=ρ) (n:Int) H D A K sh sec pub a 3=P.ny (n:Int) H D A K sh sec pub a ((3:Nat):Int) from rfl,bq9 hf sh hp np la ha 3 (by omega),ad3 _ (by omega),dz (axr la _) 4 z (by omega),dz (jg (axr la _) _ _) 5 i hi]
 rfl
theorem bn7{n:Nat}{H D A K:Int}(hf:aak n H D A K)(sh:Bool){sec pub a:List Int}(hp:In 256 pub)(np:pub.length=n)(la:a.length=32)(ha:In 256 a)(hsec:In 256 sec)(lsec:sec.length=n)(i:Nat)(hi:i<18446744073709551616){ρ:Type}(k:List Int→Option ρ):P.l6 (n:Int) H D A K sh sec pub a (i:Int) k=k (lfF n sh pub sec a i):=by
 have hn:n≤32:=by unfold aak at hf;omega
 rw[P.ams];unfold P.af2
 rw[show P.ny (ρ:=ρ) (n:Int) H D A K sh sec pub a 6=P.ny (n:Int) H D A K sh sec pub a ((6:Nat):Int) from rfl,bq9 hf sh hp np la ha 6 (by omega),dz (axr la _) 5 i hi,P.bdb]
 unfold P.apw
 rw[dh (by omega),zk hf sh pub hp np _ _ (jg (axr la _) _ _) (uo (bsg ha _) _ _) hsec (by omega)]
 rfl
theorem atm{n:Nat}{H D A K:Int}(hf:aak n H D A K)(sh:Bool){sec pub a:List Int}(hp:In 256 pub)(np:pub.length=n)(la:a.length=32)(ha:In 256 a)(z i:Nat)(hz:z<1000)(hi:i<18446744073709551616)(l:List (List Int))(hl:l.length≤1000)(li:In 256 l.flatten)(lb:l.flatten.length≤90000){ρ:Type}(k:List Int→Option ρ):P.kr (n:Int) H D A K sh sec pub a (z:Int) (i:Int) l k=k (ovF n sh pub a z i l.flatten):=by
 rw[P.amo];unfold P.agb
 rw[bq8 hf sh hp np la ha z i hz hi,jc l (by omega) (by omega),zk hf sh pub hp np _ _ (bat la _ _) (blc ha _ _) li (by omega)]
 rfl
theorem bzk{n:Nat}{H D A K:Int}(hf:aak n H D A K)(sh:Bool){sec pub a:List Int}(hp:In 256 pub)(np:pub.length=n)(la:a.length=32)(ha:In 256 a)(t:List Int)(ht:In 256 t)(lt:t.length≤90000){ρ:Type}(k:List Int→Option ρ):P.qx (n:Int) H D A K sh sec pub a t k=k (kyF n sh pub a t):=by
 rw[P.aoo];unfold P.ahg
 rw[show P.ny (ρ:=ρ) (n:Int) H D A K sh sec pub a 4=P.ny (n:Int) H D A K sh sec pub a ((4:Nat):Int) from rfl,bq9 hf sh hp np la ha 4 (by omega),zk hf sh pub hp np _ _ (axr la _) (bsg ha _) ht lt]
 rfl
theorem ac9{n:Nat}{H D A K:Int}(hf:aak n H D A K){pub a:List Int}(hp:In 256 pub)(np:pub.length=n)(la:a.length=32)(ha:In 256 a){ρ:Type}(k:Int→Option ρ):P.ac9 a k=k (prn a:Int):=by
 rw[P.bgr];unfold P.at5
 exact wm _ ((ha.drop 20).take 4) (by simp;omega) k
theorem aac{n:Nat}{H D A K:Int}(hf:aak n H D A K){pub a:List Int}(hp:In 256 pub)(np:pub.length=n)(la:a.length=32)(ha:In 256 a)(kind z i:Nat)(hk:kind<100)(hz:z<1000)(hi:i<18446744073709551616){ρ:Type}(k:List Int→Option ρ):P.aac a (kind:Int) (z:Int) (i:Int) k=k (ahx (ahx (ofA a kind) 4 z) 5 i):=by
 rw[P.boe];unfold P.bab
 rw[jf la 2 kind (by omega),ac9 hf hp np la ha,jf (jg la _ _) 3 _ (bec a),ad3 _ (by omega),jf (jg (jg la _ _) _ _) 4 z (by omega),jf (jg (jg (jg la _ _) _ _) _ _) 5 i hi]
 rfl
theorem ada{n:Nat}{H D A K:Int}(hf:aak n H D A K)(sh:Bool){sec pub a:List Int}(hp:In 256 pub)(np:pub.length=n)(la:a.length=32)(ha:In 256 a)(hsec:In 256 sec)(lsec:sec.length=n)(i:Nat)(hi:i<18446744073709551616){ρ:Type}(k:List Int→Option ρ):P.ada (n:Int) H D A K sh sec pub a (i:Int) k=k (lfF n sh pub sec a i):=by
 have hn:n≤32:=by unfold aak at hf;omega
 rw[P.bh0];unfold P.atg
 rw[show P.aac (ρ:=ρ) a 6 0 (i:Int)=P.aac a ((6:Nat):Int) ((0:Nat):Int) (i:Int) from rfl,aac hf hp np la ha 6 0 i (by omega) (by omega) hi,b57 la,P.awu]
 unfold P.ami
 rw[dh (by omega),su hf sh pub hp np _ _ (jg (axr la _) _ _) (uo (bsg ha _) _ _) hsec (by omega)]
 rfl
theorem ak8{n:Nat}{H D A K:Int}(hf:aak n H D A K)(sh:Bool){pub a:List Int}(hp:In 256 pub)(np:pub.length=n)(la:a.length=32)(ha:In 256 a)(l:List (List Int))(hl:l.length≤1000)(li:In 256 l.flatten)(lb:l.flatten.length≤90000){ρ:Type}(k:List Int→Option ρ):P.ak8 (n:Int) H D A K sh l pub a k=k (kyF n sh pub a l.flatten):=by
 rw[P.bjz];unfold P.awv
 rw[show P.jf (ρ:=ρ) a 2 4=P.jf a 2 ((4:Nat):Int) from rfl,jf la 2 4 (by omega),ac9 hf hp np la ha,jf (jg la _ _) 3 _ (bec a),iy l (by omega) (by omega),su hf sh pub hp np _ _ (jg (jg la _ _) _ _) (uo (uo ha _ _) _ _) li (by omega)]
 rfl
end Q
end

section
/- A stack of what is joined two by two: as many entries as a number has ones. -/
namespace Q
open Go Go.Abs
def stk(N:Nat→Nat→List Int)(B:Nat):Nat→Nat→Nat→List (Nat×List Int)
 | 0,_,_=>[]
 | f+1,b,q=>if q=0 then [] else stk N B f (b+1) (q/2)++(if q%2=1 then [(b,N b (B/2^b+(q-1)))] else [])
theorem b0o(N:Nat→Nat→List Int)(B f b:Nat):stk N B f b 0=[]:=by cases f<;>simp[stk]
theorem bm8(N:Nat→Nat→List Int)(B f b q:Nat)(h:q%2=0):stk N B (f+1) b q=stk N B f (b+1) (q/2):=by
 by_cases h0:q=0
 ·subst h0
  rw[b0o,b0o]
 ·rw[stk,if_neg h0,if_neg (by omega),List.append_nil]
theorem bqw(N:Nat→Nat→List Int)(B f b q:Nat)(h:q%2=1):stk N B (f+1) b q=stk N B f (b+1) (q/2)++[(b,N b (B/2^b+(q-1)))]:=by
 rw[stk,if_neg (by omega),if_pos h]
theorem b2f(N:Nat→Nat→List Int)(B:Nat):∀f b q x,x∈stk N B f b q→b≤x.1
 | 0,b,q,x,h=>by simp[stk] at h
 | f+1,b,q,x,h=>by
  rw[stk] at h
  split at h
  ·cases h
  ·rcases List.mem_append.1 h with h | h
   ·have:=b2f N B f (b+1) _ x h;omega
   ·split at h
    ·simp at h;subst h;exact Aq _
    ·cases h
theorem blq(N:Nat→Nat→List Int)(B:Nat):∀f b q,(stk N B f b q).length≤f
 | 0,b,q=>by simp[stk]
 | f+1,b,q=>by
  rw[stk]
  have:=blq N B f (b+1) (q/2)
  split
  ·simp
  ·split<;>simp<;>omega
theorem bsc(N:Nat→Nat→List Int)(B:Nat):∀m f b,m<f→stk N B f b (2^m)=[(b+m,N (b+m) (B/2^(b+m)))]
 | 0,f+1,b,h=>by rw[Bb,bqw _ _ _ _ _ rfl,b0o];simp
 | m+1,f+1,b,h=>by
  rw[bm8 _ _ _ _ _ (by rw[Ar];omega),show 2^(m+1)/2=2^m by rw[Ar];omega,bsc N B m f (b+1) (by omega),show b+1+m=b+(m+1) by omega]
 | m,0,b,h=>by omega
theorem b7s(N:Nat→Nat→List Int)(B f b q:Nat)(h:q%2=1):stk N B (f+1) b (q+1)=stk N B f (b+1) (q/2+1):=by
 rw[bm8 _ _ _ _ _ (by omega),show (q+1)/2=q/2+1 by omega]
theorem b3g(N:Nat→Nat→List Int)(B f b q:Nat)(h:q%2=0):stk N B (f+1) b (q+1)=stk N B f (b+1) (q/2)++[(b,N b (B/2^b+q))]:=by
 rw[bqw _ _ _ _ _ (by omega),show (q+1)/2=q/2 by omega,Nat.add_sub_cancel]
end Q
end

section
/- fors: a by5 by a stack. -/
namespace Q
open QK
open Go Go.Abs
def hs(T:List (Nat×List Int)):List Int:=T.map fun x=>(x.1:Int)
def ns(T:List (Nat×List Int)):List (List Int):=T.map fun x=>x.2
theorem bs5(T:List (Nat×List Int)):(hs T).length=T.length:=by simp[hs]
theorem bxd(T:List (Nat×List Int)):(ns T).length=T.length:=by simp[ns]
theorem bwy(T U:List (Nat×List Int)):hs (T++U)=hs T++hs U:=by simp[hs]
theorem b2e(T U:List (Nat×List Int)):ns (T++U)=ns T++ns U:=by simp[ns]
theorem bxy{α:Type}(l:List α)(d:α){m:Nat}(h:l.length=m):bu7 m l d=l:=by
 subst h
 simp[bu7]
theorem bha{α:Type}(l:List α)(x d:α){m:Nat}(h:l.length=m):(l++[x]).getD m d=x:=by
 subst h
 simp[Af]
theorem b3c{n:Nat}{H D A K:Int}(hf:aak n H D A K)(sh:Bool){sec pub a:List Int}(hsec:In 256 sec)(lsec:sec.length=n)(hp:In 256 pub)(np:pub.length=n)(la:a.length=32)(ha:In 256 a)(z i m:Nat)(hz:z≤14)(hb:(i+1)*2^z≤9223372036854775808)(hm:m<2^z){ρ:Type}(r:Option ρ)
    (k0:Int→Int→Int→Int→Nat→(List Int)→(List (List Int))→Int→Int→Int→Int→Int→Bool→(List Int)→(List Int)→(List Int)→Int→(List Int)→Option ρ)
    (hk:∀(T:List (Nat×List Int)) (b:Nat) (y:List Int),T++[(b,y)]=stk (fkW n sh pub sec a) (i*2^z) 64 0 (m+1)→k0 (z:Int) (i:Int) ((i*2^z+m:Nat):Int) (T.length:Int) T.length (hs T) (ns T) n H D A K sh sec pub a (b:Int) y=r) :
    P.ahh (z:Int) (i:Int) ((i*2^z+m:Nat):Int) ((stk (fkW n sh pub sec a) (i*2^z) 64 0 m).length:Int) (stk (fkW n sh pub sec a) (i*2^z) 64 0 m).length (hs (stk (fkW n sh pub sec a) (i*2^z) 64 0 m)) (ns (stk (fkW n sh pub sec a) (i*2^z) 64 0 m)) n H D A K sh sec pub a 0 (fkW n sh pub sec a 0 (i*2^z+m)) k0=r:=by
 have hn:n≤32:=by unfold aak at hf;omega
 have e1:(i+1)*2^z=i*2^z+2^z:=by rw[Bu,Bd]
 rw[P.as3];unfold P.amv P.ca3 P.cc5 P.cmt
 refine b94 (P:=fun x=>∃f b q,f+b=64∧stk (fkW n sh pub sec a) (i*2^z) 64 0 (m+1)=stk (fkW n sh pub sec a) (i*2^z) f b (q+1)∧(i*2^z+m)/2^b=i*2^z/2^b+q∧(q+1)*2^b≤2^z ∧
     x=((z:Int),(i:Int),((i*2^z+m:Nat):Int),((stk (fkW n sh pub sec a) (i*2^z) f b q).length:Int),(stk (fkW n sh pub sec a) (i*2^z) f b q).length,hs (stk (fkW n sh pub sec a) (i*2^z) f b q),ns (stk (fkW n sh pub sec a) (i*2^z) f b q),(n:Int),H,D,A,K,sh,sec,pub,a,(b:Int),fkW n sh pub sec a b (i*2^z/2^b+q)))
  (μ:=fun x=>x.2.2.2.2.1) ?_ ⟨64,0,m,rfl,rfl,by rw[Bb,Nat.div_one,Nat.div_one],by omega,by rw[Bb,Nat.div_one];rfl⟩ (by have:=blq (fkW n sh pub sec a) (i*2^z) 64 0 m;simp only;omega)
 rintro _ ⟨f,b,q,hfb,hst,hdv,hle,rfl⟩ next hnx
 have hbz:b≤z:=by
  have h1:2^b≤(q+1)*2^b:=Nat.le_mul_of_pos_left _ (by omega)
  exact (Bp (by omega)).1 (Nat.le_trans h1 hle)
 obtain ⟨f,rfl⟩:∃g,f=g+1:=⟨f-1,by omega⟩
 have hlen:=blq (fkW n sh pub sec a) (i*2^z) f (b+1) (q/2)
 by_cases hq:q%2=1
 ·-- two of one height
  have hb1:b+1≤z:=by
   have h1:2^(b+1)≤(q+1)*2^b:=by rw[Ar,Au];exact Aa (by omega) (Aq _)
   exact (Bp (by omega)).1 (Nat.le_trans h1 hle)
  have hev:i*2^z/2^b=2*(i*2^z/2^(b+1)):=by
   have e2:i*2^z=i*2^(z-(b+1))*2^(b+1):=by rw[Ca,←Bw,Bf hb1]
   have e3:i*2^z=2*(i*2^(z-(b+1)))*2^b:=by rw[e2,Ar];ac_rfl
   rw[e2,Bh _ (Ao _),←e2,e3,Bh _ (Ao _)]
  have hidx:(i*2^z+m)/2^(b+1)=i*2^z/2^(b+1)+q/2:=by
   rw[Ar,←Bz,hdv,hev]
   rw[Ar];omega
  have hsm:=Aj (i*2^z+m) (2^(b+1))
  have hT:=bqw (fkW n sh pub sec a) (i*2^z) f b q hq
  generalize hS:stk (fkW n sh pub sec a) (i*2^z) f (b+1) (q/2)=T0 at hT hlen
  have hl1:(stk (fkW n sh pub sec a) (i*2^z) (f+1) b q).length=T0.length+1:=by rw[hT];simp
  have hhs:hs (stk (fkW n sh pub sec a) (i*2^z) (f+1) b q)=hs T0++[(b:Int)]:=by rw[hT,bwy];rfl
  have hns:ns (stk (fkW n sh pub sec a) (i*2^z) (f+1) b q)=ns T0++[fkW n sh pub sec a b (i*2^z/2^b+(q-1))]:=by rw[hT,b2e];rfl
  simp only[P.agu,hl1,hhs,hns]
  rw[show ((T0.length+1:Nat):Int)-1=(T0.length:Int) by omega,l7 (x:=(T0.length:Int)) (by omega) (by omega),toNat_cast,bha _ _ _ (bs5 T0),bha _ _ _ (bxd T0),show (b:Int)+1=((b+1:Nat):Int) by omega,l7 (x:=((b+1:Nat):Int)) (by omega) (by omega),toNat_cast,fdiv_pow _ _ _ (by omega),hidx]
  rw[bf (by omega),bf (by omega),bf (by omega),eu rfl,bn (by omega),bf (by omega),bf (by omega)]
  have hfl:[fkW n sh pub sec a b (i*2^z/2^b+(q-1)),fkW n sh pub sec a b (i*2^z/2^b+q)].flatten=fkW n sh pub sec a b (2*(i*2^z/2^(b+1)+q/2))++fkW n sh pub sec a b (2*(i*2^z/2^(b+1)+q/2)+1):=by
   rw[hev,show 2*(i*2^z/2^(b+1))+(q-1)=2*(i*2^z/2^(b+1)+q/2) by omega,show 2*(i*2^z/2^(b+1))+q=2*(i*2^z/2^(b+1)+q/2)+1 by omega]
   simp
  rw[atm hf sh hp np la ha (b+1) _ (by omega) (by omega) _ (by simp) (by rw[hfl];exact (bpk _ _ _ _ _ _ _).app (bpk _ _ _ _ _ _ _)) (by rw[hfl,Ab,ar0 hn,ar0 hn];omega),hfl,bf (by omega),bf (by omega),Nat.min_eq_left (by omega),Bc (bs5 T0),Bc (bxd T0)]
  refine hnx _ ⟨f,b+1,q/2,by omega,by rw[hst,b7s _ _ _ _ _ hq],hidx,?_,?_⟩ (by simp only[hl1];omega)
  ·have:(q/2+1)*2^(b+1)=(2*(q/2)+2)*2^b:=by rw[Ar,Au (2^b) 2,←Ca];congr 1;omega
   rw[this,show 2*(q/2)+2=q+1 by omega]
   exact hle
  ·rw[hS]
   rfl
 ·-- nothing of this height
  have hT:=bm8 (fkW n sh pub sec a) (i*2^z) f b q (by omega)
  have hP:=b3g (fkW n sh pub sec a) (i*2^z) f b q (by omega)
  have hge:=b2f (fkW n sh pub sec a) (i*2^z) f (b+1) (q/2)
  rw[hT]
  generalize hS:stk (fkW n sh pub sec a) (i*2^z) f (b+1) (q/2)=T0 at hP hge hlen
  have hfin:=hk T0 b (fkW n sh pub sec a b (i*2^z/2^b+q)) (by rw[hst,hP])
  simp only[P.agu]
  by_cases h0:T0.length=0
  ·rw[bn (by omega)]
   exact hfin
  ·have hlast:∃T1 x,T0=T1++[x]:=by
     have hne:T0≠[]:=by intro e;rw[e] at h0;exact h0 rfl
     exact ⟨T0.dropLast,T0.getLast hne,(List.dropLast_concat_getLast hne).symm⟩
   obtain ⟨T1,x,rfl⟩:=hlast
   have hx:=hge x (by simp)
   have hl1:(T1++[x]).length=T1.length+1:=by simp
   have hlk:(hs (T1++[x])).getD T1.length 0=(x.1:Int):=by rw[bwy];exact bha _ _ _ (bs5 T1)
   rw[hl1] at hfin ⊢
   rw[show ((T1.length+1:Nat):Int)-1=(T1.length:Int) by omega,l7 (x:=(T1.length:Int)) (by omega) (by omega),toNat_cast,hlk,bf (by omega),bf (by omega),bf (by omega),gq (by omega)]
   exact hfin
theorem bxx{n:Nat}{H D A K:Int}(hf:aak n H D A K)(sh:Bool){sec pub a:List Int}(hsec:In 256 sec)(lsec:sec.length=n)(hp:In 256 pub)(np:pub.length=n)(la:a.length=32)(ha:In 256 a)(z i:Nat)(hz:z≤14)(hb:(i+1)*2^z≤9223372036854775808){ρ:Type}(k:List Int→Option ρ):P.pz (n:Int) H D A K sh sec pub a (z:Int) (i:Int) k=k (fkW n sh pub sec a z i):=by
 have hn:n≤32:=by unfold aak at hf;omega
 have e1:(i+1)*2^z=i*2^z+2^z:=by rw[Bu,Bd]
 have h1:1≤2^z:=Ao z
 have h2:i+1≤(i+1)*2^z:=Br _ h1
 rw[P.amr];unfold P.af9
 rw[bn (by omega),toNat_cast,aqu i z (by omega) (by omega),P.ath];unfold P.amx P.ccz P.cde P.clu
 refine u7 (fun j=>((z:Int),(i:Int),((i*2^z+j:Nat):Int),(stk (fkW n sh pub sec a) (i*2^z) 64 0 j).length,hs (stk (fkW n sh pub sec a) (i*2^z) 64 0 j),ns (stk (fkW n sh pub sec a) (i*2^z) 64 0 j),(n:Int),H,D,A,K,sh,sec,pub,a)) (2^z) (by rw[b0o];rfl) (fun j hj next hnx=>?_) (fun next=>?_) (by have:2^z≤2^14:=Ac (by omega) hz;omega)
 ·simp only[P.ahm,toNat_cast]
  rw[bn (by omega),show (i:Int)+1=((i+1:Nat):Int) by omega,ad3 (i+1) (by omega),aqu (i+1) z (by omega) (by omega),bf (by omega),bn7 hf sh hp np la ha hsec lsec _ (by omega)]
  have hfl:[lfF n sh pub sec a (i*2^z+j)].flatten=lfF n sh pub sec a (i*2^z+j):=by simp
  rw[show ∀(x:Int) (l:List (List Int)) (kk:List Int→Option ρ),P.kr (n:Int) H D A K sh sec pub a 0 x l kk=P.kr (n:Int) H D A K sh sec pub a ((0:Nat):Int) x l kk from fun _ _ _=>rfl,
   atm hf sh hp np la ha 0 _ (by omega) (by omega) _ (by simp) (by rw[hfl];exact bxf _ _ _ _ _ _) (by rw[hfl,bgu hn];omega),hfl]
  refine b3c hf sh hsec lsec hp np la ha z i j hz hb hj _ _ (fun T b y hT=>?_)
  have hl:=blq (fkW n sh pub sec a) (i*2^z) 64 0 (j+1)
  rw[←hT] at hl
  have hl1:(T++[(b,y)]).length=T.length+1:=by simp
  rw[bf (by omega),bxy _ _ (bs5 T),bxy _ _ (bxd T),show ((i*2^z+j:Nat):Int)+1=((i*2^z+(j+1):Nat):Int) by omega,ad3 _ (by omega)]
  rw[←hT,hl1,bwy,b2e] at hnx
  exact hnx
 ·simp only[P.ahm,toNat_cast]
  rw[bn (by omega),show (i:Int)+1=((i+1:Nat):Int) by omega,ad3 (i+1) (by omega),aqu (i+1) z (by omega) (by omega),bn (by omega),bsc _ _ _ _ _ (by omega),Nat.zero_add,Bh _ h1,bf (by simp)]
  rfl
end Q
end
