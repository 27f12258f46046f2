/-
  SlhMakes, part 27: an interpreter of my own over abstract values, the pure functions, the walks and the plain law.
-/

import Derived.Test.YtciddcopcdmnbaaGreatDoorSlhMakesZ
import Derived.Test.YtciddcopcdmnbaaGreatDoorSlhMakesL
import Derived.Test.YtciddcopcdmnbaaGreatDoorSlhMakesM
import Derived.Test.YtciddcopcdmnbaaGreatDoorSlhMakesK
import Derived.Test.YtciddcopcdmnbaaGreatDoorSlhMakesY
import Derived.Test.YtciddcopcdmnbaaGreatDoorSlhMakesI
open Nat renaming mul_le_mul → Aa, pow_le_pow_right → Ac, le_refl → Ah, two_pow_pos → Al, succ_mul → Ap, div_le_self → Ar, mul_comm → Au, one_mul → Aw, add_mul → Ay, le_mul_of_pos_right → Az
open Go.IntKind renaming i64 → Ab, u64 → Ak
open List renaming length_append → Ad, getD_eq_getElem?_getD → Ae, length_drop → Ag, length_take → Ai, range → Aj, take_length → Ao, drop_zero → Aq, drop_drop → Av
open Int renaming natCast_mul → Af, tdiv_eq_ediv_of_nonneg → Am

section
/- wots: chains, keys, signatures, by the program. -/
namespace Q
open QK
open Go Go.Abs
set_option linter.unusedVariables false
set_option linter.unusedSimpArgs false
def chn(n:Nat)(sh:Bool)(pub a:List Int)(f:Nat):Nat→List Int→List Int
 | 0,y=>y
 | m+1,y=>be2 n sh pub (anb a 5 (f+m)) (chn n sh pub a f m y)
theorem bf5{n:Nat}(hn:n≤32)(sh:Bool)(pub a:List Int)(f:Nat)(y:List Int)(hy:y.length=n):∀m,(chn n sh pub a f m y).length=n
 | 0=>hy
 | m+1=>ahe hn sh pub _ _
theorem bmb(n:Nat)(sh:Bool)(pub a:List Int)(f:Nat)(y:List Int)(hy:In 256 y):∀m,In 256 (chn n sh pub a f m y)
 | 0=>hy
 | m+1=>alb n sh pub _ _
theorem along{n:Nat}{sh:Bool}{pub:List Int}{tg:Nat}{cK:Int}{cW:List Int}{cA:Int}{cO:Bool}{c1 dK:Int}{dW dT:List Int}{dS d1 eK:Int}{eW eT:List Int}{eS:Int}(hs:Sg n sh pub tg cK cW cA cO c1 dK dW dT dS d1 eK eW eT eS)(hn:n≤32)(hp:In 256 pub)(np:pub.length≤64){a y:List Int}(la:a.length=32)(ha:In 256 a)(hy:In 256 y)(ly:y.length=n)(H D A K:Int)(f m:Nat)(hm:f+m<4294967295){ρ:Type}(k:List Int→Option ρ) :
    P.oq (n:Int) H D A K sh tg cK cW cA cO c1 dK dW dT dS d1 eK eW eT eS a y (f:Int) ((f+m:Nat):Int) k=k (chn n sh pub a f m y):=by
 rw[P.aiq];unfold P.adw
 rw[P.am6];unfold P.aio P.b4n P.b0t P.b86
 refine yu (fun i=>(chn n sh pub a f i y,((f+m:Nat):Int),((f+i:Nat):Int),(n:Int),H,D,A,K,sh,tg,cK,cW,cA,cO,c1,dK,dW,dT,dS,d1,eK,eW,eT,eS,a)) m rfl (fun i hi next hnx=>?_) (fun next=>?_) (by omega)
 ·have hl:=bf5 hn sh pub a f y ly i
  simp only[P.aeh]
  rw[bg (by omega),ah1 _ (by omega),gy la 5 _ (by omega),show ((f+i:Nat):Int)+1=((f+(i+1):Nat):Int) by omega,bt8 _ (by omega)]
  exact (call hs hn hp np (jm la 5 (f+i)) (wm ha 5 (f+i)) (bmb n sh pub a f y hy i) (by omega) _).trans hnx
 ·simp only[P.aeh]
  rw[dh (by omega)]
def prn(a:List Int):Nat:=T 8 ((a.drop 20).take 4).reverse%2^64
theorem bil(a:List Int):prn a<18446744073709551616:=Nat.mod_lt _ (by decide)
theorem wh{a:List Int}(ha:In 256 a){ρ:Type}(k:Int→Option ρ):P.wh a 3 k=k (prn a:Int):=by
 rw[P.aq0];unfold P.aj1
 rw[show Ab.wrap ((8:Int)+Ab.wrap ((4:Int)*3))=20 from rfl,show Ab.wrap ((12:Int)+Ab.wrap ((4:Int)*3))=24 from rfl,bg (by omega),bg (by omega),bg (by omega)]
 exact uz _ ((ha.drop 20).take 4) (by simp;omega) k
def fsW(n:Nat)(sh:Bool)(pub sec a:List Int)(i:Nat):List Int:=be2 n sh pub (anb (anb (anb a 2 5) 3 (prn a)) 4 i) sec
theorem bqo{n:Nat}(hn:n≤32)(sh:Bool)(pub sec a:List Int)(i:Nat):(fsW n sh pub sec a i).length=n:=ahe hn sh pub _ _
theorem btd(n:Nat)(sh:Bool)(pub sec a:List Int)(i:Nat):In 256 (fsW n sh pub sec a i):=alb n sh pub _ _
theorem first'{n:Nat}{sh:Bool}{pub:List Int}{tg:Nat}{cK:Int}{cW:List Int}{cA:Int}{cO:Bool}{c1 dK:Int}{dW dT:List Int}{dS d1 eK:Int}{eW eT:List Int}{eS:Int}(hs:Sg n sh pub tg cK cW cA cO c1 dK dW dT dS d1 eK eW eT eS)(hn:n≤32)(hp:In 256 pub)(np:pub.length≤64){a y:List Int}(la:a.length=32)(ha:In 256 a)(hy:In 256 y)(ly:y.length≤1000)(H D A K:Int)(i:Nat)(hi:i<1000){ρ:Type}(k:List Int→Option ρ) :
    P.uq (n:Int) H D A K sh tg cK cW cA cO c1 dK dW dT dS d1 eK eW eT eS y a (i:Int) k=k (fsW n sh pub y a i):=by
 rw[P.aip];unfold P.adr
 rw[show (5:Int)=((5:Nat):Int) from rfl,gy la 2 5 (by omega),wh ha,gy (jm la _ _) 3 _ (bil a),ah1 _ (by omega),gy (jm (jm la _ _) _ _) 4 _ (by omega)]
 exact call hs hn hp np (jm (jm (jm la _ _) _ _) _ _) (wm (wm (wm ha _ _) _ _) _ _) hy (by omega) k
def kyW(n:Nat)(sh:Bool)(pub a ends:List Int):List Int:=be2 n sh pub (anb (anb a 2 1) 3 (prn a)) ends
theorem key'{n:Nat}{sh:Bool}{pub:List Int}{tg:Nat}{cK:Int}{cW:List Int}{cA:Int}{cO:Bool}{c1 dK:Int}{dW dT:List Int}{dS d1 eK:Int}{eW eT:List Int}{eS:Int}(hs:Sg n sh pub tg cK cW cA cO c1 dK dW dT dS d1 eK eW eT eS)(hn:n≤32)(hp:In 256 pub)(np:pub.length≤64){a y:List Int}(la:a.length=32)(ha:In 256 a)(hy:In 256 y)(ly:y.length≤90000)(H D A K:Int){ρ:Type}(k:List Int→Option ρ) :
    P.qp (n:Int) H D A K sh tg cK cW cA cO c1 dK dW dT dS d1 eK eW eT eS y a k=k (kyW n sh pub a y):=by
 rw[P.akm];unfold P.ae0
 rw[show P.gy (ρ:=ρ) a 2 1=P.gy a 2 ((1:Nat):Int) from rfl,gy la 2 1 (by omega),wh ha,gy (jm la _ _) 3 _ (bil a)]
 exact call hs hn hp np (jm (jm la _ _) _ _) (wm (wm ha _ _) _ _) hy (by omega) k
theorem count'{n:Nat}(hn:n≤32)(H D A K:Int)(sh:Bool)(tg:Nat)(cK:Int)(cW:List Int)(cA:Int)(cO:Bool)(c1 dK:Int)(dW dT:List Int)(dS d1 eK:Int)(eW eT:List Int)(eS:Int){ρ:Type}(k:Int→Option ρ) :
    P.ou (n:Int) H D A K sh tg cK cW cA cO c1 dK dW dT dS d1 eK eW eT eS k=k ((2*n+3:Nat):Int):=by
 rw[P.aij];unfold P.ac8
 rw[qc (x:=(2:Int)*(n:Int)) (by omega) (by omega),qc (by omega) (by omega)]
 congr 1
def btu(n:Nat)(sh:Bool)(pub sec a:List Int)(i:Nat):List Int:=chn n sh pub (anb a 4 i) 0 15 (fsW n sh pub sec a i)
theorem bl2{n:Nat}(hn:n≤32)(sh:Bool)(pub sec a:List Int)(i:Nat):(btu n sh pub sec a i).length=n:=bf5 hn sh pub _ 0 _ (ahe hn sh pub _ _) 15
theorem bpt(n:Nat)(sh:Bool)(pub sec a:List Int)(i:Nat):In 256 (btu n sh pub sec a i):=bmb n sh pub _ 0 _ (alb n sh pub _ _) 15
theorem bqt{n:Nat}(hn:n≤32)(T:Nat→List Int)(hT:∀i,(T i).length=n)(j:Nat)(hj:j≤2*n+3):(cat T j).length≤2200:=by
 rw[bev hT]
 have:=Aa (show j≤67 by omega) hn
 omega
theorem aah{n:Nat}{H D A K:Int}(hf:abv n H D A K)(sh:Bool)(sec pub a:List Int)(hsec:In 256 sec)(lsec:sec.length=n)(hp:In 256 pub)(np:pub.length=n)(la:a.length=32)(ha:In 256 a){ρ:Type}(k:List Int→Option ρ) :
    P.aah n H D A K sh sec pub a k=k (kyW n sh pub a (cat (btu n sh pub sec a) (2*n+3))):=by
 have hn:n≤32:=by unfold abv at hf;omega
 obtain ⟨tg,cK,cW,cA,cO,c1,dK,dW,dT,dS,d1,eK,eW,eT,eS,hs,hb⟩:=bf1 hf sh pub hp np
 have hT:=bl2 hn sh pub sec a
 rw[P.aq7];unfold P.aji
 rw[hb,jo,p9,eu (by omega),count' hn,P.ave];unfold P.aqo P.b3v P.b1o P.cch
 refine yu (fun i=>(sec,((2*n+3:Nat):Int),(i:Int),cat (btu n sh pub sec a) i,a,(n:Int),H,D,A,K,sh,tg,cK,cW,cA,cO,c1,dK,dW,dT,dS,d1,eK,eW,eT,eS)) (2*n+3) rfl (fun i hi next hnx=>?_) (fun next=>?_) (by omega)
 ·have hb1:=bqt hn _ hT i (by omega)
  simp only[P.alm]
  rw[bg (by omega),ah1 _ (by omega),gy la 4 _ (by omega),first' hs hn hp (by omega) la ha hsec (by omega) H D A K i (by omega),show (15:Int)=((0+15:Nat):Int) from rfl,show (0:Int)=((0:Nat):Int) from rfl,
   along hs hn hp (by omega) (jm la 4 i) (wm ha 4 i) (btd n sh pub sec a i) (bqo hn sh pub sec a i) H D A K 0 15 (by omega)]
  have e:=hT i
  unfold btu at e
  rw[bg (by omega),qc (by omega) (by omega)]
  exact hnx
 ·simp only[P.alm]
  rw[dh (by omega),key' hs hn hp (by omega) la ha (bhg (bpt n sh pub sec a) _) (by have:=bqt hn _ hT (2*n+3) (by omega);omega)]
theorem gd_l{l r:List Int}{d:Int}{i:Nat}(h:i<l.length):(l++r).getD i d=l.getD i d:=by
 rw[Ae,Ae,List.getElem?_append_left h]
theorem gd_r{l r:List Int}{d:Int}{i:Nat}(h:l.length≤i):(l++r).getD i d=r.getD (i-l.length) d:=by
 rw[Ae,Ae,List.getElem?_append_right h]
theorem wdn{n:Nat}(hn:N3 n)(x:List Int)(hl:x.length=n)(i:Nat):∃d:Nat,(wd n x).getD i 0=(d:Int)∧d≤15:=by
 by_cases h:i<2*n
 ·obtain ⟨d,hd,hd2⟩:=bpc (w:=4) (bwn n x) i
  refine ⟨d,?_,by omega⟩
  unfold wd
  rw[gd_l (by rw[avd n x hl];omega),hd]
 ·have h9:=b0r hn x
  have hr:(wd n x).getD i 0=[((wl n x/2^8:Nat):Int),((wl n x/2^4%2^4:Nat):Int),((wl n x%2^4:Nat):Int)].getD (i-2*n) 0:=by
   unfold wd
   rw[gd_r (by rw[avd n x hl];omega),avd n x hl]
  rw[hr]
  match i-2*n with
  | 0=>exact ⟨_,rfl,by omega⟩
  | 1=>exact ⟨_,rfl,by omega⟩
  | 2=>exact ⟨_,rfl,by omega⟩
  | q+3=>exact ⟨0,rfl,by omega⟩
def dgt(n:Nat)(x:List Int)(i:Nat):Nat:=((wd n x).getD i 0).toNat
theorem byc{n:Nat}(hn:N3 n)(x:List Int)(hl:x.length=n)(i:Nat):(wd n x).getD i 0=((dgt n x i:Nat):Int)∧dgt n x i≤15:=by
 obtain ⟨d,h1,h2⟩:=wdn hn x hl i
 unfold dgt
 rw[h1]
 exact ⟨rfl,h2⟩
theorem b2m{n:Nat}{H D A K:Int}(hf:abv n H D A K):N3 n:=by unfold abv at hf;unfold N3;omega
def bo6(n:Nat)(sh:Bool)(sig pub a t:List Int)(i:Nat):List Int:=chn n sh pub (anb a 4 i) (dgt n t i) (15-dgt n t i) ((sig.drop (i*n)).take n)
theorem vk{n:Nat}{H D A K:Int}(hf:abv n H D A K)(sh:Bool)(sig t pub a:List Int)(hsig:In 256 sig)(lsig:sig.length=(2*n+3)*n)(ht:In 256 t)(lt:t.length=n)(hp:In 256 pub)(np:pub.length=n)(la:a.length=32)(ha:In 256 a){ρ:Type}(k:List Int→Option ρ) :
    P.vk n H D A K sh sig t pub a k=k (kyW n sh pub a (cat (bo6 n sh sig pub a t) (2*n+3))):=by
 have hn:n≤32:=by unfold abv at hf;omega
 have hn3:=b2m hf
 have hdl:=bxk n t lt
 obtain ⟨tg,cK,cW,cA,cO,c1,dK,dW,dT,dS,d1,eK,eW,eT,eS,hs,hb⟩:=bf1 hf sh pub hp np
 have hlen:∀i,i<2*n+3→i*n+n≤sig.length:=fun i hi=>by
  rw[lsig,←Ap]
  exact Aa (by omega) (Ah _)
 have hT:∀i,i<2*n+3→(bo6 n sh sig pub a t i).length=n:=fun i hi=>bf5 hn sh pub _ _ _ (by have:=hlen i hi;rw[Ai,Ag];omega) _
 have hTi:∀i,In 256 (bo6 n sh sig pub a t i):=fun i=>bmb n sh pub _ _ _ ((hsig.drop _).take _) _
 have hcl:∀i,i≤2*n+3→(cat (bo6 n sh sig pub a t) i).length=i*n:=by
  intro i
  induction i with
  | zero=>intro _;simp[cat]
  | succ i ih=>intro hi;rw[cat,Ad,ih (by omega),hT i (by omega),Ap]
 have hbd:∀i,i≤2*n+3→(cat (bo6 n sh sig pub a t) i).length≤2200:=fun i hi=>by
  rw[hcl i hi]
  have:=Aa (show i≤67 by omega) hn
  omega
 have hmul:(2*n+3)*n≤67*32:=Aa (by omega) hn
 have hc:(n:Int)*((2*n+3:Nat):Int)=(((2*n+3)*n:Nat):Int):=by rw[Af,Int.mul_comm]
 rw[P.alr];unfold P.af4
 rw[hb,jo,p9,eu (by omega),count' hn,hc,qc (by omega) (by omega),eu (by rw[lsig]),aaf hn3 t ht lt,hdl,P.aqh];unfold P.aly P.b4x P.b08 P.cbh
 refine yu (fun i=>(sig.drop (i*n),((2*n+3:Nat):Int),(i:Int),cat (bo6 n sh sig pub a t) i,(n:Int),H,D,A,K,sh,a,(n:Int),H,D,A,K,sh,tg,cK,cW,cA,cO,c1,dK,dW,dT,dS,d1,eK,eW,eT,eS,wd n t)) (2*n+3) (by simp[cat]) (fun i hi next hnx=>?_) (fun next=>?_) (by omega)
 ·have hb1:=hbd i (by omega)
  have hl1:=hlen i hi
  obtain ⟨e1,e2⟩:=byc hn3 t lt i
  have ld:(sig.drop (i*n)).length=sig.length-i*n:=Ag
  simp only[P.ag6,toNat_cast]
  rw[bg (by omega),bg (by omega),bg (by omega),ah1 _ (by omega),gy la 4 _ (by omega),bg (by omega),bg (by omega),Aq,e1,show (15:Int)=((dgt n t i+(15-dgt n t i):Nat):Int) by omega,
   along hs hn hp (by omega) (jm la 4 i) (wm ha 4 i) ((hsig.drop _).take _) (by rw[Ai];omega) H D A K _ _ (by omega)]
  have e:=hT i hi
  unfold bo6 at e
  rw[bg (by omega),bg (by omega),bg (by omega),bg (by omega),qc (by omega) (by omega),Ao,Av]
  rw[Ap] at hnx
  exact hnx
 ·simp only[P.ag6]
  rw[dh (by omega),key' hs hn hp (by omega) la ha (bhg hTi _) (by have:=hbd (2*n+3) (by omega);omega)]
end Q
end

section
/- wots: keys, signatures, candidates, by the document. -/
namespace Q
open QK
open Go Go.Abs
set_option linter.unusedVariables false
set_option linter.unusedSimpArgs false
theorem ayb(T:Nat→List Int):∀m,((Aj m).map T).flatten=cat T m
 | 0=>rfl
 | m+1=>by rw[List.range_succ,List.map_append,List.flatten_append,ayb T m];simp[cat]
theorem ab6{a:List Int}(ha:In 256 a){ρ:Type}(k:Int→Option ρ):P.ab6 a k=k (prn a:Int):=by
 rw[P.ayl];unfold P.ao2
 exact aek _ ((ha.drop 20).take 4) (by simp;omega) k
theorem adl{n:Nat}{H D A K:Int}(hf:abv n H D A K)(sh:Bool){pub:List Int}(hp:In 256 pub)(np:pub.length=n){a y:List Int}(la:a.length=32)(ha:In 256 a)(hy:In 256 y)(ly:y.length=n)(f m:Nat)(hm:f+m<4294967295){ρ:Type}(k:List Int→Option ρ) :
    P.adl (n:Int) H D A K sh y (f:Int) ((f+m:Nat):Int) pub a k=k (chn n sh pub a f m y):=by
 have hn:n≤32:=by unfold abv at hf;omega
 rw[P.aww];unfold P.amo
 rw[P.az7];unfold P.axb P.b38 P.byj P.b93
 refine yu (fun i=>(chn n sh pub a f i y,((f+m:Nat):Int),pub,((f+i:Nat):Int),(n:Int),H,D,A,K,sh,a)) m rfl (fun i hi next hnx=>?_) (fun next=>?_) (by omega)
 ·have hl:=bf5 hn sh pub a f y ly i
  simp only[P.ape]
  rw[bg (by omega),ah1 _ (by omega),j5 la 5 _ (by omega),aai hf sh pub hp np _ _ (jm la 5 (f+i)) (wm ha 5 (f+i)) (bmb n sh pub a f y hy i) (by omega),show ((f+i:Nat):Int)+1=((f+(i+1):Nat):Int) by omega,bt8 _ (by omega)]
  exact hnx
 ·simp only[P.ape]
  rw[dh (by omega)]
theorem acy{n:Nat}{H D A K:Int}(hf:abv n H D A K)(sh:Bool){sec pub a:List Int}(hsec:In 256 sec)(lsec:sec.length=n)(hp:In 256 pub)(np:pub.length=n)(la:a.length=32)(ha:In 256 a)(i:Nat)(hi:i<1000){ρ:Type}(k:List Int→Option ρ) :
    P.acy (n:Int) H D A K sh sec pub a (i:Int) k=k (fsW n sh pub sec a i):=by
 have hn:n≤32:=by unfold abv at hf;omega
 rw[P.aw4];unfold P.am4
 rw[show P.j5 (ρ:=ρ) a 2 5=P.j5 a 2 ((5:Nat):Int) from rfl,j5 la 2 5 (by omega),ab6 ha,j5 (jm la _ _) 3 _ (bil a),ah1 _ (by omega),j5 (jm (jm la _ _) _ _) 4 _ (by omega),P.azd]
 unfold P.aov
 rw[eu (by omega),aai hf sh pub hp np _ _ (jm (jm (jm la _ _) _ _) _ _) (wm (wm (wm ha _ _) _ _) _ _) hsec (by omega)]
 rfl
theorem aj7{n:Nat}{H D A K:Int}(hf:abv n H D A K)(sh:Bool){pub a:List Int}(hp:In 256 pub)(np:pub.length=n)(la:a.length=32)(ha:In 256 a)(l:List (List Int))(hl:l.length≤1000)(hi:In 256 l.flatten)(hb:l.flatten.length≤90000){ρ:Type}(k:List Int→Option ρ) :
    P.aj7 (n:Int) H D A K sh l pub a k=k (kyW n sh pub a l.flatten):=by
 rw[P.bb5];unfold P.as1
 rw[show P.j5 (ρ:=ρ) a 2 1=P.j5 a 2 ((1:Nat):Int) from rfl,j5 la 2 1 (by omega),ab6 ha,j5 (jm la _ _) 3 _ (bil a),oh l (by omega) (by omega),aai hf sh pub hp np _ _ (jm (jm la _ _) _ _) (wm (wm ha _ _) _ _) hi (by omega)]
 rfl
theorem adu{n:Nat}{H D A K:Int}(hf:abv n H D A K)(sh:Bool){sec pub:List Int}(lsec:sec.length=n)(np:pub.length=n){ρ:Type}(k:Bool→Option ρ):P.adu (n:Int) H D A K sh sec pub k=k false:=by
 rw[P.axd];unfold P.ang
 rw[om,decide_eq_true hf,jo,p9,eu (by omega)]
 congr 1
 rw[np]
 simp
theorem abu{n:Nat}{H D A K:Int}(hf:abv n H D A K)(sh:Bool)(sec pub a:List Int)(hsec:In 256 sec)(lsec:sec.length=n)(hp:In 256 pub)(np:pub.length=n)(la:a.length=32)(ha:In 256 a){ρ:Type}(k:List Int→Option ρ) :
    P.abu n H D A K sh sec pub a k=k (kyW n sh pub a (cat (btu n sh pub sec a) (2*n+3))):=by
 have hn:n≤32:=by unfold abv at hf;omega
 have hT:=bl2 hn sh pub sec a
 rw[P.aur];unfold P.ak2
 rw[adu hf sh lsec np,yg,P.axr];unfold P.auj P.b3d P.by4 P.b89
 refine yu (fun i=>(sec,pub,(i:Int),(Aj i).map (btu n sh pub sec a),(n:Int),H,D,A,K,sh,a)) (2*n+3) rfl (fun i hi next hnx=>?_) (fun next=>?_) (by omega)
 ·simp only[P.anm]
  rw[qc (x:=(2:Int)*(n:Int)) (by omega) (by omega),qc (x:=(2:Int)*(n:Int)+3) (by omega) (by omega),bg (by omega),acy hf sh hsec lsec hp np la ha i (by omega),ah1 _ (by omega),j5 la 4 _ (by omega),show (15:Int)=((0+15:Nat):Int) from rfl,show (0:Int)=((0:Nat):Int) from rfl,
   adl hf sh hp np (jm la 4 i) (wm ha 4 i) (btd n sh pub sec a i) (bqo hn sh pub sec a i) 0 15 (by omega),bg (by simp;omega),qc (by omega) (by omega)]
  rw[←aep] at hnx
  exact hnx
 ·simp only[P.anm]
  rw[qc (x:=(2:Int)*(n:Int)) (by omega) (by omega),qc (x:=(2:Int)*(n:Int)+3) (by omega) (by omega),dh (by omega)]
  have hb:=bqt hn _ hT (2*n+3) (by omega)
  rw[aj7 hf sh hp np la ha _ (by simp;omega) (by rw[ayb];exact bhg (bpt n sh pub sec a) _) (by rw[ayb];omega),ayb]
end Q
end

section
/- xmss: knots, signatures, tops, by the program. -/
namespace Q
open QK
open Go Go.Abs
set_option linter.unusedVariables false
set_option linter.unusedSimpArgs false
def Kd(n:Nat)(H D A K:Int)(h:Nat):Prop:=abv n H D A K∧Ab.wrap (H.tdiv D)=(h:Int)
theorem Kd.n{n:Nat}{H D A K:Int}{h:Nat}(k:Kd n H D A K h):n≤32:=by have:=k.1;unfold abv at this;omega
theorem Kd.h{n:Nat}{H D A K:Int}{h:Nat}(k:Kd n H D A K h):h≤9:=by have:=k.1;have e:=k.2;unfold abv at this;omega
theorem jl{n:Nat}{H D A K:Int}{h:Nat}(kd:Kd n H D A K h)(sh:Bool){ρ:Type}(k:Int→Option ρ):P.jl n H D A K sh k=k (h:Int):=by
 have hf:=kd.1
 unfold abv at hf
 rw[P.awm];unfold P.anq
 rw[dh (by omega),kd.2]
theorem bjy{n:Nat}{H D A K:Int}{h:Nat}(kd:Kd n H D A K h)(sh:Bool)(l:List (List Int))(hl:l.length≤100)(hn:∀i,i<l.length→(l.getD i []).length=n){ρ:Type}(k:Bool→Option ρ):P.vo n H D A K sh l k=k true:=by
 rw[P.axh];unfold P.anc
 rw[P.ba5];unfold P.aw1 P.b27 P.b0m P.cda
 refine yu (fun i=>(l,(l.length:Int),(i:Int),(n:Int),H,D,A,K,sh)) l.length rfl (fun i hi next hnx=>?_) (fun next=>?_) (by omega)
 ·have:=hn i hi
  simp only[P.ao1,toNat_cast,Sum.elim_inl,Sum.elim_inr]
  rw[bg (by omega),bg (by omega),bg (by omega),eu (by omega),qc (by omega) (by omega)]
  exact hnx
 ·simp only[P.ao1,toNat_cast,Sum.elim_inl,Sum.elim_inr]
  rw[dh (by omega),jk,decide_eq_true kd.1]
theorem mulN(n m:Nat)(hn:n≤32)(hm:m≤1000):Ab.wrap ((n:Int)*(m:Int))=((n*m:Nat):Int):=by
 have:n*m≤32*1000:=Aa hn hm
 rw[show (n:Int)*(m:Int)=((n*m:Nat):Int) by rw[Af],qc (by omega) (by omega)]
theorem oo{n:Nat}{H D A K:Int}{h:Nat}(kd:Kd n H D A K h)(sh:Bool){ρ:Type}(k:Int→Option ρ):P.oo n H D A K sh k=k ((n*(2*n+3+h):Nat):Int):=by
 have h1:=kd.n
 have h2:=kd.h
 rw[P.awx];unfold P.ams
 rw[jk,decide_eq_true kd.1,jo,p9,jl kd,qc (x:=(2:Int)*(n:Int)) (by omega) (by omega),qc (x:=(2:Int)*(n:Int)+3) (by omega) (by omega),qc (x:=(2:Int)*(n:Int)+3+(h:Int)) (by omega) (by omega),show (2:Int)*(n:Int)+3+(h:Int)=((2*n+3+h:Nat):Int) by omega,mulN _ _ h1 (by omega)]
def lfA(at':List Int)(i:Nat):List Int:=anb (anb at' 2 0) 3 i
theorem bjz{a:List Int}(la:a.length=32)(i:Nat):(lfA a i).length=32:=jm (jm la _ _) _ _
theorem bnj{a:List Int}(ha:In 256 a)(i:Nat):In 256 (lfA a i):=wm (wm ha _ _) _ _
theorem bgv{a:List Int}(la:a.length=32)(N H D A K:Int)(sh:Bool)(sec pub:List Int)(i:Nat)(hi:i<18446744073709551616){ρ:Type}(k:List Int→Option ρ) :
    P.uh N H D A K sh sec pub a (i:Int) k=k (lfA a i):=by
 rw[P.amj];unfold P.aft
 rw[show P.gy (ρ:=ρ) a 2 0=P.gy a 2 ((0:Nat):Int) from rfl,gy la 2 0 (by omega),gy (jm la _ _) 3 i hi]
 rfl
def ovW(n:Nat)(sh:Bool)(pub at':List Int)(z i:Nat)(l r:List Int):List Int:=be2 n sh pub (anb (anb (anb at' 2 2) 4 z) 5 i) (l++r)
theorem azh{n:Nat}{H D A K:Int}(hf:abv n H D A K)(sh:Bool)(sec pub a l r:List Int)(hp:In 256 pub)(np:pub.length=n)(la:a.length=32)(ha:In 256 a)(hl:In 256 l)(hr:In 256 r)(nl:l.length≤1000)(nr:r.length≤1000)(z i:Nat)(hz:z<1000)(hi:i<18446744073709551616){ρ:Type}(k:List Int→Option ρ) :
    P.qx n H D A K sh sec pub a (z:Int) (i:Int) l r k=k (ovW n sh pub a z i l r):=by
 have e:[l,r].flatten=l++r:=by simp
 have hlr:(l++r).length≤2000:=by rw[Ad];omega
 rw[P.alp];unfold P.afd
 rw[show P.gy (ρ:=ρ) a 2 2=P.gy a 2 ((2:Nat):Int) from rfl,gy la 2 2 (by omega),ah1 _ (by omega),gy (jm la _ _) 4 z (by omega),gy (jm (jm la _ _) _ _) 5 i hi,jc _ (by simp) (by rw[e];omega),e,
  zy hf sh pub hp np _ _ (jm (jm (jm la _ _) _ _) _ _) (wm (wm (wm ha _ _) _ _) _ _) (hl.app hr) (by omega)]
 rfl
def pbW(n:Nat)(sh:Bool)(pub sec a:List Int):List Int:=kyW n sh pub a (cat (btu n sh pub sec a) (2*n+3))
def knW(n:Nat)(sh:Bool)(pub sec at':List Int):Nat→Nat→List Int
 | 0,i=>pbW n sh pub sec (lfA at' i)
 | z+1,i=>ovW n sh pub at' (z+1) i (knW n sh pub sec at' z (2*i)) (knW n sh pub sec at' z (2*i+1))
theorem avn{n:Nat}(hn:n≤32)(sh:Bool)(pub sec at':List Int):∀z i,(knW n sh pub sec at' z i).length=n
 | 0,i=>ahe hn _ _ _ _
 | z+1,i=>ahe hn _ _ _ _
theorem bnl(n:Nat)(sh:Bool)(pub sec at':List Int):∀z i,In 256 (knW n sh pub sec at' z i)
 | 0,i=>alb _ _ _ _ _
 | z+1,i=>alb _ _ _ _ _
theorem azr{n:Nat}{H D A K:Int}(hf:abv n H D A K)(sh:Bool)(sec pub a:List Int)(hsec:In 256 sec)(lsec:sec.length=n)(hp:In 256 pub)(np:pub.length=n)(la:a.length=32)(ha:In 256 a) :
    ∀(z i m:Nat),z<m→z<1000→(i+1)*2^z≤9223372036854775808→∀{ρ:Type} (k:List Int→Option ρ),P.vv m n H D A K sh sec pub a (z:Int) (i:Int) k=k (knW n sh pub sec a z i)
 | z,i,0,hm,hz,hi,ρ,k=>by omega
 | 0,i,m+1,hm,hz,hi,ρ,k=>by
  rw[P.ag7];unfold P.acv
  rw[gu (show ((0:Nat):Int)=0 from rfl),bgv la _ _ _ _ _ _ _ _ i (by omega),aah hf sh sec pub _ hsec lsec hp np (bjz la i) (bnj ha i)]
  rfl
 | z+1,i,m+1,hm,hz,hi,ρ,k=>by
  have hn:n≤32:=by unfold abv at hf;omega
  have hpow:(i+1)*2^(z+1)=(2*i+2)*2^z:=by rw[Nat.pow_succ,Au (2^z) 2,←Nat.mul_assoc];congr 1;omega
  have h1:(2*i+2)≤(2*i+2)*2^z:=Az _ (Al z)
  have h2:(2*i+1)*2^z≤(2*i+2)*2^z:=Aa (by omega) (Ah _)
  have h3:(2*i+1+1)*2^z=(2*i+2)*2^z:=rfl
  rw[P.ag7];unfold P.acv
  rw[iw (by omega),qc (by omega) (by omega),show ((z+1:Nat):Int)-1=(z:Int) by omega,show (2:Int)*(i:Int)=((2*i:Nat):Int) by omega,ah1 _ (by omega),show ((2*i:Nat):Int)+1=((2*i+1:Nat):Int) by omega,ah1 _ (by omega),
   azr hf sh sec pub a hsec lsec hp np la ha z (2*i) m (by omega) (by omega) (by omega),azr hf sh sec pub a hsec lsec hp np la ha z (2*i+1) m (by omega) (by omega) (by omega),
   azh hf sh sec pub a _ _ hp np la ha (bnl _ _ _ _ _ _ _) (bnl _ _ _ _ _ _ _) (by rw[avn hn];omega) (by rw[avn hn];omega) (z+1) i hz (by omega)]
  rfl
theorem sh0(i h:Nat)(hh:h≤64)(hi:i<2^h):(i:Int).fdiv ((2:Int)^min h 64)=0:=by
 rw[fdiv_pow _ _ _ hh,Nat.div_eq_of_lt hi]
 rfl
theorem abn{n:Nat}{H D A K:Int}{h:Nat}(kd:Kd n H D A K h)(sh:Bool)(sec pub a:List Int)(hsec:In 256 sec)(lsec:sec.length=n)(hp:In 256 pub)(np:pub.length=n)(la:a.length=32)(ha:In 256 a)(z i:Nat)(hz:z≤h)(hi:i<2^(h-z)){ρ:Type}(k:List Int→Option ρ) :
    P.abn n H D A K sh sec pub a (z:Int) (i:Int) k=k (knW n sh pub sec a z i):=by
 have h2:=kd.h
 have hb:(i+1)*2^z≤2^h:=by
  have:(i+1)*2^z≤2^(h-z)*2^z:=Aa hi (Ah _)
  rw[←Nat.pow_add,Nat.sub_add_cancel hz] at this
  exact this
 have h9:2^h≤2^9:=Ac (by omega) h2
 rw[P.awq];unfold P.am5
 rw[bjy kd sh _ (by simp) (fun j hj=>by
  match j with
  | 0=>exact lsec
  | 1=>exact np
  | j+2=>simp at hj;omega),jo,p9,dh (by omega),jl kd,dh (by omega),jl kd,qc (by omega) (by omega),dh (by omega),show ((h:Int)-(z:Int)).toNat=h-z by omega,sh0 i (h-z) (by omega) hi,eu rfl,toNat_cast,
  azr kd.1 sh sec pub a hsec lsec hp np la ha z i (z+1) (by omega) (by omega) (by omega)]
def cnW(n:Nat)(sh:Bool)(pub a k0 path:List Int)(leaf:Nat):Nat→List Int
 | 0=>k0
 | z+1=>if leaf/2^z%2=1 then ovW n sh pub a (z+1) (leaf/2^(z+1)) ((path.drop (z*n)).take n) (cnW n sh pub a k0 path leaf z)
  else ovW n sh pub a (z+1) (leaf/2^(z+1)) (cnW n sh pub a k0 path leaf z) ((path.drop (z*n)).take n)
theorem bn8{n:Nat}(hn:n≤32)(sh:Bool)(pub a k0 path:List Int)(hk:k0.length=n)(leaf:Nat):∀z,(cnW n sh pub a k0 path leaf z).length=n
 | 0=>hk
 | z+1=>by rw[cnW];split<;>exact ahe hn _ _ _ _
theorem bty(n:Nat)(sh:Bool)(pub a k0 path:List Int)(hk:In 256 k0)(leaf:Nat):∀z,In 256 (cnW n sh pub a k0 path leaf z)
 | 0=>hk
 | z+1=>by rw[cnW];split<;>exact alb _ _ _ _ _
def tpW(n:Nat)(sh:Bool)(pub a sig t:List Int)(leaf h:Nat):List Int :=
 cnW n sh pub a (kyW n sh pub (lfA a leaf) (cat (bo6 n sh (sig.take ((2*n+3)*n)) pub (lfA a leaf) t) (2*n+3))) (sig.drop ((2*n+3)*n)) leaf h
theorem bvs{n:Nat}(hn:n≤32)(sh:Bool)(pub a sig t:List Int)(leaf h:Nat):(tpW n sh pub a sig t leaf h).length=n:=bn8 hn _ _ _ _ _ (ahe hn _ _ _ _) _ _
theorem bzw(n:Nat)(sh:Bool)(pub a sig t:List Int)(leaf h:Nat):In 256 (tpW n sh pub a sig t leaf h):=bty _ _ _ _ _ _ (alb _ _ _ _ _) _ _
theorem lg{n:Nat}{H D A K:Int}{h:Nat}(kd:Kd n H D A K h)(sh:Bool)(sig t pub a:List Int)(hsig:In 256 sig)(lsig:sig.length=n*(2*n+3+h))(ht:In 256 t)(lt:t.length=n)(hp:In 256 pub)(np:pub.length=n)(la:a.length=32)(ha:In 256 a)(leaf:Nat)(hleaf:leaf<2^h){ρ:Type}(k:List Int→Option ρ) :
    P.lg n H D A K sh sig t pub a (leaf:Int) k=k (tpW n sh pub a sig t leaf h):=by
 have hn:=kd.n
 have h2:=kd.h
 have h9:2^h≤2^9:=Ac (by omega) h2
 have hmul:(2*n+3)*n≤67*32:=Aa (by omega) hn
 have hm2:n*h≤32*9:=Aa hn h2
 have hsz:n*(2*n+3+h)=(2*n+3)*n+n*h:=by rw[Nat.mul_add,Au n (2*n+3)]
 have e1:Ab.wrap ((sig.length:Int)-((n*h:Nat):Int))=(((2*n+3)*n:Nat):Int):=by
  rw[qc (by omega) (by omega)];omega
 have lt1:(sig.take ((2*n+3)*n)).length=(2*n+3)*n:=by rw[Ai];omega
 have ld:(sig.drop ((2*n+3)*n)).length=n*h:=by rw[Ag];omega
 have hpath:In 256 (sig.drop ((2*n+3)*n)):=hsig.drop _
 have hk0:=ahe hn sh pub (anb (anb (lfA a leaf) 2 1) 3 (prn (lfA a leaf))) (cat (bo6 n sh (sig.take ((2*n+3)*n)) pub (lfA a leaf) t) (2*n+3))
 rw[P.ame];unfold P.afz
 rw[bjy kd sh _ (by simp) (fun j hj=>by
  match j with
  | 0=>exact np
  | 1=>exact lt
  | j+2=>simp at hj;omega),jo,p9,oo kd,eu (by rw[lsig]),jl kd,dh (by omega),toNat_cast,sh0 leaf h (by omega) hleaf,eu rfl,jl kd,mulN _ _ hn (by omega),e1,bg (by omega),bg (by omega),bgv la _ _ _ _ _ _ _ _ leaf (by omega),Aq,toNat_cast,
  vk kd.1 sh _ t pub _ (hsig.take _) lt1 ht lt hp np (bjz la _) (bnj ha _),bg (by omega),bg (by omega),bg (by omega),jl kd,toNat_cast,Ao,P.aqn]
 unfold P.aml P.b39 P.bxs P.b40 tpW
 have hk1:=alb n sh pub (anb (anb (lfA a leaf) 2 1) 3 (prn (lfA a leaf))) (cat (bo6 n sh (sig.take ((2*n+3)*n)) pub (lfA a leaf) t) (2*n+3))
 generalize sig.drop ((2*n+3)*n)=path at ld hpath
 unfold kyW
 generalize be2 n sh pub (anb (anb (lfA a leaf) 2 1) 3 (prn (lfA a leaf))) (cat (bo6 n sh (sig.take ((2*n+3)*n)) pub (lfA a leaf) t) (2*n+3))=k0 at hk0 hk1
 refine yu (fun z=>((leaf:Int),cnW n sh pub a k0 path leaf z,path.drop (z*n),(h:Int),(z:Int),(n:Int),H,D,A,K,sh,(n:Int),H,D,A,K,sh,pub,a)) h (by simp[cnW]) (fun z hz next hnx=>?_) (fun next=>?_) (by omega)
 ·have hd:=Ar leaf (2^z)
  have hd1:=Ar leaf (2^(z+1))
  have hzn:z*n+n≤n*h:=by rw[←Ap,Au n h];exact Aa hz (Ah _)
  have lp2:(path.drop (z*n)).length=n*h-z*n:=by rw[Ag];omega
  have lc:=bn8 hn sh pub a k0 path hk0 leaf z
  have ic:=bty n sh pub a k0 path hk1 leaf z
  have lq:((path.drop (z*n)).take n).length=n:=by rw[Ai];omega
  have iq:In 256 ((path.drop (z*n)).take n):=(hpath.drop _).take _
  rw[Ap,←Av] at hnx
  simp only[P.ag3,toNat_cast]
  rw[bg (by omega),bg (by omega),bg (by omega),dh (by omega),fdiv_pow _ _ _ (by omega),show bits BinOp.and Ak ((leaf/2^z:Nat):Int) 1=((leaf/2^z%2:Nat):Int) by
   rw[show (1:Int)=((1:Nat):Int) from rfl,ao6 _ _ (by omega) (by omega),Nat.and_one_is_mod]]
  have ez:Ab.wrap ((z:Int)+1)=((z+1:Nat):Int):=by rw[qc (by omega) (by omega)];omega
  rw[ez,toNat_cast,fdiv_pow _ _ _ (by omega),Aq,Ao]
  by_cases hb:leaf/2^z%2=1
  ·rw[cnW,if_pos hb] at hnx
   rw[gu (by omega),dh (by omega),azh kd.1 sh _ pub a _ _ hp np la ha iq ic (by omega) (by omega) (z+1) _ (by omega) (by omega),bg (by omega),bg (by omega),bg (by omega)]
   exact hnx
  ·rw[cnW,if_neg hb] at hnx
   rw[iw (by omega),dh (by omega),azh kd.1 sh _ pub a _ _ hp np la ha ic iq (by omega) (by omega) (z+1) _ (by omega) (by omega),bg (by omega),bg (by omega),bg (by omega)]
   exact hnx
 ·simp only[P.ag3]
  rw[dh (by omega)]
end Q
end

section
/- xmss: knots, signatures, tops, by the document; and where there are none. -/
namespace Q
open QK
open Go Go.Abs
set_option linter.unusedVariables false
set_option linter.unusedSimpArgs false
theorem bs6(h:Nat):(2:Int)^h=((2^h:Nat):Int):=by rw[Int.natCast_pow];rfl
theorem bdw(a z:Nat)(hz:z≤64)(hb:a*2^z<18446744073709551616):Ak.wrap ((a:Int)*(2:Int)^min z 64)=((a*2^z:Nat):Int):=by
 rw[Nat.min_eq_left hz,bs6,←Af,ah1 _ hb]
theorem cbk(h:Nat)(hh:h≤63):Ak.wrap ((1:Int)*(2:Int)^min h 64)=((2^h:Nat):Int):=by
 have:=bdw 1 h (by omega) (by rw[Aw];exact Nat.pow_lt_pow_right (a:=2) (m:=h) (n:=64) (by omega) (by omega))
 rw[Aw] at this
 exact this
theorem Kd.d{n:Nat}{H D A K:Int}{h:Nat}(k:Kd n H D A K h):¬D=0:=by have:=k.1;unfold abv at this;omega
theorem aga{n:Nat}{H D A K:Int}{h:Nat}(kd:Kd n H D A K h)(sh:Bool){ρ:Type}(k:Int→Option ρ):P.aga n H D A K sh k=k ((n*(2*n+3+h):Nat):Int):=by
 have h1:=kd.n
 have h2:=kd.h
 rw[P.az5];unfold P.apu
 rw[om,decide_eq_true kd.1,jo,p9,dh kd.d,kd.2,qc (x:=(2:Int)*(n:Int)) (by omega) (by omega),qc (x:=(2:Int)*(n:Int)+3) (by omega) (by omega),qc (x:=(2:Int)*(n:Int)+3+(h:Int)) (by omega) (by omega),show (2:Int)*(n:Int)+3+(h:Int)=((2*n+3+h:Nat):Int) by omega,mulN _ _ h1 (by omega)]
theorem afj{a:List Int}(la:a.length=32)(i:Nat)(hi:i<18446744073709551616){ρ:Type}(k:List Int→Option ρ):P.afj a (i:Int) k=k (lfA a i):=by
 rw[P.az9];unfold P.aop
 rw[show P.j5 (ρ:=ρ) a 2 0=P.j5 a 2 ((0:Nat):Int) from rfl,j5 la 2 0 (by omega),j5 (jm la _ _) 3 i hi]
 rfl
theorem afb{n:Nat}{H D A K:Int}(hf:abv n H D A K)(sh:Bool)(pub a l r:List Int)(hp:In 256 pub)(np:pub.length=n)(la:a.length=32)(ha:In 256 a)(hl:In 256 l)(hr:In 256 r)(nl:l.length≤1000)(nr:r.length≤1000)(z i:Nat)(hz:z<1000)(hi:i<18446744073709551616){ρ:Type}(k:List Int→Option ρ) :
    P.afb n H D A K sh pub a (z:Int) (i:Int) l r k=k (ovW n sh pub a z i l r):=by
 have e:[l,r].flatten=l++r:=by simp
 have hlr:(l++r).length≤2000:=by rw[Ad];omega
 rw[P.ayj];unfold P.ao9
 rw[show P.j5 (ρ:=ρ) a 2 2=P.j5 a 2 ((2:Nat):Int) from rfl,j5 la 2 2 (by omega),ah1 _ (by omega),j5 (jm la _ _) 4 z (by omega),j5 (jm (jm la _ _) _ _) 5 i hi,oh _ (by simp) (by rw[e];omega),e,
  aai hf sh pub hp np _ _ (jm (jm (jm la _ _) _ _) _ _) (wm (wm (wm ha _ _) _ _) _ _) (hl.app hr) (by omega)]
 rfl
theorem getD_map(f:Nat→List Int)(m i:Nat)(h:i<m):((Aj m).map f).getD i []=f i:=by
 rw[Ae,List.getElem?_map,List.getElem?_range h]
 rfl
def rwK(n:Nat)(sh:Bool)(pub sec a:List Int)(z i y:Nat)(j:Nat):List Int:=knW n sh pub sec a y (i*2^(z-y)+j)
theorem bta(n:Nat)(sh:Bool)(pub sec a:List Int)(z i y j:Nat):In 256 (rwK n sh pub sec a z i y j):=bnl _ _ _ _ _ _ _
theorem bqs{n:Nat}(hn:n≤32)(sh:Bool)(pub sec a:List Int)(z i y j:Nat):(rwK n sh pub sec a z i y j).length=n:=avn hn _ _ _ _ _ _
theorem bwt{n:Nat}{H D A K:Int}(hf:abv n H D A K)(sh:Bool)(sec pub a:List Int)(hp:In 256 pub)(np:pub.length=n)(la:a.length=32)(ha:In 256 a)(z i y:Nat)(hy:y<z)(hz:z≤9)(hb:(i+1)*2^z≤512){ρ:Type}
    (k0:(List Int)→Int→Int→(List (List Int))→Int→Int→(List (List Int))→(List Int)→Int→Int→Int→Int→Int→Bool→Option ρ) (r:Option ρ)
    (hk:k0 pub z i ((Aj (2^(z-y))).map (rwK n sh pub sec a z i y)) ((y+1:Nat):Int) ((2^(z-y):Nat):Int) ((Aj (2^(z-(y+1)))).map (rwK n sh pub sec a z i (y+1))) a n H D A K sh=r) :
    P.ap1 pub z i ((Aj (2^(z-y))).map (rwK n sh pub sec a z i y)) ((y+1:Nat):Int) 0 [] a n H D A K sh k0=r:=by
 have hn:n≤32:=by unfold abv at hf;omega
 have e2:2^(z-y)=2*2^(z-(y+1)):=by rw[show z-y=(z-(y+1))+1 by omega,Nat.pow_succ];omega
 have hp2:2^(z-(y+1))≤2^9:=Ac (by omega) (by omega)
 have hi2:i*2^(z-(y+1))≤512:=by
  have h1:i*2^(z-(y+1))≤(i+1)*2^z:=Aa (by omega) (Ac (by omega) (by omega))
  omega
 rw[P.ayi];unfold P.awi P.b3o P.b24 P.b46
 refine yu (fun j=>(pub,(z:Int),(i:Int),(Aj (2^(z-y))).map (rwK n sh pub sec a z i y),((y+1:Nat):Int),((2*j:Nat):Int),(Aj j).map (rwK n sh pub sec a z i (y+1)),a,(n:Int),H,D,A,K,sh)) (2^(z-(y+1))) rfl (fun j hj next hnx=>?_) (fun next=>?_) (by omega)
 ·simp only[P.apk]
  have ll:((Aj (2^(z-y))).map (rwK n sh pub sec a z i y)).length=2^(z-y):=by simp
  have et:((2*j:Nat):Int).tdiv 2=(j:Int):=by rw[Am (by omega)];omega
  rw[qc (x:=((2*j:Nat):Int)+1) (by omega) (by omega),ll,bg (by omega),qc (x:=(z:Int)-((y+1:Nat):Int)) (by omega) (by omega),dh (by omega),bg (by omega),bg (by omega),bg (by omega),bg (by omega),et,
   show ((z:Int)-((y+1:Nat):Int)).toNat=z-(y+1) by omega,bdw i (z-(y+1)) (by omega) (by omega),qc (x:=(j:Int)) (by omega) (by omega),ah1 j (by omega),show ((i*2^(z-(y+1)):Nat):Int)+(j:Int)=((i*2^(z-(y+1))+j:Nat):Int) by omega,ah1 _ (by omega),toNat_cast,
   show (((2*j:Nat):Int)+1).toNat=2*j+1 by omega,getD_map _ _ _ (by omega),getD_map _ _ _ (by omega),
   afb hf sh pub a _ _ hp np la ha (bta _ _ _ _ _ _ _ _ _) (bta _ _ _ _ _ _ _ _ _) (by rw[bqs hn];omega) (by rw[bqs hn];omega) (y+1) _ (by omega) (by omega),bg (by simp;omega),qc (x:=((2*j:Nat):Int)+2) (by omega) (by omega),show ((2*j:Nat):Int)+2=((2*(j+1):Nat):Int) by omega]
  have e:rwK n sh pub sec a z i (y+1) j=ovW n sh pub a (y+1) (i*2^(z-(y+1))+j) (rwK n sh pub sec a z i y (2*j)) (rwK n sh pub sec a z i y (2*j+1)):=by
   unfold rwK
   rw[knW,e2,show i*(2*2^(z-(y+1)))+2*j=2*(i*2^(z-(y+1))+j) by rw[Nat.mul_add,Nat.mul_left_comm],show i*(2*2^(z-(y+1)))+(2*j+1)=2*(i*2^(z-(y+1))+j)+1 by rw[Nat.mul_add,Nat.mul_left_comm];omega]
  rw[←aep,e] at hnx
  exact hnx
 ·simp only[P.apk]
  rw[qc (x:=((2*2^(z-(y+1)):Nat):Int)+1) (by omega) (by omega),dh (by rw[List.length_map,List.length_range,e2];omega),←e2]
  exact hk
theorem ad6{n:Nat}{H D A K:Int}{h:Nat}(kd:Kd n H D A K h)(sh:Bool)(sec pub a:List Int)(hsec:In 256 sec)(lsec:sec.length=n)(hp:In 256 pub)(np:pub.length=n)(la:a.length=32)(ha:In 256 a)(z i:Nat)(hz:z≤h)(hi:i<2^(h-z)){ρ:Type}(k:List Int→Option ρ) :
    P.ad6 n H D A K sh sec pub a (z:Int) (i:Int) k=k (knW n sh pub sec a z i):=by
 have hn:=kd.n
 have h2:=kd.h
 have hb:(i+1)*2^z≤2^h:=by
  have:(i+1)*2^z≤2^(h-z)*2^z:=Aa hi (Ah _)
  rw[←Nat.pow_add,Nat.sub_add_cancel hz] at this
  exact this
 have h9:2^h≤2^9:=Ac (by omega) h2
 have hz9:2^z≤2^9:=Ac (by omega) (by omega)
 have e1:(i+1)*2^z=i*2^z+2^z:=by rw[Ay,Aw]
 have p0:0<2^z:=Al z
 have hi9:i<512:=by
  have:2^(h-z)≤2^9:=Ac (by omega) (by omega)
  omega
 rw[P.aye];unfold P.aoi
 rw[om,decide_eq_true kd.1,jo,p9,eu (by omega),eu (by omega),dh (by omega),dh kd.d,kd.2,dh (by omega),dh kd.d,qc (x:=(h:Int)-(z:Int)) (by omega) (by omega),dh (by omega),show ((h:Int)-(z:Int)).toNat=h-z by omega,cbk _ (by omega),dh (by omega),dh (by omega),toNat_cast,bdw i z (by omega) (by omega),P.bbm]
 unfold P.azz P.b3j P.by8 P.b60
 refine yu (fun j=>(sec,pub,(z:Int),(i:Int),((i*2^z+j:Nat):Int),(Aj j).map (rwK n sh pub sec a z i 0),(n:Int),H,D,A,K,sh,a)) (2^z) rfl (fun j hj next hnx=>?_) (fun next=>?_) (by omega)
 ·simp only[P.ase,toNat_cast]
  rw[dh (by omega),show (i:Int)+1=((i+1:Nat):Int) by omega,ah1 (i+1) (by omega),bdw (i+1) z (by omega) (by omega),bg (by omega),afj la _ (by omega),abu kd.1 sh sec pub _ hsec lsec hp np (bjz la _) (bnj ha _),bg (by simp;omega),
   show ((i*2^z+j:Nat):Int)+1=((i*2^z+(j+1):Nat):Int) by omega,ah1 _ (by omega)]
  rw[←aep] at hnx
  exact hnx
 ·simp only[P.ase,toNat_cast]
  rw[dh (by omega),show (i:Int)+1=((i+1:Nat):Int) by omega,ah1 (i+1) (by omega),bdw (i+1) z (by omega) (by omega),dh (by omega),P.bbk]
  unfold P.bae P.b4o P.by1 P.b8p
  refine yu (fun y=>(pub,(z:Int),(i:Int),(Aj (2^(z-y))).map (rwK n sh pub sec a z i y),((y+1:Nat):Int),(n:Int),H,D,A,K,sh,a)) z rfl (fun y hy next hnx=>?_) (fun next=>?_) (by omega)
  ·simp only[P.asl]
   rw[bg (by omega)]
   refine bwt kd.1 sh sec pub a hp np la ha z i y hy (by omega) (by omega) _ _ ?_
   rw[show ((y+1:Nat):Int)+1=((y+1+1:Nat):Int) by omega,qc (by omega) (by omega)]
   exact hnx
  ·simp only[P.asl]
   rw[dh (by omega),Nat.sub_self,Nat.pow_zero,bg (by simp),getD_map _ _ _ (by omega)]
   unfold rwK
   rw[Nat.sub_self,Nat.pow_zero,Nat.mul_one,Nat.add_zero]
end Q
end

section
/- xmss: trees in trees, by the program. -/
namespace Q
open QK
open Go Go.Abs
set_option linter.unusedVariables false
set_option linter.unusedSimpArgs false
abbrev Z32:List Int:=[0,0,0,0,0,0,0,0,0,0,0,0,0,0,0,0,0,0,0,0,0,0,0,0,0,0,0,0,0,0,0,0]
theorem boi:In 256 Z32:=fun x hx=>by
 have:x=0:=by simpa [Z32] using hx
 omega
def plA(d num:Nat):List Int:=anb (anb Z32 0 d) 1 num
theorem buh(d num:Nat):(plA d num).length=32:=jm (jm rfl _ _) _ _
theorem bxq(d num:Nat):In 256 (plA d num):=wm (wm boi _ _) _ _
def nmb(h num d:Nat):Nat:=num/2^(h*d)
theorem bzd(h num d:Nat):nmb h num d≤num:=Ar _ _
theorem bq6(h num d:Nat):nmb h num (d+1)=nmb h num d/2^h:=by
 unfold nmb
 rw[Nat.div_div_eq_div_mul,←Nat.pow_add,Nat.mul_succ]
def lfN(h num leaf:Nat):Nat→Nat
 | 0=>leaf
 | d+1=>nmb h num d%2^h
theorem b1k{h leaf:Nat}(num:Nat)(hl:leaf<2^h):∀d,lfN h num leaf d<2^h
 | 0=>hl
 | d+1=>Nat.mod_lt _ (Al h)
def vrT(n:Nat)(sh:Bool)(pub sig t:List Int)(num leaf h sz:Nat):Nat→List Int
 | 0=>t
 | d+1=>tpW n sh pub (plA d (nmb h num d)) ((sig.drop (d*sz)).take sz) (vrT n sh pub sig t num leaf h sz d) (lfN h num leaf d) h
theorem bn6{n:Nat}(hn:n≤32)(sh:Bool)(pub sig t:List Int)(lt:t.length=n)(num leaf h sz:Nat):∀d,(vrT n sh pub sig t num leaf h sz d).length=n
 | 0=>lt
 | d+1=>bvs hn _ _ _ _ _ _ _
theorem bt0(n:Nat)(sh:Bool)(pub sig t:List Int)(ht:In 256 t)(num leaf h sz:Nat):∀d,In 256 (vrT n sh pub sig t num leaf h sz d)
 | 0=>ht
 | d+1=>bzw _ _ _ _ _ _ _ _
theorem bsc(num h:Nat)(hn:num<18446744073709551616)(hh:h≤9):(num:Int).fdiv ((2:Int)^min h 64)=((num/2^h:Nat):Int) ∧
    bits .and .u64 (num:Int) (Ak.wrap (Ak.wrap ((1:Int)*(2:Int)^min h 64)-(1:Int)))=((num%2^h:Nat):Int):=by
 have h9:2^h≤2^9:=Ac (by omega) hh
 refine ⟨fdiv_pow _ _ _ (by omega),?_⟩
 rw[btz h (by omega),ao6 _ _ hn (by omega),Nat.and_two_pow_sub_one_eq_mod]
theorem uf{n:Nat}{H D A K:Int}{h:Nat}(kd:Kd n H D A K h)(sh:Bool)(r:Nat)(hr:H-(h:Int)=(r:Int))(r64:r≤64)(num leaf:Nat)(hnum:num<2^r)(hleaf:leaf<2^h){ρ:Type}(k:Bool→Option ρ) :
    P.uf n H D A K sh (num:Int) (leaf:Int) k=k true:=by
 have h2:=kd.h
 rw[P.aq4];unfold P.ajr
 rw[jl kd,hr,qc (by omega) (by omega),dh (by omega),toNat_cast,sh0 num r r64 hnum,gu rfl,jl kd,dh (by omega),toNat_cast,sh0 leaf h (by omega) hleaf]
 rfl
theorem abf{n:Nat}{H A K:Int}{h D:Nat}(kd:Kd n H D A K h)(hD:D≤68)(sh:Bool)(t sig pub top:List Int)(ht:In 256 t)(lt:t.length=n)(hsig:In 256 sig)(lsig:sig.length=D*(n*(2*n+3+h)))(hp:In 256 pub)(np:pub.length=n)(ltop:top.length=n)(itop:In 256 top)(r:Nat)(hr:H-(h:Int)=(r:Int))(r64:r≤64)(num leaf:Nat)(hnum:num<2^r)(hleaf:leaf<2^h){ρ:Type}(k:Bool→Option ρ) :
    P.abf n H D A K sh t sig pub top (num:Int) (leaf:Int) k=k (decide (vrT n sh pub sig t num leaf h (n*(2*n+3+h)) D=top)):=by
 have hn:=kd.n
 have h2:=kd.h
 have hsz:n*(2*n+3+h)≤32*76:=Aa hn (by omega)
 have hDs:D*(n*(2*n+3+h))≤68*(32*76):=Aa hD hsz
 have h64:num<18446744073709551616:=Nat.lt_of_lt_of_le hnum (Ac (n:=2) (by omega) r64)
 generalize hz:n*(2*n+3+h)=sz at lsig hsz hDs
 have eD:Ab.wrap ((D:Int)*(sz:Int))=((D*sz:Nat):Int):=by
  rw[show (D:Int)*(sz:Int)=((D*sz:Nat):Int) by rw[Af],qc (by omega) (by omega)]
 rw[P.aqy];unfold P.ajj
 rw[bjy kd sh _ (by simp) (fun j hj=>by
  match j with
  | 0=>exact lt
  | 1=>exact np
  | 2=>exact ltop
  | j+3=>simp at hj;omega),jo,p9,oo kd,hz,eD,eu (by rw[lsig]),uf kd sh r hr r64 num leaf hnum hleaf,jo,p9,P.atb]
 unfold P.anu P.b3e P.bzi P.cak
 refine yu (fun d=>(top,(D:Int),(d:Int),(n:Int),H,(D:Int),A,K,sh,vrT n sh pub sig t num leaf h sz d,sig.drop (d*sz),pub,(n:Int),H,(D:Int),A,K,sh,((nmb h num d:Nat):Int),((lfN h num leaf d:Nat):Int))) D (by simp[nmb,lfN,vrT]) (fun d hd next hnx=>?_) (fun next=>?_) (by omega)
 ·have hle:=bzd h num d
  have hs:=bsc (nmb h num d) h (by omega) h2
  have hds:d*sz+sz≤D*sz:=by rw[←Ap];exact Aa hd (Ah _)
  have ld:(sig.drop (d*sz)).length=D*sz-d*sz:=by rw[Ag];omega
  have lq:((sig.drop (d*sz)).take sz).length=sz:=by rw[Ai];omega
  rw[Ap,←Av,bq6] at hnx
  simp only[P.ah2,toNat_cast]
  rw[bg (by omega),show P.gy (ρ:=ρ) [0,0,0,0,0,0,0,0,0,0,0,0,0,0,0,0,0,0,0,0,0,0,0,0,0,0,0,0,0,0,0,0]=P.gy Z32 from rfl,ah1 _ (by omega),gy rfl 0 d (by omega),gy (jm rfl _ _) 1 _ (by omega),oo kd,hz,bg (by omega),bg (by omega),Aq,toNat_cast]
  rw[show P.lg (ρ:=ρ) (n:Int) H (D:Int) A K sh ((sig.drop (d*sz)).take sz) (vrT n sh pub sig t num leaf h sz d) pub (anb (anb Z32 0 d) 1 (nmb h num d))=P.lg (n:Int) H (D:Int) A K sh ((sig.drop (d*sz)).take sz) (vrT n sh pub sig t num leaf h sz d) pub (plA d (nmb h num d)) from rfl,
   lg kd sh _ _ pub _ ((hsig.drop _).take _) (by rw[hz,lq]) (bt0 n sh pub sig t ht _ _ _ _ _) (bn6 hn sh pub sig t lt _ _ _ _ _) hp np (buh _ _) (bxq _ _) _ (b1k num hleaf d),oo kd,hz,bg (by omega),bg (by omega),bg (by omega),jl kd,dh (by omega),jl kd,dh (by omega),toNat_cast,toNat_cast,Ao,hs.1,hs.2,qc (by omega) (by omega)]
  exact hnx
 ·simp only[P.ah2]
  rw[dh (by omega),zf _ _ (bt0 n sh pub sig t ht _ _ _ _ _) itop (by rw[bn6 hn sh pub sig t lt];omega)]
end Q
end

section
/- xmss: what trees in trees sign leads to the top of all. -/
namespace Q
open QK
open Go Go.Abs
set_option linter.unusedVariables false
set_option linter.unusedSimpArgs false
end Q
end

section
/- xmss: the chapter's examples. -/
namespace Q
open QK
open Go Go.Abs
set_option linter.unusedVariables false
set_option linter.unusedSimpArgs false
end Q
end

section
/- xmss: what the program and the document say of any bsn, signature and top. -/
namespace Q
open QK
open Go Go.Abs
set_option linter.unusedVariables false
set_option linter.unusedSimpArgs false
theorem b2v{n:Nat}{H D A K:Int}(hf:abv n H D A K):∃h,Kd n H D A K h:=by
 have h0:=hf
 unfold abv at h0
 have h1:0≤H.tdiv D:=Int.tdiv_nonneg (by omega) (by omega)
 have h2:H.tdiv D≤H:=by
  rw[Am (by omega)]
  exact Int.ediv_le_self _ (by omega)
 exact ⟨(H.tdiv D).toNat,hf,by rw[qc (by omega) (by omega)];omega⟩
end Q
end

section
/- xmss: trees in trees sign, by the program. -/
namespace Q
open QK
open Go Go.Abs
set_option linter.unusedVariables false
set_option linter.unusedSimpArgs false
end Q
end

section
/- xmss: trees in trees, by the document; and where there are none. -/
namespace Q
open QK
open Go Go.Abs
set_option linter.unusedVariables false
set_option linter.unusedSimpArgs false
end Q
end

section
/- fors: places, leaves, knots, by the program and by the document. -/
namespace Q
open QK
open Go Go.Abs
set_option linter.unusedVariables false
set_option linter.unusedSimpArgs false
def ofA(a:List Int)(kind:Nat):List Int:=anb (anb a 2 kind) 3 (prn a)
theorem bei{a:List Int}(la:a.length=32)(kind:Nat):(ofA a kind).length=32:=jm (jm la _ _) _ _
theorem btp{a:List Int}(ha:In 256 a)(kind:Nat):In 256 (ofA a kind):=wm (wm ha _ _) _ _
def ktA(a:List Int)(z i:Nat):List Int:=anb (anb (ofA a 3) 4 z) 5 i
theorem bv4{a:List Int}(la:a.length=32)(z i:Nat):(ktA a z i).length=32:=jm (jm (bei la _) _ _) _ _
theorem b0k{a:List Int}(ha:In 256 a)(z i:Nat):In 256 (ktA a z i):=wm (wm (btp ha _) _ _) _ _
def ovF(n:Nat)(sh:Bool)(pub a:List Int)(z i:Nat)(t:List Int):List Int:=be2 n sh pub (ktA a z i) t
def kyF(n:Nat)(sh:Bool)(pub a tops:List Int):List Int:=be2 n sh pub (ofA a 4) tops
theorem bn9{n:Nat}{H D A K:Int}(hf:abv n H D A K)(sh:Bool){sec pub a:List Int}(hp:In 256 pub)(np:pub.length=n)(la:a.length=32)(ha:In 256 a)(kind:Nat)(hk:kind<100){ρ:Type}(k:List Int→Option ρ):P.p8 (n:Int) H D A K sh sec pub a (kind:Int) k=k (ofA a kind):=by
 rw[P.anv];unfold P.agv
 rw[gy la 2 kind (by omega),uz _ ((ha.drop 20).take 4) (by simp;omega)]
 exact gy (jm la _ _) 3 _ (bil a) k
theorem bi7{n:Nat}{H D A K:Int}(hf:abv n H D A K)(sh:Bool){sec pub a:List Int}(hp:In 256 pub)(np:pub.length=n)(la:a.length=32)(ha:In 256 a)(z i:Nat)(hz:z<1000)(hi:i<18446744073709551616){ρ:Type}(k:List Int→Option ρ):P.uj (n:Int) H D A K sh sec pub a (z:Int) (i:Int) k=k (ktA a z i):=by
 rw[P.ail];unfold P.adb
 rw[show P.p8 (ρ:=ρ) (n:Int) H D A K sh sec pub a 3=P.p8 (n:Int) H D A K sh sec pub a ((3:Nat):Int) from rfl,bn9 hf sh hp np la ha 3 (by omega),ah1 _ (by omega),gy (bei la _) 4 z (by omega),gy (jm (bei la _) _ _) 5 i hi]
 rfl
theorem bai{n:Nat}{H D A K:Int}(hf:abv n H D A K)(sh:Bool){sec pub a:List Int}(hp:In 256 pub)(np:pub.length=n)(la:a.length=32)(ha:In 256 a)(z i:Nat)(hz:z<1000)(hi:i<18446744073709551616)(l:List (List Int))(hl:l.length≤1000)(li:In 256 l.flatten)(lb:l.flatten.length≤90000){ρ:Type}(k:List Int→Option ρ):P.qb (n:Int) H D A K sh sec pub a (z:Int) (i:Int) l k=k (ovF n sh pub a z i l.flatten):=by
 rw[P.akx];unfold P.aeu
 rw[bi7 hf sh hp np la ha z i hz hi,jc l (by omega) (by omega),zy hf sh pub hp np _ _ (bv4 la _ _) (b0k ha _ _) li (by omega)]
 rfl
theorem bs3{n:Nat}{H D A K:Int}(hf:abv n H D A K)(sh:Bool){sec pub a:List Int}(hp:In 256 pub)(np:pub.length=n)(la:a.length=32)(ha:In 256 a)(t:List Int)(ht:In 256 t)(lt:t.length≤90000){ρ:Type}(k:List Int→Option ρ):P.o8 (n:Int) H D A K sh sec pub a t k=k (kyF n sh pub a t):=by
 rw[P.alz];unfold P.afv
 rw[show P.p8 (ρ:=ρ) (n:Int) H D A K sh sec pub a 4=P.p8 (n:Int) H D A K sh sec pub a ((4:Nat):Int) from rfl,bn9 hf sh hp np la ha 4 (by omega),zy hf sh pub hp np _ _ (bei la _) (btp ha _) ht lt]
 rfl
end Q
end

section
/- A stack of what is joined two by two: as many entries as a number has ones. -/
namespace Q
open Go Go.Abs
set_option linter.unusedVariables false
end Q
end

section
/- fors: a bsn by a stack. -/
namespace Q
open QK
open Go Go.Abs
set_option linter.unusedVariables false
set_option linter.unusedSimpArgs false
def hs(T:List (Nat×List Int)):List Int:=T.map fun x=>(x.1:Int)
def ns(T:List (Nat×List Int)):List (List Int):=T.map fun x=>x.2
end Q
end

section
/- fors: knots and keys, by the program and by the document. -/
namespace Q
open QK
open Go Go.Abs
set_option linter.unusedVariables false
set_option linter.unusedSimpArgs false
def szF(n A K:Nat):Nat:=K*(n*(A+1))
def txF(A K:Nat):Nat:=(K*A+7)/8
theorem bdc{n A K:Nat}(hn:n≤32)(hA:A≤14)(hK:K≤40):Ab.wrap (Ab.wrap ((n:Int)*(K:Int))*Ab.wrap ((A:Int)+(1:Int)))=((szF n A K:Nat):Int)∧Ab.wrap ((Ab.wrap (Ab.wrap ((K:Int)*(A:Int))+(7:Int))).tdiv (8:Int))=((txF A K:Nat):Int):=by
 have h1:n*K≤32*40:=Aa hn hK
 have h2:n*K*(A+1)≤32*40*15:=Aa h1 (by omega)
 have h3:K*A≤40*14:=Aa hK hA
 constructor
 ·rw[show (n:Int)*(K:Int)=((n*K:Nat):Int) by rw[Af],qc (x:=((n*K:Nat):Int)) (by omega) (by omega),qc (x:=(A:Int)+1) (by omega) (by omega),show (A:Int)+1=((A+1:Nat):Int) by omega,←Af,qc (by omega) (by omega)]
  congr 1
  unfold szF
  rw[Au n K,Nat.mul_assoc]
 ·rw[show (K:Int)*(A:Int)=((K*A:Nat):Int) by rw[Af],qc (x:=((K*A:Nat):Int)) (by omega) (by omega),qc (x:=((K*A:Nat):Int)+7) (by omega) (by omega),Am (by omega),qc (by omega) (by omega)]
  unfold txF
  omega
theorem pz{n A K:Nat}{H D:Int}(hf:abv n H D A K)(sh:Bool){ρ:Type}(k:Int→Int→Option ρ):P.pz (n:Int) H D A K sh k=k (szF n A K:Nat) (txF A K:Nat):=by
 have hq:=hf
 unfold abv at hq
 obtain ⟨e1,e2⟩:=bdc (n:=n) (A:=A) (K:=K) (by omega) (by omega) (by omega)
 rw[P.axf];unfold P.amy
 rw[jk,decide_eq_true hf,jo,p9,e1,e2]
theorem af9{n A K:Nat}{H D:Int}(hf:abv n H D A K)(sh:Bool){ρ:Type}(k:Int→Int→Option ρ):P.af9 (n:Int) H D A K sh k=k (szF n A K:Nat) (txF A K:Nat):=by
 have hq:=hf
 unfold abv at hq
 obtain ⟨e1,e2⟩:=bdc (n:=n) (A:=A) (K:=K) (by omega) (by omega) (by omega)
 rw[P.bab];unfold P.aor
 rw[om,decide_eq_true hf,jo,p9,e1,e2]
end Q
end

section
/- fors: the chapter's examples; what is few and light. -/
namespace Q
open QK
open Go Go.Abs
set_option linter.unusedVariables false
set_option linter.unusedSimpArgs false
end Q
end

section
/- fors: signatures and what they lead to, by the program and by the document. -/
namespace Q
open QK
open Go Go.Abs
set_option linter.unusedVariables false
set_option linter.unusedSimpArgs false
def dF(A:Nat)(t:List Int)(k:Nat):Nat:=T 8 t.reverse/2^(8*t.length-A*(k+1))%2^A
def ixF(A:Nat)(t:List Int)(k:Nat):Nat:=k*2^A+dF A t k
theorem b1r(A:Nat)(t:List Int)(k:Nat):dF A t k<2^A:=Nat.mod_lt _ (Al A)
theorem bxd{A K k:Nat}(t:List Int)(hk:k<K):ixF A t k<K*2^A:=by
 have h1:=b1r A t k
 have h2:(k+1)*2^A≤K*2^A:=Aa hk (Ah _)
 rw[Ay,Aw] at h2
 unfold ixF;omega
theorem bsl{A K:Nat}(t:List Int)(h1:1≤A)(h2:A≤14)(ht:t.length=txF A K):(abd t (A:Int) (K:Int)).length=K∧∀k,k<K→(abd t (A:Int) (K:Int)).getD k 0=((dF A t k:Nat):Int):=by
 rw[bda t A K h1 (by omega) (by unfold txF at ht;omega)]
 refine ⟨by simp,fun k hk=>?_⟩
 rw[Ae,List.getElem?_map,List.getElem?_range hk]
 rfl
theorem b8l{A:Nat}(t:List Int)(k:Nat)(hb:ixF A t k<18446744073709551616)(hA:A≤64):bits .or .u64 (Ak.wrap (Ak.wrap (k:Int)*(2:Int)^min A 64)) (Ak.wrap ((dF A t k:Nat):Int))=((ixF A t k:Nat):Int):=by
 have h1:k*2^A≤ixF A t k:=Nat.le_add_right _ _
 have h2:k≤k*2^A:=Az _ (Al A)
 have h3:dF A t k≤ixF A t k:=Nat.le_add_left _ _
 rw[ah1 k (by omega),bdw k A hA (by omega),ah1 _ (by omega),bkv _ _ (by omega) (by omega)]
 congr 1
 unfold ixF
 rw[Au k (2^A),Nat.two_pow_add_eq_or_of_lt (b1r A t k)]
def upF(n:Nat)(sh:Bool)(pub a:List Int)(i:Nat)(part:List Int):Nat→List Int
 | 0=>ovF n sh pub a 0 i (part.take n)
 | z+1=>ovF n sh pub a (z+1) (i/2^(z+1)) (if i/2^z%2=1 then (part.drop ((z+1)*n)).take n++upF n sh pub a i part z else upF n sh pub a i part z++(part.drop ((z+1)*n)).take n)
theorem bjp{n:Nat}(hn:n≤32)(sh:Bool)(pub a:List Int)(i:Nat)(part:List Int):∀z,(upF n sh pub a i part z).length=n
 | 0=>ahe hn _ _ _ _
 | z+1=>ahe hn _ _ _ _
theorem btq(n:Nat)(sh:Bool)(pub a:List Int)(i:Nat)(part:List Int):∀z,In 256 (upF n sh pub a i part z)
 | 0=>alb _ _ _ _ _
 | z+1=>alb _ _ _ _ _
def ptF(n A:Nat)(sig:List Int)(k:Nat):List Int:=sig.drop (k*(n*(A+1)))
def cdF(n:Nat)(sh:Bool)(pub a:List Int)(A:Nat)(t sig:List Int)(k:Nat):List Int:=upF n sh pub a (ixF A t k) (ptF n A sig k) A
theorem bu1{n A K:Nat}{H D:Int}(hf:abv n H D A K)(sh:Bool){pub a:List Int}(hp:In 256 pub)(np:pub.length=n)(la:a.length=32)(ha:In 256 a)(sec:List Int)(i:Nat)(hi:i<18446744073709551616)(part:List Int)(ip:In 256 part)(lp':(A+1)*n≤part.length)(lb:part.length≤1000000){ρ:Type}(k:List Int→Option ρ):P.qm (n:Int) H D A K sh sec pub a (i:Int) part k=k (upF n sh pub a i part A):=by
 have hq:=hf
 unfold abv at hq
 have hn:n≤32:=by omega
 have hA:A≤14:=by omega
 have hsp:n≤(A+1)*n:=Nat.le_mul_of_pos_left _ (by omega)
 have hf1:[part.take n].flatten=part.take n:=by simp
 have ht1:(part.take n).length=n:=by rw[Ai];omega
 rw[P.an1];unfold P.ags
 rw[bg (by omega),bg (by omega),toNat_cast,Aq,show ∀(x:Int) (l:List (List Int)) (kk:List Int→Option ρ),P.qb (n:Int) H D A K sh sec pub a 0 x l kk=P.qb (n:Int) H D A K sh sec pub a ((0:Nat):Int) x l kk from fun _ _ _=>rfl,
  bai hf sh hp np la ha 0 i (by omega) hi _ (by simp) (by rw[hf1];exact ip.take n) (by rw[hf1];omega),hf1,P.asa]
 unfold P.an6 P.b3x P.b1z P.b53
 refine yu (fun z=>((i:Int),part.drop (z*n),upF n sh pub a i part z,(A:Int),(z:Int),(n:Int),H,D,(A:Int),(K:Int),sh,sec,pub,a)) A (by simp[upF]) (fun z hz next hnx=>?_) (fun next=>?_) (by omega)
 ·have hd:=Ar i (2^z)
  have hd2:=Ar i (2^(z+1))
  have hz2:(z+2)*n≤(A+1)*n:=Aa (by omega) (Ah _)
  have e2:(z+2)*n=z*n+n+n:=by rw[Ay];omega
  have e1:(z+1)*n=z*n+n:=by rw[Ay,Aw]
  have hl0:(part.drop (z*n)).length=part.length-z*n:=Ag
  have hdd:(part.drop (z*n)).drop n=part.drop ((z+1)*n):=by rw[Av,e1]
  have hl1:(part.drop ((z+1)*n)).length=part.length-(z+1)*n:=Ag
  have lu:=bjp hn sh pub a i part z
  have iu:=btq n sh pub a i part z
  have is':In 256 ((part.drop ((z+1)*n)).take n):=(ip.drop _).take _
  have ls':((part.drop ((z+1)*n)).take n).length≤n:=by rw[Ai];omega
  simp only[P.aia,toNat_cast,Ao,Aq,hdd]
  rw[bg (by omega),bg (by omega),bg (by omega),bg (by omega),bg (by omega),bg (by omega),dh (by omega),qc (x:=(z:Int)+1) (by omega) (by omega),show (z:Int)+1=((z+1:Nat):Int) by omega,dh (by omega),toNat_cast,fdiv_pow _ _ _ (by omega),fdiv_pow _ _ _ (by omega),show (1:Int)=((1:Nat):Int) from rfl,ao6 _ _ (by omega) (by omega),Nat.and_one_is_mod]
  rw[upF] at hnx
  by_cases hb:i/2^z%2=1
  ·rw[if_pos hb] at hnx
   have hfl:[(part.drop ((z+1)*n)).take n,upF n sh pub a i part z].flatten=(part.drop ((z+1)*n)).take n++upF n sh pub a i part z:=by simp
   rw[hb,gu rfl,bai hf sh hp np la ha (z+1) _ (by omega) (by omega) _ (by simp) (by rw[hfl];exact is'.app iu) (by rw[hfl,Ad];omega),hfl]
   exact hnx
  ·rw[if_neg hb] at hnx
   have hfl:[upF n sh pub a i part z,(part.drop ((z+1)*n)).take n].flatten=upF n sh pub a i part z++(part.drop ((z+1)*n)).take n:=by simp
   rw[show i/2^z%2=0 by omega,iw (by omega),dh (by omega),bai hf sh hp np la ha (z+1) _ (by omega) (by omega) _ (by simp) (by rw[hfl];exact iu.app is') (by rw[hfl,Ad];omega),hfl]
   exact hnx
 ·simp only[P.aia]
  rw[dh (by omega)]
theorem wz{n A K:Nat}{H D:Int}(hf:abv n H D A K)(sh:Bool){pub a:List Int}(hp:In 256 pub)(np:pub.length=n)(la:a.length=32)(ha:In 256 a)(t sig:List Int)(ht:In 256 t)(lt:t.length=txF A K)(hsig:In 256 sig)(lsig:sig.length=szF n A K){ρ:Type}(k:List Int→Option ρ):P.wz (n:Int) H D A K sh sig t pub a k=k (kyF n sh pub a (cat (cdF n sh pub a A t sig) K)):=by
 have hq:=hf
 unfold abv at hq
 have hn:n≤32:=by omega
 have hA:A≤14:=by omega
 have hK:K≤40:=by omega
 have h3:K*A≤40*14:=Aa hK hA
 have hpw:K*2^A≤655360:=by
  have h1:2^A≤2^14:=Ac (by omega) hA
  have:=Aa hK h1
  omega
 have htx:txF A K≤100:=by unfold txF;omega
 obtain ⟨d1,d2⟩:=bsl (A:=A) (K:=K) t (by omega) hA lt
 have hl:=bev (T:=cdF n sh pub a A t sig) (fun i=>bjp hn sh pub a _ _ _)
 have hsz:n*(A+1)≤32*15:=Aa hn (by omega)
 have eN:Ab.wrap ((n:Int)*Ab.wrap ((A:Int)+1))=((n*(A+1):Nat):Int):=by
  rw[qc (x:=(A:Int)+1) (by omega) (by omega),show (A:Int)+1=((A+1:Nat):Int) by omega,←Af,qc (by omega) (by omega)]
 unfold szF at lsig
 rw[P.amh];unfold P.afg
 rw[pz hf,jk,decide_eq_true hf,jo,p9,eu (by omega),eu (by omega),eu (by unfold szF;omega),nu t A K ht (by omega),d1,P.aog];unfold P.ai9 P.b3g P.bzb P.cbr
 refine yu (fun j=>((K:Int),(j:Int),cat (cdF n sh pub a A t sig) j,(n:Int),H,D,(A:Int),(K:Int),sh,ptF n A sig j,(n:Int),H,D,(A:Int),(K:Int),sh,pub,a,(n:Int),H,D,(A:Int),(K:Int),sh,pub,a,abd t (A:Int) (K:Int))) K (by simp[cat,ptF]) (fun j hj next hnx=>?_) (fun next=>?_) (by omega)
 ·have hix:=bxd (A:=A) t hj
  have hm:j*n≤40*32:=Aa (by omega) hn
  have hj1:(j+1)*(n*(A+1))≤K*(n*(A+1)):=Aa hj (Ah _)
  have e1:(j+1)*(n*(A+1))=j*(n*(A+1))+n*(A+1):=by rw[Ay,Aw]
  have hKs:K*(n*(A+1))≤40*(32*15):=Aa hK hsz
  have hpl:(ptF n A sig j).length=sig.length-j*(n*(A+1)):=Ag
  have hpn:(ptF n A sig j).drop (n*(A+1))=ptF n A sig (j+1):=by unfold ptF;rw[Av,e1]
  simp only[P.aev,d1,toNat_cast,eN,Ao,hpn]
  rw[bg (by omega),bg (by omega),bg (by omega),dh (by omega),d2 j hj,b8l t j (by omega) (by omega),bu1 hf sh hp np la ha [] _ (by omega) _ (show In 256 (ptF n A sig j) from hsig.drop _) (by rw[hpl,Au];omega) (by rw[hpl];omega),bg (by rw[hl,bjp hn];omega),bg (by omega),bg (by omega),bg (by omega),qc (by omega) (by omega)]
  exact hnx
 ·have hm:K*n≤40*32:=Aa (by omega) hn
  simp only[P.aev]
  rw[dh (by omega),bs3 hf sh hp np la ha _ (bhg (T:=cdF n sh pub a A t sig) (fun i=>btq _ _ _ _ _ _ _) _) (by rw[hl];omega)]
end Q
end

section
/- fors: what any signature is; what is signed leads to the tops. -/
namespace Q
open QK
open Go Go.Abs
set_option linter.unusedVariables false
set_option linter.unusedSimpArgs false
end Q
end

section
/- mac: digests with keys, and keys that grow, by the program. -/
namespace Q
open QK
open Go Go.Abs
set_option linter.unusedVariables false
set_option linter.unusedSimpArgs false
theorem b0p{kd:Int}(h:1≤kd∧kd≤5):(([0,0,32,64,48,128,64,128,32,136,64,72,32,168,64,136]:List Int).getD (kd.toNat*2+1) 0)=((bk kd:Nat):Int):=by
 have:kd=1∨kd=2∨kd=3∨kd=4∨kd=5:=by omega
 rcases this with rfl | rfl | rfl | rfl | rfl<;>decide
theorem agb{kd:Int}(h:1≤kd∧kd≤5)(key:List Int)(hk:In 256 key)(nk:key.length≤100000){ρ:Type}(k:Int→List Int→List Int→Option ρ):P.agb kd key k=k kd (bij (b2j kd key) (bk kd) 92) (bij (b2j kd key) (bk kd) 54):=by
 have hK:K7 kd:=K7.of (by omega)
 have h2:=bx4 hK
 have hd:=blw hK
 rw[P.azm];unfold P.aps
 rw[bdz,bg (by omega),bg (by omega),bg (by omega),b0p h]
 unfold b2j
 by_cases hg:bk kd<key.length
 ·rw[bg (by omega),if_pos hg,avt hK [key] (by simp) (by simpa using hk) (by simp;omega)]
  have e:[key].flatten=key:=by simp
  rw[e,tu _ _ _ (by rw[ayn hK];omega) (by omega),tu _ _ _ (by rw[ayn hK];omega) (by omega)]
 ·rw[dh (by omega),if_neg hg,tu _ _ _ (by omega) (by omega),tu _ _ _ (by omega) (by omega)]
theorem keyed{kd:Int}{ρ:Type}(k:Bool→Option ρ):P.af3 kd k=k (decide (1≤kd∧kd≤5)):=by
 rw[P.aw0];unfold P.ano
 by_cases h1:kd≥1
 ·rw[bg h1]
  congr 1
  exact decide_eq_decide.2 ⟨fun h=>⟨h1,h⟩,fun h=>h.2⟩
 ·rw[dh h1,decide_eq_false (fun h=>h1 h.1)]
theorem ag9{kd:Int}(h:1≤kd∧kd≤5)(key b:List Int)(hk:In 256 key)(hb:In 256 b)(nk:key.length≤100000)(nb:b.length≤900000){ρ:Type}(k:List Int→Int→Option ρ):P.ag9 kd key b k=k (hmc kd key b) 0:=by
 have hK:K7 kd:=K7.of (by omega)
 have h2:=bx4 hK
 rw[P.ba9];unfold P.apq
 rw[keyed,decide_eq_true h,jo,p9,agb h key hk nk,bvm hK [b] (by simp) (by simpa using hb) (by simp;omega) _ _ (bpb _ _ _) (bpb _ _ _) (by rw[bf3];omega) (by rw[bf3];omega)]
 simp[hmc]
theorem hm1:(hmc 1 [] []).take 4=[182,19,103,154]:=by decide +kernel
end Q
end

section
/- slh: digests, and what they tell, by the program. -/
namespace Q
open QK
open Go Go.Abs
set_option linter.unusedVariables false
set_option linter.unusedSimpArgs false
theorem bb8(a b c:List Int):[a,b,c].flatten=a++(b++c):=by simp
theorem aya(a b:List Int):[a,b].flatten=a++b:=by simp
end Q
end

section
/- slh: what a digest tells; signatures, by the program. -/
namespace Q
open QK
open Go Go.Abs
set_option linter.unusedVariables false
set_option linter.unusedSimpArgs false
structure Ks (n:Nat) (H D A K h r:Nat):Prop where
 kd:Kd n H D A K h
 hr:H=h+r
 r64:r≤64
section
variable {n H D A K h r:Nat}
theorem Ks.f(ks:Ks n H D A K h r):abv n H D A K:=ks.kd.1
theorem Ks.n3(ks:Ks n H D A K h r):n=16∨n=24∨n=32:=by have:=ks.f;unfold abv at this;omega
theorem Ks.nums(ks:Ks n H D A K h r):1≤D∧D≤68∧H≤68∧1≤A∧A≤14∧1≤K∧K≤40∧h≤9∧n≤32:=by
 have:=ks.f
 have h2:=ks.kd.h
 have h3:=ks.kd.n
 unfold abv at this
 omega
def sgZ(n D A K h:Nat):Nat:=n+szF n A K+D*(n*(2*n+3+h))
theorem b23(ks:Ks n H D A K h r):szF n A K≤20000∧D*(n*(2*n+3+h))≤166000:=by
 obtain ⟨_,d2,_,_,a2,_,k2,h9,n2⟩:=ks.nums
 have e1:n*(A+1)≤32*15:=Aa n2 (by omega)
 have e2:K*(n*(A+1))≤40*(32*15):=Aa k2 e1
 have e3:n*(2*n+3+h)≤32*76:=Aa n2 (by omega)
 have e4:D*(n*(2*n+3+h))≤68*(32*76):=Aa d2 e3
 unfold szF
 omega
theorem awk(ks:Ks n H D A K h r)(sh:Bool){ρ:Type}(k:Int→Int→Int→Option ρ):P.zx n H D A K sh k=k ((2*n:Nat):Int) ((4*n:Nat):Int) ((sgZ n D A K h:Nat):Int):=by
 obtain ⟨z1,z2⟩:=b23 ks
 obtain ⟨_,d2,_,_,a2,_,k2,h9,n2⟩:=ks.nums
 rw[P.akn];unfold P.afc
 rw[jk,decide_eq_true ks.f,jo,p9,pz ks.f,oo ks.kd,show (D:Int)*((n*(2*n+3+h):Nat):Int)=((D*(n*(2*n+3+h)):Nat):Int) by rw[Af D]]
 unfold sgZ
 generalize D*(n*(2*n+3+h))=Y at *
 generalize szF n A K=X at *
 rw[qc (x:=(2:Int)*(n:Int)) (by omega) (by omega),qc (x:=(4:Int)*(n:Int)) (by omega) (by omega),qc (x:=(Y:Int)) (by omega) (by omega),qc (x:=(n:Int)+(X:Int)) (by omega) (by omega),qc (by omega) (by omega)]
 congr 1
end
end Q
end

section
/- slh: kinds of numbers; what a digest tells, by the document. -/
namespace Q
open QK
open Go Go.Abs
set_option linter.unusedVariables false
set_option linter.unusedSimpArgs false
theorem b1m(a:Int)(h:1≤a∧a≤12):∃n H D A K h r:Nat,∃sh:Bool,Ks n H D A K h r∧(∀{ρ:Type} (k:Int→Int→Int→Int→Int→Bool→Bool→Option ρ),P.ae2 a k=k n H D A K sh true)∧∀{ρ:Type} (k:Int→Int→Int→Int→Int→Bool→Bool→Option ρ),P.ajb a k=k n H D A K sh true:=by
 have two:∀(a:Int) (n H D A K h r:Nat) (sh:Bool),Ks n H D A K h r→(∀{ρ:Type} (k:Int→Int→Int→Int→Int→Bool→Bool→Option ρ),P.ug a k=k n H D A K sh true)→(∀{ρ:Type} (k:Int→Int→Int→Int→Int→Bool→Bool→Option ρ),P.uw a k=k n H D A K sh true) →
     ∃n H D A K h r:Nat,∃sh:Bool,Ks n H D A K h r∧(∀{ρ:Type} (k:Int→Int→Int→Int→Int→Bool→Bool→Option ρ),P.ae2 a k=k n H D A K sh true)∧∀{ρ:Type} (k:Int→Int→Int→Int→Int→Bool→Bool→Option ρ),P.ajb a k=k n H D A K sh true:=by
  intro a n H D A K h r sh ks h1 h2
  exact ⟨n,H,D,A,K,h,r,sh,ks,fun k=>by rw[P.aqc];exact h1 k,fun k=>by rw[P.avc];exact h2 k⟩
 have hc:a=1∨a=2∨a=3∨a=4∨a=5∨a=6∨a=7∨a=8∨a=9∨a=10∨a=11∨a=12:=by omega
 rcases hc with rfl | rfl | rfl | rfl | rfl | rfl | rfl | rfl | rfl | rfl | rfl | rfl
 ·exact two 1 16 63 7 12 14 9 54 false ⟨⟨by decide,by decide⟩,by decide,by decide⟩ (fun k=>by unfold P.ug;rw[dh (by decide),dh (by decide),bg (by decide),bg (by decide),bg (by decide)];rfl) (fun k=>by unfold P.uw;rw[dh (by decide),dh (by decide),bg (by decide),bg (by decide),bg (by decide),bg (by decide),bg (by decide),bg (by decide),bg (by decide),bg (by decide),bg (by decide),bg (by decide)];rfl)
 ·exact two 2 16 63 7 12 14 9 54 true ⟨⟨by decide,by decide⟩,by decide,by decide⟩ (fun k=>by unfold P.ug;rw[dh (by decide),dh (by decide),bg (by decide),bg (by decide),bg (by decide)];rfl) (fun k=>by unfold P.uw;rw[dh (by decide),dh (by decide),bg (by decide),bg (by decide),bg (by decide),bg (by decide),bg (by decide),bg (by decide),bg (by decide),bg (by decide),bg (by decide),bg (by decide)];rfl)
 ·exact two 3 16 66 22 6 33 3 63 false ⟨⟨by decide,by decide⟩,by decide,by decide⟩ (fun k=>by unfold P.ug;rw[dh (by decide),dh (by decide),bg (by decide),bg (by decide),bg (by decide)];rfl) (fun k=>by unfold P.uw;rw[dh (by decide),dh (by decide),bg (by decide),bg (by decide),bg (by decide),bg (by decide),bg (by decide),bg (by decide),bg (by decide),bg (by decide),bg (by decide),bg (by decide)];rfl)
 ·exact two 4 16 66 22 6 33 3 63 true ⟨⟨by decide,by decide⟩,by decide,by decide⟩ (fun k=>by unfold P.ug;rw[dh (by decide),dh (by decide),bg (by decide),bg (by decide),bg (by decide)];rfl) (fun k=>by unfold P.uw;rw[dh (by decide),dh (by decide),bg (by decide),bg (by decide),bg (by decide),bg (by decide),bg (by decide),bg (by decide),bg (by decide),bg (by decide),bg (by decide),bg (by decide)];rfl)
 ·exact two 5 24 63 7 14 17 9 54 false ⟨⟨by decide,by decide⟩,by decide,by decide⟩ (fun k=>by unfold P.ug;rw[dh (by decide),dh (by decide),bg (by decide),bg (by decide),bg (by decide)];rfl) (fun k=>by unfold P.uw;rw[dh (by decide),dh (by decide),bg (by decide),bg (by decide),bg (by decide),bg (by decide),bg (by decide),bg (by decide),bg (by decide),bg (by decide),bg (by decide),bg (by decide)];rfl)
 ·exact two 6 24 63 7 14 17 9 54 true ⟨⟨by decide,by decide⟩,by decide,by decide⟩ (fun k=>by unfold P.ug;rw[dh (by decide),dh (by decide),bg (by decide),bg (by decide),bg (by decide)];rfl) (fun k=>by unfold P.uw;rw[dh (by decide),dh (by decide),bg (by decide),bg (by decide),bg (by decide),bg (by decide),bg (by decide),bg (by decide),bg (by decide),bg (by decide),bg (by decide),bg (by decide)];rfl)
 ·exact two 7 24 66 22 8 33 3 63 false ⟨⟨by decide,by decide⟩,by decide,by decide⟩ (fun k=>by unfold P.ug;rw[dh (by decide),dh (by decide),bg (by decide),bg (by decide),bg (by decide)];rfl) (fun k=>by unfold P.uw;rw[dh (by decide),dh (by decide),bg (by decide),bg (by decide),bg (by decide),bg (by decide),bg (by decide),bg (by decide),bg (by decide),bg (by decide),bg (by decide),bg (by decide)];rfl)
 ·exact two 8 24 66 22 8 33 3 63 true ⟨⟨by decide,by decide⟩,by decide,by decide⟩ (fun k=>by unfold P.ug;rw[dh (by decide),dh (by decide),bg (by decide),bg (by decide),bg (by decide)];rfl) (fun k=>by unfold P.uw;rw[dh (by decide),dh (by decide),bg (by decide),bg (by decide),bg (by decide),bg (by decide),bg (by decide),bg (by decide),bg (by decide),bg (by decide),bg (by decide),bg (by decide)];rfl)
 ·exact two 9 32 64 8 14 22 8 56 false ⟨⟨by decide,by decide⟩,by decide,by decide⟩ (fun k=>by unfold P.ug;rw[dh (by decide),dh (by decide),bg (by decide),bg (by decide),bg (by decide)];rfl) (fun k=>by unfold P.uw;rw[dh (by decide),dh (by decide),bg (by decide),bg (by decide),bg (by decide),bg (by decide),bg (by decide),bg (by decide),bg (by decide),bg (by decide),bg (by decide),bg (by decide)];rfl)
 ·exact two 10 32 64 8 14 22 8 56 true ⟨⟨by decide,by decide⟩,by decide,by decide⟩ (fun k=>by unfold P.ug;rw[dh (by decide),dh (by decide),bg (by decide),bg (by decide),bg (by decide)];rfl) (fun k=>by unfold P.uw;rw[dh (by decide),dh (by decide),bg (by decide),bg (by decide),bg (by decide),bg (by decide),bg (by decide),bg (by decide),bg (by decide),bg (by decide),bg (by decide),bg (by decide)];rfl)
 ·exact two 11 32 68 17 9 35 4 64 false ⟨⟨by decide,by decide⟩,by decide,by decide⟩ (fun k=>by unfold P.ug;rw[dh (by decide),dh (by decide),bg (by decide),bg (by decide),bg (by decide)];rfl) (fun k=>by unfold P.uw;rw[dh (by decide),dh (by decide),bg (by decide),bg (by decide),bg (by decide),bg (by decide),bg (by decide),bg (by decide),bg (by decide),bg (by decide),bg (by decide),bg (by decide)];rfl)
 ·exact two 12 32 68 17 9 35 4 64 true ⟨⟨by decide,by decide⟩,by decide,by decide⟩ (fun k=>by unfold P.ug;rw[dh (by decide),dh (by decide),bg (by decide),bg (by decide),bg (by decide)];rfl) (fun k=>by unfold P.uw;rw[dh (by decide),dh (by decide),bg (by decide),bg (by decide),bg (by decide),bg (by decide),bg (by decide),bg (by decide),bg (by decide),bg (by decide),bg (by decide),bg (by decide)];rfl)
theorem bvp(a:Int)(h:¬(1≤a∧a≤12)):(∀{ρ:Type} (k:Int→Int→Int→Int→Int→Bool→Bool→Option ρ),P.ae2 a k=k 0 0 0 0 0 false false)∧∀{ρ:Type} (k:Int→Int→Int→Int→Int→Bool→Bool→Option ρ),P.ajb a k=k 0 0 0 0 0 false false:=by
 constructor
 ·intro ρ k
  rw[P.aqc];unfold P.ug
  by_cases h1:a<1
  ·rw[bg h1]
  ·rw[dh h1,bg (by omega)]
 ·intro ρ k
  rw[P.avc];unfold P.uw
  by_cases h1:a<1
  ·rw[bg h1]
  ·rw[dh h1,bg (by omega)]
section
variable {n H D A K h r:Nat}
end
end Q
end

section
/- slh: signatures, and what verifies them. -/
namespace Q
open QK
open Go Go.Abs
set_option linter.unusedVariables false
set_option linter.unusedSimpArgs false
section
variable {n H D A K h r:Nat}
end
end Q
end

section
/- slh: what verifies; keys. -/
namespace Q
open QK
open Go Go.Abs
set_option linter.unusedVariables false
set_option linter.unusedSimpArgs false
section
variable {n H D A K h r:Nat}
def bw3(n:Nat)(sh:Bool)(h D:Nat)(sec pub:List Int):List Int:=knW n sh pub sec (anb Z32 0 (D-1)) h 0
theorem bkc(ks:Ks n H D A K h r)(sh:Bool)(sec drw pub:List Int)(h1:In 256 sec)(h2:In 256 drw)(h3:In 256 pub)(l1:sec.length=n)(l2:drw.length=n)(l3:pub.length=n){ρ:Type}(k:List Int→List Int→Int→Option ρ) :
    P.afx n H D A K sh sec drw pub k=k (pub++bw3 n sh h D sec pub) (sec++(drw++(pub++bw3 n sh h D sec pub))) 0:=by
 obtain ⟨d1,d2,_,_,_,_,_,h9,n2⟩:=ks.nums
 have lk:=avn n2 sh pub sec (anb Z32 0 (D-1)) h 0
 have eD:Ak.wrap (Ab.wrap ((D:Int)-1))=((D-1:Nat):Int):=by rw[qc (by omega) (by omega),show (D:Int)-1=((D-1:Nat):Int) by omega,ah1 _ (by omega)]
 rw[P.ag4];unfold P.ac6
 rw[jk,decide_eq_true ks.f,jo,p9,eu (by omega),eu (by omega),eu (by omega),eD,show P.gy (ρ:=ρ) [0,0,0,0,0,0,0,0,0,0,0,0,0,0,0,0,0,0,0,0,0,0,0,0,0,0,0,0,0,0,0,0]=P.gy Z32 from rfl,gy rfl 0 _ (by omega),dh ks.kd.d,ks.kd.2]
 rw[show ∀(s p a:List Int) (kk:List Int→Option ρ),P.abn (n:Int) H D A K sh s p a (h:Int) 0 kk=P.abn (n:Int) H D A K sh s p a (h:Int) ((0:Nat):Int) kk from fun _ _ _ _=>rfl,
  abn ks.kd sh _ _ _ h1 l1 h3 l3 (jm rfl _ _) (wm boi _ _) h 0 (Ah h) (Al _),jc _ (by simp) (by rw[aya];simp[lk];omega),aya,jc _ (by simp) (by rw[bb8];simp[lk];omega),bb8]
 rfl
theorem bkf(ks:Ks n H D A K h r)(sh:Bool)(sec drw pub:List Int)(h1:In 256 sec)(h2:In 256 drw)(h3:In 256 pub)(l1:sec.length=n)(l2:drw.length=n)(l3:pub.length=n){ρ:Type}(k:List Int→List Int→Int→Option ρ) :
    P.afo n H D A K sh sec drw pub k=k (pub++bw3 n sh h D sec pub) (sec++(drw++(pub++bw3 n sh h D sec pub))) 0:=by
 obtain ⟨d1,d2,_,_,_,_,_,h9,n2⟩:=ks.nums
 have lk:=avn n2 sh pub sec (anb Z32 0 (D-1)) h 0
 have eD:Ak.wrap (Ab.wrap ((D:Int)-1))=((D-1:Nat):Int):=by rw[qc (by omega) (by omega),show (D:Int)-1=((D-1:Nat):Int) by omega,ah1 _ (by omega)]
 rw[P.agt];unfold P.adx
 rw[om,decide_eq_true ks.f,jo,p9,eu (by omega),eu (by omega),eu (by omega),eD,show P.j5 (ρ:=ρ) [0,0,0,0,0,0,0,0,0,0,0,0,0,0,0,0,0,0,0,0,0,0,0,0,0,0,0,0,0,0,0,0]=P.j5 Z32 from rfl,j5 rfl 0 _ (by omega),dh ks.kd.d,ks.kd.2]
 rw[show ∀(s p a:List Int) (kk:List Int→Option ρ),P.ad6 (n:Int) H D A K sh s p a (h:Int) 0 kk=P.ad6 (n:Int) H D A K sh s p a (h:Int) ((0:Nat):Int) kk from fun _ _ _ _=>rfl,
  ad6 ks.kd sh _ _ _ h1 l1 h3 l3 (jm rfl _ _) (wm boi _ _) h 0 (Ah h) (Al _),oh _ (by simp) (by rw[aya];simp[lk];omega),aya,oh _ (by simp) (by simp[lk];omega)]
 simp[bw3]
end
end Q
end

section
/- hss: a number's digits, each by its own width: pure. -/
namespace Q
open Go Go.Abs
set_option linter.unusedVariables false
set_option linter.unusedSimpArgs false
theorem bgh(p:Nat→Prop):∀N,(∀i,i<N→p i)∨∃i,i<N∧¬p i∧∀j,j<i→p j
 | 0=>.inl (fun i h=>by omega)
 | N+1=>by
  rcases bgh p N with h | ⟨i,h1,h2,h3⟩
  ·by_cases hp:p N
   ·exact .inl (fun i hi=>by
      by_cases e:i=N
      ·rw[e];exact hp
      ·exact h i (by omega))
   ·exact .inr ⟨N,by omega,hp,h⟩
  ·exact .inr ⟨i,by omega,h2,h3⟩
end Q
end

section
/- slh: both together, of any inputs. -/
namespace Q
open QK
open Go Go.Abs
set_option linter.unusedVariables false
set_option linter.unusedSimpArgs false
theorem b9h{N H D A K:Int}(hf:abv N H D A K)(h64:H≤64):∃n H' D' A' K' h r:Nat,N=(n:Int)∧H=(H':Int)∧D=(D':Int)∧A=(A':Int)∧K=(K':Int)∧Ks n H' D' A' K' h r:=by
 have h0:=hf
 unfold abv at h0
 obtain ⟨n,rfl⟩:∃n:Nat,N=(n:Int):=⟨N.toNat,by omega⟩
 obtain ⟨H',rfl⟩:∃n:Nat,H=(n:Int):=⟨H.toNat,by omega⟩
 obtain ⟨D',rfl⟩:∃n:Nat,D=(n:Int):=⟨D.toNat,by omega⟩
 obtain ⟨A',rfl⟩:∃n:Nat,A=(n:Int):=⟨A.toNat,by omega⟩
 obtain ⟨K',rfl⟩:∃n:Nat,K=(n:Int):=⟨K.toNat,by omega⟩
 obtain ⟨h,kd⟩:=b2v hf
 have hk2:=kd.2
 have h1:0≤(H':Int).tdiv (D':Int):=Int.tdiv_nonneg (by omega) (by omega)
 have h3:(H':Int).tdiv (D':Int)≤H':=by
  rw[Am (by omega)]
  exact Int.ediv_le_self _ (by omega)
 rw[qc (by omega) (by omega)] at hk2
 exact ⟨n,H',D',A',K',h,H'-h,rfl,rfl,rfl,rfl,rfl,kd,by omega,by omega⟩
theorem bmn(N H D A K:Int)(sh:Bool):∃a b c:Int,(∀{ρ:Type} (k:Int→Int→Int→Option ρ),P.zx N H D A K sh k=k a b c)∧∀{ρ:Type} (k:Int→Int→Int→Option ρ),P.af8 N H D A K sh k=k a b c:=by
 by_cases hf:abv N H D A K
 ·have h0:=hf
  unfold abv at h0
  obtain ⟨n,rfl⟩:∃n:Nat,N=(n:Int):=⟨N.toNat,by omega⟩
  obtain ⟨A',rfl⟩:∃n:Nat,A=(n:Int):=⟨A.toNat,by omega⟩
  obtain ⟨K',rfl⟩:∃n:Nat,K=(n:Int):=⟨K.toNat,by omega⟩
  obtain ⟨h,kd⟩:=b2v hf
  refine ⟨Ab.wrap ((2:Int)*(n:Int)),Ab.wrap ((4:Int)*(n:Int)),Ab.wrap (Ab.wrap ((n:Int)+((szF n A' K':Nat):Int))+Ab.wrap (D*((n*(2*n+3+h):Nat):Int))),fun k=>?_,fun k=>?_⟩
  ·rw[P.akn];unfold P.afc
   rw[jk,decide_eq_true hf,jo,p9,pz hf,oo kd]
  ·rw[P.apw];unfold P.aiy
   rw[om,decide_eq_true hf,jo,p9,af9 hf,aga kd]
 ·refine ⟨0,0,0,fun k=>?_,fun k=>?_⟩
  ·rw[P.akn];unfold P.afc
   rw[jk,decide_eq_false hf,jo,yg]
  ·rw[P.apw];unfold P.aiy
   rw[om,decide_eq_false hf,jo,yg]
theorem bpr(N H D A K:Int)(sh:Bool)(hl:abv N H D A K→H≤64)(sec drw pub:List Int)(h1:In 256 sec)(h2:In 256 drw)(h3:In 256 pub):∃(x y:List Int) (e:Int),x.length≤200000∧y.length≤200000∧(∀{ρ:Type} (k:List Int→List Int→Int→Option ρ),P.afx N H D A K sh sec drw pub k=k x y e)∧∀{ρ:Type} (k:List Int→List Int→Int→Option ρ),P.afo N H D A K sh sec drw pub k=k x y e:=by
 by_cases hf:abv N H D A K
 ·obtain ⟨n,H',D',A',K',h,r,rfl,rfl,rfl,rfl,rfl,ks⟩:=b9h hf (hl hf)
  obtain ⟨_,d2,_,_,_,_,_,h9,n2⟩:=ks.nums
  by_cases l1:sec.length=n
  ·by_cases l2:drw.length=n
   ·by_cases l3:pub.length=n
    ·have lk:(bw3 n sh h D' sec pub).length=n:=avn n2 sh pub sec (anb Z32 0 (D'-1)) h 0
     exact ⟨_,_,0,by rw[Ad,lk];omega,by rw[Ad,Ad,Ad,lk];omega,fun k=>bkc ks sh sec drw pub h1 h2 h3 l1 l2 l3 k,fun k=>bkf ks sh sec drw pub h1 h2 h3 l1 l2 l3 k⟩
    ·refine ⟨[],[],14,by simp,by simp,fun k=>?_,fun k=>?_⟩
     ·rw[P.ag4];unfold P.ac6
      rw[jk,decide_eq_true ks.f,jo,p9,eu (by omega),eu (by omega),jd (by omega)]
     ·rw[P.agt];unfold P.adx
      rw[om,decide_eq_true ks.f,jo,p9,eu (by omega),eu (by omega),jd (by omega)]
   ·refine ⟨[],[],14,by simp,by simp,fun k=>?_,fun k=>?_⟩
    ·rw[P.ag4];unfold P.ac6
     rw[jk,decide_eq_true ks.f,jo,p9,eu (by omega),jd (by omega)]
    ·rw[P.agt];unfold P.adx
     rw[om,decide_eq_true ks.f,jo,p9,eu (by omega),jd (by omega)]
  ·refine ⟨[],[],14,by simp,by simp,fun k=>?_,fun k=>?_⟩
   ·rw[P.ag4];unfold P.ac6
    rw[jk,decide_eq_true ks.f,jo,p9,jd (by omega)]
   ·rw[P.agt];unfold P.adx
    rw[om,decide_eq_true ks.f,jo,p9,jd (by omega)]
 ·refine ⟨[],[],9,by simp,by simp,fun k=>?_,fun k=>?_⟩
  ·rw[P.ag4];unfold P.ac6
   rw[jk,decide_eq_false hf,jo,yg]
  ·rw[P.agt];unfold P.adx
   rw[om,decide_eq_false hf,jo,yg]
theorem bhr(N H D A K:Int)(sh:Bool):∃b:Bool,(b=true→abv N H D A K→H≤64)∧∀{ρ:Type} (k:Bool→Option ρ),P.aeo N H D A K sh k=k b:=by
 by_cases hf:abv N H D A K
 ·by_cases h2:H≤2
  ·by_cases h3:A≤3
   ·exact ⟨decide (K≤4),fun _ _=>by omega,fun k=>by rw[P.ahw];unfold P.ad7;rw[om,decide_eq_true hf,jo,p9,bg h2,bg h3]⟩
   ·exact ⟨false,(fun h=>by cases h),fun k=>by rw[P.ahw];unfold P.ad7;rw[om,decide_eq_true hf,jo,p9,bg h2,dh h3]⟩
  ·exact ⟨false,(fun h=>by cases h),fun k=>by rw[P.ahw];unfold P.ad7;rw[om,decide_eq_true hf,jo,p9,dh h2]⟩
 ·exact ⟨true,fun _ h=>absurd h hf,fun k=>by rw[P.ahw];unfold P.ad7;rw[om,decide_eq_false hf,jo,yg]⟩
theorem agk(l:List (List Int))(hl:l.length≤100){ρ:Type}(k:Bool→Option ρ):(P.agk l k=k true∧∀i,i<l.length→(l.getD i []).length≤300)∨P.agk l k=k false:=by
 rw[P.bct]
 unfold P.asz
 rw[P.bee]
 unfold P.bc4 P.b29 P.bxw P.cdw
 rcases bgh (fun i=>(l.getD i []).length≤300) l.length with h | ⟨m,m1,m2,m3⟩
 ·refine .inl ⟨yu (fun i=>(l,(l.length:Int),(i:Int))) l.length rfl (fun i hi next hn'=>?_) (fun next=>?_) (by omega),h⟩
  ·have:=h i hi
   simp only[P.al7,toNat_cast]
   rw[bg (by omega),bg (by omega),bg (by omega),dh (by omega),qc (by omega) (by omega)]
   exact hn'
  ·simp only[P.al7]
   rw[dh (by omega)]
   rfl
 ·refine .inr (yu (fun i=>(l,(l.length:Int),(i:Int))) m rfl (fun i hi next hn'=>?_) (fun next=>?_) (by omega))
  ·have:=m3 i hi
   simp only[P.al7,toNat_cast]
   rw[bg (by omega),bg (by omega),bg (by omega),dh (by omega),qc (by omega) (by omega)]
   exact hn'
  ·simp only[P.al7,toNat_cast]
   rw[bg (by omega),bg (by omega),bg (by omega),bg (by omega)]
   rfl
end Q
end

section
/- slh: the example. -/
namespace Q
open QK
open Go Go.Abs
set_option linter.unusedVariables false
set_option linter.unusedSimpArgs false
theorem ks3:Ks 16 66 22 6 33 3 63:=⟨⟨by decide,by decide⟩,by decide,by decide⟩
theorem yw{ρ:Type}(k:Bool→Option ρ):P.yw k=k true:=by
 rw[P.aw2];unfold P.am2
 have hs:∀(k:Int→Int→Int→Int→Int→Bool→Bool→Option ρ),P.ae2 3 k=k 16 66 22 6 33 false true:=fun k=>by
  rw[P.aqc];unfold P.ug
  rw[dh (by decide),dh (by decide),bg (by decide),bg (by decide),bg (by decide)];rfl
 have hz:=fun (k:Int→Int→Int→Option ρ)=>awk ks3 false k
 have hv:∀(k:Int→Option ρ),P.aeb 16 66 22 6 33 false [] [] [] [] k=k 10:=fun k=>by
  rw[P.atp];unfold P.aky
  have h1:=awk ks3 false (ρ:=ρ)
  have h2:=jk ((16:Nat):Int) ((66:Nat):Int) ((22:Nat):Int) ((6:Nat):Int) ((33:Nat):Int) false (ρ:=ρ)
  rw[decide_eq_true ks3.f] at h2
  refine Eq.trans (h1 _) (Eq.trans (h2 _) ?_)
  rw[jo,p9,jd (by decide)]
 rw[hs]
 refine Eq.trans (hz _) ?_
 rw[show sgZ 16 22 6 33 3=17088 by decide,p9]
 refine Eq.trans (p9 _ _) ?_
 rw[gu (by decide),hv]
 rfl
end Q
end

section
namespace Q
open QK
open Go Go.Abs
set_option linter.unusedVariables false
set_option linter.unusedSimpArgs false
theorem SlhMakes(x0:Int)(x1_N:Int)(x1_H:Int)(x1_D:Int)(x1_A:Int)(x1_K:Int)(x1_Shake:Bool)(x2:List Int)(x3:List Int)(x4:List Int)(wx0:wfI .i64 x0)(wx1_N:wfI .i64 x1_N)(wx1_H:wfI .i64 x1_H)(wx1_D:wfI .i64 x1_D)(wx1_A:wfI .i64 x1_A)(wx1_K:wfI .i64 x1_K)(nx2:x2.length≤140737488355328)(wx2:∀x,x∈x2→wfI .u8 x)(nx3:x3.length≤140737488355328)(wx3:∀x,x∈x3→wfI .u8 x)(nx4:x4.length≤140737488355328)(wx4:∀x,x∈x4→wfI .u8 x){ρ:Type}(k:Bool→Option ρ):P.aa5 x0 x1_N x1_H x1_D x1_A x1_K x1_Shake x2 x3 x4 k=k true:=by
 rw[P.apo];unfold P.ah8
 obtain ⟨a,b,c,s1,s2⟩:=bmn x1_N x1_H x1_D x1_A x1_K x1_Shake
 obtain ⟨v,hv,hk⟩:=bhr x1_N x1_H x1_D x1_A x1_K x1_Shake
 have tail:(P.aeo x1_N x1_H x1_D x1_A x1_K x1_Shake fun (q20:Bool) =>
         br (!q20) (P.yw fun (q21:Bool)=>k q21)
          (P.agk [x2,x3,x4] fun (q22:Bool) =>
           br (!q22) (P.yw fun (q23:Bool)=>k q23)
            (P.afx x1_N x1_H x1_D x1_A x1_K x1_Shake x2 x3 x4 fun (q24 q25:List Int) (q26:Int) =>
             P.afo x1_N x1_H x1_D x1_A x1_K x1_Shake x2 x3 x4
              fun (q27 q28:List Int) (q29:Int) =>
              P.ab4 q24 q27 fun (q30:Bool) =>
               br q30
                (P.ab4 q25 q28 fun (q31:Bool) =>
                 br q31 (br (q26==q29) (P.yw fun (q32:Bool)=>k q32) (k false))
                  (k false))
                (k false))))=k true:=by
  rw[hk]
  cases v with
  | false=>rw[jo,yg,yw]
  | true =>
   rw[jo,p9]
   rcases agk [x2,x3,x4] (by simp) (fun (q0:Bool)=>_) with ⟨hf,hl⟩ | hf
   ·rw[hf,jo,p9]
    obtain ⟨x,y,e,lx,ly,k1,k2⟩:=bpr x1_N x1_H x1_D x1_A x1_K x1_Shake (hv rfl) x2 x3 x4 (bwf wx2) (bwf wx3) (bwf wx4)
    rw[k1,k2,ab4 _ _ (by omega),decide_eq_true rfl,p9,ab4 _ _ (by omega),decide_eq_true rfl,p9,beq_self_eq_true,p9,yw]
   ·rw[hf,jo,yg,yw]
 by_cases h12:1≤x0∧x0≤12
 ·obtain ⟨n,H,D,A,K,h,r,sh,_,t1,t2⟩:=b1m x0 h12
  rw[t1,t2,s1,s2]
  simp only[beq_self_eq_true,Bool.and_true,Bool.not_true,yg]
  rw[eu rfl,eu rfl,eu rfl]
  exact tail
 ·obtain ⟨t1,t2⟩:=bvp x0 h12
  rw[t1,t2,s1,s2]
  simp only[beq_self_eq_true,Bool.and_true,Bool.not_true,yg]
  rw[eu rfl,eu rfl,eu rfl]
  exact tail
end Q
end
