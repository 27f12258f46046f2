/-
  SlhVerifies, part 28: an interpreter of my own over abstract values, the pure functions, the walks and the plain law.
-/

import Derived.Test.YtciddcopcdmnbaaGreatDoorSlhVerifiesZA
import Derived.Test.YtciddcopcdmnbaaGreatDoorSlhVerifiesL
import Derived.Test.YtciddcopcdmnbaaGreatDoorSlhVerifiesI
import Derived.Test.YtciddcopcdmnbaaGreatDoorSlhVerifiesM
import Derived.Test.YtciddcopcdmnbaaGreatDoorSlhVerifiesY
open Nat renaming pow_le_pow_right → Aa, mod_eq_of_lt → Ag, add_sub_cancel_left → Ah
open List renaming length_take → Ab, length_drop → Ac, drop_zero → Ae, take_length → Af
open Go.IntKind renaming i64 → Ad

section
/- slh: kinds of numbers; what a digest tells, by the document. -/
namespace Q
open QK
open Go Go.Abs
set_option linter.unusedVariables false
set_option linter.unusedSimpArgs false
theorem b0z(a:Int)(h:1≤a∧a≤12):∃n H D A K h r:Nat,∃sh:Bool,Ks n H D A K h r∧(∀{ρ:Type} (k:Int→Int→Int→Int→Int→Bool→Bool→Option ρ),P.ai4 a k=k n H D A K sh true)∧∀{ρ:Type} (k:Int→Int→Int→Int→Int→Bool→Bool→Option ρ),P.ak4 a k=k n H D A K sh true:=by
 have two:∀(a:Int) (n H D A K h r:Nat) (sh:Bool),Ks n H D A K h r→(∀{ρ:Type} (k:Int→Int→Int→Int→Int→Bool→Bool→Option ρ),P.uh a k=k n H D A K sh true)→(∀{ρ:Type} (k:Int→Int→Int→Int→Int→Bool→Bool→Option ρ),P.u7 a k=k n H D A K sh true) →
     ∃n H D A K h r:Nat,∃sh:Bool,Ks n H D A K h r∧(∀{ρ:Type} (k:Int→Int→Int→Int→Int→Bool→Bool→Option ρ),P.ai4 a k=k n H D A K sh true)∧∀{ρ:Type} (k:Int→Int→Int→Int→Int→Bool→Bool→Option ρ),P.ak4 a k=k n H D A K sh true:=by
  intro a n H D A K h r sh ks h1 h2
  exact ⟨n,H,D,A,K,h,r,sh,ks,fun k=>by rw[P.ar4];exact h1 k,fun k=>by rw[P.axd];exact h2 k⟩
 have hc:a=1∨a=2∨a=3∨a=4∨a=5∨a=6∨a=7∨a=8∨a=9∨a=10∨a=11∨a=12:=by omega
 rcases hc with rfl | rfl | rfl | rfl | rfl | rfl | rfl | rfl | rfl | rfl | rfl | rfl
 ·exact two 1 16 63 7 12 14 9 54 false ⟨⟨by decide,by decide⟩,by decide,by decide⟩ (fun k=>by unfold P.uh;rw[dh (by decide),dh (by decide),bf (by decide),bf (by decide),bf (by decide)];rfl) (fun k=>by unfold P.u7;rw[dh (by decide),dh (by decide),bf (by decide),bf (by decide),bf (by decide),bf (by decide),bf (by decide),bf (by decide),bf (by decide),bf (by decide),bf (by decide),bf (by decide)];rfl)
 ·exact two 2 16 63 7 12 14 9 54 true ⟨⟨by decide,by decide⟩,by decide,by decide⟩ (fun k=>by unfold P.uh;rw[dh (by decide),dh (by decide),bf (by decide),bf (by decide),bf (by decide)];rfl) (fun k=>by unfold P.u7;rw[dh (by decide),dh (by decide),bf (by decide),bf (by decide),bf (by decide),bf (by decide),bf (by decide),bf (by decide),bf (by decide),bf (by decide),bf (by decide),bf (by decide)];rfl)
 ·exact two 3 16 66 22 6 33 3 63 false ⟨⟨by decide,by decide⟩,by decide,by decide⟩ (fun k=>by unfold P.uh;rw[dh (by decide),dh (by decide),bf (by decide),bf (by decide),bf (by decide)];rfl) (fun k=>by unfold P.u7;rw[dh (by decide),dh (by decide),bf (by decide),bf (by decide),bf (by decide),bf (by decide),bf (by decide),bf (by decide),bf (by decide),bf (by decide),bf (by decide),bf (by decide)];rfl)
 ·exact two 4 16 66 22 6 33 3 63 true ⟨⟨by decide,by decide⟩,by decide,by decide⟩ (fun k=>by unfold P.uh;rw[dh (by decide),dh (by decide),bf (by decide),bf (by decide),bf (by decide)];rfl) (fun k=>by unfold P.u7;rw[dh (by decide),dh (by decide),bf (by decide),bf (by decide),bf (by decide),bf (by decide),bf (by decide),bf (by decide),bf (by decide),bf (by decide),bf (by decide),bf (by decide)];rfl)
 ·exact two 5 24 63 7 14 17 9 54 false ⟨⟨by decide,by decide⟩,by decide,by decide⟩ (fun k=>by unfold P.uh;rw[dh (by decide),dh (by decide),bf (by decide),bf (by decide),bf (by decide)];rfl) (fun k=>by unfold P.u7;rw[dh (by decide),dh (by decide),bf (by decide),bf (by decide),bf (by decide),bf (by decide),bf (by decide),bf (by decide),bf (by decide),bf (by decide),bf (by decide),bf (by decide)];rfl)
 ·exact two 6 24 63 7 14 17 9 54 true ⟨⟨by decide,by decide⟩,by decide,by decide⟩ (fun k=>by unfold P.uh;rw[dh (by decide),dh (by decide),bf (by decide),bf (by decide),bf (by decide)];rfl) (fun k=>by unfold P.u7;rw[dh (by decide),dh (by decide),bf (by decide),bf (by decide),bf (by decide),bf (by decide),bf (by decide),bf (by decide),bf (by decide),bf (by decide),bf (by decide),bf (by decide)];rfl)
 ·exact two 7 24 66 22 8 33 3 63 false ⟨⟨by decide,by decide⟩,by decide,by decide⟩ (fun k=>by unfold P.uh;rw[dh (by decide),dh (by decide),bf (by decide),bf (by decide),bf (by decide)];rfl) (fun k=>by unfold P.u7;rw[dh (by decide),dh (by decide),bf (by decide),bf (by decide),bf (by decide),bf (by decide),bf (by decide),bf (by decide),bf (by decide),bf (by decide),bf (by decide),bf (by decide)];rfl)
 ·exact two 8 24 66 22 8 33 3 63 true ⟨⟨by decide,by decide⟩,by decide,by decide⟩ (fun k=>by unfold P.uh;rw[dh (by decide),dh (by decide),bf (by decide),bf (by decide),bf (by decide)];rfl) (fun k=>by unfold P.u7;rw[dh (by decide),dh (by decide),bf (by decide),bf (by decide),bf (by decide),bf (by decide),bf (by decide),bf (by decide),bf (by decide),bf (by decide),bf (by decide),bf (by decide)];rfl)
 ·exact two 9 32 64 8 14 22 8 56 false ⟨⟨by decide,by decide⟩,by decide,by decide⟩ (fun k=>by unfold P.uh;rw[dh (by decide),dh (by decide),bf (by decide),bf (by decide),bf (by decide)];rfl) (fun k=>by unfold P.u7;rw[dh (by decide),dh (by decide),bf (by decide),bf (by decide),bf (by decide),bf (by decide),bf (by decide),bf (by decide),bf (by decide),bf (by decide),bf (by decide),bf (by decide)];rfl)
 ·exact two 10 32 64 8 14 22 8 56 true ⟨⟨by decide,by decide⟩,by decide,by decide⟩ (fun k=>by unfold P.uh;rw[dh (by decide),dh (by decide),bf (by decide),bf (by decide),bf (by decide)];rfl) (fun k=>by unfold P.u7;rw[dh (by decide),dh (by decide),bf (by decide),bf (by decide),bf (by decide),bf (by decide),bf (by decide),bf (by decide),bf (by decide),bf (by decide),bf (by decide),bf (by decide)];rfl)
 ·exact two 11 32 68 17 9 35 4 64 false ⟨⟨by decide,by decide⟩,by decide,by decide⟩ (fun k=>by unfold P.uh;rw[dh (by decide),dh (by decide),bf (by decide),bf (by decide),bf (by decide)];rfl) (fun k=>by unfold P.u7;rw[dh (by decide),dh (by decide),bf (by decide),bf (by decide),bf (by decide),bf (by decide),bf (by decide),bf (by decide),bf (by decide),bf (by decide),bf (by decide),bf (by decide)];rfl)
 ·exact two 12 32 68 17 9 35 4 64 true ⟨⟨by decide,by decide⟩,by decide,by decide⟩ (fun k=>by unfold P.uh;rw[dh (by decide),dh (by decide),bf (by decide),bf (by decide),bf (by decide)];rfl) (fun k=>by unfold P.u7;rw[dh (by decide),dh (by decide),bf (by decide),bf (by decide),bf (by decide),bf (by decide),bf (by decide),bf (by decide),bf (by decide),bf (by decide),bf (by decide),bf (by decide)];rfl)
theorem bx6(a:Int)(h:¬(1≤a∧a≤12)):(∀{ρ:Type} (k:Int→Int→Int→Int→Int→Bool→Bool→Option ρ),P.ai4 a k=k 0 0 0 0 0 false false)∧∀{ρ:Type} (k:Int→Int→Int→Int→Int→Bool→Bool→Option ρ),P.ak4 a k=k 0 0 0 0 0 false false:=by
 constructor
 ·intro ρ k
  rw[P.ar4];unfold P.uh
  by_cases h1:a<1
  ·rw[bf h1]
  ·rw[dh h1,bf (by omega)]
 ·intro ρ k
  rw[P.axd];unfold P.u7
  by_cases h1:a<1
  ·rw[bf h1]
  ·rw[dh h1,bf (by omega)]
section
variable {n H D A K h r:Nat}
theorem bfk(w:Nat)(hw:w≤100000){ρ:Type}(k:Int→Option ρ):P.abq (w:Int) k=k ((by8 w:Nat):Int):=by
 rw[P.asn];unfold P.aj0
 rw[bpm w hw]
theorem ayp(ks:Ks n H D A K h r)(sh:Bool){ρ:Type}(k:Int→Int→Int→Option ρ):P.ae8 n H D A K sh k=k ((2*n:Nat):Int) ((4*n:Nat):Int) ((sgZ n D A K h:Nat):Int):=by
 obtain ⟨z1,z2⟩:=bnv ks
 obtain ⟨_,d2,_,_,a2,_,k2,h9,n2⟩:=ks.nums
 rw[P.ala];unfold P.agi
 rw[lg,decide_eq_true ks.f,jl,oz,xg ks.f,zi ks.kd,show (D:Int)*((n*(2*n+3+h):Nat):Int)=((D*(n*(2*n+3+h)):Nat):Int) by rw[Int.natCast_mul D]]
 unfold sgZ
 generalize D*(n*(2*n+3+h))=Y at *
 generalize szF n A K=X at *
 rw[nu (x:=(2:Int)*(n:Int)) (by omega) (by omega),nu (x:=(4:Int)*(n:Int)) (by omega) (by omega),nu (x:=(Y:Int)) (by omega) (by omega),nu (x:=(n:Int)+(X:Int)) (by omega) (by omega),nu (by omega) (by omega)]
 congr 1
theorem bdm{s:Nat}(h:s≤63):IntKind.u64.wrap ((1:Int)*(2:Int)^min ((s:Nat):Int).toNat 64)=((2^s:Nat):Int):=by
 have h2:2^s≤2^63:=Aa (by omega) h
 rw[toNat_cast,Nat.min_eq_left (by omega),Int.one_mul,show ((2:Int)^s)=((2^s:Nat):Int) by simp,aik _ (by omega)]
theorem bio(tree leaf:Nat)(h1:tree<18446744073709551616)(h2:leaf<18446744073709551616){ρ:Type}(k:List Int→Option ρ):P.agn (tree:Int) (leaf:Int) k=k (plS tree leaf):=by
 rw[P.ayo];unfold P.aop
 rw[show P.jg (ρ:=ρ) [0,0,0,0,0,0,0,0,0,0,0,0,0,0,0,0,0,0,0,0,0,0,0,0,0,0,0,0,0,0,0,0]=P.jg Z32 from rfl,jg rfl 1 tree h1,show (3:Int)=((3:Nat):Int) from rfl,jg (jh rfl _ _) 2 3 (by omega),jg (jh (jh rfl _ _) _ _) _ leaf h2]
 rfl
theorem biu(text beside:List Int)(h1:text.length≤100000)(h2:beside.length≤100000){ρ:Type}(k:List Int→Option ρ):P.agd text beside k=k (ap2 text beside):=by
 rw[P.aza];unfold P.aof
 rw[u8L,ji _ (by simp) (by rw[zf];simp;omega),zf]
 rfl
theorem bay(n:Nat)(H D A K:Int)(s:Bool){ρ:Type}(k:Int→Option ρ):P.ah2 n H D A K s k=k (kdS n):=by
 rw[P.bcj];unfold P.aqs kdS
 by_cases e:n=16
 ·subst e;rw[gu (by decide),if_pos rfl]
 ·rw[gy (by omega),if_neg e]
theorem bh4(ks:Ks n H D A K h r)(sh:Bool)(R pub all:List Int)(h1:In 256 R)(h2:In 256 pub)(h3:In 256 all)(l1:R.length≤40000)(l2:pub.length≤40000)(np:n≤pub.length)(l3:all.length≤100000){ρ:Type}(k:List Int→Int→Int→Option ρ) :
    P.aes n H D A K sh R pub all k=k (bmj n sh A K r h R pub all) ((bi8 n sh A K r h R pub all:Nat):Int) ((biv n sh A K r h R pub all:Nat):Int):=by
 have ht:=bi7 ks
 obtain ⟨_,_,_,_,_,_,_,h9,_⟩:=ks.nums
 have r64:=ks.r64
 have b1:=apv r64
 have b2:=apv (w:=h) (by omega)
 have hl:=aw0 n sh (txF A K+by8 r+by8 h) R pub all
 have hi:=bmk n sh (txF A K+by8 r+by8 h) R pub all
 have etr:Ad.wrap (((txF A K:Nat):Int)+((by8 r:Nat):Int))=((txF A K+by8 r:Nat):Int):=by
  rw[nu (by omega) (by omega)];omega
 have hph:2^h≤2^9:=Aa (by omega) h9
 have hph0:=Nat.two_pow_pos h
 have hpr0:=Nat.two_pow_pos r
 rw[P.avv];unfold P.alv
 rw[dh ks.kd.d,xg ks.f,blg ks,ks.kd.2,bfk r (by omega),bfk h (by omega),bmn ks,etr]
 have fin:∀dg:List Int,dg=bpi n sh (txF A K+by8 r+by8 h) R pub all →
     (P.uj ((dg.drop (txF A K)).take (by8 r)) fun (q7:Int)=>br (decide ((r:Int)<(64:Int))) (P.uj ((dg.drop (txF A K+by8 r)).take (by8 h)) fun (q8:Int)=>k (dg.take (txF A K)) (q7.tmod (IntKind.u64.wrap ((1:Int)*(2:Int)^min ((r:Nat):Int).toNat 64))) (q8.tmod ((2^h:Nat):Int)))
      (P.uj ((dg.drop (txF A K+by8 r)).take (by8 h)) fun (q8:Int)=>k (dg.take (txF A K)) q7 (q8.tmod ((2^h:Nat):Int))))=k (bmj n sh A K r h R pub all) ((bi8 n sh A K r h R pub all:Nat):Int) ((biv n sh A K r h R pub all:Nat):Int):=by
  intro dg hdg
  rw[←hdg] at hl hi
  have t1:=az9 (dg.drop (txF A K)) r r64
  have t2:=az9 (dg.drop (txF A K+by8 r)) h (by omega)
  have n1:∀(k:Int→Option ρ),P.uj ((dg.drop (txF A K)).take (by8 r)) k=k ((T 8 ((dg.drop (txF A K)).take (by8 r)).reverse:Nat):Int):=fun k=>by
   rw[uj _ ((hi.drop _).take _) (by rw[Ab];omega),Ag t1]
  have n2:∀(k:Int→Option ρ),P.uj ((dg.drop (txF A K+by8 r)).take (by8 h)) k=k ((T 8 ((dg.drop (txF A K+by8 r)).take (by8 h)).reverse:Nat):Int):=fun k=>by
   rw[uj _ ((hi.drop _).take _) (by rw[Ab];omega),Ag t2]
  unfold bmj bi8 biv nbW
  rw[←hdg,List.drop_drop,n1]
  by_cases r4:r<64
  ·rw[bf (by omega),n2,bdm (by omega),tmN,tmN]
  ·have:r=64:=by omega
   subst this
   rw[dh (by omega),n2,tmN,Ag (show T 8 ((dg.drop (txF A K)).take (by8 64)).reverse<2^64 by omega)]
 cases sh with
 | true =>
  have hdg:btp 7 (R++(pub++all)) (txF A K+by8 r+by8 h)=bpi n true (txF A K+by8 r+by8 h) R pub all:=rfl
  rw[←hdg] at hl
  have fin':=fin _ hdg
  rw[oz,ji _ (by simp) (by rw[zf];simp;omega),zf,acg (by omega) _ (by simp;omega) _ (by omega)]
  generalize btp 7 (R++(pub++all)) (txF A K+by8 r+by8 h)=dg at hl fin' ⊢
  rw[←fin',bf (by omega),bf (by omega),bf (by omega),show (((txF A K+by8 r:Nat):Int)-((txF A K:Nat):Int)).toNat=by8 r by omega,toNat_cast]
  congr 1
  funext q7
  rw[show ((dg.length:Int)-((txF A K+by8 r:Nat):Int)).toNat=by8 h by omega,toNat_cast,show (((txF A K:Nat):Int)-(0:Int)).toNat=txF A K by omega,Ae,toNat_cast,bdm (s:=h) (by omega)]
  by_cases r4:r<64
  ·have hpr:2^r≤2^63:=Aa (by omega) (by omega)
   rw[bf (by omega),dh (by omega),dh (by rw[show (r:Nat)=((r:Nat):Int).toNat by rw[toNat_cast],bdm (by omega)];omega),bf (by omega),bf (by omega),bf (by omega),bf (by omega),bf (by omega),bf (by omega)]
   congr 1
   funext q8
   rw[dh (by omega),dh (by omega)]
  ·rw[dh (by omega),bf (by omega),bf (by omega),bf (by omega),bf (by omega),bf (by omega),dh (by omega)]
   congr 1
   funext q8
   rw[dh (by omega),dh (by omega)]
 | false =>
  have h3':=bxw n
  have hK:=K7S n
  have hdp:=avo hK
  have hdl:=amm hK (R++(pub++all))
  have hsm:bp5 (kdS n) (R++(pub++all))=dig (kdS n) (R++(pub++all)):=by unfold dig;rw[if_pos h3'.2]
  have hdg:grow (maT (kdS n) (R++(pub.take n++dig (kdS n) (R++(pub++all))))) (dl (kdS n)) (txF A K+by8 r+by8 h)=bpi n false (txF A K+by8 r+by8 h) R pub all:=rfl
  rw[←hdg] at hl
  have fin':=fin _ hdg
  rw[wo,bay,ji _ (by simp) (by rw[zf];simp;omega),zf,abg (by unfold kdS;split<;>simp[K3]) _ (h1.app (h2.app h3)) (by simp;omega),hsm,bay,bf (by omega),bf (by omega),toNat_cast,Ae,ji _ (by simp) (by rw[zf];simp;omega),zf,
   af2 h3' _ (h1.app ((h2.take _).app (bok _ _))) (by simp;omega) _ (by omega)]
  generalize grow (maT (kdS n) (R++(pub.take n++dig (kdS n) (R++(pub++all))))) (dl (kdS n)) (txF A K+by8 r+by8 h)=dg at hl fin' ⊢
  rw[←fin',bf (by omega),bf (by omega),bf (by omega),toNat_cast,toNat_cast,List.drop_take,Ah]
  congr 1
  funext q7
  rw[toNat_cast dg.length,Af,Ae,bdm (s:=h) (by omega),show (dg.drop (txF A K+by8 r)).take (by8 h)=dg.drop (txF A K+by8 r) from List.take_of_length_le (by rw[Ac];omega)]
  by_cases r4:r<64
  ·have hpr:2^r≤2^63:=Aa (by omega) (by omega)
   rw[bf (by omega),dh (by omega),dh (by rw[bdm (by omega)];omega),bf (by omega),bf (by omega),bf (by omega),bf (by omega),bf (by omega),bf (by omega)]
   congr 1
   funext q8
   rw[dh (by omega),dh (by omega)]
  ·rw[dh (by omega),bf (by omega),bf (by omega),bf (by omega),bf (by omega),bf (by omega),dh (by omega)]
   congr 1
   funext q8
   rw[dh (by omega),dh (by omega)]
end
end Q
end

section
/- slh: signatures, and what verifies them. -/
namespace Q
open QK
open Go Go.Abs
set_option linter.unusedVariables false
set_option linter.unusedSimpArgs false
section
variable {n H D A K h r:Nat}
theorem Ks.hr'(ks:Ks n H D A K h r):(H:Int)-(h:Int)=(r:Int):=by have:=ks.hr;omega
theorem br7(n:Nat)(sh:Bool)(A K r h:Nat)(R pub all:List Int):bi8 n sh A K r h R pub all<2^r:=bwf _ _
theorem bqc(n:Nat)(sh:Bool)(A K r h:Nat)(R pub all:List Int):biv n sh A K r h R pub all<2^h:=bwf _ _
def b0x(n:Nat)(sh:Bool)(A K r h:Nat)(p2 R all few:List Int):List Int :=
 kyF n sh (p2.take n) (plS (bi8 n sh A K r h R p2 all) (biv n sh A K r h R p2 all)) (cat (cdF n sh (p2.take n) (plS (bi8 n sh A K r h R p2 all) (biv n sh A K r h R p2 all)) A (bmj n sh A K r h R p2 all) few) K)
theorem bnq(ks:Ks n H D A K h r)(sh:Bool)(p2 R all few:List Int):(b0x n sh A K r h p2 R all few).length=n:=byz ks.kd.n _ _ _ _
theorem brm(sh:Bool)(p2 R all few:List Int):In 256 (b0x n sh A K r h p2 R all few):=aqn _ _ _ _ _
end
end Q
end

section
/- slh: what verifies; keys. -/
namespace Q
open QK
open Go Go.Abs
set_option linter.unusedVariables false
set_option linter.unusedSimpArgs false
section
variable {n H D A K h r:Nat}
def cb1(n:Nat)(sh:Bool)(A K r h D:Nat)(p2 sig all:List Int):List Int :=
 vrT n sh (p2.take n) ((sig.drop n).drop (szF n A K)) (b0x n sh A K r h p2 (sig.take n) all ((sig.drop n).take (szF n A K))) (bi8 n sh A K r h (sig.take n) p2 all) (biv n sh A K r h (sig.take n) p2 all) h (n*(2*n+3+h)) D
theorem bnc(b:Bool){ρ:Type}(k:Int→Option ρ):br (!b) (k 11) (k 0)=k (if b then 0 else 11):=by cases b<;>simp[jl]
theorem bgs(ks:Ks n H D A K h r)(sh:Bool)(p2 text beside sig:List Int)(h1:In 256 p2)(h2:In 256 text)(h3:In 256 beside)(h4:In 256 sig)(l1:p2.length=2*n)(l2:text.length≤1000)(l3:beside.length≤255)(l4:sig.length=sgZ n D A K h){ρ:Type}(k:Int→Option ρ) :
    P.ze n H D A K sh p2 text beside sig k=k (if decide (cb1 n sh A K r h D p2 sig (ap2 text beside)=p2.drop n) then 0 else 11):=by
 obtain ⟨_,d2,_,_,_,_,_,h9,n2⟩:=ks.nums
 obtain ⟨z1,z2⟩:=bnv ks
 have r64:=ks.r64
 have e2:Ad.wrap ((2:Int)*(n:Int))=((2*n:Nat):Int):=by rw[nu (by omega) (by omega)];omega
 have la:(ap2 text beside).length≤2000:=by rw[bnw];omega
 have ia:=bqf text beside h2 h3
 have lz:sgZ n D A K h=n+szF n A K+D*(n*(2*n+3+h)):=rfl
 have lR:(sig.take n).length=n:=by rw[Ab];omega
 have lrs:(sig.drop n).length=szF n A K+D*(n*(2*n+3+h)):=by rw[Ac];omega
 have lfw:((sig.drop n).take (szF n A K)).length=szF n A K:=by rw[Ab];omega
 have lhy:((sig.drop n).drop (szF n A K)).length=D*(n*(2*n+3+h)):=by rw[Ac];omega
 have np:(p2.take n).length=n:=by rw[Ab];omega
 have lt':(p2.drop n).length=n:=by rw[Ac];omega
 have b1:=br7 n sh A K r h (sig.take n) p2 (ap2 text beside)
 have b2:=bqc n sh A K r h (sig.take n) p2 (ap2 text beside)
 have c1:2^r≤2^64:=Aa (by omega) r64
 have c2:2^h≤2^9:=Aa (by omega) h9
 have lt:=bof n sh A K r h (sig.take n) p2 (ap2 text beside)
 have it:=brw n sh A K r h (sig.take n) p2 (ap2 text beside)
 have fin:(P.xw (bmj n sh A K r h (sig.take n) p2 (ap2 text beside)) ((bi8 n sh A K r h (sig.take n) p2 (ap2 text beside):Nat):Int) ((biv n sh A K r h (sig.take n) p2 (ap2 text beside):Nat):Int) fun q38 =>
     P.um n H D A K sh ((sig.drop n).take (szF n A K)) (bmj n sh A K r h (sig.take n) p2 (ap2 text beside)) (p2.take n) q38 fun q39 =>
     P.aak n H D A K sh q39 ((sig.drop n).drop (szF n A K)) (p2.take n) (p2.drop n) ((bi8 n sh A K r h (sig.take n) p2 (ap2 text beside):Nat):Int) ((biv n sh A K r h (sig.take n) p2 (ap2 text beside):Nat):Int) fun (q40:Bool)=>br (!q40) (k 11) (k 0)) =
     k (if decide (cb1 n sh A K r h D p2 sig (ap2 text beside)=p2.drop n) then 0 else 11):=by
  rw[bu5 _ _ _ (by omega) (by omega),um ks.f sh (h1.take _) np (bqo _ _) (bwx _ _) _ _ it lt ((h4.drop _).take _) lfw,
   show kyF n sh (p2.take n) (plS (bi8 n sh A K r h (sig.take n) p2 (ap2 text beside)) (biv n sh A K r h (sig.take n) p2 (ap2 text beside))) (cat (cdF n sh (p2.take n) (plS (bi8 n sh A K r h (sig.take n) p2 (ap2 text beside)) (biv n sh A K r h (sig.take n) p2 (ap2 text beside))) A (bmj n sh A K r h (sig.take n) p2 (ap2 text beside)) ((sig.drop n).take (szF n A K))) K)=b0x n sh A K r h p2 (sig.take n) (ap2 text beside) ((sig.drop n).take (szF n A K)) from rfl,
   aak ks.kd d2 sh _ _ _ _ (brm _ _ _ _ _) (bnq ks _ _ _ _ _) ((h4.drop _).drop _) lhy (h1.take _) np lt' (h1.drop _) r ks.hr' r64 _ _ b1 b2,bnc]
  rfl
 rw[P.acr];unfold P.aas
 rw[afp ks,jv,decide_eq_true ks.f,jl,oz,e2,fq (by omega),dh (by omega),fq (by omega),ow ks.f]
 cases sh with
 | true =>
  rw[bvz,bnr _ _ (by omega) (by omega)]
  simp only[toNat_cast,Af,Ae]
  rw[bf (by omega),bf (by omega),bf (by omega),bf (by omega),bf (by omega),bf (by omega),bf (by omega),bf (by omega),bf (by omega),bf (by omega),
   b51 ks true _ _ _ _ _ _ _ _ _ _ _ _ _ _ _ _ _ _ _ _ _ _ _ _ (h4.take _) h1 ia (by omega) (by omega) (by omega),bf (by omega),bf (by omega)]
  rw[←fin]
  congr 1
  funext q38
  congr 1
  funext q39
  rw[bf (by omega),bf (by omega),bf (by omega)]
 | false =>
  rw[bux,bnr _ _ (by omega) (by omega)]
  simp only[toNat_cast,Af,Ae]
  rw[bf (by omega),bf (by omega),bf (by omega),bf (by omega),bf (by omega),bf (by omega),bf (by omega),bf (by omega),bf (by omega),bf (by omega),
   b5d ks false _ _ _ _ _ _ _ _ _ _ _ _ _ _ _ _ _ _ _ _ _ _ (h4.take _) h1 ia (by omega) (by omega) (by omega) (by omega),bf (by omega),bf (by omega)]
  rw[←fin]
  congr 1
  funext q38
  congr 1
  funext q39
  rw[bf (by omega),bf (by omega),bf (by omega)]
theorem bhk(ks:Ks n H D A K h r)(sh:Bool)(p2 text beside sig:List Int)(h1:In 256 p2)(h2:In 256 text)(h3:In 256 beside)(h4:In 256 sig)(l1:p2.length=2*n)(l2:text.length≤1000)(l3:beside.length≤255)(l4:sig.length=sgZ n D A K h){ρ:Type}(k:Int→Option ρ) :
    P.abj n H D A K sh p2 text beside sig k=k (if decide (cb1 n sh A K r h D p2 sig (ap2 text beside)=p2.drop n) then 0 else 11):=by
 obtain ⟨_,d2,_,_,_,_,_,h9,n2⟩:=ks.nums
 obtain ⟨z1,z2⟩:=bnv ks
 have r64:=ks.r64
 have e2:Ad.wrap ((2:Int)*(n:Int))=((2*n:Nat):Int):=by rw[nu (by omega) (by omega)];omega
 have ez:Ad.wrap ((n:Int)+((szF n A K:Nat):Int))=((n+szF n A K:Nat):Int):=by rw[nu (by omega) (by omega)];omega
 have la:(ap2 text beside).length≤2000:=by rw[bnw];omega
 have ia:=bqf text beside h2 h3
 have lz:sgZ n D A K h=n+szF n A K+D*(n*(2*n+3+h)):=rfl
 have lR:(sig.take n).length=n:=by rw[Ab];omega
 have lrs:(sig.drop n).length=szF n A K+D*(n*(2*n+3+h)):=by rw[Ac];omega
 have lfw:((sig.drop n).take (szF n A K)).length=szF n A K:=by rw[Ab];omega
 have lhy:((sig.drop n).drop (szF n A K)).length=D*(n*(2*n+3+h)):=by rw[Ac];omega
 have np:(p2.take n).length=n:=by rw[Ab];omega
 have lt':(p2.drop n).length=n:=by rw[Ac];omega
 have b1:=br7 n sh A K r h (sig.take n) p2 (ap2 text beside)
 have b2:=bqc n sh A K r h (sig.take n) p2 (ap2 text beside)
 have c1:2^r≤2^64:=Aa (by omega) r64
 have c2:2^h≤2^9:=Aa (by omega) h9
 have lt:=bof n sh A K r h (sig.take n) p2 (ap2 text beside)
 have it:=brw n sh A K r h (sig.take n) p2 (ap2 text beside)
 have efw:(sig.take (n+szF n A K)).drop n=(sig.drop n).take (szF n A K):=by rw[List.drop_take,Ah]
 have ehy:sig.drop (n+szF n A K)=(sig.drop n).drop (szF n A K):=by rw[List.drop_drop]
 rw[P.aej];unfold P.abr
 rw[lg,decide_eq_true ks.f,jl,oz,e2,fq (by omega),dh (by omega),ayp ks,fq (by omega),xg ks.f,ez,biu _ _ (by omega) (by omega)]
 simp only[toNat_cast,Af,Ae]
 rw[bf (by omega),bf (by omega),efw,ehy,bh4 ks sh _ _ _ (h4.take _) h1 ia (by omega) (by omega) (by omega) (by omega),bf (by omega),bf (by omega),bf (by omega),bf (by omega),bf (by omega),
  bio _ _ (by omega) (by omega),yg ks.f sh (h1.take _) np (bqo _ _) (bwx _ _) _ _ it lt ((h4.drop _).take _) lfw,bf (by omega),bf (by omega),bf (by omega),bf (by omega),bf (by omega),bf (by omega),bf (by omega),bf (by omega),
  show kyF n sh (p2.take n) (plS (bi8 n sh A K r h (sig.take n) p2 (ap2 text beside)) (biv n sh A K r h (sig.take n) p2 (ap2 text beside))) (cat (cdF n sh (p2.take n) (plS (bi8 n sh A K r h (sig.take n) p2 (ap2 text beside)) (biv n sh A K r h (sig.take n) p2 (ap2 text beside))) A (bmj n sh A K r h (sig.take n) p2 (ap2 text beside)) ((sig.drop n).take (szF n A K))) K)=b0x n sh A K r h p2 (sig.take n) (ap2 text beside) ((sig.drop n).take (szF n A K)) from rfl,
  ab6 ks.kd d2 sh _ _ _ _ (brm _ _ _ _ _) (bnq ks _ _ _ _ _) ((h4.drop _).drop _) lhy (h1.take _) np lt' r ks.hr' r64 _ _ b1 b2,bnc]
 rfl
end
end Q
end

section
/- hss: a number's digits, each by its own width: pure. -/
namespace Q
open Go Go.Abs
set_option linter.unusedVariables false
set_option linter.unusedSimpArgs false
theorem bj2(p:Nat→Prop):∀N,(∀i,i<N→p i)∨∃i,i<N∧¬p i∧∀j,j<i→p j
 | 0=>.inl (fun i h=>by omega)
 | N+1=>by
  rcases bj2 p N with h | ⟨i,h1,h2,h3⟩
  ·by_cases hp:p N
   ·exact .inl (fun i hi=>by
      by_cases e:i=N
      ·rw[e];exact hp
      ·exact h i (by omega))
   ·exact .inr ⟨N,by omega,hp,h⟩
  ·exact .inr ⟨i,by omega,h2,h3⟩
end Q
end

section
/- slh: both together, of any inputs. -/
namespace Q
open QK
open Go Go.Abs
set_option linter.unusedVariables false
set_option linter.unusedSimpArgs false
theorem ccw{N H D A K:Int}(hf:acf N H D A K)(h64:H≤64):∃n H' D' A' K' h r:Nat,N=(n:Int)∧H=(H':Int)∧D=(D':Int)∧A=(A':Int)∧K=(K':Int)∧Ks n H' D' A' K' h r:=by
 have h0:=hf
 unfold acf at h0
 obtain ⟨n,rfl⟩:∃n:Nat,N=(n:Int):=⟨N.toNat,by omega⟩
 obtain ⟨H',rfl⟩:∃n:Nat,H=(n:Int):=⟨H.toNat,by omega⟩
 obtain ⟨D',rfl⟩:∃n:Nat,D=(n:Int):=⟨D.toNat,by omega⟩
 obtain ⟨A',rfl⟩:∃n:Nat,A=(n:Int):=⟨A.toNat,by omega⟩
 obtain ⟨K',rfl⟩:∃n:Nat,K=(n:Int):=⟨K.toNat,by omega⟩
 obtain ⟨h,kd⟩:=b3r hf
 have hk2:=kd.2
 have h1:0≤(H':Int).tdiv (D':Int):=Int.tdiv_nonneg (by omega) (by omega)
 have h3:(H':Int).tdiv (D':Int)≤H':=by
  rw[Int.tdiv_eq_ediv_of_nonneg (by omega)]
  exact Int.ediv_le_self _ (by omega)
 rw[nu (by omega) (by omega)] at hk2
 exact ⟨n,H',D',A',K',h,H'-h,rfl,rfl,rfl,rfl,rfl,kd,by omega,by omega⟩
theorem bp3(N H D A K:Int)(sh:Bool):∃a b c:Int,(∀{ρ:Type} (k:Int→Int→Int→Option ρ),P.aby N H D A K sh k=k a b c)∧∀{ρ:Type} (k:Int→Int→Int→Option ρ),P.ae8 N H D A K sh k=k a b c:=by
 by_cases hf:acf N H D A K
 ·have h0:=hf
  unfold acf at h0
  obtain ⟨n,rfl⟩:∃n:Nat,N=(n:Int):=⟨N.toNat,by omega⟩
  obtain ⟨A',rfl⟩:∃n:Nat,A=(n:Int):=⟨A.toNat,by omega⟩
  obtain ⟨K',rfl⟩:∃n:Nat,K=(n:Int):=⟨K.toNat,by omega⟩
  obtain ⟨h,kd⟩:=b3r hf
  refine ⟨Ad.wrap ((2:Int)*(n:Int)),Ad.wrap ((4:Int)*(n:Int)),Ad.wrap (Ad.wrap ((n:Int)+((szF n A' K':Nat):Int))+Ad.wrap (D*((n*(2*n+3+h):Nat):Int))),fun k=>?_,fun k=>?_⟩
  ·rw[P.ale];unfold P.afx
   rw[jv,decide_eq_true hf,jl,oz,ow hf,o7 kd]
  ·rw[P.ala];unfold P.agi
   rw[lg,decide_eq_true hf,jl,oz,xg hf,zi kd]
 ·refine ⟨0,0,0,fun k=>?_,fun k=>?_⟩
  ·rw[P.ale];unfold P.afx
   rw[jv,decide_eq_false hf,jl,wo]
  ·rw[P.ala];unfold P.agi
   rw[lg,decide_eq_false hf,jl,wo]
theorem bik{n H D A K h r:Nat}(ks:Ks n H D A K h r)(sh:Bool)(p2 text beside sig:List Int)(h1:In 256 p2)(h2:In 256 text)(h3:In 256 beside)(h4:In 256 sig)(l2:text.length≤1000):∃e:Int,(∀{ρ:Type} (k:Int→Option ρ),P.ze n H D A K sh p2 text beside sig k=k e)∧∀{ρ:Type} (k:Int→Option ρ),P.abj n H D A K sh p2 text beside sig k=k e:=by
 obtain ⟨_,d2,_,_,_,_,_,h9,n2⟩:=ks.nums
 have e2:Ad.wrap ((2:Int)*(n:Int))=((2*n:Nat):Int):=by rw[nu (by omega) (by omega)];omega
 by_cases l1:p2.length=2*n
 ·by_cases l3:beside.length≤255
  ·by_cases l4:sig.length=sgZ n D A K h
   ·exact ⟨_,fun k=>bgs ks sh p2 text beside sig h1 h2 h3 h4 l1 l2 l3 l4 k,fun k=>bhk ks sh p2 text beside sig h1 h2 h3 h4 l1 l2 l3 l4 k⟩
   ·refine ⟨1,fun k=>?_,fun k=>?_⟩
    ·rw[P.acr];unfold P.aas
     rw[afp ks,jv,decide_eq_true ks.f,jl,oz,e2,fq (by omega),dh (by omega),je (by omega)]
    ·rw[P.aej];unfold P.abr
     rw[lg,decide_eq_true ks.f,jl,oz,e2,fq (by omega),dh (by omega),ayp ks,je (by omega)]
  ·refine ⟨2,fun k=>?_,fun k=>?_⟩
   ·rw[P.acr];unfold P.aas
    rw[afp ks,jv,decide_eq_true ks.f,jl,oz,e2,fq (by omega),bf (by omega)]
   ·rw[P.aej];unfold P.abr
    rw[lg,decide_eq_true ks.f,jl,oz,e2,fq (by omega),bf (by omega)]
 ·refine ⟨10,fun k=>?_,fun k=>?_⟩
  ·rw[P.acr];unfold P.aas
   rw[afp ks,jv,decide_eq_true ks.f,jl,oz,e2,je (by omega)]
  ·rw[P.aej];unfold P.abr
   rw[lg,decide_eq_true ks.f,jl,oz,e2,je (by omega)]
theorem blw(N H D A K:Int)(sh:Bool)(hl:acf N H D A K→H≤64)(p2 text beside sig:List Int)(h1:In 256 p2)(h2:In 256 text)(h3:In 256 beside)(h4:In 256 sig)(l2:text.length≤1000):∃e:Int,(∀{ρ:Type} (k:Int→Option ρ),P.ze N H D A K sh p2 text beside sig k=k e)∧∀{ρ:Type} (k:Int→Option ρ),P.abj N H D A K sh p2 text beside sig k=k e:=by
 by_cases hf:acf N H D A K
 ·obtain ⟨n,H',D',A',K',h,r,rfl,rfl,rfl,rfl,rfl,ks⟩:=ccw hf (hl hf)
  exact bik ks sh p2 text beside sig h1 h2 h3 h4 l2
 ·refine ⟨9,fun k=>?_,fun k=>?_⟩
  ·obtain ⟨a,b,c,s1,_⟩:=bp3 N H D A K sh
   rw[P.acr];unfold P.aas
   rw[s1,jv,decide_eq_false hf,jl,wo]
  ·rw[P.aej];unfold P.abr
   rw[lg,decide_eq_false hf,jl,wo]
theorem bkz(N H D A K:Int)(sh:Bool):∃b:Bool,(b=true→acf N H D A K→H≤64)∧∀{ρ:Type} (k:Bool→Option ρ),P.agl N H D A K sh k=k b:=by
 by_cases hf:acf N H D A K
 ·by_cases h2:H≤2
  ·by_cases h3:A≤3
   ·exact ⟨decide (K≤4),fun _ _=>by omega,fun k=>by rw[P.aiv];unfold P.aem;rw[lg,decide_eq_true hf,jl,oz,bf h2,bf h3]⟩
   ·exact ⟨false,(fun h=>by cases h),fun k=>by rw[P.aiv];unfold P.aem;rw[lg,decide_eq_true hf,jl,oz,bf h2,dh h3]⟩
  ·exact ⟨false,(fun h=>by cases h),fun k=>by rw[P.aiv];unfold P.aem;rw[lg,decide_eq_true hf,jl,oz,dh h2]⟩
 ·exact ⟨true,fun _ h=>absurd h hf,fun k=>by rw[P.aiv];unfold P.aem;rw[lg,decide_eq_false hf,jl,wo]⟩
theorem af6(l:List (List Int))(hl:l.length≤100){ρ:Type}(k:Bool→Option ρ):(P.af6 l k=k true∧∀i,i<l.length→(l.getD i []).length≤300)∨P.af6 l k=k false:=by
 rw[P.bfg]
 unfold P.auu
 rw[P.bh0]
 unfold P.bff P.b6q P.b41 P.cgs
 rcases bj2 (fun i=>(l.getD i []).length≤300) l.length with h | ⟨m,m1,m2,m3⟩
 ·refine .inl ⟨xu (fun i=>(l,(l.length:Int),(i:Int))) l.length rfl (fun i hi next hn'=>?_) (fun next=>?_) (by omega),h⟩
  ·have:=h i hi
   simp only[P.am5,toNat_cast]
   rw[bf (by omega),bf (by omega),bf (by omega),dh (by omega),nu (by omega) (by omega)]
   exact hn'
  ·simp only[P.am5]
   rw[dh (by omega)]
   rfl
 ·refine .inr (xu (fun i=>(l,(l.length:Int),(i:Int))) m rfl (fun i hi next hn'=>?_) (fun next=>?_) (by omega))
  ·have:=m3 i hi
   simp only[P.am5,toNat_cast]
   rw[bf (by omega),bf (by omega),bf (by omega),dh (by omega),nu (by omega) (by omega)]
   exact hn'
  ·simp only[P.am5,toNat_cast]
   rw[bf (by omega),bf (by omega),bf (by omega),bf (by omega)]
   rfl
end Q
end

section
/- slh: the example. -/
namespace Q
open QK
open Go Go.Abs
set_option linter.unusedVariables false
set_option linter.unusedSimpArgs false
theorem ks3:Ks 16 66 22 6 33 3 63:=⟨⟨by decide,by decide⟩,by decide,by decide⟩
theorem tu{ρ:Type}(k:Bool→Option ρ):P.tu k=k true:=by
 rw[P.ay7];unfold P.aok
 have hs:∀(k:Int→Int→Int→Int→Int→Bool→Bool→Option ρ),P.ai4 3 k=k 16 66 22 6 33 false true:=fun k=>by
  rw[P.ar4];unfold P.uh
  rw[dh (by decide),dh (by decide),bf (by decide),bf (by decide),bf (by decide)];rfl
 have hz:=fun (k:Int→Int→Int→Option ρ)=>afp ks3 false k
 have hv:∀(k:Int→Option ρ),P.ze 16 66 22 6 33 false [] [] [] [] k=k 10:=fun k=>by
  rw[P.acr];unfold P.aas
  have h1:=afp ks3 false (ρ:=ρ)
  have h2:=jv ((16:Nat):Int) ((66:Nat):Int) ((22:Nat):Int) ((6:Nat):Int) ((33:Nat):Int) false (ρ:=ρ)
  rw[decide_eq_true ks3.f] at h2
  refine Eq.trans (h1 _) (Eq.trans (h2 _) ?_)
  rw[jl,oz,je (by decide)]
 rw[hs]
 refine Eq.trans (hz _) ?_
 rw[show sgZ 16 22 6 33 3=17088 by decide,oz]
 refine Eq.trans (oz _ _) ?_
 rw[gu (by decide),hv]
 rfl
end Q
end

section
namespace Q
open QK
open Go Go.Abs
set_option linter.unusedVariables false
set_option linter.unusedSimpArgs false
theorem SlhVerifies(x0:Int)(x1_N:Int)(x1_H:Int)(x1_D:Int)(x1_A:Int)(x1_K:Int)(x1_Shake:Bool)(x2:List Int)(x3:List Int)(x4:List Int)(x5:List Int)(wx0:wfI .i64 x0)(wx1_N:wfI .i64 x1_N)(wx1_H:wfI .i64 x1_H)(wx1_D:wfI .i64 x1_D)(wx1_A:wfI .i64 x1_A)(wx1_K:wfI .i64 x1_K)(nx2:x2.length≤140737488355328)(wx2:∀x,x∈x2→wfI .u8 x)(nx3:x3.length≤140737488355328)(wx3:∀x,x∈x3→wfI .u8 x)(nx4:x4.length≤140737488355328)(wx4:∀x,x∈x4→wfI .u8 x)(nx5:x5.length≤140737488355328)(wx5:∀x,x∈x5→wfI .u8 x){ρ:Type}(k:Bool→Option ρ):P.za x0 x1_N x1_H x1_D x1_A x1_K x1_Shake x2 x3 x4 x5 k=k true:=by
 rw[P.alm];unfold P.aff
 by_cases h12:1≤x0∧x0≤12
 ·obtain ⟨n,H,D,A,K,h,r,sh,ks,t1,t2⟩:=b0z x0 h12
  rw[t2,oz]
  rcases af6 [x2,x3,x4] (by simp) (fun (q0:Bool)=>_) with ⟨hf,hl⟩ | hf
  ·rw[hf,jl,oz]
   have l3:x3.length≤300:=hl 1 (by simp)
   by_cases h6:x5.length>60000
   ·rw[bf (by omega),tu]
   ·obtain ⟨e,e1,e2⟩:=bik ks sh x2 x3 x4 x5 (bid wx2) (bid wx3) (bid wx4) (bid wx5) (by omega)
    rw[dh (by omega),e1,e2,beq_self_eq_true,oz,tu]
  ·rw[hf,jl,wo,tu]
 ·obtain ⟨t1,t2⟩:=bx6 x0 h12
  obtain ⟨v,hv,hk⟩:=bkz x1_N x1_H x1_D x1_A x1_K x1_Shake
  rw[t2,wo,hk]
  cases v with
  | false=>rw[jl,wo,tu]
  | true =>
   rw[jl,oz]
   rcases af6 [x2,x3,x4] (by simp) (fun (q0:Bool)=>_) with ⟨hf,hl⟩ | hf
   ·rw[hf,jl,oz]
    have l3:x3.length≤300:=hl 1 (by simp)
    by_cases h6:x5.length>60000
    ·rw[bf (by omega),tu]
    ·obtain ⟨e,e1,e2⟩:=blw x1_N x1_H x1_D x1_A x1_K x1_Shake (hv rfl) x2 x3 x4 x5 (bid wx2) (bid wx3) (bid wx4) (bid wx5) (by omega)
     rw[dh (by omega),e1,e2,beq_self_eq_true,oz,tu]
   ·rw[hf,jl,wo,tu]
end Q
end
