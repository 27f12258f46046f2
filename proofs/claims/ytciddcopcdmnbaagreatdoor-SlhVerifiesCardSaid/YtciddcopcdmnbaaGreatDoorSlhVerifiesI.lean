/-
  SlhVerifies, part 9: an interpreter of my own over abstract values, the pure functions, the walks and the plain law.
-/

import Derived.Test.YtciddcopcdmnbaaGreatDoorSlhVerifiesH
open Go.IntKind renaming i64 → Aa, u64 → Ab

noncomputable section
open Go Go.Abs
set_option linter.unusedVariables false
namespace P

def u7{ρ:Type}(a:Int)(k:Int→Int→Int→Int→Int→Bool→Bool→Option ρ):Option ρ:=br (decide (a<(1:Int))) (k (0:Int) (0:Int) (0:Int) (0:Int) (0:Int) false false) (br (decide (a>(12:Int))) (k (0:Int) (0:Int) (0:Int) (0:Int) (0:Int) false false) (br (decide ((0:Int)≤Aa.wrap ((Aa.wrap (a-(1:Int))).tdiv (2:Int)))) (br (decide (Aa.wrap ((Aa.wrap (a-(1:Int))).tdiv (2:Int))<(↑6:Int))) (br (decide ((0:Int)≤Aa.wrap ((Aa.wrap (a-(1:Int))).tdiv (2:Int)))) (br (decide (Aa.wrap ((Aa.wrap (a-(1:Int))).tdiv (2:Int))<(↑6:Int))) (br (decide ((0:Int)≤Aa.wrap ((Aa.wrap (a-(1:Int))).tdiv (2:Int)))) (br (decide (Aa.wrap ((Aa.wrap (a-(1:Int))).tdiv (2:Int))<(↑6:Int))) (br (decide ((0:Int)≤Aa.wrap ((Aa.wrap (a-(1:Int))).tdiv (2:Int)))) (br (decide (Aa.wrap ((Aa.wrap (a-(1:Int))).tdiv (2:Int))<(↑6:Int))) (br (decide ((0:Int)≤Aa.wrap ((Aa.wrap (a-(1:Int))).tdiv (2:Int)))) (br (decide (Aa.wrap ((Aa.wrap (a-(1:Int))).tdiv (2:Int))<(↑6:Int))) (k ([(16:Int),(16:Int),(24:Int),(24:Int),(32:Int),(32:Int)].getD (Aa.wrap ((Aa.wrap (a-(1:Int))).tdiv (2:Int))).toNat (0:Int)) ([(63:Int),(66:Int),(63:Int),(66:Int),(64:Int),(68:Int)].getD (Aa.wrap ((Aa.wrap (a-(1:Int))).tdiv (2:Int))).toNat (0:Int)) ([(7:Int),(22:Int),(7:Int),(22:Int),(8:Int),(17:Int)].getD (Aa.wrap ((Aa.wrap (a-(1:Int))).tdiv (2:Int))).toNat (0:Int)) ([(12:Int),(6:Int),(14:Int),(8:Int),(14:Int),(9:Int)].getD (Aa.wrap ((Aa.wrap (a-(1:Int))).tdiv (2:Int))).toNat (0:Int)) ([(14:Int),(33:Int),(17:Int),(33:Int),(22:Int),(35:Int)].getD (Aa.wrap ((Aa.wrap (a-(1:Int))).tdiv (2:Int))).toNat (0:Int)) (a.tmod (2:Int)==(0:Int)) true) none) none) none) none) none) none) none) none) none) none))
def ak4{ρ:Type}:=shut (u7 (ρ:=ρ))
theorem axd{ρ:Type}(a:Int)(k:Int→Int→Int→Int→Int→Bool→Bool→Option ρ):ak4 a k=u7 a k:=by unfold ak4;rw[cu]

def at1{ρ:Type}(e b a c d:Int)(f:Bool)(k:Bool→Option ρ):Option ρ:=br (e !=16) (br (e !=24) (br (e !=32) (k false) (br (decide (a≥1)) (br (decide (b≤68)) (br (decide (b≥a)) (br (decide (a=0)) none (br (b.tmod a==0) (br (decide (a=0)) none (br (decide (Aa.wrap (b.tdiv a)≤9)) (br (decide (c≥1)) (br (decide (c≤14)) (br (decide (d≥1)) (k (decide (d≤40))) (k false)) (k false)) (k false)) (k false))) (k false))) (k false)) (k false)) (k false))) (br (decide (a≥1)) (br (decide (b≤68)) (br (decide (b≥a)) (br (decide (a=0)) none (br (b.tmod a==0) (br (decide (a=0)) none (br (decide (Aa.wrap (b.tdiv a)≤9)) (br (decide (c≥1)) (br (decide (c≤14)) (br (decide (d≥1)) (k (decide (d≤40))) (k false)) (k false)) (k false)) (k false))) (k false))) (k false)) (k false)) (k false))) (br (decide (a≥1)) (br (decide (b≤68)) (br (decide (b≥a)) (br (decide (a=0)) none (br (b.tmod a==0) (br (decide (a=0)) none (br (decide (Aa.wrap (b.tdiv a)≤9)) (br (decide (c≥1)) (br (decide (c≤14)) (br (decide (d≥1)) (k (decide (d≤40))) (k false)) (k false)) (k false)) (k false))) (k false))) (k false)) (k false)) (k false))
def lg{ρ:Type}:=shut (at1 (ρ:=ρ))
theorem bew{ρ:Type}(b:Int)(c:Int)(d:Int)(e:Int)(f:Int)(a:Bool)(k:Bool→Option ρ):lg b c d e f a k=at1 b c d e f a k:=by unfold lg;rw[cu]

def aem{ρ:Type}(e b f c d:Int)(a:Bool)(k:Bool→Option ρ):Option ρ:=lg e b f c d a fun g=>br (!g) (k true) (br (decide (b≤2)) (br (decide (c≤3)) (k (decide (d≤4))) (k false)) (k false))
def agl{ρ:Type}:=shut (aem (ρ:=ρ))
theorem aiv{ρ:Type}(b:Int)(c:Int)(d:Int)(e:Int)(f:Int)(a:Bool)(k:Bool→Option ρ):agl b c d e f a k=aem b c d e f a k:=by unfold agl;rw[cu]

def aq2{ρ:Type}(e b a c d:Int)(f:Bool)(k:Bool→Option ρ):Option ρ:=br (e !=16) (br (e !=24) (br (e !=32) (k false) (br (decide (a<1)) (k false) (br (decide (b<a)) (k false) (br (decide (b>68)) (k false) (br (decide (a=0)) none (br (b.tmod a !=0) (k false) (br (decide (a=0)) none (br (decide (Aa.wrap (b.tdiv a)>9)) (k false) (br (decide (c≥1)) (br (decide (c≤14)) (br (decide (d≥1)) (k (decide (d≤40))) (k false)) (k false)) (k false)))))))))) (br (decide (a<1)) (k false) (br (decide (b<a)) (k false) (br (decide (b>68)) (k false) (br (decide (a=0)) none (br (b.tmod a !=0) (k false) (br (decide (a=0)) none (br (decide (Aa.wrap (b.tdiv a)>9)) (k false) (br (decide (c≥1)) (br (decide (c≤14)) (br (decide (d≥1)) (k (decide (d≤40))) (k false)) (k false)) (k false)))))))))) (br (decide (a<1)) (k false) (br (decide (b<a)) (k false) (br (decide (b>68)) (k false) (br (decide (a=0)) none (br (b.tmod a !=0) (k false) (br (decide (a=0)) none (br (decide (Aa.wrap (b.tdiv a)>9)) (k false) (br (decide (c≥1)) (br (decide (c≤14)) (br (decide (d≥1)) (k (decide (d≤40))) (k false)) (k false)) (k false)))))))))
def jv{ρ:Type}:=shut (aq2 (ρ:=ρ))
theorem bb8{ρ:Type}(b:Int)(c:Int)(d:Int)(e:Int)(f:Int)(a:Bool)(k:Bool→Option ρ):jv b c d e f a k=aq2 b c d e f a k:=by unfold jv;rw[cu]

def anq{ρ:Type}(d e f a b:Int)(c:Bool)(k:Int→Int→Option ρ):Option ρ:=jv d e f a b c fun g=>br (!g) (k 0 0) (k (Aa.wrap (Aa.wrap (d*b)*Aa.wrap (a+1))) (Aa.wrap ((Aa.wrap (Aa.wrap (b*a)+7)).tdiv 8)))
def ow{ρ:Type}:=shut (anq (ρ:=ρ))
theorem ayk{ρ:Type}(b:Int)(c:Int)(d:Int)(e:Int)(f:Int)(a:Bool)(k:Int→Int→Option ρ):ow b c d e f a k=anq b c d e f a k:=by unfold ow;rw[cu]

def an6{ρ:Type}(d b a e f:Int)(c:Bool)(k:Int→Option ρ):Option ρ:=br (decide (a=0)) none (k (Aa.wrap (b.tdiv a)))
def kr{ρ:Type}:=shut (an6 (ρ:=ρ))
theorem ay4{ρ:Type}(b:Int)(c:Int)(d:Int)(e:Int)(f:Int)(a:Bool)(k:Int→Option ρ):kr b c d e f a k=an6 b c d e f a k:=by unfold kr;rw[cu]

def anp{ρ:Type}(b c d e f:Int)(a:Bool)(k:Int→Option ρ):Option ρ:=jv b c d e f a fun g=>br (!g) (k 0) (kr b c d e f a fun h=>k (Aa.wrap (b*Aa.wrap (Aa.wrap (Aa.wrap (2*b)+3)+h))))
def o7{ρ:Type}:=shut (anp (ρ:=ρ))
theorem ayr{ρ:Type}(b:Int)(c:Int)(d:Int)(e:Int)(f:Int)(a:Bool)(k:Int→Option ρ):o7 b c d e f a k=anp b c d e f a k:=by unfold o7;rw[cu]

def afx{ρ:Type}(b d c e f:Int)(a:Bool)(k:Int→Int→Int→Option ρ):Option ρ:=jv b d c e f a fun g=>br (!g) (k 0 0 0) (ow b d c e f a fun h j=>o7 b d c e f a fun i=>k (Aa.wrap (2*b)) (Aa.wrap (4*b)) (Aa.wrap (Aa.wrap (b+h)+Aa.wrap (c*i))))
def aby{ρ:Type}:=shut (afx (ρ:=ρ))
theorem ale{ρ:Type}(b:Int)(c:Int)(d:Int)(e:Int)(f:Int)(a:Bool)(k:Int→Int→Int→Option ρ):aby b c d e f a k=afx b c d e f a k:=by unfold aby;rw[cu]

def ae1{ρ:Type}(a:Int)(k:(List Int)→Option ρ):Option ρ:=br (decide (a<0)) none (br (decide (Aa.wrap (a-Aa.wrap (0-(↑0:Int)))>0)) (br (decide (0≤Aa.wrap (a-Aa.wrap (0-(↑0:Int))))) (br (decide ((Aa.wrap (a-Aa.wrap (0-(↑0:Int)))).toNat*1≤140737488355328)) (k (List.take ((↑0:Int)-(0:Int)).toNat (List.replicate (Aa.wrap (a-Aa.wrap (0-(↑0:Int)))).toNat (0:Int)))) none) none) (k []))
def qx{ρ:Type}:=shut (ae1 (ρ:=ρ))
theorem aj2{ρ:Type}(a:Int)(k:(List Int)→Option ρ):qx a k=ae1 a k:=by unfold qx;rw[cu]

abbrev zc1(ρ:Type):=(List (List Int))→Int→(List (List Int))→Int→Int→Option ρ
def adz{ρ:Type}(e:List (List Int))(d:Int)(b:List (List Int))(c a:Int)(nx f:zc1 ρ):Option ρ:=br (decide (a<c)) (br (decide (0≤a)) (br (decide (a<(↑b.length:Int))) (br (decide (Aa.wrap (d+(↑(b.getD a.toNat []).length:Int))<0)) none (nx e (Aa.wrap (d+(↑(b.getD a.toNat []).length:Int))) b c (Aa.wrap (a+1)))) none) none) (f e d b c a)
abbrev zt1:=(List (List Int))×Int×(List (List Int))×Int×Int
abbrev zy1:=zt1
def zu1{ρ:Type}(f:zt1→Option ρ):zc1 ρ:=fun c d e a b=>f (c,d,e,a,b)
def zs1{ρ:Type}:aed zt1 zy1 ρ:=fun (c,d,e,a,b) next ex=>adz c d e a b (zu1 next) (zu1 ex)
def zm1{ρ:Type}:=shut (lp (zs1 (ρ:=ρ)))
theorem ze1{ρ:Type}:zm1 (ρ:=ρ)=lp zs1:=cu _
def zk1{ρ:Type}(f:ad4 zt1 zy1 ρ)(c:List (List Int))(d:Int)(e:List (List Int))(a b:Int)(g:zc1 ρ):Option ρ:=f (c,d,e,a,b) (fun (c,d,e,a,b)=>g c d e a b)
def aia{ρ:Type}:=zk1 (lp (zs1 (ρ:=ρ)))
def aij{ρ:Type}:=zk1 (zm1 (ρ:=ρ))
theorem ank{ρ:Type}:aij (ρ:=ρ)=aia:=congrArg zk1 ze1
abbrev zc2(ρ:Type):=(List (List Int))→Int→Int→(List Int)→Option ρ
def ac1{ρ:Type}(b:List (List Int))(c a:Int)(d:List Int)(nx e:zc2 ρ):Option ρ:=br (decide (a<c)) (br (decide (0≤a)) (br (decide (a<(↑b.length:Int))) (br (decide ((d.length+(b.getD a.toNat []).length)*1≤140737488355328)) (nx b c (Aa.wrap (a+1)) (d++b.getD a.toNat [])) none) none) none) (e b c a d)
abbrev zt2:=(List (List Int))×Int×Int×(List Int)
abbrev zy2:=zt2
def zu2{ρ:Type}(f:zt2→Option ρ):zc2 ρ:=fun a b c d=>f (a,b,c,d)
def zs2{ρ:Type}:aed zt2 zy2 ρ:=fun (a,b,c,d) next ex=>ac1 a b c d (zu2 next) (zu2 ex)
def zm2{ρ:Type}:=shut (lp (zs2 (ρ:=ρ)))
theorem ze2{ρ:Type}:zm2 (ρ:=ρ)=lp zs2:=cu _
def zk2{ρ:Type}(f:ad4 zt2 zy2 ρ)(a:List (List Int))(b c:Int)(d:List Int)(e:zc2 ρ):Option ρ:=f (a,b,c,d) (fun (a,b,c,d)=>e a b c d)
def ag5{ρ:Type}:=zk2 (lp (zs2 (ρ:=ρ)))
def ag7{ρ:Type}:=zk2 (zm2 (ρ:=ρ))
theorem ame{ρ:Type}:ag7 (ρ:=ρ)=ag5:=congrArg zk2 ze2
def ac9{ρ:Type}(a:List (List Int))(k:(List Int)→Option ρ):Option ρ:=aij a 0 a (↑a.length:Int) 0 fun b c f g h=>qx c fun d=>ag7 b (↑b.length:Int) 0 d fun i j l e=>k e
def j5{ρ:Type}:=shut (ac9 (ρ:=ρ))
theorem aio{ρ:Type}(a:List (List Int))(k:(List Int)→Option ρ):j5 a k=ac9 a k:=by unfold j5;rw[cu]

def aob{ρ:Type}(a:List (List Int))(k:(List Int)→Option ρ):Option ρ:=j5 a fun b=>k b
def jd{ρ:Type}:=shut (aob (ρ:=ρ))
theorem azb{ρ:Type}(a:List (List Int))(k:(List Int)→Option ρ):jd a k=aob a k:=by unfold jd;rw[cu]

def akr{ρ:Type}(a:Int)(k:Int→Option ρ):Option ρ:=br (a==4) (br (a==4) (k 136) (br (a==5) (k 72) (br (a==6) (k 168) (k 0)))) (br (a==7) (k 136) (br (a==5) (k 72) (br (a==6) (k 168) (k 0))))
def oo{ρ:Type}:=shut (akr (ρ:=ρ))
theorem aso{ρ:Type}(a:Int)(k:Int→Option ρ):oo a k=akr a k:=by unfold oo;rw[cu]

def ah3{ρ:Type}(a:Int)(k:Int→(List Int)→Int→Bool→Int→Option ρ):Option ρ:=oo a fun b=>br (b==0) (k 0 [0,0,0,0,0,0,0,0,0,0,0,0,0,0,0,0,0,0,0,0,0,0,0,0,0] 0 false 9) (k a [0,0,0,0,0,0,0,0,0,0,0,0,0,0,0,0,0,0,0,0,0,0,0,0,0] 0 false 0)
def ab8{ρ:Type}:=shut (ah3 (ρ:=ρ))
theorem aol{ρ:Type}(a:Int)(k:Int→(List Int)→Int→Bool→Int→Option ρ):ab8 a k=ah3 a k:=by unfold ab8;rw[cu]

def qh{ρ:Type}(b a:Int)(k:Int→Option ρ):Option ρ:=br (decide (Ab.wrap (64-bits BinOp.and Ab (Ab.wrap a) 63)<0)) none (k (bits BinOp.or Ab (Ab.wrap (b*2^min (bits BinOp.and Ab (Ab.wrap a) 63).toNat 64)) (b.fdiv (2^min (Ab.wrap (64-bits BinOp.and Ab (Ab.wrap a) 63)).toNat 64))))
def jm{ρ:Type}:=shut (qh (ρ:=ρ))
theorem vw{ρ:Type}(a:Int)(b:Int)(k:Int→Option ρ):jm a b k=qh a b k:=by unfold jm;rw[cu]

end P
end
