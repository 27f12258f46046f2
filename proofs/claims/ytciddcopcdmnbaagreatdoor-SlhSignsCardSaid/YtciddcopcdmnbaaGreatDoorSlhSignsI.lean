/-
  SlhSigns, part 9: lemmas for the law.
-/

import Derived.Test.YtciddcopcdmnbaaGreatDoorSlhSignsH
open Go.IntKind renaming i64 → Aa, u64 → Ab

noncomputable section
open Go Go.Abs
set_option linter.unusedVariables false
namespace P

def axp{ρ:Type}(e b a c d:Int)(f:Bool)(k:Bool→Option ρ):Option ρ:=br (e !=16) (br (e !=24) (br (e !=32) (k false) (br (decide (a≥1)) (br (decide (b≤68)) (br (decide (b≥a)) (br (decide (a=0)) none (br (b.tmod a==0) (br (decide (a=0)) none (br (decide (Aa.wrap (b.tdiv a)≤9)) (br (decide (c≥1)) (br (decide (c≤14)) (br (decide (d≥1)) (k (decide (d≤40))) (k false)) (k false)) (k false)) (k false))) (k false))) (k false)) (k false)) (k false))) (br (decide (a≥1)) (br (decide (b≤68)) (br (decide (b≥a)) (br (decide (a=0)) none (br (b.tmod a==0) (br (decide (a=0)) none (br (decide (Aa.wrap (b.tdiv a)≤9)) (br (decide (c≥1)) (br (decide (c≤14)) (br (decide (d≥1)) (k (decide (d≤40))) (k false)) (k false)) (k false)) (k false))) (k false))) (k false)) (k false)) (k false))) (br (decide (a≥1)) (br (decide (b≤68)) (br (decide (b≥a)) (br (decide (a=0)) none (br (b.tmod a==0) (br (decide (a=0)) none (br (decide (Aa.wrap (b.tdiv a)≤9)) (br (decide (c≥1)) (br (decide (c≤14)) (br (decide (d≥1)) (k (decide (d≤40))) (k false)) (k false)) (k false)) (k false))) (k false))) (k false)) (k false)) (k false))
def kg{ρ:Type}:=shut (axp (ρ:=ρ))
theorem bjm{ρ:Type}(b:Int)(c:Int)(d:Int)(e:Int)(f:Int)(a:Bool)(k:Bool→Option ρ):kg b c d e f a k=axp b c d e f a k:=by unfold kg;rw[bg]

def ae4{ρ:Type}(e b f c d:Int)(a:Bool)(k:Bool→Option ρ):Option ρ:=kg e b f c d a fun g=>br (!g) (k true) (br (decide (b≤2)) (br (decide (c≤3)) (k (decide (d≤4))) (k false)) (k false))
def ahs{ρ:Type}:=shut (ae4 (ρ:=ρ))
theorem ajk{ρ:Type}(b:Int)(c:Int)(d:Int)(e:Int)(f:Int)(a:Bool)(k:Bool→Option ρ):ahs b c d e f a k=ae4 b c d e f a k:=by unfold ahs;rw[bg]

def ar6{ρ:Type}(e b a c d:Int)(f:Bool)(k:Bool→Option ρ):Option ρ:=br (e !=16) (br (e !=24) (br (e !=32) (k false) (br (decide (a<1)) (k false) (br (decide (b<a)) (k false) (br (decide (b>68)) (k false) (br (decide (a=0)) none (br (b.tmod a !=0) (k false) (br (decide (a=0)) none (br (decide (Aa.wrap (b.tdiv a)>9)) (k false) (br (decide (c≥1)) (br (decide (c≤14)) (br (decide (d≥1)) (k (decide (d≤40))) (k false)) (k false)) (k false)))))))))) (br (decide (a<1)) (k false) (br (decide (b<a)) (k false) (br (decide (b>68)) (k false) (br (decide (a=0)) none (br (b.tmod a !=0) (k false) (br (decide (a=0)) none (br (decide (Aa.wrap (b.tdiv a)>9)) (k false) (br (decide (c≥1)) (br (decide (c≤14)) (br (decide (d≥1)) (k (decide (d≤40))) (k false)) (k false)) (k false)))))))))) (br (decide (a<1)) (k false) (br (decide (b<a)) (k false) (br (decide (b>68)) (k false) (br (decide (a=0)) none (br (b.tmod a !=0) (k false) (br (decide (a=0)) none (br (decide (Aa.wrap (b.tdiv a)>9)) (k false) (br (decide (c≥1)) (br (decide (c≤14)) (br (decide (d≥1)) (k (decide (d≤40))) (k false)) (k false)) (k false)))))))))
def jy{ρ:Type}:=shut (ar6 (ρ:=ρ))
theorem bf5{ρ:Type}(b:Int)(c:Int)(d:Int)(e:Int)(f:Int)(a:Bool)(k:Bool→Option ρ):jy b c d e f a k=ar6 b c d e f a k:=by unfold jy;rw[bg]

def apj{ρ:Type}(d e f a b:Int)(c:Bool)(k:Int→Int→Option ρ):Option ρ:=jy d e f a b c fun g=>br (!g) (k 0 0) (k (Aa.wrap (Aa.wrap (d*b)*Aa.wrap (a+1))) (Aa.wrap ((Aa.wrap (Aa.wrap (b*a)+7)).tdiv 8)))
def ku{ρ:Type}:=shut (apj (ρ:=ρ))
theorem bck{ρ:Type}(b:Int)(c:Int)(d:Int)(e:Int)(f:Int)(a:Bool)(k:Int→Int→Option ρ):ku b c d e f a k=apj b c d e f a k:=by unfold ku;rw[bg]

def ao2{ρ:Type}(d b a e f:Int)(c:Bool)(k:Int→Option ρ):Option ρ:=br (decide (a=0)) none (k (Aa.wrap (b.tdiv a)))
def jh{ρ:Type}:=shut (ao2 (ρ:=ρ))
theorem bbp{ρ:Type}(b:Int)(c:Int)(d:Int)(e:Int)(f:Int)(a:Bool)(k:Int→Option ρ):jh b c d e f a k=ao2 b c d e f a k:=by unfold jh;rw[bg]

def aqm{ρ:Type}(b c d e f:Int)(a:Bool)(k:Int→Option ρ):Option ρ:=jy b c d e f a fun g=>br (!g) (k 0) (jh b c d e f a fun h=>k (Aa.wrap (b*Aa.wrap (Aa.wrap (Aa.wrap (2*b)+3)+h))))
def qh{ρ:Type}:=shut (aqm (ρ:=ρ))
theorem bdc{ρ:Type}(b:Int)(c:Int)(d:Int)(e:Int)(f:Int)(a:Bool)(k:Int→Option ρ):qh b c d e f a k=aqm b c d e f a k:=by unfold qh;rw[bg]

def apo{ρ:Type}(b d c e f:Int)(a:Bool)(k:Int→Int→Int→Option ρ):Option ρ:=jy b d c e f a fun g=>br (!g) (k 0 0 0) (ku b d c e f a fun h j=>qh b d c e f a fun i=>k (Aa.wrap (2*b)) (Aa.wrap (4*b)) (Aa.wrap (Aa.wrap (b+h)+Aa.wrap (c*i))))
def adh{ρ:Type}:=shut (apo (ρ:=ρ))
theorem bcv{ρ:Type}(b:Int)(c:Int)(d:Int)(e:Int)(f:Int)(a:Bool)(k:Int→Int→Int→Option ρ):adh b c d e f a k=apo b c d e f a k:=by unfold adh;rw[bg]

def afr{ρ:Type}(a:Int)(k:(List Int)→Option ρ):Option ρ:=br (decide (a<0)) none (br (decide (Aa.wrap (a-Aa.wrap (0-(↑0:Int)))>0)) (br (decide (0≤Aa.wrap (a-Aa.wrap (0-(↑0:Int))))) (br (decide ((Aa.wrap (a-Aa.wrap (0-(↑0:Int)))).toNat*1≤140737488355328)) (k (List.take ((↑0:Int)-(0:Int)).toNat (List.replicate (Aa.wrap (a-Aa.wrap (0-(↑0:Int)))).toNat (0:Int)))) none) none) (k []))
def uy{ρ:Type}:=shut (afr (ρ:=ρ))
theorem al8{ρ:Type}(a:Int)(k:(List Int)→Option ρ):uy a k=afr a k:=by unfold uy;rw[bg]

abbrev zc1(ρ:Type):=(List (List Int))→Int→(List (List Int))→Int→Int→Option ρ
def aeo{ρ:Type}(e:List (List Int))(d:Int)(b:List (List Int))(c a:Int)(nx f:zc1 ρ):Option ρ:=br (decide (a<c)) (br (decide (0≤a)) (br (decide (a<(↑b.length:Int))) (br (decide (Aa.wrap (d+(↑(b.getD a.toNat []).length:Int))<0)) none (nx e (Aa.wrap (d+(↑(b.getD a.toNat []).length:Int))) b c (Aa.wrap (a+1)))) none) none) (f e d b c a)
abbrev zt1:=(List (List Int))×Int×(List (List Int))×Int×Int
abbrev zy1:=zt1
def zu1{ρ:Type}(f:zt1→Option ρ):zc1 ρ:=fun c d e a b=>f (c,d,e,a,b)
def zs1{ρ:Type}:ab5 zt1 zy1 ρ:=fun (c,d,e,a,b) next ex=>aeo c d e a b (zu1 next) (zu1 ex)
def zm1{ρ:Type}:=shut (lp (zs1 (ρ:=ρ)))
theorem ze1{ρ:Type}:zm1 (ρ:=ρ)=lp zs1:=bg _
def zk1{ρ:Type}(f:ab6 zt1 zy1 ρ)(c:List (List Int))(d:Int)(e:List (List Int))(a b:Int)(g:zc1 ρ):Option ρ:=f (c,d,e,a,b) (fun (c,d,e,a,b)=>g c d e a b)
def ai9{ρ:Type}:=zk1 (lp (zs1 (ρ:=ρ)))
def aja{ρ:Type}:=zk1 (zm1 (ρ:=ρ))
theorem an5{ρ:Type}:aja (ρ:=ρ)=ai9:=congrArg zk1 ze1
abbrev zc2(ρ:Type):=(List (List Int))→Int→Int→(List Int)→Option ρ
def adx{ρ:Type}(b:List (List Int))(c a:Int)(d:List Int)(nx e:zc2 ρ):Option ρ:=br (decide (a<c)) (br (decide (0≤a)) (br (decide (a<(↑b.length:Int))) (br (decide ((d.length+(b.getD a.toNat []).length)*1≤140737488355328)) (nx b c (Aa.wrap (a+1)) (d++b.getD a.toNat [])) none) none) none) (e b c a d)
abbrev zt2:=(List (List Int))×Int×Int×(List Int)
abbrev zy2:=zt2
def zu2{ρ:Type}(f:zt2→Option ρ):zc2 ρ:=fun a b c d=>f (a,b,c,d)
def zs2{ρ:Type}:ab5 zt2 zy2 ρ:=fun (a,b,c,d) next ex=>adx a b c d (zu2 next) (zu2 ex)
def zm2{ρ:Type}:=shut (lp (zs2 (ρ:=ρ)))
theorem ze2{ρ:Type}:zm2 (ρ:=ρ)=lp zs2:=bg _
def zk2{ρ:Type}(f:ab6 zt2 zy2 ρ)(a:List (List Int))(b c:Int)(d:List Int)(e:zc2 ρ):Option ρ:=f (a,b,c,d) (fun (a,b,c,d)=>e a b c d)
def ahv{ρ:Type}:=zk2 (lp (zs2 (ρ:=ρ)))
def ahy{ρ:Type}:=zk2 (zm2 (ρ:=ρ))
theorem anx{ρ:Type}:ahy (ρ:=ρ)=ahv:=congrArg zk2 ze2
def ady{ρ:Type}(a:List (List Int))(k:(List Int)→Option ρ):Option ρ:=aja a 0 a (↑a.length:Int) 0 fun b c f g h=>uy c fun d=>ahy b (↑b.length:Int) 0 d fun i j l e=>k e
def lg{ρ:Type}:=shut (ady (ρ:=ρ))
theorem ajm{ρ:Type}(a:List (List Int))(k:(List Int)→Option ρ):lg a k=ady a k:=by unfold lg;rw[bg]

def apa{ρ:Type}(a:List (List Int))(k:(List Int)→Option ρ):Option ρ:=lg a fun b=>k b
def jc{ρ:Type}:=shut (apa (ρ:=ρ))
theorem bde{ρ:Type}(a:List (List Int))(k:(List Int)→Option ρ):jc a k=apa a k:=by unfold jc;rw[bg]

def al9{ρ:Type}(a:Int)(k:Int→Option ρ):Option ρ:=br (a==4) (br (a==4) (k 136) (br (a==5) (k 72) (br (a==6) (k 168) (k 0)))) (br (a==7) (k 136) (br (a==5) (k 72) (br (a==6) (k 168) (k 0))))
def oz{ρ:Type}:=shut (al9 (ρ:=ρ))
theorem avd{ρ:Type}(a:Int)(k:Int→Option ρ):oz a k=al9 a k:=by unfold oz;rw[bg]

def ai1{ρ:Type}(a:Int)(k:Int→(List Int)→Int→Bool→Int→Option ρ):Option ρ:=oz a fun b=>br (b==0) (k 0 [0,0,0,0,0,0,0,0,0,0,0,0,0,0,0,0,0,0,0,0,0,0,0,0,0] 0 false 9) (k a [0,0,0,0,0,0,0,0,0,0,0,0,0,0,0,0,0,0,0,0,0,0,0,0,0] 0 false 0)
def acw{ρ:Type}:=shut (ai1 (ρ:=ρ))
theorem ap8{ρ:Type}(a:Int)(k:Int→(List Int)→Int→Bool→Int→Option ρ):acw a k=ai1 a k:=by unfold acw;rw[bg]

def uf{ρ:Type}(b a:Int)(k:Int→Option ρ):Option ρ:=br (decide (Ab.wrap (64-bits BinOp.and Ab (Ab.wrap a) 63)<0)) none (k (bits BinOp.or Ab (Ab.wrap (b*2^min (bits BinOp.and Ab (Ab.wrap a) 63).toNat 64)) (b.fdiv (2^min (Ab.wrap (64-bits BinOp.and Ab (Ab.wrap a) 63)).toNat 64))))
def j6{ρ:Type}:=shut (uf (ρ:=ρ))
theorem x9{ρ:Type}(a:Int)(b:Int)(k:Int→Option ρ):j6 a b k=uf a b k:=by unfold j6;rw[bg]

end P
end
