/-
  SlhRight, part 9: lemmas for the law.
-/

import Derived.Test.YtciddcopcdmnbaaGreatDoorSlhRightH
open Go.IntKind renaming i64 → Aa, u64 → Ab

noncomputable section
open Go Go.Abs
set_option linter.unusedVariables false
namespace P

def amn{ρ:Type}(e b a c d:Int)(f:Bool)(k:Bool→Option ρ):Option ρ:=br (e !=16) (br (e !=24) (br (e !=32) (k false) (br (decide (a<1)) (k false) (br (decide (b<a)) (k false) (br (decide (b>68)) (k false) (br (decide (a=0)) none (br (b.tmod a !=0) (k false) (br (decide (a=0)) none (br (decide (Aa.wrap (b.tdiv a)>9)) (k false) (br (decide (c≥1)) (br (decide (c≤14)) (br (decide (d≥1)) (k (decide (d≤40))) (k false)) (k false)) (k false)))))))))) (br (decide (a<1)) (k false) (br (decide (b<a)) (k false) (br (decide (b>68)) (k false) (br (decide (a=0)) none (br (b.tmod a !=0) (k false) (br (decide (a=0)) none (br (decide (Aa.wrap (b.tdiv a)>9)) (k false) (br (decide (c≥1)) (br (decide (c≤14)) (br (decide (d≥1)) (k (decide (d≤40))) (k false)) (k false)) (k false)))))))))) (br (decide (a<1)) (k false) (br (decide (b<a)) (k false) (br (decide (b>68)) (k false) (br (decide (a=0)) none (br (b.tmod a !=0) (k false) (br (decide (a=0)) none (br (decide (Aa.wrap (b.tdiv a)>9)) (k false) (br (decide (c≥1)) (br (decide (c≤14)) (br (decide (d≥1)) (k (decide (d≤40))) (k false)) (k false)) (k false)))))))))
def ji{ρ:Type}:=shut (amn (ρ:=ρ))
theorem aun{ρ:Type}(b:Int)(c:Int)(d:Int)(e:Int)(f:Int)(a:Bool)(k:Bool→Option ρ):ji b c d e f a k=amn b c d e f a k:=by unfold ji;rw[bq]

def ak6{ρ:Type}(d e f a b:Int)(c:Bool)(k:Int→Int→Option ρ):Option ρ:=ji d e f a b c fun g=>br (!g) (k 0 0) (k (Aa.wrap (Aa.wrap (d*b)*Aa.wrap (a+1))) (Aa.wrap ((Aa.wrap (Aa.wrap (b*a)+7)).tdiv 8)))
def jo{ρ:Type}:=shut (ak6 (ρ:=ρ))
theorem as4{ρ:Type}(b:Int)(c:Int)(d:Int)(e:Int)(f:Int)(a:Bool)(k:Int→Int→Option ρ):jo b c d e f a k=ak6 b c d e f a k:=by unfold jo;rw[bq]

def aly{ρ:Type}(d b a e f:Int)(c:Bool)(k:Int→Option ρ):Option ρ:=br (decide (a=0)) none (k (Aa.wrap (b.tdiv a)))
def ig{ρ:Type}:=shut (aly (ρ:=ρ))
theorem asq{ρ:Type}(b:Int)(c:Int)(d:Int)(e:Int)(f:Int)(a:Bool)(k:Int→Option ρ):ig b c d e f a k=aly b c d e f a k:=by unfold ig;rw[bq]

def alj{ρ:Type}(b c d e f:Int)(a:Bool)(k:Int→Option ρ):Option ρ:=ji b c d e f a fun g=>br (!g) (k 0) (ig b c d e f a fun h=>k (Aa.wrap (b*Aa.wrap (Aa.wrap (Aa.wrap (2*b)+3)+h))))
def qj{ρ:Type}:=shut (alj (ρ:=ρ))
theorem asn{ρ:Type}(b:Int)(c:Int)(d:Int)(e:Int)(f:Int)(a:Bool)(k:Int→Option ρ):qj b c d e f a k=alj b c d e f a k:=by unfold qj;rw[bq]

def alk{ρ:Type}(b d c e f:Int)(a:Bool)(k:Int→Int→Int→Option ρ):Option ρ:=ji b d c e f a fun g=>br (!g) (k 0 0 0) (jo b d c e f a fun h j=>qj b d c e f a fun i=>k (Aa.wrap (2*b)) (Aa.wrap (4*b)) (Aa.wrap (Aa.wrap (b+h)+Aa.wrap (c*i))))
def aaf{ρ:Type}:=shut (alk (ρ:=ρ))
theorem asw{ρ:Type}(b:Int)(c:Int)(d:Int)(e:Int)(f:Int)(a:Bool)(k:Int→Int→Int→Option ρ):aaf b c d e f a k=alk b c d e f a k:=by unfold aaf;rw[bq]

def ad1{ρ:Type}(a:Int)(k:(List Int)→Option ρ):Option ρ:=br (decide (a<0)) none (br (decide (Aa.wrap (a-Aa.wrap (0-(↑0:Int)))>0)) (br (decide (0≤Aa.wrap (a-Aa.wrap (0-(↑0:Int))))) (br (decide ((Aa.wrap (a-Aa.wrap (0-(↑0:Int)))).toNat*1≤140737488355328)) (k (List.take ((↑0:Int)-(0:Int)).toNat (List.replicate (Aa.wrap (a-Aa.wrap (0-(↑0:Int)))).toNat (0:Int)))) none) none) (k []))
def tu{ρ:Type}:=shut (ad1 (ρ:=ρ))
theorem aic{ρ:Type}(a:Int)(k:(List Int)→Option ρ):tu a k=ad1 a k:=by unfold tu;rw[bq]

abbrev zc1(ρ:Type):=(List (List Int))→Int→(List (List Int))→Int→Int→Option ρ
def ac5{ρ:Type}(e:List (List Int))(d:Int)(b:List (List Int))(c a:Int)(nx f:zc1 ρ):Option ρ:=br (decide (a<c)) (br (decide (0≤a)) (br (decide (a<(↑b.length:Int))) (br (decide (Aa.wrap (d+(↑(b.getD a.toNat []).length:Int))<0)) none (nx e (Aa.wrap (d+(↑(b.getD a.toNat []).length:Int))) b c (Aa.wrap (a+1)))) none) none) (f e d b c a)
abbrev zt1:=(List (List Int))×Int×(List (List Int))×Int×Int
abbrev zy1:=zt1
def zu1{ρ:Type}(f:zt1→Option ρ):zc1 ρ:=fun c d e a b=>f (c,d,e,a,b)
def zs1{ρ:Type}:ahn zt1 zy1 ρ:=fun (c,d,e,a,b) next ex=>ac5 c d e a b (zu1 next) (zu1 ex)
def zm1{ρ:Type}:=shut (lp (zs1 (ρ:=ρ)))
theorem ze1{ρ:Type}:zm1 (ρ:=ρ)=lp zs1:=bq _
def zk1{ρ:Type}(f:ahp zt1 zy1 ρ)(c:List (List Int))(d:Int)(e:List (List Int))(a b:Int)(g:zc1 ρ):Option ρ:=f (c,d,e,a,b) (fun (c,d,e,a,b)=>g c d e a b)
def agu{ρ:Type}:=zk1 (lp (zs1 (ρ:=ρ)))
def ags{ρ:Type}:=zk1 (zm1 (ρ:=ρ))
theorem akb{ρ:Type}:ags (ρ:=ρ)=agu:=congrArg zk1 ze1
abbrev zc2(ρ:Type):=(List (List Int))→Int→Int→(List Int)→Option ρ
def acd{ρ:Type}(b:List (List Int))(c a:Int)(d:List Int)(nx e:zc2 ρ):Option ρ:=br (decide (a<c)) (br (decide (0≤a)) (br (decide (a<(↑b.length:Int))) (br (decide ((d.length+(b.getD a.toNat []).length)*1≤140737488355328)) (nx b c (Aa.wrap (a+1)) (d++b.getD a.toNat [])) none) none) none) (e b c a d)
abbrev zt2:=(List (List Int))×Int×Int×(List Int)
abbrev zy2:=zt2
def zu2{ρ:Type}(f:zt2→Option ρ):zc2 ρ:=fun a b c d=>f (a,b,c,d)
def zs2{ρ:Type}:ahn zt2 zy2 ρ:=fun (a,b,c,d) next ex=>acd a b c d (zu2 next) (zu2 ex)
def zm2{ρ:Type}:=shut (lp (zs2 (ρ:=ρ)))
theorem ze2{ρ:Type}:zm2 (ρ:=ρ)=lp zs2:=bq _
def zk2{ρ:Type}(f:ahp zt2 zy2 ρ)(a:List (List Int))(b c:Int)(d:List Int)(e:zc2 ρ):Option ρ:=f (a,b,c,d) (fun (a,b,c,d)=>e a b c d)
def afg{ρ:Type}:=zk2 (lp (zs2 (ρ:=ρ)))
def afh{ρ:Type}:=zk2 (zm2 (ρ:=ρ))
theorem ajn{ρ:Type}:afh (ρ:=ρ)=afg:=congrArg zk2 ze2
def ab4{ρ:Type}(a:List (List Int))(k:(List Int)→Option ρ):Option ρ:=ags a 0 a (↑a.length:Int) 0 fun b c f g h=>tu c fun d=>afh b (↑b.length:Int) 0 d fun i j l e=>k e
def jv{ρ:Type}:=shut (ab4 (ρ:=ρ))
theorem agw{ρ:Type}(a:List (List Int))(k:(List Int)→Option ρ):jv a k=ab4 a k:=by unfold jv;rw[bq]

def alr{ρ:Type}(a:List (List Int))(k:(List Int)→Option ρ):Option ρ:=jv a fun b=>k b
def dz{ρ:Type}:=shut (alr (ρ:=ρ))
theorem atp{ρ:Type}(a:List (List Int))(k:(List Int)→Option ρ):dz a k=alr a k:=by unfold dz;rw[bq]

def ais{ρ:Type}(a:Int)(k:Int→Option ρ):Option ρ:=br (a==4) (br (a==4) (k 136) (br (a==5) (k 72) (br (a==6) (k 168) (k 0)))) (br (a==7) (k 136) (br (a==5) (k 72) (br (a==6) (k 168) (k 0))))
def oq{ρ:Type}:=shut (ais (ρ:=ρ))
theorem aol{ρ:Type}(a:Int)(k:Int→Option ρ):oq a k=ais a k:=by unfold oq;rw[bq]

def agk{ρ:Type}(a:Int)(k:Int→(List Int)→Int→Bool→Int→Option ρ):Option ρ:=oq a fun b=>br (b==0) (k 0 [0,0,0,0,0,0,0,0,0,0,0,0,0,0,0,0,0,0,0,0,0,0,0,0,0] 0 false 9) (k a [0,0,0,0,0,0,0,0,0,0,0,0,0,0,0,0,0,0,0,0,0,0,0,0,0] 0 false 0)
def abg{ρ:Type}:=shut (agk (ρ:=ρ))
theorem alp{ρ:Type}(a:Int)(k:Int→(List Int)→Int→Bool→Int→Option ρ):abg a k=agk a k:=by unfold abg;rw[bq]

def rz{ρ:Type}(b a:Int)(k:Int→Option ρ):Option ρ:=br (decide (Ab.wrap (64-bits BinOp.and Ab (Ab.wrap a) 63)<0)) none (k (bits BinOp.or Ab (Ab.wrap (b*2^min (bits BinOp.and Ab (Ab.wrap a) 63).toNat 64)) (b.fdiv (2^min (Ab.wrap (64-bits BinOp.and Ab (Ab.wrap a) 63)).toNat 64))))
def jm{ρ:Type}:=shut (rz (ρ:=ρ))
theorem vw{ρ:Type}(a:Int)(b:Int)(k:Int→Option ρ):jm a b k=rz a b k:=by unfold jm;rw[bq]

end P
end
