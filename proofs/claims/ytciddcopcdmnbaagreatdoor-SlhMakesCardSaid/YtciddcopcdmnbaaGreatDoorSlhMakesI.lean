/-
  SlhMakes, part 9: an interpreter of my own over abstract values, the pure functions, the walks and the plain law.
-/

import Derived.Test.YtciddcopcdmnbaaGreatDoorSlhMakesH
open Go.IntKind renaming i64 → Aa, u64 → Ab

noncomputable section
open Go Go.Abs
set_option linter.unusedVariables false
namespace P

def uw{ρ:Type}(a:Int)(k:Int→Int→Int→Int→Int→Bool→Bool→Option ρ):Option ρ:=br (decide (a<(1:Int))) (k (0:Int) (0:Int) (0:Int) (0:Int) (0:Int) false false) (br (decide (a>(12:Int))) (k (0:Int) (0:Int) (0:Int) (0:Int) (0:Int) false false) (br (decide ((0:Int)≤Aa.wrap ((Aa.wrap (a-(1:Int))).tdiv (2:Int)))) (br (decide (Aa.wrap ((Aa.wrap (a-(1:Int))).tdiv (2:Int))<(↑6:Int))) (br (decide ((0:Int)≤Aa.wrap ((Aa.wrap (a-(1:Int))).tdiv (2:Int)))) (br (decide (Aa.wrap ((Aa.wrap (a-(1:Int))).tdiv (2:Int))<(↑6:Int))) (br (decide ((0:Int)≤Aa.wrap ((Aa.wrap (a-(1:Int))).tdiv (2:Int)))) (br (decide (Aa.wrap ((Aa.wrap (a-(1:Int))).tdiv (2:Int))<(↑6:Int))) (br (decide ((0:Int)≤Aa.wrap ((Aa.wrap (a-(1:Int))).tdiv (2:Int)))) (br (decide (Aa.wrap ((Aa.wrap (a-(1:Int))).tdiv (2:Int))<(↑6:Int))) (br (decide ((0:Int)≤Aa.wrap ((Aa.wrap (a-(1:Int))).tdiv (2:Int)))) (br (decide (Aa.wrap ((Aa.wrap (a-(1:Int))).tdiv (2:Int))<(↑6:Int))) (k ([(16:Int),(16:Int),(24:Int),(24:Int),(32:Int),(32:Int)].getD (Aa.wrap ((Aa.wrap (a-(1:Int))).tdiv (2:Int))).toNat (0:Int)) ([(63:Int),(66:Int),(63:Int),(66:Int),(64:Int),(68:Int)].getD (Aa.wrap ((Aa.wrap (a-(1:Int))).tdiv (2:Int))).toNat (0:Int)) ([(7:Int),(22:Int),(7:Int),(22:Int),(8:Int),(17:Int)].getD (Aa.wrap ((Aa.wrap (a-(1:Int))).tdiv (2:Int))).toNat (0:Int)) ([(12:Int),(6:Int),(14:Int),(8:Int),(14:Int),(9:Int)].getD (Aa.wrap ((Aa.wrap (a-(1:Int))).tdiv (2:Int))).toNat (0:Int)) ([(14:Int),(33:Int),(17:Int),(33:Int),(22:Int),(35:Int)].getD (Aa.wrap ((Aa.wrap (a-(1:Int))).tdiv (2:Int))).toNat (0:Int)) (a.tmod (2:Int)==(0:Int)) true) none) none) none) none) none) none) none) none) none) none))
def ajb{ρ:Type}:=shut (uw (ρ:=ρ))
theorem avc{ρ:Type}(a:Int)(k:Int→Int→Int→Int→Int→Bool→Bool→Option ρ):ajb a k=uw a k:=by unfold ajb;rw[cu]

def ash{ρ:Type}(e b a c d:Int)(f:Bool)(k:Bool→Option ρ):Option ρ:=br (e !=16) (br (e !=24) (br (e !=32) (k false) (br (decide (a≥1)) (br (decide (b≤68)) (br (decide (b≥a)) (br (decide (a=0)) none (br (b.tmod a==0) (br (decide (a=0)) none (br (decide (Aa.wrap (b.tdiv a)≤9)) (br (decide (c≥1)) (br (decide (c≤14)) (br (decide (d≥1)) (k (decide (d≤40))) (k false)) (k false)) (k false)) (k false))) (k false))) (k false)) (k false)) (k false))) (br (decide (a≥1)) (br (decide (b≤68)) (br (decide (b≥a)) (br (decide (a=0)) none (br (b.tmod a==0) (br (decide (a=0)) none (br (decide (Aa.wrap (b.tdiv a)≤9)) (br (decide (c≥1)) (br (decide (c≤14)) (br (decide (d≥1)) (k (decide (d≤40))) (k false)) (k false)) (k false)) (k false))) (k false))) (k false)) (k false)) (k false))) (br (decide (a≥1)) (br (decide (b≤68)) (br (decide (b≥a)) (br (decide (a=0)) none (br (b.tmod a==0) (br (decide (a=0)) none (br (decide (Aa.wrap (b.tdiv a)≤9)) (br (decide (c≥1)) (br (decide (c≤14)) (br (decide (d≥1)) (k (decide (d≤40))) (k false)) (k false)) (k false)) (k false))) (k false))) (k false)) (k false)) (k false))
def om{ρ:Type}:=shut (ash (ρ:=ρ))
theorem bb9{ρ:Type}(b:Int)(c:Int)(d:Int)(e:Int)(f:Int)(a:Bool)(k:Bool→Option ρ):om b c d e f a k=ash b c d e f a k:=by unfold om;rw[cu]

def ad7{ρ:Type}(e b f c d:Int)(a:Bool)(k:Bool→Option ρ):Option ρ:=om e b f c d a fun g=>br (!g) (k true) (br (decide (b≤2)) (br (decide (c≤3)) (k (decide (d≤4))) (k false)) (k false))
def aeo{ρ:Type}:=shut (ad7 (ρ:=ρ))
theorem ahw{ρ:Type}(b:Int)(c:Int)(d:Int)(e:Int)(f:Int)(a:Bool)(k:Bool→Option ρ):aeo b c d e f a k=ad7 b c d e f a k:=by unfold aeo;rw[cu]

def aok{ρ:Type}(e b a c d:Int)(f:Bool)(k:Bool→Option ρ):Option ρ:=br (e !=16) (br (e !=24) (br (e !=32) (k false) (br (decide (a<1)) (k false) (br (decide (b<a)) (k false) (br (decide (b>68)) (k false) (br (decide (a=0)) none (br (b.tmod a !=0) (k false) (br (decide (a=0)) none (br (decide (Aa.wrap (b.tdiv a)>9)) (k false) (br (decide (c≥1)) (br (decide (c≤14)) (br (decide (d≥1)) (k (decide (d≤40))) (k false)) (k false)) (k false)))))))))) (br (decide (a<1)) (k false) (br (decide (b<a)) (k false) (br (decide (b>68)) (k false) (br (decide (a=0)) none (br (b.tmod a !=0) (k false) (br (decide (a=0)) none (br (decide (Aa.wrap (b.tdiv a)>9)) (k false) (br (decide (c≥1)) (br (decide (c≤14)) (br (decide (d≥1)) (k (decide (d≤40))) (k false)) (k false)) (k false)))))))))) (br (decide (a<1)) (k false) (br (decide (b<a)) (k false) (br (decide (b>68)) (k false) (br (decide (a=0)) none (br (b.tmod a !=0) (k false) (br (decide (a=0)) none (br (decide (Aa.wrap (b.tdiv a)>9)) (k false) (br (decide (c≥1)) (br (decide (c≤14)) (br (decide (d≥1)) (k (decide (d≤40))) (k false)) (k false)) (k false)))))))))
def jk{ρ:Type}:=shut (aok (ρ:=ρ))
theorem ayd{ρ:Type}(b:Int)(c:Int)(d:Int)(e:Int)(f:Int)(a:Bool)(k:Bool→Option ρ):jk b c d e f a k=aok b c d e f a k:=by unfold jk;rw[cu]

def amy{ρ:Type}(d e f a b:Int)(c:Bool)(k:Int→Int→Option ρ):Option ρ:=jk d e f a b c fun g=>br (!g) (k 0 0) (k (Aa.wrap (Aa.wrap (d*b)*Aa.wrap (a+1))) (Aa.wrap ((Aa.wrap (Aa.wrap (b*a)+7)).tdiv 8)))
def pz{ρ:Type}:=shut (amy (ρ:=ρ))
theorem axf{ρ:Type}(b:Int)(c:Int)(d:Int)(e:Int)(f:Int)(a:Bool)(k:Int→Int→Option ρ):pz b c d e f a k=amy b c d e f a k:=by unfold pz;rw[cu]

def anq{ρ:Type}(d b a e f:Int)(c:Bool)(k:Int→Option ρ):Option ρ:=br (decide (a=0)) none (k (Aa.wrap (b.tdiv a)))
def jl{ρ:Type}:=shut (anq (ρ:=ρ))
theorem awm{ρ:Type}(b:Int)(c:Int)(d:Int)(e:Int)(f:Int)(a:Bool)(k:Int→Option ρ):jl b c d e f a k=anq b c d e f a k:=by unfold jl;rw[cu]

def ams{ρ:Type}(b c d e f:Int)(a:Bool)(k:Int→Option ρ):Option ρ:=jk b c d e f a fun g=>br (!g) (k 0) (jl b c d e f a fun h=>k (Aa.wrap (b*Aa.wrap (Aa.wrap (Aa.wrap (2*b)+3)+h))))
def oo{ρ:Type}:=shut (ams (ρ:=ρ))
theorem awx{ρ:Type}(b:Int)(c:Int)(d:Int)(e:Int)(f:Int)(a:Bool)(k:Int→Option ρ):oo b c d e f a k=ams b c d e f a k:=by unfold oo;rw[cu]

def afc{ρ:Type}(b d c e f:Int)(a:Bool)(k:Int→Int→Int→Option ρ):Option ρ:=jk b d c e f a fun g=>br (!g) (k 0 0 0) (pz b d c e f a fun h j=>oo b d c e f a fun i=>k (Aa.wrap (2*b)) (Aa.wrap (4*b)) (Aa.wrap (Aa.wrap (b+h)+Aa.wrap (c*i))))
def zx{ρ:Type}:=shut (afc (ρ:=ρ))
theorem akn{ρ:Type}(b:Int)(c:Int)(d:Int)(e:Int)(f:Int)(a:Bool)(k:Int→Int→Int→Option ρ):zx b c d e f a k=afc b c d e f a k:=by unfold zx;rw[cu]

def aeg{ρ:Type}(a:Int)(k:(List Int)→Option ρ):Option ρ:=br (decide (a<0)) none (br (decide (Aa.wrap (a-Aa.wrap (0-(↑0:Int)))>0)) (br (decide (0≤Aa.wrap (a-Aa.wrap (0-(↑0:Int))))) (br (decide ((Aa.wrap (a-Aa.wrap (0-(↑0:Int)))).toNat*1≤140737488355328)) (k (List.take ((↑0:Int)-(0:Int)).toNat (List.replicate (Aa.wrap (a-Aa.wrap (0-(↑0:Int)))).toNat (0:Int)))) none) none) (k []))
def qo{ρ:Type}:=shut (aeg (ρ:=ρ))
theorem ajg{ρ:Type}(a:Int)(k:(List Int)→Option ρ):qo a k=aeg a k:=by unfold qo;rw[cu]

abbrev zc1(ρ:Type):=(List (List Int))→Int→(List (List Int))→Int→Int→Option ρ
def ac2{ρ:Type}(e:List (List Int))(d:Int)(b:List (List Int))(c a:Int)(nx f:zc1 ρ):Option ρ:=br (decide (a<c)) (br (decide (0≤a)) (br (decide (a<(↑b.length:Int))) (br (decide (Aa.wrap (d+(↑(b.getD a.toNat []).length:Int))<0)) none (nx e (Aa.wrap (d+(↑(b.getD a.toNat []).length:Int))) b c (Aa.wrap (a+1)))) none) none) (f e d b c a)
abbrev zt1:=(List (List Int))×Int×(List (List Int))×Int×Int
abbrev zy1:=zt1
def zu1{ρ:Type}(f:zt1→Option ρ):zc1 ρ:=fun c d e a b=>f (c,d,e,a,b)
def zs1{ρ:Type}:aej zt1 zy1 ρ:=fun (c,d,e,a,b) next ex=>ac2 c d e a b (zu1 next) (zu1 ex)
def zm1{ρ:Type}:=shut (lp (zs1 (ρ:=ρ)))
theorem ze1{ρ:Type}:zm1 (ρ:=ρ)=lp zs1:=cu _
def zk1{ρ:Type}(f:aei zt1 zy1 ρ)(c:List (List Int))(d:Int)(e:List (List Int))(a b:Int)(g:zc1 ρ):Option ρ:=f (c,d,e,a,b) (fun (c,d,e,a,b)=>g c d e a b)
def ahk{ρ:Type}:=zk1 (lp (zs1 (ρ:=ρ)))
def ahy{ρ:Type}:=zk1 (zm1 (ρ:=ρ))
theorem al3{ρ:Type}:ahy (ρ:=ρ)=ahk:=congrArg zk1 ze1
abbrev zc2(ρ:Type):=(List (List Int))→Int→Int→(List Int)→Option ρ
def ace{ρ:Type}(b:List (List Int))(c a:Int)(d:List Int)(nx e:zc2 ρ):Option ρ:=br (decide (a<c)) (br (decide (0≤a)) (br (decide (a<(↑b.length:Int))) (br (decide ((d.length+(b.getD a.toNat []).length)*1≤140737488355328)) (nx b c (Aa.wrap (a+1)) (d++b.getD a.toNat [])) none) none) none) (e b c a d)
abbrev zt2:=(List (List Int))×Int×Int×(List Int)
abbrev zy2:=zt2
def zu2{ρ:Type}(f:zt2→Option ρ):zc2 ρ:=fun a b c d=>f (a,b,c,d)
def zs2{ρ:Type}:aej zt2 zy2 ρ:=fun (a,b,c,d) next ex=>ace a b c d (zu2 next) (zu2 ex)
def zm2{ρ:Type}:=shut (lp (zs2 (ρ:=ρ)))
theorem ze2{ρ:Type}:zm2 (ρ:=ρ)=lp zs2:=cu _
def zk2{ρ:Type}(f:aei zt2 zy2 ρ)(a:List (List Int))(b c:Int)(d:List Int)(e:zc2 ρ):Option ρ:=f (a,b,c,d) (fun (a,b,c,d)=>e a b c d)
def agc{ρ:Type}:=zk2 (lp (zs2 (ρ:=ρ)))
def agi{ρ:Type}:=zk2 (zm2 (ρ:=ρ))
theorem ak7{ρ:Type}:agi (ρ:=ρ)=agc:=congrArg zk2 ze2
def ach{ρ:Type}(a:List (List Int))(k:(List Int)→Option ρ):Option ρ:=ahy a 0 a (↑a.length:Int) 0 fun b c f g h=>qo c fun d=>agi b (↑b.length:Int) 0 d fun i j l e=>k e
def jr{ρ:Type}:=shut (ach (ρ:=ρ))
theorem ahh{ρ:Type}(a:List (List Int))(k:(List Int)→Option ρ):jr a k=ach a k:=by unfold jr;rw[cu]

def anf{ρ:Type}(a:List (List Int))(k:(List Int)→Option ρ):Option ρ:=jr a fun b=>k b
def jc{ρ:Type}:=shut (anf (ρ:=ρ))
theorem axj{ρ:Type}(a:List (List Int))(k:(List Int)→Option ρ):jc a k=anf a k:=by unfold jc;rw[cu]

def aje{ρ:Type}(a:Int)(k:Int→Option ρ):Option ρ:=br (a==4) (br (a==4) (k 136) (br (a==5) (k 72) (br (a==6) (k 168) (k 0)))) (br (a==7) (k 136) (br (a==5) (k 72) (br (a==6) (k 168) (k 0))))
def mo{ρ:Type}:=shut (aje (ρ:=ρ))
theorem arj{ρ:Type}(a:Int)(k:Int→Option ρ):mo a k=aje a k:=by unfold mo;rw[cu]

def ahc{ρ:Type}(a:Int)(k:Int→(List Int)→Int→Bool→Int→Option ρ):Option ρ:=mo a fun b=>br (b==0) (k 0 [0,0,0,0,0,0,0,0,0,0,0,0,0,0,0,0,0,0,0,0,0,0,0,0,0] 0 false 9) (k a [0,0,0,0,0,0,0,0,0,0,0,0,0,0,0,0,0,0,0,0,0,0,0,0,0] 0 false 0)
def abp{ρ:Type}:=shut (ahc (ρ:=ρ))
theorem am0{ρ:Type}(a:Int)(k:Int→(List Int)→Int→Bool→Int→Option ρ):abp a k=ahc a k:=by unfold abp;rw[cu]

def qg{ρ:Type}(b a:Int)(k:Int→Option ρ):Option ρ:=br (decide (Ab.wrap (64-bits BinOp.and Ab (Ab.wrap a) 63)<0)) none (k (bits BinOp.or Ab (Ab.wrap (b*2^min (bits BinOp.and Ab (Ab.wrap a) 63).toNat 64)) (b.fdiv (2^min (Ab.wrap (64-bits BinOp.and Ab (Ab.wrap a) 63)).toNat 64))))
def ji{ρ:Type}:=shut (qg (ρ:=ρ))
theorem vg{ρ:Type}(a:Int)(b:Int)(k:Int→Option ρ):ji a b k=qg a b k:=by unfold ji;rw[cu]

end P
end
