/-
  SlhMakes, part 11: an interpreter of my own over abstract values, the pure functions, the walks and the plain law.
-/

import Derived.Test.YtciddcopcdmnbaaGreatDoorSlhMakesH
import Derived.Test.YtciddcopcdmnbaaGreatDoorSlhMakesI
import Derived.Test.YtciddcopcdmnbaaGreatDoorSlhMakesJ
open Go.IntKind renaming i64 → Aa, u64 → Ab, u32 → Ad, u8 → Ag
open List renaming take → Ac, drop → Ae, replicate → Af

noncomputable section
open Go Go.Abs
set_option linter.unusedVariables false
namespace P

abbrev zc3(ρ:Type):=Int→(List Int)→(List Int)→(List Int)→Option ρ
def aj8{ρ:Type}(a:Int)(c b d:List Int)(nx e:zc3 ρ):Option ρ:=br (decide (a<5)) (br (decide (0≤a)) (br (decide (a<(↑25:Int))) (br (decide (0≤Aa.wrap (a+5))) (br (decide (Aa.wrap (a+5)<(↑25:Int))) (br (decide (0≤Aa.wrap (a+10))) (br (decide (Aa.wrap (a+10)<(↑25:Int))) (br (decide (0≤Aa.wrap (a+15))) (br (decide (Aa.wrap (a+15)<(↑25:Int))) (br (decide (0≤Aa.wrap (a+20))) (br (decide (Aa.wrap (a+20)<(↑25:Int))) (br (decide (0≤a)) (br (decide (a<(↑5:Int))) (nx (Aa.wrap (a+1)) c b (d.set a.toNat (bits BinOp.xor Ab (bits BinOp.xor Ab (bits BinOp.xor Ab (bits BinOp.xor Ab (b.getD a.toNat 0) (b.getD (Aa.wrap (a+5)).toNat 0)) (b.getD (Aa.wrap (a+10)).toNat 0)) (b.getD (Aa.wrap (a+15)).toNat 0)) (b.getD (Aa.wrap (a+20)).toNat 0)))) none) none) none) none) none) none) none) none) none) none) none) none) (e a c b d)
abbrev zt3:=Int×(List Int)×(List Int)×(List Int)
abbrev zy3:=zt3
def zu3{ρ:Type}(f:zt3→Option ρ):zc3 ρ:=fun d a b c=>f (d,a,b,c)
def zs3{ρ:Type}:aej zt3 zy3 ρ:=fun (d,a,b,c) next ex=>aj8 d a b c (zu3 next) (zu3 ex)
def zm3{ρ:Type}:=shut (lp (zs3 (ρ:=ρ)))
theorem ze3{ρ:Type}:zm3 (ρ:=ρ)=lp zs3:=cu _
def zk3{ρ:Type}(f:aei zt3 zy3 ρ)(d:Int)(a b c:List Int)(e:zc3 ρ):Option ρ:=f (d,a,b,c) (fun (d,a,b,c)=>e d a b c)
def aj0{ρ:Type}:=zk3 (lp (zs3 (ρ:=ρ)))
def ae3{ρ:Type}:=zk3 (zm3 (ρ:=ρ))
theorem aod{ρ:Type}:ae3 (ρ:=ρ)=aj0:=congrArg zk3 ze3
abbrev zc4(ρ:Type):=Int→Int→Int→Int→Int→(List Int)→(List Int)→(List Int)→(List Int)→Option ρ
def ab0{ρ:Type}(i b h a g:Int)(d e f c:List Int)(nx j:zc4 ρ):Option ρ:=br (decide (a<25)) (br (decide (0≤Aa.wrap (b+a))) (br (decide (Aa.wrap (b+a)<(↑25:Int))) (br (decide (0≤Aa.wrap (b+a))) (br (decide (Aa.wrap (b+a)<(↑25:Int))) (nx i b h (Aa.wrap (a+5)) g d e f (c.set (Aa.wrap (b+a)).toNat (bits BinOp.xor Ab (c.getD (Aa.wrap (b+a)).toNat 0) h))) none) none) none) none) (j i b h a g d e f c)
abbrev zt4:=Int×Int×Int×Int×Int×(List Int)×(List Int)×(List Int)×(List Int)
abbrev zy4:=zt4
def zu4{ρ:Type}(f:zt4→Option ρ):zc4 ρ:=fun g h i j e a b c d=>f (g,h,i,j,e,a,b,c,d)
def zs4{ρ:Type}:aej zt4 zy4 ρ:=fun (f,g,h,i,e,a,b,c,d) next ex=>ab0 f g h i e a b c d (zu4 next) (zu4 ex)
def zm4{ρ:Type}:=shut (lp (zs4 (ρ:=ρ)))
theorem ze4{ρ:Type}:zm4 (ρ:=ρ)=lp zs4:=cu _
def zk4{ρ:Type}(f:aei zt4 zy4 ρ)(g h i j e:Int)(a b c d:List Int)(k:zc4 ρ):Option ρ:=f (g,h,i,j,e,a,b,c,d) (fun (g,h,i,j,e,a,b,c,d)=>k g h i j e a b c d)
def ab5{ρ:Type}:=zk4 (lp (zs4 (ρ:=ρ)))
def ajc{ρ:Type}:=zk4 (zm4 (ρ:=ρ))
theorem acp{ρ:Type}:ajc (ρ:=ρ)=ab5:=congrArg zk4 ze4
abbrev zc5(ρ:Type):=Int→Int→(List Int)→(List Int)→(List Int)→(List Int)→Option ρ
def aj4{ρ:Type}(f a:Int)(c d e b:List Int)(nx g:zc5 ρ):Option ρ:=br (decide (a<5)) (br (decide (0≤(Aa.wrap (a+4)).tmod 5)) (br (decide ((Aa.wrap (a+4)).tmod 5<(↑5:Int))) (br (decide (0≤(Aa.wrap (a+1)).tmod 5)) (br (decide ((Aa.wrap (a+1)).tmod 5<(↑5:Int))) (ji (b.getD ((Aa.wrap (a+1)).tmod 5).toNat 0) 1 fun h=>ajc f a (bits BinOp.xor Ab (b.getD ((Aa.wrap (a+4)).tmod 5).toNat 0) h) 0 a b e d c fun i o p q j k l m n=>nx i (Aa.wrap (j+1)) n m l k) none) none) none) none) (g f a c d e b)
abbrev zt5:=Int×Int×(List Int)×(List Int)×(List Int)×(List Int)
abbrev zy5:=zt5
def zu5{ρ:Type}(f:zt5→Option ρ):zc5 ρ:=fun g e a b c d=>f (g,e,a,b,c,d)
def zs5{ρ:Type}:aej zt5 zy5 ρ:=fun (f,e,a,b,c,d) next ex=>aj4 f e a b c d (zu5 next) (zu5 ex)
def zm5{ρ:Type}:=shut (lp (zs5 (ρ:=ρ)))
theorem ze5{ρ:Type}:zm5 (ρ:=ρ)=lp zs5:=cu _
def zk5{ρ:Type}(f:aei zt5 zy5 ρ)(g e:Int)(a b c d:List Int)(h:zc5 ρ):Option ρ:=f (g,e,a,b,c,d) (fun (g,e,a,b,c,d)=>h g e a b c d)
def ajl{ρ:Type}:=zk5 (lp (zs5 (ρ:=ρ)))
def ae4{ρ:Type}:=zk5 (zm5 (ρ:=ρ))
theorem aoh{ρ:Type}:ae4 (ρ:=ρ)=ajl:=congrArg zk5 ze5
abbrev zc6(ρ:Type):=Int→Int→(List Int)→Int→(List Int)→(List Int)→(List Int)→(List Int)→Option ρ
def aif{ρ:Type}(g h:Int)(b:List Int)(a:Int)(d e f c:List Int)(nx i:zc6 ρ):Option ρ:=br (decide (a<24)) (br (decide (0≤a)) (br (decide (a<(↑24:Int))) (br (decide (0≤a)) (br (decide (a<(↑24:Int))) (ji h (b31.getD a.toNat 0) fun j=>br (decide (0≤b.getD a.toNat 0)) (br (decide (b.getD a.toNat 0<(↑25:Int))) (br (decide (0≤b.getD a.toNat 0)) (br (decide (b.getD a.toNat 0<(↑25:Int))) (nx g (c.getD (b.getD a.toNat 0).toNat 0) b (Aa.wrap (a+1)) d e f (c.set (b.getD a.toNat 0).toNat j)) none) none) none) none) none) none) none) none) (i g h b a d e f c)
abbrev zt6:=Int×Int×(List Int)×Int×(List Int)×(List Int)×(List Int)×(List Int)
abbrev zy6:=zt6
def zu6{ρ:Type}(f:zt6→Option ρ):zc6 ρ:=fun h i e g a b c d=>f (h,i,e,g,a,b,c,d)
def zs6{ρ:Type}:aej zt6 zy6 ρ:=fun (g,h,e,f,a,b,c,d) next ex=>aif g h e f a b c d (zu6 next) (zu6 ex)
def zm6{ρ:Type}:=shut (lp (zs6 (ρ:=ρ)))
theorem ze6{ρ:Type}:zm6 (ρ:=ρ)=lp zs6:=cu _
def zk6{ρ:Type}(f:aei zt6 zy6 ρ)(h i:Int)(e:List Int)(g:Int)(a b c d:List Int)(j:zc6 ρ):Option ρ:=f (h,i,e,g,a,b,c,d) (fun (h,i,e,g,a,b,c,d)=>j h i e g a b c d)
def aic{ρ:Type}:=zk6 (lp (zs6 (ρ:=ρ)))
def ael{ρ:Type}:=zk6 (zm6 (ρ:=ρ))
theorem am9{ρ:Type}:ael (ρ:=ρ)=aic:=congrArg zk6 ze6
abbrev zc7(ρ:Type):=Int→Int→Int→(List Int)→(List Int)→(List Int)→(List Int)→(List Int)→Option ρ
def abj{ρ:Type}(h c a:Int)(d e f g b:List Int)(nx i:zc7 ρ):Option ρ:=br (decide (a<5)) (br (decide (0≤a)) (br (decide (a<(↑5:Int))) (br (decide (0≤(Aa.wrap (a+2)).tmod 5)) (br (decide ((Aa.wrap (a+2)).tmod 5<(↑5:Int))) (br (decide (0≤(Aa.wrap (a+1)).tmod 5)) (br (decide ((Aa.wrap (a+1)).tmod 5<(↑5:Int))) (br (decide (0≤Aa.wrap (c+a))) (br (decide (Aa.wrap (c+a)<(↑25:Int))) (nx h c (Aa.wrap (a+1)) d e f (g.set (Aa.wrap (c+a)).toNat (bits BinOp.xor Ab (b.getD a.toNat 0) (bits BinOp.andNot Ab (b.getD ((Aa.wrap (a+2)).tmod 5).toNat 0) (b.getD ((Aa.wrap (a+1)).tmod 5).toNat 0)))) b) none) none) none) none) none) none) none) none) (i h c a d e f g b)
abbrev zt7:=Int×Int×Int×(List Int)×(List Int)×(List Int)×(List Int)×(List Int)
abbrev zy7:=zt7
def zu7{ρ:Type}(f:zt7→Option ρ):zc7 ρ:=fun i g h a b c d e=>f (i,g,h,a,b,c,d,e)
def zs7{ρ:Type}:aej zt7 zy7 ρ:=fun (h,f,g,a,b,c,d,e) next ex=>abj h f g a b c d e (zu7 next) (zu7 ex)
def zm7{ρ:Type}:=shut (lp (zs7 (ρ:=ρ)))
theorem ze7{ρ:Type}:zm7 (ρ:=ρ)=lp zs7:=cu _
def zk7{ρ:Type}(f:aei zt7 zy7 ρ)(i g h:Int)(a b c d e:List Int)(j:zc7 ρ):Option ρ:=f (i,g,h,a,b,c,d,e) (fun (i,g,h,a,b,c,d,e)=>j i g h a b c d e)
def abh{ρ:Type}:=zk7 (lp (zs7 (ρ:=ρ)))
def aik{ρ:Type}:=zk7 (zm7 (ρ:=ρ))
theorem ab3{ρ:Type}:aik (ρ:=ρ)=abh:=congrArg zk7 ze7
abbrev zc8(ρ:Type):=Int→Int→(List Int)→(List Int)→(List Int)→(List Int)→Option ρ
def air{ρ:Type}(f a:Int)(b c d e:List Int)(nx g:zc5 ρ):Option ρ:=br (decide (a<25)) (br (decide (0≤a)) (br (decide (a≤Aa.wrap (a+5))) (br (decide (Aa.wrap (a+5)≤(↑25:Int))) (br (decide (5≤(Aa.wrap (a+5)-a).toNat)) (br (decide (a.toNat+5≤25)) (aik f a 0 e d c b (Ac 5 (Ae a.toNat b)) fun h i n j k l m o=>nx h (Aa.wrap (i+5)) m l k j) none) none) none) none) none) (g f a b c d e)
abbrev zt8:=Int×Int×(List Int)×(List Int)×(List Int)×(List Int)
abbrev zy8:=zt8
def zu8{ρ:Type}(f:zt8→Option ρ):zc8 ρ:=fun g e a b c d=>f (g,e,a,b,c,d)
def zs8{ρ:Type}:aej zt8 zy8 ρ:=fun (f,e,a,b,c,d) next ex=>air f e a b c d (zu8 next) (zu8 ex)
def zm8{ρ:Type}:=shut (lp (zs8 (ρ:=ρ)))
theorem ze8{ρ:Type}:zm8 (ρ:=ρ)=lp zs8:=cu _
def zk8{ρ:Type}(f:aei zt8 zy8 ρ)(g e:Int)(a b c d:List Int)(h:zc5 ρ):Option ρ:=f (g,e,a,b,c,d) (fun (g,e,a,b,c,d)=>h g e a b c d)
def aii{ρ:Type}:=zk8 (lp (zs8 (ρ:=ρ)))
def aem{ρ:Type}:=zk8 (zm8 (ρ:=ρ))
theorem ane{ρ:Type}:aem (ρ:=ρ)=aii:=congrArg zk8 ze8
abbrev zc9(ρ:Type):=(List Int)→Int→(List Int)→(List Int)→Option ρ
def agu{ρ:Type}(e:List Int)(a:Int)(b c:List Int)(nx o:zc9 ρ):Option ρ:=br (decide (a<24)) (br (decide (0≤a)) (br (decide (a<(↑24:Int))) (ae3 0 c b [0,0,0,0,0] fun C p q f=>ae4 (e.getD a.toNat 0) 0 q p f f fun r F g s t u=>ael r (g.getD 1 0) bww 0 u t s g fun h v w y i j k l=>aem h 0 l k j i fun m z d n A B=>nx e (Aa.wrap (a+1)) (d.set 0 (bits BinOp.xor Ab (d.getD 0 0) m)) n) none) none) (o e a b c)
abbrev zt9:=(List Int)×Int×(List Int)×(List Int)
abbrev zy9:=zt9
def zu9{ρ:Type}(f:zt9→Option ρ):zc9 ρ:=fun c d a b=>f (c,d,a,b)
def zs9{ρ:Type}:aej zt9 zy9 ρ:=fun (c,d,a,b) next ex=>agu c d a b (zu9 next) (zu9 ex)
def zm9{ρ:Type}:=shut (lp (zs9 (ρ:=ρ)))
theorem ze9{ρ:Type}:zm9 (ρ:=ρ)=lp zs9:=cu _
def zk9{ρ:Type}(f:aei zt9 zy9 ρ)(c:List Int)(d:Int)(a b:List Int)(e:zc9 ρ):Option ρ:=f (c,d,a,b) (fun (c,d,a,b)=>e c d a b)
def amc{ρ:Type}:=zk9 (lp (zs9 (ρ:=ρ)))
def ama{ρ:Type}:=zk9 (zm9 (ρ:=ρ))
theorem aqk{ρ:Type}:ama (ρ:=ρ)=amc:=congrArg zk9 ze9
def afu{ρ:Type}(a:List Int)(k:(List Int)→Option ρ):Option ρ:=ama bnh 0 a [0,0,0,0,0,0,0,0,0,0,0,0,0,0,0,0,0,0,0,0,0,0,0,0,0] fun c d b e=>k b
def jh{ρ:Type}:=shut (afu (ρ:=ρ))
theorem alo{ρ:Type}(a:List Int)(k:(List Int)→Option ρ):jh a k=afu a k:=by unfold jh;rw[cu]

def agw{ρ:Type}(c:Int)(b:List Int)(a:Int)(g:Bool)(k:Int→(List Int)→Int→Bool→Option ρ):Option ρ:=br (c==4) (br (decide (0≤Aa.wrap (a.tdiv 8))) (br (decide (Aa.wrap (a.tdiv 8)<(↑25:Int))) (br (decide (Aa.wrap (8*a.tmod 8)<0)) none (br (decide (0≤Aa.wrap (a.tdiv 8))) (br (decide (Aa.wrap (a.tdiv 8)<(↑25:Int))) (mo c fun d=>br (decide (0≤Aa.wrap ((Aa.wrap (d-1)).tdiv 8))) (br (decide (Aa.wrap ((Aa.wrap (d-1)).tdiv 8)<(↑25:Int))) (br (decide (Aa.wrap (8*(Aa.wrap (d-1)).tmod 8)<0)) none (br (decide (0≤Aa.wrap ((Aa.wrap (d-1)).tdiv 8))) (br (decide (Aa.wrap ((Aa.wrap (d-1)).tdiv 8)<(↑25:Int))) (jh ((b.set (Aa.wrap (a.tdiv 8)).toNat (bits BinOp.xor Ab (b.getD (Aa.wrap (a.tdiv 8)).toNat 0) (Ab.wrap (Ab.wrap 6*2^min (Aa.wrap (8*a.tmod 8)).toNat 64)))).set (Aa.wrap ((Aa.wrap (d-1)).tdiv 8)).toNat (bits BinOp.xor Ab ((b.set (Aa.wrap (a.tdiv 8)).toNat (bits BinOp.xor Ab (b.getD (Aa.wrap (a.tdiv 8)).toNat 0) (Ab.wrap (Ab.wrap 6*2^min (Aa.wrap (8*a.tmod 8)).toNat 64)))).getD (Aa.wrap ((Aa.wrap (d-1)).tdiv 8)).toNat 0) (Ab.wrap (Ab.wrap 128*2^min (Aa.wrap (8*(Aa.wrap (d-1)).tmod 8)).toNat 64)))) fun h=>k c h 0 true) none) none)) none) none) none) none)) none) none) (br (c==5) (br (decide (0≤Aa.wrap (a.tdiv 8))) (br (decide (Aa.wrap (a.tdiv 8)<(↑25:Int))) (br (decide (Aa.wrap (8*a.tmod 8)<0)) none (br (decide (0≤Aa.wrap (a.tdiv 8))) (br (decide (Aa.wrap (a.tdiv 8)<(↑25:Int))) (mo c fun e=>br (decide (0≤Aa.wrap ((Aa.wrap (e-1)).tdiv 8))) (br (decide (Aa.wrap ((Aa.wrap (e-1)).tdiv 8)<(↑25:Int))) (br (decide (Aa.wrap (8*(Aa.wrap (e-1)).tmod 8)<0)) none (br (decide (0≤Aa.wrap ((Aa.wrap (e-1)).tdiv 8))) (br (decide (Aa.wrap ((Aa.wrap (e-1)).tdiv 8)<(↑25:Int))) (jh ((b.set (Aa.wrap (a.tdiv 8)).toNat (bits BinOp.xor Ab (b.getD (Aa.wrap (a.tdiv 8)).toNat 0) (Ab.wrap (Ab.wrap 6*2^min (Aa.wrap (8*a.tmod 8)).toNat 64)))).set (Aa.wrap ((Aa.wrap (e-1)).tdiv 8)).toNat (bits BinOp.xor Ab ((b.set (Aa.wrap (a.tdiv 8)).toNat (bits BinOp.xor Ab (b.getD (Aa.wrap (a.tdiv 8)).toNat 0) (Ab.wrap (Ab.wrap 6*2^min (Aa.wrap (8*a.tmod 8)).toNat 64)))).getD (Aa.wrap ((Aa.wrap (e-1)).tdiv 8)).toNat 0) (Ab.wrap (Ab.wrap 128*2^min (Aa.wrap (8*(Aa.wrap (e-1)).tmod 8)).toNat 64)))) fun i=>k c i 0 true) none) none)) none) none) none) none)) none) none) (br (decide (0≤Aa.wrap (a.tdiv 8))) (br (decide (Aa.wrap (a.tdiv 8)<(↑25:Int))) (br (decide (Aa.wrap (8*a.tmod 8)<0)) none (br (decide (0≤Aa.wrap (a.tdiv 8))) (br (decide (Aa.wrap (a.tdiv 8)<(↑25:Int))) (mo c fun f=>br (decide (0≤Aa.wrap ((Aa.wrap (f-1)).tdiv 8))) (br (decide (Aa.wrap ((Aa.wrap (f-1)).tdiv 8)<(↑25:Int))) (br (decide (Aa.wrap (8*(Aa.wrap (f-1)).tmod 8)<0)) none (br (decide (0≤Aa.wrap ((Aa.wrap (f-1)).tdiv 8))) (br (decide (Aa.wrap ((Aa.wrap (f-1)).tdiv 8)<(↑25:Int))) (jh ((b.set (Aa.wrap (a.tdiv 8)).toNat (bits BinOp.xor Ab (b.getD (Aa.wrap (a.tdiv 8)).toNat 0) (Ab.wrap (Ab.wrap 31*2^min (Aa.wrap (8*a.tmod 8)).toNat 64)))).set (Aa.wrap ((Aa.wrap (f-1)).tdiv 8)).toNat (bits BinOp.xor Ab ((b.set (Aa.wrap (a.tdiv 8)).toNat (bits BinOp.xor Ab (b.getD (Aa.wrap (a.tdiv 8)).toNat 0) (Ab.wrap (Ab.wrap 31*2^min (Aa.wrap (8*a.tmod 8)).toNat 64)))).getD (Aa.wrap ((Aa.wrap (f-1)).tdiv 8)).toNat 0) (Ab.wrap (Ab.wrap 128*2^min (Aa.wrap (8*(Aa.wrap (f-1)).tmod 8)).toNat 64)))) fun j=>k c j 0 true) none) none)) none) none) none) none)) none) none))
def xu{ρ:Type}:=shut (agw (ρ:=ρ))
theorem an7{ρ:Type}(b:Int)(a:List Int)(d:Int)(c:Bool)(k:Int→(List Int)→Int→Bool→Option ρ):xu b a d c k=agw b a d c k:=by unfold xu;rw[cu]

abbrev b6j(ρ:Type):=Int→Int→Int→(List Int)→Int→Bool→Int→(List Int)→Int→Bool→(List Int)→Option ρ
def agp{ρ:Type}(j b c:Int)(d:List Int)(a:Int)(e:Bool)(f:Int)(g:List Int)(h:Int)(i:Bool)(k:List Int)(nx m:b6j ρ):Option ρ:=br (decide (b<j)) (mo c fun n=>br (a==n) (jh d fun l=>br (decide (0≤b)) (br (decide (b<(↑k.length:Int))) (nx j (Aa.wrap (b+1)) c l (Aa.wrap (0+1)) e f g h i (k.set b.toNat (Ag.wrap ((l.getD 0 0).fdiv (2^0))))) none) none) (br (decide (0≤Aa.wrap (a.tdiv 8))) (br (decide (Aa.wrap (a.tdiv 8)<(↑25:Int))) (br (decide (Aa.wrap (8*a.tmod 8)<0)) none (br (decide (0≤b)) (br (decide (b<(↑k.length:Int))) (nx j (Aa.wrap (b+1)) c d (Aa.wrap (a+1)) e f g h i (k.set b.toNat (Ag.wrap ((d.getD (Aa.wrap (a.tdiv 8)).toNat 0).fdiv (2^min (Aa.wrap (8*a.tmod 8)).toNat 64))))) none) none)) none) none)) (m j b c d a e f g h i k)
abbrev b2u:=Int×Int×Int×(List Int)×Int×Bool×Int×(List Int)×Int×Bool×(List Int)
abbrev b8m:=b2u
def cbw{ρ:Type}(f:b2u→Option ρ):b6j ρ:=fun j k a b c d e g h i l=>f (j,k,a,b,c,d,e,g,h,i,l)
def bzn{ρ:Type}:aej b2u b8m ρ:=fun (i,j,a,b,c,d,e,f,g,h,k) next ex=>agp i j a b c d e f g h k (cbw next) (cbw ex)
def b9s{ρ:Type}:=shut (lp (bzn (ρ:=ρ)))
theorem cea{ρ:Type}:b9s (ρ:=ρ)=lp bzn:=cu _
def b3s{ρ:Type}(f:aei b2u b8m ρ)(j k a:Int)(b:List Int)(c:Int)(d:Bool)(e:Int)(g:List Int)(h:Int)(i:Bool)(l:List Int)(m:b6j ρ):Option ρ:=f (j,k,a,b,c,d,e,g,h,i,l) (fun (j,k,a,b,c,d,e,g,h,i,l)=>m j k a b c d e g h i l)
def al9{ρ:Type}:=b3s (lp (bzn (ρ:=ρ)))
def ad2{ρ:Type}:=b3s (b9s (ρ:=ρ))
theorem aqi{ρ:Type}:ad2 (ρ:=ρ)=al9:=congrArg b3s cea
def afp{ρ:Type}(c:Int)(a:List Int)(e:Int)(b:Bool)(d:Int)(k:Int→(List Int)→Int→Bool→(List Int)→Option ρ):Option ρ:=br (decide (d<0)) (k c a e b []) (br (!b) (xu c a e b fun m n o p=>br (decide (0≤d)) (br (decide (d≤d)) (br (decide (d*(↑1:Int)≤(↑140737488355328:Int))) (ad2 (↑(Af d.toNat (0:Int)).length:Int) 0 m n o p 0 [0,0,0,0,0,0,0,0,0,0,0,0,0,0,0,0,0,0,0,0,0,0,0,0,0] 0 false (Af d.toNat (0:Int)) fun H I q r s t u v w y f=>k q r s t f) none) none) none) (br (decide (0≤d)) (br (decide (d≤d)) (br (decide (d*(↑1:Int)≤(↑140737488355328:Int))) (ad2 (↑(Af d.toNat (0:Int)).length:Int) 0 c a e b 0 [0,0,0,0,0,0,0,0,0,0,0,0,0,0,0,0,0,0,0,0,0,0,0,0,0] 0 false (Af d.toNat (0:Int)) fun z A g h i j B C F G l=>k g h i j l) none) none) none))
def o7{ρ:Type}:=shut (afp (ρ:=ρ))
theorem ami{ρ:Type}(b:Int)(a:List Int)(d:Int)(c:Bool)(e:Int)(k:Int→(List Int)→Int→Bool→(List Int)→Option ρ):o7 b a d c e k=afp b a d c e k:=by unfold o7;rw[cu]

abbrev b81(ρ:Type):=(List Int)→Int→Int→Int→Int→(List Int)→Int→Bool→Int→(List Int)→Int→Bool→Option ρ
def ah6{ρ:Type}(k:List Int)(l j b d:Int)(c:List Int)(a:Int)(e:Bool)(f:Int)(g:List Int)(h:Int)(i:Bool)(nx m:b81 ρ):Option ρ:=br (decide (b<j)) (br (decide (0≤b)) (br (decide (b<(↑k.length:Int))) (br (decide (0≤Aa.wrap (a.tdiv 8))) (br (decide (Aa.wrap (a.tdiv 8)<(↑25:Int))) (br (decide (Aa.wrap (8*a.tmod 8)<0)) none (br (decide (0≤Aa.wrap (a.tdiv 8))) (br (decide (Aa.wrap (a.tdiv 8)<(↑25:Int))) (br (Aa.wrap (a+1)==l) (jh (c.set (Aa.wrap (a.tdiv 8)).toNat (bits BinOp.xor Ab (c.getD (Aa.wrap (a.tdiv 8)).toNat 0) (Ab.wrap (Ab.wrap (k.getD b.toNat 0)*2^min (Aa.wrap (8*a.tmod 8)).toNat 64)))) fun n=>nx k l j (Aa.wrap (b+1)) d n 0 e f g h i) (nx k l j (Aa.wrap (b+1)) d (c.set (Aa.wrap (a.tdiv 8)).toNat (bits BinOp.xor Ab (c.getD (Aa.wrap (a.tdiv 8)).toNat 0) (Ab.wrap (Ab.wrap (k.getD b.toNat 0)*2^min (Aa.wrap (8*a.tmod 8)).toNat 64)))) (Aa.wrap (a+1)) e f g h i)) none) none)) none) none) none) none) (m k l j b d c a e f g h i)
abbrev bzz:=(List Int)×Int×Int×Int×Int×(List Int)×Int×Bool×Int×(List Int)×Int×Bool
abbrev cai:=bzz
def cbj{ρ:Type}(f:bzz→Option ρ):b81 ρ:=fun l m j k a b c d e g h i=>f (l,m,j,k,a,b,c,d,e,g,h,i)
def b22{ρ:Type}:aej bzz cai ρ:=fun (k,l,i,j,a,b,c,d,e,f,g,h) next ex=>ah6 k l i j a b c d e f g h (cbj next) (cbj ex)
def b62{ρ:Type}:=shut (lp (b22 (ρ:=ρ)))
theorem ceb{ρ:Type}:b62 (ρ:=ρ)=lp b22:=cu _
def b4s{ρ:Type}(f:aei bzz cai ρ)(l:List Int)(m j k a:Int)(b:List Int)(c:Int)(d:Bool)(e:Int)(g:List Int)(h:Int)(i:Bool)(n:b81 ρ):Option ρ:=f (l,m,j,k,a,b,c,d,e,g,h,i) (fun (l,m,j,k,a,b,c,d,e,g,h,i)=>n l m j k a b c d e g h i)
def ant{ρ:Type}:=b4s (lp (b22 (ρ:=ρ)))
def anx{ρ:Type}:=b4s (b62 (ρ:=ρ))
theorem as3{ρ:Type}:anx (ρ:=ρ)=ant:=congrArg b4s ceb
def agm{ρ:Type}(a:Int)(b:List Int)(d:Int)(c:Bool)(e:List Int)(k:Int→(List Int)→Int→Bool→Option ρ):Option ρ:=br c (k a b d c) (mo a fun f=>anx e f (↑e.length:Int) 0 a b d c 0 [0,0,0,0,0,0,0,0,0,0,0,0,0,0,0,0,0,0,0,0,0,0,0,0,0] 0 false fun o p q r g h i j s l m n=>k g h i j)
def mh{ρ:Type}:=shut (agm (ρ:=ρ))
theorem an8{ρ:Type}(b:Int)(a:List Int)(d:Int)(c:Bool)(e:List Int)(k:Int→(List Int)→Int→Bool→Option ρ):mh b a d c e k=agm b a d c e k:=by unfold mh;rw[cu]

def alh{ρ:Type}(d:Int)(e:List Int)(a:Int)(k:(List Int)→Int→Option ρ):Option ρ:=abp d fun f g h i b=>br (b !=0) (k [] b) (br (decide (a<0)) (k [] 8) (br (decide (a>16777216)) (k [] 8) (mh f g h i e fun j l m n=>o7 j l m n a fun r o p q c=>k c 0)))
def zl{ρ:Type}:=shut (alh (ρ:=ρ))
theorem atx{ρ:Type}(a:Int)(b:List Int)(c:Int)(k:(List Int)→Int→Option ρ):zl a b c k=alh a b c k:=by unfold zl;rw[cu]

def al6{ρ:Type}(a:Int)(b:List (List Int))(k:(List Int)→Option ρ):Option ρ:=jc b fun c=>zl 7 c a fun d e=>k d
def ng{ρ:Type}:=shut (al6 (ρ:=ρ))
theorem axm{ρ:Type}(a:Int)(b:List (List Int))(k:(List Int)→Option ρ):ng a b k=al6 a b k:=by unfold ng;rw[cu]

def alq{ρ:Type}(c d e:List Int)(a f g h i:Int)(b:Bool)(k:(List Int)→Option ρ):Option ρ:=ng a [c,d,e] fun j=>k j
def uo{ρ:Type}:=shut (alq (ρ:=ρ))
theorem axy{ρ:Type}(g:List Int)(h:List Int)(i:List Int)(b:Int)(c:Int)(d:Int)(e:Int)(f:Int)(a:Bool)(k:(List Int)→Option ρ):uo g h i b c d e f a k=alq g h i b c d e f a k:=by unfold uo;rw[cu]

def al5{ρ:Type}(a:Int)(b c d:List Int)(k:(List Int)→Option ρ):Option ρ:=ng a [b,c,d] fun e=>k e
def rz{ρ:Type}:=shut (al5 (ρ:=ρ))
theorem axl{ρ:Type}(a:Int)(b:List Int)(c:List Int)(d:List Int)(k:(List Int)→Option ρ):rz a b c d k=al5 a b c d k:=by unfold rz;rw[cu]

def aqw{ρ:Type}(b c d e f:Int)(a:Bool)(k:Int→Int→Int→Int→Int→Bool→Int→Int→Int→Int→Int→Bool→Option ρ):Option ρ:=k b c d e f a b c d e f a
def ae9{ρ:Type}:=shut (aqw (ρ:=ρ))
theorem bf2{ρ:Type}(b:Int)(c:Int)(d:Int)(e:Int)(f:Int)(a:Bool)(k:Int→Int→Int→Int→Int→Bool→Int→Int→Int→Int→Int→Bool→Option ρ):ae9 b c d e f a k=aqw b c d e f a k:=by unfold ae9;rw[cu]

def ano{ρ:Type}(a:Int)(k:Bool→Option ρ):Option ρ:=br (decide (a≥1)) (k (decide (a≤5))) (k false)
def af3{ρ:Type}:=shut (ano (ρ:=ρ))
theorem aw0{ρ:Type}(a:Int)(k:Bool→Option ρ):af3 a k=ano a k:=by unfold af3;rw[cu]

def aoj{ρ:Type}(a:Int)(k:Int→Option ρ):Option ρ:=br (decide (a<0)) (k 0) (br (decide (a≥8)) (k 0) (br (decide (0≤a)) (br (decide (a<(↑8:Int))) (br (decide (a.toNat*2+0<16)) (k ([(0:Int),(0:Int),(32:Int),(64:Int),(48:Int),(128:Int),(64:Int),(128:Int),(32:Int),(136:Int),(64:Int),(72:Int),(32:Int),(168:Int),(64:Int),(136:Int)].getD (a.toNat*2+0) 0)) none) none) none))
def ad9{ρ:Type}:=shut (aoj (ρ:=ρ))
theorem bbf{ρ:Type}(a:Int)(k:Int→Option ρ):ad9 a k=aoj a k:=by unfold ad9;rw[cu]

def au6{ρ:Type}(a:Int)(k:(List Int)→Bool→Option ρ):Option ρ:=br (a==1) (k [1779033703,3144134277,1013904242,2773480762,1359893119,2600822924,528734635,1541459225] true) (br (a==2) (k [14680500436340154072,7105036623409894663,10473403895298186519,1526699215303891257,7436329637833083697,10282925794625328401,15784041429090275239,5167115440072839076] true) (br (a==3) (k [7640891576956012808,13503953896175478587,4354685564936845355,11912009170470909681,5840696475078001361,11170449401992604703,2270897969802886507,6620516959819538809] true) (k [0,0,0,0,0,0,0,0] false)))
def af0{ρ:Type}:=shut (au6 (ρ:=ρ))
theorem awj{ρ:Type}(a:Int)(k:(List Int)→Bool→Option ρ):af0 a k=au6 a k:=by unfold af0;rw[cu]

def atc{ρ:Type}(a:Int)(k:Int→(List Int)→(List Int)→Int→Int→Option ρ):Option ρ:=af0 a fun b c=>br (!c) (k 0 [0,0,0,0,0,0,0,0] [] 0 9) (k a b [] 0 0)
def ae1{ρ:Type}:=shut (atc (ρ:=ρ))
theorem bcd{ρ:Type}(a:Int)(k:Int→(List Int)→(List Int)→Int→Int→Option ρ):ae1 a k=atc a k:=by unfold ae1;rw[cu]

abbrev b8o(ρ:Type):=Int→Int→Int→(List Int)→Option ρ
def avq{ρ:Type}(c b a:Int)(d:List Int)(nx e:b8o ρ):Option ρ:=br (decide (a<b)) (br (decide (Aa.wrap (8*a)<0)) none (br (decide (0≤a)) (br (decide (a<(↑d.length:Int))) (nx c b (Aa.wrap (a+1)) (d.set a.toNat (Ag.wrap (c.fdiv (2^min (Aa.wrap (8*a)).toNat 64))))) none) none)) (e c b a d)
abbrev bx3:=Int×Int×Int×(List Int)
abbrev b6r:=bx3
def b50{ρ:Type}(f:bx3→Option ρ):b8o ρ:=fun c a b d=>f (c,a,b,d)
def zs12{ρ:Type}:aej bx3 b6r ρ:=fun (c,a,b,d) next ex=>avq c a b d (b50 next) (b50 ex)
def b8s{ρ:Type}:=shut (lp (zs12 (ρ:=ρ)))
theorem cco{ρ:Type}:b8s (ρ:=ρ)=lp zs12:=cu _
def b34{ρ:Type}(f:aei bx3 b6r ρ)(c a b:Int)(d:List Int)(e:b8o ρ):Option ρ:=f (c,a,b,d) (fun (c,a,b,d)=>e c a b d)
def bc7{ρ:Type}:=b34 (lp (zs12 (ρ:=ρ)))
def bcb{ρ:Type}:=b34 (b8s (ρ:=ρ))
theorem bfd{ρ:Type}:bcb (ρ:=ρ)=bc7:=congrArg b34 cco
def ar4{ρ:Type}(b a:Int)(k:(List Int)→Option ρ):Option ρ:=br (decide (a<0)) (k []) (br (decide (a>65536)) (k []) (br (decide (0≤a)) (br (decide (a≤a)) (br (decide (a*(↑1:Int)≤(↑140737488355328:Int))) (bcb b (bif decide (8<a) then 8 else a) 0 (Af a.toNat (0:Int)) fun d e f c=>k c) none) none) none))
def agl{ρ:Type}:=shut (ar4 (ρ:=ρ))
theorem bdi{ρ:Type}(a:Int)(b:Int)(k:(List Int)→Option ρ):agl a b k=ar4 a b k:=by unfold agl;rw[cu]

abbrev cb5(ρ:Type):=Int→Int→(List Int)→Option ρ
def apz{ρ:Type}(a b:Int)(c:List Int)(nx d:cb5 ρ):Option ρ:=br (decide (a<b)) (br (decide (0≤b)) (br (decide (b<(↑c.length:Int))) (br (decide (0≤a)) (br (decide (a<(↑c.length:Int))) (br (decide (0≤a)) (br (decide (a<(↑c.length:Int))) (br (decide (0≤b)) (br (decide (b<(↑(c.set a.toNat (c.getD b.toNat 0)).length:Int))) (nx (Aa.wrap (a+1)) (Aa.wrap (b-1)) ((c.set a.toNat (c.getD b.toNat 0)).set b.toNat (c.getD a.toNat 0))) none) none) none) none) none) none) none) none) (d a b c)
abbrev by6:=Int×Int×(List Int)
abbrev b5l:=by6
def b5v{ρ:Type}(f:by6→Option ρ):cb5 ρ:=fun a b c=>f (a,b,c)
def byk{ρ:Type}:aej by6 b5l ρ:=fun (a,b,c) next ex=>apz a b c (b5v next) (b5v ex)
def cbd{ρ:Type}:=shut (lp (byk (ρ:=ρ)))
theorem ccq{ρ:Type}:cbd (ρ:=ρ)=lp byk:=cu _
def b28{ρ:Type}(f:aei by6 b5l ρ)(a b:Int)(c:List Int)(d:cb5 ρ):Option ρ:=f (a,b,c) (fun (a,b,c)=>d a b c)
def aw9{ρ:Type}:=b28 (lp (byk (ρ:=ρ)))
def awn{ρ:Type}:=b28 (cbd (ρ:=ρ))
theorem bbd{ρ:Type}:awn (ρ:=ρ)=aw9:=congrArg b28 ccq
def as2{ρ:Type}(b c:Int)(k:(List Int)→Option ρ):Option ρ:=agl b c fun a=>awn 0 (Aa.wrap ((↑a.length:Int)-1)) a fun e f d=>k d
def wu{ρ:Type}:=shut (as2 (ρ:=ρ))
theorem bco{ρ:Type}(a:Int)(b:Int)(k:(List Int)→Option ρ):wu a b k=as2 a b k:=by unfold wu;rw[cu]

abbrev caw(ρ:Type):=Int→(List Int)→Int→Int→Option ρ
def ar9{ρ:Type}(d:Int)(b:List Int)(c a:Int)(nx e:caw ρ):Option ρ:=br (decide (a<c)) (br (decide (0≤a)) (br (decide (a<(↑b.length:Int))) (nx (bits BinOp.or Ab (Ab.wrap (d*2^8)) (Ab.wrap (b.getD a.toNat 0))) b c (Aa.wrap (a+1))) none) none) (e d b c a)
abbrev byh:=Int×(List Int)×Int×Int
abbrev b9l:=byh
def b43{ρ:Type}(f:byh→Option ρ):caw ρ:=fun a b c d=>f (a,b,c,d)
def b2t{ρ:Type}:aej byh b9l ρ:=fun (a,b,c,d) next ex=>ar9 a b c d (b43 next) (b43 ex)
def ca5{ρ:Type}:=shut (lp (b2t (ρ:=ρ)))
theorem cd2{ρ:Type}:ca5 (ρ:=ρ)=lp b2t:=cu _
def b30{ρ:Type}(f:aei byh b9l ρ)(a:Int)(b:List Int)(c d:Int)(e:caw ρ):Option ρ:=f (a,b,c,d) (fun (a,b,c,d)=>e a b c d)
def baj{ρ:Type}:=b30 (lp (b2t (ρ:=ρ)))
def bbh{ρ:Type}:=b30 (ca5 (ρ:=ρ))
theorem bbp{ρ:Type}:bbh (ρ:=ρ)=baj:=congrArg b30 cd2
def ap0{ρ:Type}(a:List Int)(k:Int→Option ρ):Option ρ:=bbh 0 a (↑a.length:Int) 0 fun b c d e=>k b
def uz{ρ:Type}:=shut (ap0 (ρ:=ρ))
theorem ay4{ρ:Type}(a:List Int)(k:Int→Option ρ):uz a k=ap0 a k:=by unfold uz;rw[cu]

def ajp{ρ:Type}(a:Int)(k:Int→Option ρ):Option ρ:=br (decide (0≤a)) (br (decide (a<(↑64:Int))) (k (roots256.getD a.toNat 0)) none) none
def qh{ρ:Type}:=shut (ajp (ρ:=ρ))
theorem aqt{ρ:Type}(a:Int)(k:Int→Option ρ):qh a k=ajp a k:=by unfold qh;rw[cu]

def zq{ρ:Type}(a g:Int)(b c d e:List Int)(h f:Int)(k:Int→Option ρ):Option ρ:=br (decide (f<0)) none (br (decide (Aa.wrap (a-f)<0)) none (k (bits BinOp.or Ad (h.fdiv (2^min f.toNat 32)) (Ad.wrap (h*2^min (Aa.wrap (a-f)).toNat 32)))))
def dx{ρ:Type}:=shut (zq (ρ:=ρ))
theorem acs{ρ:Type}(f:Int)(e:Int)(a:List Int)(b:List Int)(c:List Int)(d:List Int)(g:Int)(h:Int)(k:Int→Option ρ):dx f e a b c d g h k=zq f e a b c d g h k:=by unfold dx;rw[cu]

def yt{ρ:Type}(f e:Int)(a b c d:List Int)(g h:Int)(k:Int→Option ρ):Option ρ:=br (decide (h=(↑0:Int))) (dx f e a b c d g (a.getD 0 0) fun l=>dx f e a b c d g (a.getD 1 0) fun m=>dx f e a b c d g (a.getD 2 0) fun n=>k (bits BinOp.xor Ad (bits BinOp.xor Ad l m) n)) (br (decide (h=(↑1:Int))) (dx f e a b c d g (b.getD 0 0) fun o=>dx f e a b c d g (b.getD 1 0) fun p=>dx f e a b c d g (b.getD 2 0) fun q=>k (bits BinOp.xor Ad (bits BinOp.xor Ad o p) q)) (br (decide (h=(↑2:Int))) (dx f e a b c d g (c.getD 0 0) fun r=>dx f e a b c d g (c.getD 1 0) fun s=>dx f e a b c d g (c.getD 2 0) fun t=>k (bits BinOp.xor Ad (bits BinOp.xor Ad r s) t)) (br (decide (h=(↑3:Int))) (dx f e a b c d g (d.getD 0 0) fun u=>dx f e a b c d g (d.getD 1 0) fun i=>dx f e a b c d g (d.getD 2 0) fun j=>k (bits BinOp.xor Ad (bits BinOp.xor Ad u i) j)) none)))
def kg{ρ:Type}:=shut (yt (ρ:=ρ))
theorem abb{ρ:Type}(f:Int)(e:Int)(a:List Int)(b:List Int)(c:List Int)(d:List Int)(g:Int)(h:Int)(k:Int→Option ρ):kg f e a b c d g h k=yt f e a b c d g h k:=by unfold kg;rw[cu]

def za{ρ:Type}(f e:Int)(a b c d:List Int)(g h:Int)(k:Int→Option ρ):Option ρ:=br (decide (h=(↑0:Int))) (dx f e a b c d g (a.getD 0 (0:Int)) fun i=>dx f e a b c d g (a.getD 1 (0:Int)) fun j=>br (decide (a.getD 2 (0:Int)<(0:Int))) none (k (bits BinOp.xor Ad (bits BinOp.xor Ad i j) (g.fdiv ((2:Int)^min (a.getD 2 (0:Int)).toNat 32))))) (br (decide (h=(↑1:Int))) (dx f e a b c d g (b.getD 0 (0:Int)) fun l=>dx f e a b c d g (b.getD 1 (0:Int)) fun m=>br (decide (b.getD 2 (0:Int)<(0:Int))) none (k (bits BinOp.xor Ad (bits BinOp.xor Ad l m) (g.fdiv ((2:Int)^min (b.getD 2 (0:Int)).toNat 32))))) (br (decide (h=(↑2:Int))) (dx f e a b c d g (c.getD 0 (0:Int)) fun n=>dx f e a b c d g (c.getD 1 (0:Int)) fun o=>br (decide (c.getD 2 (0:Int)<(0:Int))) none (k (bits BinOp.xor Ad (bits BinOp.xor Ad n o) (g.fdiv ((2:Int)^min (c.getD 2 (0:Int)).toNat 32))))) (br (decide (h=(↑3:Int))) (dx f e a b c d g (d.getD 0 (0:Int)) fun p=>dx f e a b c d g (d.getD 1 (0:Int)) fun q=>br (decide (d.getD 2 (0:Int)<(0:Int))) none (k (bits BinOp.xor Ad (bits BinOp.xor Ad p q) (g.fdiv ((2:Int)^min (d.getD 2 (0:Int)).toNat 32))))) none)))
def l6{ρ:Type}:=shut (za (ρ:=ρ))
theorem abk{ρ:Type}(f:Int)(e:Int)(a:List Int)(b:List Int)(c:List Int)(d:List Int)(g:Int)(h:Int)(k:Int→Option ρ):l6 f e a b c d g h k=za f e a b c d g h k:=by unfold l6;rw[cu]

abbrev b73(ρ:Type):=(List Int)→Int→Int→Int→Int→(List Int)→(List Int)→(List Int)→(List Int)→(List Int)→(List Int)→(List Int)→Option ρ
def aaz{ρ:Type}(l:List Int)(b a c d:Int)(e f g h i j k:List Int)(nx m:b73 ρ):Option ρ:=br (decide (a<16)) (br (decide (0≤Aa.wrap (a*b))) (br (decide (Aa.wrap (a*b)≤Aa.wrap (Aa.wrap (a+1)*b))) (br (decide (Aa.wrap (Aa.wrap (a+1)*b)≤(↑l.length:Int))) (uz (Ae (Aa.wrap (a*b)).toNat (Ac (Aa.wrap (Aa.wrap (a+1)*b)).toNat l)) fun n=>br (decide (0≤a)) (br (decide (a<(↑16:Int))) (nx l b (Aa.wrap (a+1)) c d e f g h i j (k.set a.toNat (Ad.wrap n))) none) none) none) none) none) (m l b a c d e f g h i j k)
abbrev b1l:=(List Int)×Int×Int×Int×Int×(List Int)×(List Int)×(List Int)×(List Int)×(List Int)×(List Int)×(List Int)
abbrev b7h:=b1l
def cbz{ρ:Type}(f:b1l→Option ρ):b73 ρ:=fun l m k a b c d e g h i j=>f (l,m,k,a,b,c,d,e,g,h,i,j)
def b05{ρ:Type}:aej b1l b7h ρ:=fun (k,l,j,a,b,c,d,e,f,g,h,i) next ex=>aaz k l j a b c d e f g h i (cbz next) (cbz ex)
def b6m{ρ:Type}:=shut (lp (b05 (ρ:=ρ)))
theorem cc2{ρ:Type}:b6m (ρ:=ρ)=lp b05:=cu _
def b3n{ρ:Type}(f:aei b1l b7h ρ)(l:List Int)(m k a b:Int)(c d e g h i j:List Int)(n:b73 ρ):Option ρ:=f (l,m,k,a,b,c,d,e,g,h,i,j) (fun (l,m,k,a,b,c,d,e,g,h,i,j)=>n l m k a b c d e g h i j)
def aee{ρ:Type}:=b3n (lp (b05 (ρ:=ρ)))
def aa2{ρ:Type}:=b3n (b6m (ρ:=ρ))
theorem ah5{ρ:Type}:aa2 (ρ:=ρ)=aee:=congrArg b3n cc2
abbrev b51(ρ:Type):=Int→Int→(List Int)→(List Int)→(List Int)→Int→Int→(List Int)→(List Int)→(List Int)→(List Int)→(List Int)→Option ρ
def aag{ρ:Type}(j b:Int)(c k l:List Int)(d e:Int)(f g h i a:List Int)(nx o:b51 ρ):Option ρ:=br (decide (b<j)) (br (decide (0≤b.tmod 16)) (br (decide (b.tmod 16<(↑16:Int))) (kg d e f g h i (a.getD 4 0) 3 fun m=>qh b fun n=>kg d e f g h i (a.getD 0 0) 2 fun p=>br (decide (0≤(Aa.wrap (b+1)).tmod 16)) (br (decide ((Aa.wrap (b+1)).tmod 16<(↑16:Int))) (l6 d e f g h i (c.getD ((Aa.wrap (b+1)).tmod 16).toNat 0) 0 fun q=>br (decide (0≤(Aa.wrap (b+9)).tmod 16)) (br (decide ((Aa.wrap (b+9)).tmod 16<(↑16:Int))) (br (decide (0≤(Aa.wrap (b+14)).tmod 16)) (br (decide ((Aa.wrap (b+14)).tmod 16<(↑16:Int))) (l6 d e f g h i (c.getD ((Aa.wrap (b+14)).tmod 16).toNat 0) 1 fun r=>br (decide (0≤b.tmod 16)) (br (decide (b.tmod 16<(↑16:Int))) (nx j (Aa.wrap (b+1)) (c.set (b.tmod 16).toNat (Ad.wrap (Ad.wrap (Ad.wrap (c.getD (b.tmod 16).toNat 0+q)+c.getD ((Aa.wrap (b+9)).tmod 16).toNat 0)+r))) k l d e f g h i ((((Ac 1 a).append (Ac 7 (Ac 7 (Ae 0 a))++Ae (1+min 7 (Ac 7 (Ae 0 a)).length) a)).set 4 (Ad.wrap (((Ac 1 a).append (Ac 7 (Ac 7 (Ae 0 a))++Ae (1+min 7 (Ac 7 (Ae 0 a)).length) a)).getD 4 0+Ad.wrap (Ad.wrap (Ad.wrap (Ad.wrap (a.getD 7 0+m)+bits BinOp.xor Ad (a.getD 6 0) (bits BinOp.and Ad (a.getD 4 0) (bits BinOp.xor Ad (a.getD 5 0) (a.getD 6 0))))+n)+c.getD (b.tmod 16).toNat 0)))).set 0 (Ad.wrap (Ad.wrap (Ad.wrap (Ad.wrap (Ad.wrap (a.getD 7 0+m)+bits BinOp.xor Ad (a.getD 6 0) (bits BinOp.and Ad (a.getD 4 0) (bits BinOp.xor Ad (a.getD 5 0) (a.getD 6 0))))+n)+c.getD (b.tmod 16).toNat 0)+Ad.wrap (p+bits BinOp.or Ad (bits BinOp.and Ad (a.getD 0 0) (a.getD 1 0)) (bits BinOp.and Ad (a.getD 2 0) (bits BinOp.or Ad (a.getD 0 0) (a.getD 1 0)))))))) none) none) none) none) none) none) none) none) none) none) (o j b c k l d e f g h i a)
abbrev b1q:=Int×Int×(List Int)×(List Int)×(List Int)×Int×Int×(List Int)×(List Int)×(List Int)×(List Int)×(List Int)
abbrev b6x:=b1q
def b8n{ρ:Type}(f:b1q→Option ρ):b51 ρ:=fun l m a b c d e g h i j k=>f (l,m,a,b,c,d,e,g,h,i,j,k)
def bzh{ρ:Type}:aej b1q b6x ρ:=fun (k,l,a,b,c,d,e,f,g,h,i,j) next ex=>aag k l a b c d e f g h i j (b8n next) (b8n ex)
def b5n{ρ:Type}:=shut (lp (bzh (ρ:=ρ)))
theorem ccs{ρ:Type}:b5n (ρ:=ρ)=lp bzh:=cu _
def b3z{ρ:Type}(f:aei b1q b6x ρ)(l m:Int)(a b c:List Int)(d e:Int)(g h i j k:List Int)(n:b51 ρ):Option ρ:=f (l,m,a,b,c,d,e,g,h,i,j,k) (fun (l,m,a,b,c,d,e,g,h,i,j,k)=>n l m a b c d e g h i j k)
def adq{ρ:Type}:=b3z (lp (bzh (ρ:=ρ)))
def xk{ρ:Type}:=b3z (b5n (ρ:=ρ))
theorem ahm{ρ:Type}:xk (ρ:=ρ)=adq:=congrArg b3z ccs
abbrev b6b(ρ:Type):=Int→(List Int)→(List Int)→(List Int)→Option ρ
def aav{ρ:Type}(a:Int)(b d c:List Int)(nx e:b6b ρ):Option ρ:=br (decide (a<8)) (br (decide (0≤a)) (br (decide (a<(↑8:Int))) (br (decide (0≤a)) (br (decide (a<(↑8:Int))) (br (decide (0≤a)) (br (decide (a<(↑8:Int))) (nx (Aa.wrap (a+1)) b d (c.set a.toNat (Ad.wrap (c.getD a.toNat 0+b.getD a.toNat 0)))) none) none) none) none) none) none) (e a b d c)
abbrev b1j:=Int×(List Int)×(List Int)×(List Int)
abbrev b6l:=b1j
def b84{ρ:Type}(f:b1j→Option ρ):b6b ρ:=fun a b c d=>f (a,b,c,d)
def bx5{ρ:Type}:aej b1j b6l ρ:=fun (a,b,c,d) next ex=>aav a b c d (b84 next) (b84 ex)
def b88{ρ:Type}:=shut (lp (bx5 (ρ:=ρ)))
theorem cd1{ρ:Type}:b88 (ρ:=ρ)=lp bx5:=cu _
def b3r{ρ:Type}(f:aei b1j b6l ρ)(a:Int)(b c d:List Int)(e:b6b ρ):Option ρ:=f (a,b,c,d) (fun (a,b,c,d)=>e a b c d)
def ac4{ρ:Type}:=b3r (lp (bx5 (ρ:=ρ)))
def xw{ρ:Type}:=b3r (b88 (ρ:=ρ))
theorem ahv{ρ:Type}:xw (ρ:=ρ)=ac4:=congrArg b3r cd1
def aao{ρ:Type}(a f:Int)(b c d e p q:List Int)(k:(List Int)→Option ρ):Option ρ:=aa2 q (Aa.wrap (a.tdiv 8)) 0 a f b c d e p [0,0,0,0,0,0,0,0] [0,0,0,0,0,0,0,0,0,0,0,0,0,0,0,0] fun N O Q r g s t u v h i j=>xk g 0 j i h r g s t u v h fun w y z l m A B C F G H n=>xw 0 m l n fun I J M o=>k o
def ny{ρ:Type}:=shut (aao (ρ:=ρ))
theorem aec{ρ:Type}(f:Int)(e:Int)(a:List Int)(b:List Int)(c:List Int)(d:List Int)(g:List Int)(h:List Int)(k:(List Int)→Option ρ):ny f e a b c d g h k=aao f e a b c d g h k:=by unfold ny;rw[cu]

abbrev b5o(ρ:Type):=(List Int)→(List Int)→Int→Int→Int→(List Int)→(List Int)→(List Int)→(List Int)→(List Int)→(List Int)→(List Int)→Option ρ
def acz{ρ:Type}(l b:List Int)(a c d:Int)(e f g h i j k:List Int)(nx m:b5o ρ):Option ρ:=br (decide (a<8)) (br (decide (0≤a)) (br (decide (a<(↑8:Int))) (br (decide (0≤a)) (br (decide (a<(↑8:Int))) (nx l b (Aa.wrap (a+1)) c d e f g h i j (k.set a.toNat (Ad.wrap (b.getD a.toNat 0)))) none) none) none) none) (m l b a c d e f g h i j k)
abbrev bxp:=(List Int)×(List Int)×Int×Int×Int×(List Int)×(List Int)×(List Int)×(List Int)×(List Int)×(List Int)×(List Int)
abbrev b57:=bxp
def b9t{ρ:Type}(f:bxp→Option ρ):b5o ρ:=fun m k l a b c d e g h i j=>f (m,k,l,a,b,c,d,e,g,h,i,j)
def bz7{ρ:Type}:aej bxp b57 ρ:=fun (l,j,k,a,b,c,d,e,f,g,h,i) next ex=>acz l j k a b c d e f g h i (b9t next) (b9t ex)
def b6g{ρ:Type}:=shut (lp (bz7 (ρ:=ρ)))
theorem ceo{ρ:Type}:b6g (ρ:=ρ)=lp bz7:=cu _
def b3y{ρ:Type}(f:aei bxp b57 ρ)(m k:List Int)(l a b:Int)(c d e g h i j:List Int)(n:b5o ρ):Option ρ:=f (m,k,l,a,b,c,d,e,g,h,i,j) (fun (m,k,l,a,b,c,d,e,g,h,i,j)=>n m k l a b c d e g h i j)
def ahj{ρ:Type}:=b3y (lp (bz7 (ρ:=ρ)))
def acw{ρ:Type}:=b3y (b6g (ρ:=ρ))
theorem al0{ρ:Type}:acw (ρ:=ρ)=ahj:=congrArg b3y ceo
abbrev b5c(ρ:Type):=(List Int)→Int→(List Int)→(List Int)→(List Int)→Int→Int→(List Int)→(List Int)→(List Int)→(List Int)→Option ρ
def adh{ρ:Type}(b:List Int)(a:Int)(i j k:List Int)(c d:Int)(e f g h:List Int)(nx l:b5c ρ):Option ρ:=br (decide ((↑b.length:Int)≥a)) (br (decide (0≤a)) (br (decide (a≤(↑b.length:Int))) (ny c d e f g h i (Ae 0 (Ac a.toNat b)) fun m=>br (decide (0≤a)) (br (decide (a≤(↑b.length:Int))) (br (decide ((↑b.length:Int)≤(↑b.length:Int))) (nx (Ae a.toNat (Ac (↑b.length:Int).toNat b)) a m j k c d e f g h) none) none) none) none) none) (l b a i j k c d e f g h)
abbrev bxr:=(List Int)×Int×(List Int)×(List Int)×(List Int)×Int×Int×(List Int)×(List Int)×(List Int)×(List Int)
abbrev b77:=bxr
def b70{ρ:Type}(f:bxr→Option ρ):b5c ρ:=fun l k a b c d e g h i j=>f (l,k,a,b,c,d,e,g,h,i,j)
def bxo{ρ:Type}:aej bxr b77 ρ:=fun (k,j,a,b,c,d,e,f,g,h,i) next ex=>adh k j a b c d e f g h i (b70 next) (b70 ex)
def b5g{ρ:Type}:=shut (lp (bxo (ρ:=ρ)))
theorem cd4{ρ:Type}:b5g (ρ:=ρ)=lp bxo:=cu _
def b37{ρ:Type}(f:aei bxr b77 ρ)(l:List Int)(k:Int)(a b c:List Int)(d e:Int)(g h i j:List Int)(m:b5c ρ):Option ρ:=f (l,k,a,b,c,d,e,g,h,i,j) (fun (l,k,a,b,c,d,e,g,h,i,j)=>m l k a b c d e g h i j)
def ahz{ρ:Type}:=b37 (lp (bxo (ρ:=ρ)))
def ado{ρ:Type}:=b37 (b5g (ρ:=ρ))
theorem alx{ρ:Type}:ado (ρ:=ρ)=ahz:=congrArg b37 cd4
abbrev b8u(ρ:Type):=(List Int)→(List Int)→Int→(List Int)→(List Int)→Option ρ
def acr{ρ:Type}(e b:List Int)(a:Int)(c d:List Int)(nx f:b8u ρ):Option ρ:=br (decide (a<8)) (br (decide (0≤a)) (br (decide (a<(↑8:Int))) (br (decide (0≤a)) (br (decide (a<(↑8:Int))) (nx e b (Aa.wrap (a+1)) (c.set a.toNat (Ab.wrap (b.getD a.toNat 0))) d) none) none) none) none) (f e b a c d)
abbrev bzf:=(List Int)×(List Int)×Int×(List Int)×(List Int)
abbrev b9o:=bzf
def b5q{ρ:Type}(f:bzf→Option ρ):b8u ρ:=fun e c d a b=>f (e,c,d,a,b)
def byv{ρ:Type}:aej bzf b9o ρ:=fun (e,c,d,a,b) next ex=>acr e c d a b (b5q next) (b5q ex)
def cb2{ρ:Type}:=shut (lp (byv (ρ:=ρ)))
theorem cde{ρ:Type}:cb2 (ρ:=ρ)=lp byv:=cu _
def b3l{ρ:Type}(f:aei bzf b9o ρ)(e c:List Int)(d:Int)(a b:List Int)(g:b8u ρ):Option ρ:=f (e,c,d,a,b) (fun (e,c,d,a,b)=>g e c d a b)
def agf{ρ:Type}:=b3l (lp (byv (ρ:=ρ)))
def aco{ρ:Type}:=b3l (cb2 (ρ:=ρ))
theorem alj{ρ:Type}:aco (ρ:=ρ)=agf:=congrArg b3l cde
def acj{ρ:Type}(f e:Int)(a b c d g r:List Int)(k:(List Int)→(List Int)→Option ρ):Option ρ:=acw r g 0 f e a b c d g [0,0,0,0,0,0,0,0] [0,0,0,0,0,0,0,0] fun s O Q h t u v w y z i j=>ado s (Aa.wrap (h*2)) j i z h t u v w y fun l A m n o B C F G H I=>aco l m 0 o n fun p J M q N=>k q p
def qy{ρ:Type}:=shut (acj (ρ:=ρ))
theorem ahp{ρ:Type}(f:Int)(e:Int)(a:List Int)(b:List Int)(c:List Int)(d:List Int)(g:List Int)(h:List Int)(k:(List Int)→(List Int)→Option ρ):qy f e a b c d g h k=acj f e a b c d g h k:=by unfold qy;rw[cu]

def atf{ρ:Type}(k:Int→Int→(List Int)→(List Int)→(List Int)→(List Int)→Option ρ):Option ρ:=k 32 64 [7,18,3] [17,19,10] [2,13,22] [6,11,25]
def adg{ρ:Type}:=shut (atf (ρ:=ρ))
theorem awp{ρ:Type}  (k:Int→Int→(List Int)→(List Int)→(List Int)→(List Int)→Option ρ):adg  k=atf  k:=by unfold adg;rw[cu]

def ajd{ρ:Type}(a:Int)(k:Int→Option ρ):Option ρ:=br (decide (0≤a)) (br (decide (a<(↑80:Int))) (k (roots512.getD a.toNat 0)) none) none
def qj{ρ:Type}:=shut (ajd (ρ:=ρ))
theorem aqu{ρ:Type}(a:Int)(k:Int→Option ρ):qj a k=ajd a k:=by unfold qj;rw[cu]

def zu{ρ:Type}(a g:Int)(b c d e:List Int)(h f:Int)(k:Int→Option ρ):Option ρ:=br (decide (f<0)) none (br (decide (Aa.wrap (a-f)<0)) none (k (bits BinOp.or Ab (h.fdiv (2^min f.toNat 64)) (Ab.wrap (h*2^min (Aa.wrap (a-f)).toNat 64)))))
def dz{ρ:Type}:=shut (zu (ρ:=ρ))
theorem acu{ρ:Type}(f:Int)(e:Int)(a:List Int)(b:List Int)(c:List Int)(d:List Int)(g:Int)(h:Int)(k:Int→Option ρ):dz f e a b c d g h k=zu f e a b c d g h k:=by unfold dz;rw[cu]

def yj{ρ:Type}(f e:Int)(a b c d:List Int)(g h:Int)(k:Int→Option ρ):Option ρ:=br (decide (h=(↑0:Int))) (dz f e a b c d g (a.getD 0 0) fun l=>dz f e a b c d g (a.getD 1 0) fun m=>dz f e a b c d g (a.getD 2 0) fun n=>k (bits BinOp.xor Ab (bits BinOp.xor Ab l m) n)) (br (decide (h=(↑1:Int))) (dz f e a b c d g (b.getD 0 0) fun o=>dz f e a b c d g (b.getD 1 0) fun p=>dz f e a b c d g (b.getD 2 0) fun q=>k (bits BinOp.xor Ab (bits BinOp.xor Ab o p) q)) (br (decide (h=(↑2:Int))) (dz f e a b c d g (c.getD 0 0) fun r=>dz f e a b c d g (c.getD 1 0) fun s=>dz f e a b c d g (c.getD 2 0) fun t=>k (bits BinOp.xor Ab (bits BinOp.xor Ab r s) t)) (br (decide (h=(↑3:Int))) (dz f e a b c d g (d.getD 0 0) fun u=>dz f e a b c d g (d.getD 1 0) fun i=>dz f e a b c d g (d.getD 2 0) fun j=>k (bits BinOp.xor Ab (bits BinOp.xor Ab u i) j)) none)))
def j6{ρ:Type}:=shut (yj (ρ:=ρ))
theorem abe{ρ:Type}(f:Int)(e:Int)(a:List Int)(b:List Int)(c:List Int)(d:List Int)(g:Int)(h:Int)(k:Int→Option ρ):j6 f e a b c d g h k=yj f e a b c d g h k:=by unfold j6;rw[cu]

def y9{ρ:Type}(f e:Int)(a b c d:List Int)(g h:Int)(k:Int→Option ρ):Option ρ:=br (decide (h=(↑0:Int))) (dz f e a b c d g (a.getD 0 (0:Int)) fun i=>dz f e a b c d g (a.getD 1 (0:Int)) fun j=>br (decide (a.getD 2 (0:Int)<(0:Int))) none (k (bits BinOp.xor Ab (bits BinOp.xor Ab i j) (g.fdiv ((2:Int)^min (a.getD 2 (0:Int)).toNat 64))))) (br (decide (h=(↑1:Int))) (dz f e a b c d g (b.getD 0 (0:Int)) fun l=>dz f e a b c d g (b.getD 1 (0:Int)) fun m=>br (decide (b.getD 2 (0:Int)<(0:Int))) none (k (bits BinOp.xor Ab (bits BinOp.xor Ab l m) (g.fdiv ((2:Int)^min (b.getD 2 (0:Int)).toNat 64))))) (br (decide (h=(↑2:Int))) (dz f e a b c d g (c.getD 0 (0:Int)) fun n=>dz f e a b c d g (c.getD 1 (0:Int)) fun o=>br (decide (c.getD 2 (0:Int)<(0:Int))) none (k (bits BinOp.xor Ab (bits BinOp.xor Ab n o) (g.fdiv ((2:Int)^min (c.getD 2 (0:Int)).toNat 64))))) (br (decide (h=(↑3:Int))) (dz f e a b c d g (d.getD 0 (0:Int)) fun p=>dz f e a b c d g (d.getD 1 (0:Int)) fun q=>br (decide (d.getD 2 (0:Int)<(0:Int))) none (k (bits BinOp.xor Ab (bits BinOp.xor Ab p q) (g.fdiv ((2:Int)^min (d.getD 2 (0:Int)).toNat 64))))) none)))
def l7{ρ:Type}:=shut (y9 (ρ:=ρ))
theorem abl{ρ:Type}(f:Int)(e:Int)(a:List Int)(b:List Int)(c:List Int)(d:List Int)(g:Int)(h:Int)(k:Int→Option ρ):l7 f e a b c d g h k=y9 f e a b c d g h k:=by unfold l7;rw[cu]

abbrev b5r(ρ:Type):=(List Int)→Int→Int→Int→Int→(List Int)→(List Int)→(List Int)→(List Int)→(List Int)→(List Int)→(List Int)→Option ρ
def aa3{ρ:Type}(l:List Int)(b a c d:Int)(e f g h i j k:List Int)(nx m:b5r ρ):Option ρ:=br (decide (a<16)) (br (decide (0≤Aa.wrap (a*b))) (br (decide (Aa.wrap (a*b)≤Aa.wrap (Aa.wrap (a+1)*b))) (br (decide (Aa.wrap (Aa.wrap (a+1)*b)≤(↑l.length:Int))) (uz (Ae (Aa.wrap (a*b)).toNat (Ac (Aa.wrap (Aa.wrap (a+1)*b)).toNat l)) fun n=>br (decide (0≤a)) (br (decide (a<(↑16:Int))) (nx l b (Aa.wrap (a+1)) c d e f g h i j (k.set a.toNat n)) none) none) none) none) none) (m l b a c d e f g h i j k)
abbrev b2i:=(List Int)×Int×Int×Int×Int×(List Int)×(List Int)×(List Int)×(List Int)×(List Int)×(List Int)×(List Int)
abbrev caq:=b2i
def b80{ρ:Type}(f:b2i→Option ρ):b5r ρ:=fun l m k a b c d e g h i j=>f (l,m,k,a,b,c,d,e,g,h,i,j)
def bxf{ρ:Type}:aej b2i caq ρ:=fun (k,l,j,a,b,c,d,e,f,g,h,i) next ex=>aa3 k l j a b c d e f g h i (b80 next) (b80 ex)
def b7f{ρ:Type}:=shut (lp (bxf (ρ:=ρ)))
theorem cdd{ρ:Type}:b7f (ρ:=ρ)=lp bxf:=cu _
def b4e{ρ:Type}(f:aei b2i caq ρ)(l:List Int)(m k a b:Int)(c d e g h i j:List Int)(n:b5r ρ):Option ρ:=f (l,m,k,a,b,c,d,e,g,h,i,j) (fun (l,m,k,a,b,c,d,e,g,h,i,j)=>n l m k a b c d e g h i j)
def aed{ρ:Type}:=b4e (lp (bxf (ρ:=ρ)))
def aa1{ρ:Type}:=b4e (b7f (ρ:=ρ))
theorem ah3{ρ:Type}:aa1 (ρ:=ρ)=aed:=congrArg b4e cdd
abbrev b6q(ρ:Type):=Int→Int→(List Int)→(List Int)→(List Int)→Int→Int→(List Int)→(List Int)→(List Int)→(List Int)→(List Int)→Option ρ
def aak{ρ:Type}(j b:Int)(c k l:List Int)(d e:Int)(f g h i a:List Int)(nx o:b6q ρ):Option ρ:=br (decide (b<j)) (br (decide (0≤b.tmod 16)) (br (decide (b.tmod 16<(↑16:Int))) (j6 d e f g h i (a.getD 4 0) 3 fun m=>qj b fun n=>j6 d e f g h i (a.getD 0 0) 2 fun p=>br (decide (0≤(Aa.wrap (b+1)).tmod 16)) (br (decide ((Aa.wrap (b+1)).tmod 16<(↑16:Int))) (l7 d e f g h i (c.getD ((Aa.wrap (b+1)).tmod 16).toNat 0) 0 fun q=>br (decide (0≤(Aa.wrap (b+9)).tmod 16)) (br (decide ((Aa.wrap (b+9)).tmod 16<(↑16:Int))) (br (decide (0≤(Aa.wrap (b+14)).tmod 16)) (br (decide ((Aa.wrap (b+14)).tmod 16<(↑16:Int))) (l7 d e f g h i (c.getD ((Aa.wrap (b+14)).tmod 16).toNat 0) 1 fun r=>br (decide (0≤b.tmod 16)) (br (decide (b.tmod 16<(↑16:Int))) (nx j (Aa.wrap (b+1)) (c.set (b.tmod 16).toNat (Ab.wrap (Ab.wrap (Ab.wrap (c.getD (b.tmod 16).toNat 0+q)+c.getD ((Aa.wrap (b+9)).tmod 16).toNat 0)+r))) k l d e f g h i ((((Ac 1 a).append (Ac 7 (Ac 7 (Ae 0 a))++Ae (1+min 7 (Ac 7 (Ae 0 a)).length) a)).set 4 (Ab.wrap (((Ac 1 a).append (Ac 7 (Ac 7 (Ae 0 a))++Ae (1+min 7 (Ac 7 (Ae 0 a)).length) a)).getD 4 0+Ab.wrap (Ab.wrap (Ab.wrap (Ab.wrap (a.getD 7 0+m)+bits BinOp.xor Ab (a.getD 6 0) (bits BinOp.and Ab (a.getD 4 0) (bits BinOp.xor Ab (a.getD 5 0) (a.getD 6 0))))+n)+c.getD (b.tmod 16).toNat 0)))).set 0 (Ab.wrap (Ab.wrap (Ab.wrap (Ab.wrap (Ab.wrap (a.getD 7 0+m)+bits BinOp.xor Ab (a.getD 6 0) (bits BinOp.and Ab (a.getD 4 0) (bits BinOp.xor Ab (a.getD 5 0) (a.getD 6 0))))+n)+c.getD (b.tmod 16).toNat 0)+Ab.wrap (p+bits BinOp.or Ab (bits BinOp.and Ab (a.getD 0 0) (a.getD 1 0)) (bits BinOp.and Ab (a.getD 2 0) (bits BinOp.or Ab (a.getD 0 0) (a.getD 1 0)))))))) none) none) none) none) none) none) none) none) none) none) (o j b c k l d e f g h i a)
abbrev b1x:=Int×Int×(List Int)×(List Int)×(List Int)×Int×Int×(List Int)×(List Int)×(List Int)×(List Int)×(List Int)
abbrev ccm:=b1x
def b7x{ρ:Type}(f:b1x→Option ρ):b6q ρ:=fun l m a b c d e g h i j k=>f (l,m,a,b,c,d,e,g,h,i,j,k)
def b0b{ρ:Type}:aej b1x ccm ρ:=fun (k,l,a,b,c,d,e,f,g,h,i,j) next ex=>aak k l a b c d e f g h i j (b7x next) (b7x ex)
def b54{ρ:Type}:=shut (lp (b0b (ρ:=ρ)))
theorem cer{ρ:Type}:b54 (ρ:=ρ)=lp b0b:=cu _
def b3p{ρ:Type}(f:aei b1x ccm ρ)(l m:Int)(a b c:List Int)(d e:Int)(g h i j k:List Int)(n:b6q ρ):Option ρ:=f (l,m,a,b,c,d,e,g,h,i,j,k) (fun (l,m,a,b,c,d,e,g,h,i,j,k)=>n l m a b c d e g h i j k)
def ac7{ρ:Type}:=b3p (lp (b0b (ρ:=ρ)))
def xg{ρ:Type}:=b3p (b54 (ρ:=ρ))
theorem ah0{ρ:Type}:xg (ρ:=ρ)=ac7:=congrArg b3p cer
abbrev ca2(ρ:Type):=Int→(List Int)→(List Int)→(List Int)→Option ρ
def aam{ρ:Type}(a:Int)(b d c:List Int)(nx e:ca2 ρ):Option ρ:=br (decide (a<8)) (br (decide (0≤a)) (br (decide (a<(↑8:Int))) (br (decide (0≤a)) (br (decide (a<(↑8:Int))) (br (decide (0≤a)) (br (decide (a<(↑8:Int))) (nx (Aa.wrap (a+1)) b d (c.set a.toNat (Ab.wrap (c.getD a.toNat 0+b.getD a.toNat 0)))) none) none) none) none) none) none) (e a b d c)
abbrev bx9:=Int×(List Int)×(List Int)×(List Int)
abbrev b9p:=bx9
def ca7{ρ:Type}(f:bx9→Option ρ):ca2 ρ:=fun a b c d=>f (a,b,c,d)
def b07{ρ:Type}:aej bx9 b9p ρ:=fun (a,b,c,d) next ex=>aam a b c d (ca7 next) (ca7 ex)
def b6w{ρ:Type}:=shut (lp (b07 (ρ:=ρ)))
theorem cc6{ρ:Type}:b6w (ρ:=ρ)=lp b07:=cu _
def b4v{ρ:Type}(f:aei bx9 b9p ρ)(a:Int)(b c d:List Int)(e:ca2 ρ):Option ρ:=f (a,b,c,d) (fun (a,b,c,d)=>e a b c d)
def adf{ρ:Type}:=b4v (lp (b07 (ρ:=ρ)))
def w9{ρ:Type}:=b4v (b6w (ρ:=ρ))
theorem ahu{ρ:Type}:w9 (ρ:=ρ)=adf:=congrArg b4v cc6
def aau{ρ:Type}(a f:Int)(b c d e p q:List Int)(k:(List Int)→Option ρ):Option ρ:=aa1 q (Aa.wrap (a.tdiv 8)) 0 a f b c d e p [0,0,0,0,0,0,0,0] [0,0,0,0,0,0,0,0,0,0,0,0,0,0,0,0] fun N O Q r g s t u v h i j=>xg g 0 j i h r g s t u v h fun w y z l m A B C F G H n=>w9 0 m l n fun I J M o=>k o
def mq{ρ:Type}:=shut (aau (ρ:=ρ))
theorem aef{ρ:Type}(f:Int)(e:Int)(a:List Int)(b:List Int)(c:List Int)(d:List Int)(g:List Int)(h:List Int)(k:(List Int)→Option ρ):mq f e a b c d g h k=aau f e a b c d g h k:=by unfold mq;rw[cu]

abbrev b72(ρ:Type):=(List Int)→(List Int)→Int→Int→Int→(List Int)→(List Int)→(List Int)→(List Int)→(List Int)→(List Int)→(List Int)→Option ρ
def ads{ρ:Type}(l b:List Int)(a c d:Int)(e f g h i j k:List Int)(nx m:b72 ρ):Option ρ:=br (decide (a<8)) (br (decide (0≤a)) (br (decide (a<(↑8:Int))) (br (decide (0≤a)) (br (decide (a<(↑8:Int))) (nx l b (Aa.wrap (a+1)) c d e f g h i j (k.set a.toNat (b.getD a.toNat 0))) none) none) none) none) (m l b a c d e f g h i j k)
abbrev by7:=(List Int)×(List Int)×Int×Int×Int×(List Int)×(List Int)×(List Int)×(List Int)×(List Int)×(List Int)×(List Int)
abbrev caj:=by7
def b7n{ρ:Type}(f:by7→Option ρ):b72 ρ:=fun m k l a b c d e g h i j=>f (m,k,l,a,b,c,d,e,g,h,i,j)
def byx{ρ:Type}:aej by7 caj ρ:=fun (l,j,k,a,b,c,d,e,f,g,h,i) next ex=>ads l j k a b c d e f g h i (b7n next) (b7n ex)
def ccd{ρ:Type}:=shut (lp (byx (ρ:=ρ)))
theorem cc8{ρ:Type}:ccd (ρ:=ρ)=lp byx:=cu _
def b3a{ρ:Type}(f:aei by7 caj ρ)(m k:List Int)(l a b:Int)(c d e g h i j:List Int)(n:b72 ρ):Option ρ:=f (m,k,l,a,b,c,d,e,g,h,i,j) (fun (m,k,l,a,b,c,d,e,g,h,i,j)=>n m k l a b c d e g h i j)
def ahn{ρ:Type}:=b3a (lp (byx (ρ:=ρ)))
def adv{ρ:Type}:=b3a (ccd (ρ:=ρ))
theorem al2{ρ:Type}:adv (ρ:=ρ)=ahn:=congrArg b3a cc8
abbrev b44(ρ:Type):=(List Int)→Int→(List Int)→(List Int)→(List Int)→Int→Int→(List Int)→(List Int)→(List Int)→(List Int)→Option ρ
def ac3{ρ:Type}(b:List Int)(a:Int)(i j k:List Int)(c d:Int)(e f g h:List Int)(nx l:b44 ρ):Option ρ:=br (decide ((↑b.length:Int)≥a)) (br (decide (0≤a)) (br (decide (a≤(↑b.length:Int))) (mq c d e f g h i (Ae 0 (Ac a.toNat b)) fun m=>br (decide (0≤a)) (br (decide (a≤(↑b.length:Int))) (br (decide ((↑b.length:Int)≤(↑b.length:Int))) (nx (Ae a.toNat (Ac (↑b.length:Int).toNat b)) a m j k c d e f g h) none) none) none) none) none) (l b a i j k c d e f g h)
abbrev bz3:=(List Int)×Int×(List Int)×(List Int)×(List Int)×Int×Int×(List Int)×(List Int)×(List Int)×(List Int)
abbrev ca1:=bz3
def b58{ρ:Type}(f:bz3→Option ρ):b44 ρ:=fun l k a b c d e g h i j=>f (l,k,a,b,c,d,e,g,h,i,j)
def b0n{ρ:Type}:aej bz3 ca1 ρ:=fun (k,j,a,b,c,d,e,f,g,h,i) next ex=>ac3 k j a b c d e f g h i (b58 next) (b58 ex)
def b69{ρ:Type}:=shut (lp (b0n (ρ:=ρ)))
theorem cdr{ρ:Type}:b69 (ρ:=ρ)=lp b0n:=cu _
def b4l{ρ:Type}(f:aei bz3 ca1 ρ)(l:List Int)(k:Int)(a b c:List Int)(d e:Int)(g h i j:List Int)(m:b44 ρ):Option ρ:=f (l,k,a,b,c,d,e,g,h,i,j) (fun (l,k,a,b,c,d,e,g,h,i,j)=>m l k a b c d e g h i j)
def aho{ρ:Type}:=b4l (lp (b0n (ρ:=ρ)))
def ac9{ρ:Type}:=b4l (b69 (ρ:=ρ))
theorem amb{ρ:Type}:ac9 (ρ:=ρ)=aho:=congrArg b4l cdr
abbrev b7w(ρ:Type):=(List Int)→(List Int)→Int→(List Int)→(List Int)→Option ρ
def acn{ρ:Type}(e b:List Int)(a:Int)(c d:List Int)(nx f:b7w ρ):Option ρ:=br (decide (a<8)) (br (decide (0≤a)) (br (decide (a<(↑8:Int))) (br (decide (0≤a)) (br (decide (a<(↑8:Int))) (nx e b (Aa.wrap (a+1)) (c.set a.toNat (b.getD a.toNat 0)) d) none) none) none) none) (f e b a c d)
abbrev byq:=(List Int)×(List Int)×Int×(List Int)×(List Int)
abbrev b8y:=byq
def b7m{ρ:Type}(f:byq→Option ρ):b7w ρ:=fun e c d a b=>f (e,c,d,a,b)
def bzu{ρ:Type}:aej byq b8y ρ:=fun (e,c,d,a,b) next ex=>acn e c d a b (b7m next) (b7m ex)
def b71{ρ:Type}:=shut (lp (bzu (ρ:=ρ)))
theorem cdm{ρ:Type}:b71 (ρ:=ρ)=lp bzu:=cu _
def b3w{ρ:Type}(f:aei byq b8y ρ)(e c:List Int)(d:Int)(a b:List Int)(g:b7w ρ):Option ρ:=f (e,c,d,a,b) (fun (e,c,d,a,b)=>g e c d a b)
def agd{ρ:Type}:=b3w (lp (bzu (ρ:=ρ)))
def aci{ρ:Type}:=b3w (b71 (ρ:=ρ))
theorem ak9{ρ:Type}:aci (ρ:=ρ)=agd:=congrArg b3w cdm
def acg{ρ:Type}(f e:Int)(a b c d g r:List Int)(k:(List Int)→(List Int)→Option ρ):Option ρ:=adv r g 0 f e a b c d g [0,0,0,0,0,0,0,0] [0,0,0,0,0,0,0,0] fun s O Q h t u v w y z i j=>ac9 s (Aa.wrap (h*2)) j i z h t u v w y fun l A m n o B C F G H I=>aci l m 0 o n fun p J M q N=>k q p
def ru{ρ:Type}:=shut (acg (ρ:=ρ))
theorem ahs{ρ:Type}(f:Int)(e:Int)(a:List Int)(b:List Int)(c:List Int)(d:List Int)(g:List Int)(h:List Int)(k:(List Int)→(List Int)→Option ρ):ru f e a b c d g h k=acg f e a b c d g h k:=by unfold ru;rw[cu]

def auc{ρ:Type}(k:Int→Int→(List Int)→(List Int)→(List Int)→(List Int)→Option ρ):Option ρ:=k 64 80 [1,8,7] [19,61,6] [28,34,39] [14,18,41]
def ade{ρ:Type}:=shut (auc (ρ:=ρ))
theorem axc{ρ:Type}  (k:Int→Int→(List Int)→(List Int)→(List Int)→(List Int)→Option ρ):ade  k=auc  k:=by unfold ade;rw[cu]

def qw{ρ:Type}(a:List Int)(k:(List Int)→Option ρ):Option ρ:=br (decide (a.length*1≤140737488355328)) (k a) none

def aru{ρ:Type}(a:Int)(b d:List Int)(c:Int)(e:List Int)(k:Int→(List Int)→(List Int)→Int→Option ρ):Option ρ:=jr [d,e] fun f=>br (a==1) (adg fun q r s t u v=>qy q r s t u v b f fun w y=>qw y fun z=>k a w z (Ab.wrap (c+Ab.wrap (↑e.length:Int)))) (ade fun g h i j l m=>ru g h i j l m b f fun n o=>qw o fun p=>k a n p (Ab.wrap (c+Ab.wrap (↑e.length:Int))))
def y8{ρ:Type}:=shut (aru (ρ:=ρ))
theorem bd8{ρ:Type}(b:Int)(a:List Int)(c:List Int)(d:Int)(e:List Int)(k:Int→(List Int)→(List Int)→Int→Option ρ):y8 b a c d e k=aru b a c d e k:=by unfold y8;rw[cu]

def ag1{ρ:Type}(a:Int)(k:Int→Option ρ):Option ρ:=br (a==1) (k 64) (k 128)
def x9{ρ:Type}:=shut (ag1 (ρ:=ρ))
theorem aoa{ρ:Type}(a:Int)(k:Int→Option ρ):x9 a k=ag1 a k:=by unfold x9;rw[cu]

abbrev cbl(ρ:Type):=Int→(List Int)→Int→(List Int)→Int→(List Int)→Int→(List Int)→Option ρ
def ar3{ρ:Type}(g:Int)(b:List Int)(a:Int)(c:List Int)(d:Int)(e:List Int)(f:Int)(h:List Int)(nx j:cbl ρ):Option ρ:=br (decide (a<8)) (br (decide (0≤a)) (br (decide (a<(↑8:Int))) (wu (b.getD a.toNat 0) (Aa.wrap (g.tdiv 16)) fun i=>br (decide ((c.length+i.length)*1≤140737488355328)) (nx g b (Aa.wrap (a+1)) (c++i) d e f h) none) none) none) (j g b a c d e f h)
abbrev b1s:=Int×(List Int)×Int×(List Int)×Int×(List Int)×Int×(List Int)
abbrev cag:=b1s
def b99{ρ:Type}(f:b1s→Option ρ):cbl ρ:=fun h d e g a b c i=>f (h,d,e,g,a,b,c,i)
def bxj{ρ:Type}:aej b1s cag ρ:=fun (g,d,e,f,a,b,c,h) next ex=>ar3 g d e f a b c h (b99 next) (b99 ex)
def b8t{ρ:Type}:=shut (lp (bxj (ρ:=ρ)))
theorem cc1{ρ:Type}:b8t (ρ:=ρ)=lp bxj:=cu _
def b33{ρ:Type}(f:aei b1s cag ρ)(h:Int)(d:List Int)(e:Int)(g:List Int)(a:Int)(b:List Int)(c:Int)(i:List Int)(j:cbl ρ):Option ρ:=f (h,d,e,g,a,b,c,i) (fun (h,d,e,g,a,b,c,i)=>j h d e g a b c i)
def ba2{ρ:Type}:=b33 (lp (bxj (ρ:=ρ)))
def ar7{ρ:Type}:=b33 (b8t (ρ:=ρ))
theorem bbw{ρ:Type}:ar7 (ρ:=ρ)=ba2:=congrArg b33 cc1
def asv{ρ:Type}(c:Int)(e a:List Int)(d:Int)(k:(List Int)→Option ρ):Option ρ:=x9 c fun b=>br (decide (1≤b)) (br (decide (b*(↑1:Int)≤(↑140737488355328:Int))) (br (decide (b=0)) none (br (decide (0≤Aa.wrap (Aa.wrap ((Aa.wrap (Aa.wrap (Aa.wrap (Aa.wrap (2*b)-1)-Aa.wrap (b.tdiv 8))-(↑a.length:Int))).tmod b+Aa.wrap (b.tdiv 8))-8))) (br (decide ((1+(Aa.wrap (Aa.wrap ((Aa.wrap (Aa.wrap (Aa.wrap (Aa.wrap (2*b)-1)-Aa.wrap (b.tdiv 8))-(↑a.length:Int))).tmod b+Aa.wrap (b.tdiv 8))-8)).toNat)*1≤140737488355328)) (wu (Ab.wrap (d*2^3)) 8 fun g=>br (decide ((((Af (Aa.wrap (Aa.wrap ((Aa.wrap (Aa.wrap (Aa.wrap (Aa.wrap (2*b)-1)-Aa.wrap (b.tdiv 8))-(↑a.length:Int))).tmod b+Aa.wrap (b.tdiv 8))-8)).toNat (0:Int)).length.add 0).succ+g.length)*1≤140737488355328)) (y8 c e a d ((Af 1 (0:Int)).set 0 128++Af (Aa.wrap (Aa.wrap ((Aa.wrap (Aa.wrap (Aa.wrap (Aa.wrap (2*b)-1)-Aa.wrap (b.tdiv 8))-(↑a.length:Int))).tmod b+Aa.wrap (b.tdiv 8))-8)).toNat (0:Int)++g) fun j h l m=>ar7 b h 0 [] j h m l fun q r s f i n o p=>br (i==2) (br (decide (48≤(↑f.length:Int))) (k (Ac ((48:Int)-(0:Int)).toNat f)) none) (k f)) none) none) none)) none) none
def acf{ρ:Type}:=shut (asv (ρ:=ρ))
theorem bc9{ρ:Type}(b:Int)(a:List Int)(c:List Int)(d:Int)(k:(List Int)→Option ρ):acf b a c d k=asv b a c d k:=by unfold acf;rw[cu]

def asg{ρ:Type}(b:Int)(c:List Int)(k:(List Int)→Int→Option ρ):Option ρ:=ae1 b fun d e f g a=>br (a !=0) (k [] a) (y8 d e f g c fun h i j l=>acf h i j l fun m=>k m 0)
def ajn{ρ:Type}:=shut (asg (ρ:=ρ))
theorem bdo{ρ:Type}(a:Int)(b:List Int)(k:(List Int)→Int→Option ρ):ajn a b k=asg a b k:=by unfold ajn;rw[cu]

def ak6{ρ:Type}(a:Int)(b:List Int)(k:(List Int)→Int→Option ρ):Option ρ:=ad9 a fun c=>br (c==0) (k [] 9) (br (decide (a≤3)) (ajn a b fun d e=>k d e) (ad9 a fun f=>zl a b f fun g h=>k g h))
def zn{ρ:Type}:=shut (ak6 (ρ:=ρ))
theorem auw{ρ:Type}(a:Int)(b:List Int)(k:(List Int)→Int→Option ρ):zn a b k=ak6 a b k:=by unfold zn;rw[cu]

def afe{ρ:Type}(a:List (List Int))(b:Int)(k:(List Int)→Option ρ):Option ρ:=jc a fun c=>zn b c fun d e=>k d
def ku{ρ:Type}:=shut (afe (ρ:=ρ))
theorem alv{ρ:Type}(a:List (List Int))(b:Int)(k:(List Int)→Option ρ):ku a b k=afe a b k:=by unfold ku;rw[cu]

def aol{ρ:Type}(a:Int)(k:Int→Option ρ):Option ρ:=k a
def zo{ρ:Type}:=shut (aol (ρ:=ρ))
theorem aqz{ρ:Type}(a:Int)(k:Int→Option ρ):zo a k=aol a k:=by unfold zo;rw[cu]

abbrev ca4(ρ:Type):=Int→Int→Int→(List Int)→Option ρ
def ak0{ρ:Type}(d b a:Int)(c:List Int)(nx e:ca4 ρ):Option ρ:=br (decide (a<b)) (br (decide (0≤a)) (br (decide (a<(↑c.length:Int))) (br (decide (0≤a)) (br (decide (a<(↑c.length:Int))) (nx d b (Aa.wrap (a+1)) (c.set a.toNat (bits BinOp.xor Ag (c.getD a.toNat 0) d))) none) none) none) none) (e d b a c)
abbrev byr:=Int×Int×Int×(List Int)
abbrev b6e:=byr
def b4z{ρ:Type}(f:byr→Option ρ):ca4 ρ:=fun c a b d=>f (c,a,b,d)
def b0d{ρ:Type}:aej byr b6e ρ:=fun (c,a,b,d) next ex=>ak0 c a b d (b4z next) (b4z ex)
def b7b{ρ:Type}:=shut (lp (b0d (ρ:=ρ)))
theorem ccr{ρ:Type}:b7b (ρ:=ρ)=lp b0d:=cu _
def b4q{ρ:Type}(f:aei byr b6e ρ)(c a b:Int)(d:List Int)(e:ca4 ρ):Option ρ:=f (c,a,b,d) (fun (c,a,b,d)=>e c a b d)
def aq2{ρ:Type}:=b4q (lp (b0d (ρ:=ρ)))
def arf{ρ:Type}:=b4q (b7b (ρ:=ρ))
theorem avh{ρ:Type}:arf (ρ:=ρ)=aq2:=congrArg b4q ccr
def ajz{ρ:Type}(b:List Int)(a c:Int)(k:(List Int)→Option ρ):Option ρ:=br (decide (0≤a)) (br (decide (a≤a)) (br (decide (a*(↑1:Int)≤(↑140737488355328:Int))) (arf c (↑((Ac (Af a.toNat (0:Int)).length b).append (Ae (0+min (Af a.toNat (0:Int)).length b.length) (Af a.toNat (0:Int)))).length:Int) 0 ((Ac (Af a.toNat (0:Int)).length b).append (Ae (0+min (Af a.toNat (0:Int)).length b.length) (Af a.toNat (0:Int)))) fun e f g d=>k d) none) none) none
def tu{ρ:Type}:=shut (ajz (ρ:=ρ))
theorem aqv{ρ:Type}(a:List Int)(b:Int)(c:Int)(k:(List Int)→Option ρ):tu a b c k=ajz a b c k:=by unfold tu;rw[cu]

def ajk{ρ:Type}(b:List (List Int))(a:Int)(c d:List Int)(k:(List Int)→Option ρ):Option ρ:=jc b fun e=>ku [d,e] a fun f=>ku [c,f] a fun g=>k g
def aan{ρ:Type}:=shut (ajk (ρ:=ρ))
theorem aq6{ρ:Type}(b:List (List Int))(a:Int)(c:List Int)(d:List Int)(k:(List Int)→Option ρ):aan b a c d k=ajk b a c d k:=by unfold aan;rw[cu]

def aps{ρ:Type}(a:Int)(b:List Int)(k:Int→(List Int)→(List Int)→Option ρ):Option ρ:=zo a fun c=>br (decide (0≤a)) (br (decide (a<(↑8:Int))) (br (decide (a.toNat*2+1<16)) (br (decide ((↑b.length:Int)>[(0:Int),(0:Int),(32:Int),(64:Int),(48:Int),(128:Int),(64:Int),(128:Int),(32:Int),(136:Int),(64:Int),(72:Int),(32:Int),(168:Int),(64:Int),(136:Int)].getD (a.toNat*2+1) 0)) (ku [b] c fun d=>tu d ([(0:Int),(0:Int),(32:Int),(64:Int),(48:Int),(128:Int),(64:Int),(128:Int),(32:Int),(136:Int),(64:Int),(72:Int),(32:Int),(168:Int),(64:Int),(136:Int)].getD (a.toNat*2+1) 0) 54 fun e=>tu d ([(0:Int),(0:Int),(32:Int),(64:Int),(48:Int),(128:Int),(64:Int),(128:Int),(32:Int),(136:Int),(64:Int),(72:Int),(32:Int),(168:Int),(64:Int),(136:Int)].getD (a.toNat*2+1) 0) 92 fun f=>k c f e) (tu b ([(0:Int),(0:Int),(32:Int),(64:Int),(48:Int),(128:Int),(64:Int),(128:Int),(32:Int),(136:Int),(64:Int),(72:Int),(32:Int),(168:Int),(64:Int),(136:Int)].getD (a.toNat*2+1) 0) 54 fun g=>tu b ([(0:Int),(0:Int),(32:Int),(64:Int),(48:Int),(128:Int),(64:Int),(128:Int),(32:Int),(136:Int),(64:Int),(72:Int),(32:Int),(168:Int),(64:Int),(136:Int)].getD (a.toNat*2+1) 0) 92 fun h=>k c h g)) none) none) none
def agb{ρ:Type}:=shut (aps (ρ:=ρ))
theorem azm{ρ:Type}(a:Int)(b:List Int)(k:Int→(List Int)→(List Int)→Option ρ):agb a b k=aps a b k:=by unfold agb;rw[cu]

def apq{ρ:Type}(a:Int)(b c:List Int)(k:(List Int)→Int→Option ρ):Option ρ:=af3 a fun d=>br (!d) (k [] 9) (agb a b fun e f g=>aan [c] e f g fun h=>k h 0)
def ag9{ρ:Type}:=shut (apq (ρ:=ρ))
theorem ba9{ρ:Type}(a:Int)(b:List Int)(c:List Int)(k:(List Int)→Int→Option ρ):ag9 a b c k=apq a b c k:=by unfold ag9;rw[cu]

def amg{ρ:Type}(d e f:List Int)(g a h i j l:Int)(b:Bool)(k:(List Int)→Option ρ):Option ρ:=jc [e,f] fun m=>ag9 g d m fun c n=>br (decide (0≤a)) (br (decide (a≤(↑c.length:Int))) (k (Ac (a-0).toNat (Ae 0 c))) none) none
def um{ρ:Type}:=shut (amg (ρ:=ρ))
theorem axn{ρ:Type}(g:List Int)(h:List Int)(i:List Int)(j:Int)(b:Int)(c:Int)(d:Int)(e:Int)(f:Int)(a:Bool)(k:(List Int)→Option ρ):um g h i j b c d e f a k=amg g h i j b c d e f a k:=by unfold um;rw[cu]

abbrev cby(ρ:Type):=(List Int)→Int→Int→Int→(List Int)→Option ρ
def asb{ρ:Type}(d:List Int)(e a b:Int)(c:List Int)(nx g:cby ρ):Option ρ:=br (decide ((↑c.length:Int)<e)) (wu b 4 fun h=>ku [d,h] a fun f=>br (decide ((c.length+f.length)*1≤140737488355328)) (nx d e a (Ab.wrap (b+1)) (c++f)) none) (g d e a b c)
abbrev byi:=(List Int)×Int×Int×Int×(List Int)
abbrev b8i:=byi
def cb0{ρ:Type}(f:byi→Option ρ):cby ρ:=fun c d a b e=>f (c,d,a,b,e)
def bxx{ρ:Type}:aej byi b8i ρ:=fun (c,d,a,b,e) next ex=>asb c d a b e (cb0 next) (cb0 ex)
def b8k{ρ:Type}:=shut (lp (bxx (ρ:=ρ)))
theorem cdq{ρ:Type}:b8k (ρ:=ρ)=lp bxx:=cu _
def b3c{ρ:Type}(f:aei byi b8i ρ)(c:List Int)(d a b:Int)(e:List Int)(g:cby ρ):Option ρ:=f (c,d,a,b,e) (fun (c,d,a,b,e)=>g c d a b e)
def ay8{ρ:Type}:=b3c (lp (bxx (ρ:=ρ)))
def bat{ρ:Type}:=b3c (b8k (ρ:=ρ))
theorem bbo{ρ:Type}:bat (ρ:=ρ)=ay8:=congrArg b3c cdq
def aot{ρ:Type}(b:Int)(e:List Int)(c:Int)(k:(List Int)→Int→Option ρ):Option ρ:=br (decide (b<1)) (k [] 9) (br (decide (b>3)) (k [] 9) (br (decide (c<0)) (k [] 8) (br (decide (c>1048576)) (k [] 8) (zo b fun f=>bat e c f 0 [] fun g a h i d=>br (decide (0≤a)) (br (decide (a≤(↑d.length:Int))) (br (decide (a≤a)) (br (decide (a≤(↑d.length:Int))) (k (Ae 0 (Ac a.toNat d)) 0) none) none) none) none))))
def ag8{ρ:Type}:=shut (aot (ρ:=ρ))
theorem azb{ρ:Type}(a:Int)(b:List Int)(c:Int)(k:(List Int)→Int→Option ρ):ag8 a b c k=aot a b c k:=by unfold ag8;rw[cu]

def amd{ρ:Type}(f:Int)(d b g:List Int)(e a h i j l:Int)(c:Bool)(k:(List Int)→Option ρ):Option ρ:=jc [d,b,g] fun m=>zn e m fun n q=>br (decide (0≤a)) (br (decide (a≤(↑b.length:Int))) (jc [d,Ae 0 (Ac a.toNat b),n] fun o=>ag8 e o f fun p r=>k p) none) none
def qz{ρ:Type}:=shut (amd (ρ:=ρ))
theorem axq{ρ:Type}(g:Int)(h:List Int)(i:List Int)(j:List Int)(l:Int)(b:Int)(c:Int)(d:Int)(e:Int)(f:Int)(a:Bool)(k:(List Int)→Option ρ):qz g h i j l b c d e f a k=amd g h i j l b c d e f a k:=by unfold qz;rw[cu]

def ari{ρ:Type}(b c d e f:Int)(a:Bool)(k:Int→Int→Int→Int→Int→Bool→Int→Int→Int→Int→Int→Int→Bool→Int→Int→Int→Int→Int→Int→Bool→Option ρ):Option ρ:=br (b==16) (k b c d e f a 1 b c d e f a 1 b c d e f a) (k b c d e f a 3 b c d e f a 3 b c d e f a)
def ae7{ρ:Type}:=shut (ari (ρ:=ρ))
theorem ber{ρ:Type}(b:Int)(c:Int)(d:Int)(e:Int)(f:Int)(a:Bool)(k:Int→Int→Int→Int→Int→Bool→Int→Int→Int→Int→Int→Int→Bool→Int→Int→Int→Int→Int→Int→Bool→Option ρ):ae7 b c d e f a k=ari b c d e f a k:=by unfold ae7;rw[cu]

def aue{ρ:Type}(b c d e f:Int)(a:Bool)(k:Int→Int→Int→Int→Int→Bool→Nat→Int→Int→Int→Int→Int→Bool→Int→Int→Int→Int→Int→Int→Bool→Nat→Int→Int→Int→Int→Int→Int→Bool→Option ρ):Option ρ:=br a (ae9 b c d e f a fun G H I J M N O Q U W g h=>k G H I J M N 1 O Q U W g h 0 0 0 0 0 0 false 1 0 0 0 0 0 0 false) (ae7 b c d e f a fun i j l m n o p q r s t u v w y z A B C F=>k i j l m n o 2 0 0 0 0 0 false p q r s t u v 2 w y z A B C F)
def ahq{ρ:Type}:=shut (aue (ρ:=ρ))
theorem bhu{ρ:Type}(b:Int)(c:Int)(d:Int)(e:Int)(f:Int)(a:Bool)(k:Int→Int→Int→Int→Int→Bool→Nat→Int→Int→Int→Int→Int→Bool→Int→Int→Int→Int→Int→Int→Bool→Nat→Int→Int→Int→Int→Int→Int→Bool→Option ρ):ahq b c d e f a k=aue b c d e f a k:=by unfold ahq;rw[cu]

def aq1{ρ:Type}(b:List Int)(a:Int)(k:Int→(List Int)→Option ρ):Option ρ:=br (decide (0≤Aa.wrap ((Aa.wrap (a+7)).tdiv 8))) (br (decide (Aa.wrap ((Aa.wrap (a+7)).tdiv 8)≤(↑b.length:Int))) (uz (Ae 0 (Ac (Aa.wrap ((Aa.wrap (a+7)).tdiv 8)).toNat b)) fun c=>br (decide (a<0)) none (br (decide (0≤Aa.wrap ((Aa.wrap (a+7)).tdiv 8))) (br (decide (Aa.wrap ((Aa.wrap (a+7)).tdiv 8)≤(↑b.length:Int))) (br (decide ((↑b.length:Int)≤(↑b.length:Int))) (k (bits BinOp.and Ab c (Ab.wrap (Ab.wrap (1*2^min a.toNat 64)-1))) (Ae (Aa.wrap ((Aa.wrap (a+7)).tdiv 8)).toNat (Ac (↑b.length:Int).toNat b))) none) none) none)) none) none
def abm{ρ:Type}:=shut (aq1 (ρ:=ρ))
theorem beo{ρ:Type}(a:List Int)(b:Int)(k:Int→(List Int)→Option ρ):abm a b k=aq1 a b k:=by unfold abm;rw[cu]

def aj6{ρ:Type}(n a b o p:Int)(l:Bool)(I:Nat)(u v w y z:Int)(q:Bool)(H A B C F G:Int)(r:Bool)(j:Nat)(m e f g h i:Int)(c:Bool)(J M N:List Int)(k:(List Int)→Int→Int→Option ρ):Option ρ:=pz n a b o p l fun q0 d=>br (decide (b=0)) none (br (decide (j=1)) (rz (Aa.wrap (Aa.wrap (d+Aa.wrap ((Aa.wrap (Aa.wrap (a-Aa.wrap (a.tdiv b))+7)).tdiv 8))+Aa.wrap ((Aa.wrap (Aa.wrap (a.tdiv b)+7)).tdiv 8))) J M N fun s=>br (decide (0≤d)) (br (decide (d≤(↑s.length:Int))) (br (decide (0≤d)) (br (decide (d≤(↑s.length:Int))) (br (decide ((↑s.length:Int)≤(↑s.length:Int))) (abm (Ac ((↑s.length:Int)-d).toNat (Ae d.toNat s)) (Aa.wrap (a-Aa.wrap (a.tdiv b))) fun Q U=>abm U (Aa.wrap (a.tdiv b)) fun W q6=>k (Ac (d-0).toNat (Ae 0 s)) Q W) none) none) none) none) none) (br (decide (j=2)) (qz (Aa.wrap (Aa.wrap (d+Aa.wrap ((Aa.wrap (Aa.wrap (a-Aa.wrap (a.tdiv b))+7)).tdiv 8))+Aa.wrap ((Aa.wrap (Aa.wrap (a.tdiv b)+7)).tdiv 8))) J M N m e f g h i c fun t=>br (decide (0≤d)) (br (decide (d≤(↑t.length:Int))) (br (decide (0≤d)) (br (decide (d≤(↑t.length:Int))) (br (decide ((↑t.length:Int)≤(↑t.length:Int))) (abm (Ae d.toNat (Ac (↑t.length:Int).toNat t)) (Aa.wrap (a-Aa.wrap (a.tdiv b))) fun Z q9=>abm q9 (Aa.wrap (a.tdiv b)) fun O aa=>k (Ae 0 (Ac d.toNat t)) Z O) none) none) none) none) none) none))
def ze{ρ:Type}:=shut (aj6 (ρ:=ρ))
theorem aum{ρ:Type}(y:Int)(z:Int)(A:Int)(B:Int)(C:Int)(i:Bool)(F:Nat)(j:Int)(l:Int)(m:Int)(n:Int)(o:Int)(b:Bool)(v:Int)(p:Int)(q:Int)(r:Int)(s:Int)(t:Int)(c:Bool)(w:Nat)(u:Int)(d:Int)(e:Int)(f:Int)(g:Int)(h:Int)(a:Bool)(G:List Int)(H:List Int)(I:List Int)(k:(List Int)→Int→Int→Option ρ):ze y z A B C i F j l m n o b v p q r s t c w u d e f g h a G H I k=aj6 y z A B C i F j l m n o b v p q r s t c w u d e f g h a G H I k:=by unfold ze;rw[cu]

def au1{ρ:Type}(b a:List Int)(k:(List Int)→Option ρ):Option ρ:=jc [[0,Ag.wrap (↑a.length:Int)],a,b] fun c=>k c
def ahr{ρ:Type}:=shut (au1 (ρ:=ρ))
theorem bf9{ρ:Type}(a:List Int)(b:List Int)(k:(List Int)→Option ρ):ahr a b k=au1 a b k:=by unfold ahr;rw[cu]

def afm{ρ:Type}(e f:List Int)(b:Int)(a:List Int)(d:Int)(c:Bool)(g:Int)(k:(List Int)→Option ρ):Option ρ:=jc [Ac 32 (Ae 0 e),f] fun h=>mh b a d c h fun i j l m=>o7 i j l m g fun o p q r n=>k n
def jg{ρ:Type}:=shut (afm (ρ:=ρ))
theorem alu{ρ:Type}(e:List Int)(f:List Int)(b:Int)(a:List Int)(d:Int)(c:Bool)(g:Int)(k:(List Int)→Option ρ):jg e f b a d c g k=afm e f b a d c g k:=by unfold jg;rw[cu]

def ajf{ρ:Type}(a:Int)(b:List Int)(k:Int→(List Int)→Int→Bool→Int→Option ρ):Option ρ:=abp 7 fun c d e f l=>mh c d e f b fun g h i j=>k g h i j a
def ac1{ρ:Type}:=shut (ajf (ρ:=ρ))
theorem arh{ρ:Type}(a:Int)(b:List Int)(k:Int→(List Int)→Int→Bool→Int→Option ρ):ac1 a b k=ajf a b k:=by unfold ac1;rw[cu]

def ajx{ρ:Type}(d b:Int)(a:List Int)(k:Int→(List Int)→(List Int)→Int→Option ρ):Option ρ:=ae1 d fun e f g h n=>jc [a] fun c=>br (decide (0≤Aa.wrap (b-(↑a.length:Int)))) (br (decide ((c.length+(Aa.wrap (b-(↑a.length:Int))).toNat)*1≤140737488355328)) (y8 e f g h (c++Af (Aa.wrap (b-(↑a.length:Int))).toNat (0:Int)) fun i j l m=>k i j l m) none) none
def y5{ρ:Type}:=shut (ajx (ρ:=ρ))
theorem arl{ρ:Type}(a:Int)(b:Int)(c:List Int)(k:Int→(List Int)→(List Int)→Int→Option ρ):y5 a b c k=ajx a b c k:=by unfold y5;rw[cu]

def ak4{ρ:Type}(a:List Int)(k:(List Int)→Option ρ):Option ρ:=jc [Ac 1 (Ae 3 a),Ac 8 (Ae 8 a),Ac 13 (Ae 19 a)] fun b=>k b
def yx{ρ:Type}:=shut (ak4 (ρ:=ρ))
theorem aun{ρ:Type}(a:List Int)(k:(List Int)→Option ρ):yx a k=ak4 a k:=by unfold yx;rw[cu]

def afw{ρ:Type}(n j:List Int)(c:Int)(a d:List Int)(e b g:Int)(f h:List Int)(i:Int)(k:(List Int)→Option ρ):Option ρ:=br (decide (b>16)) (br (decide ((↑j.length:Int)>b)) (yx n fun z=>jc [z,j] fun A=>y8 g f h i A fun B C F G=>acf B C F G fun o=>br (decide (0≤b)) (br (decide (b≤(↑o.length:Int))) (k (Ac (b-0).toNat (Ae 0 o))) none) none) (yx n fun H=>jc [H,j] fun I=>y8 c a d e I fun J p q r=>acf J p q r fun l=>br (decide (0≤b)) (br (decide (b≤(↑l.length:Int))) (k (Ac (b-0).toNat (Ae 0 l))) none) none)) (yx n fun s=>jc [s,j] fun t=>y8 c a d e t fun u v w y=>acf u v w y fun m=>br (decide (0≤b)) (br (decide (b≤(↑m.length:Int))) (k (Ac (b-0).toNat (Ae 0 m))) none) none)
def jf{ρ:Type}:=shut (afw (ρ:=ρ))
theorem amf{ρ:Type}(i:List Int)(j:List Int)(c:Int)(a:List Int)(d:List Int)(e:Int)(l:Int)(f:Int)(b:List Int)(g:List Int)(h:Int)(k:(List Int)→Option ρ):jf i j c a d e l f b g h k=afw i j c a d e l f b g h k:=by unfold jf;rw[cu]

def ajy{ρ:Type}(b:Int)(a:List Int)(k:Int→(List Int)→(List Int)→Int→Int→Int→(List Int)→(List Int)→Int→Option ρ):Option ρ:=y5 1 64 a fun c d e f=>y5 3 128 a fun g h i j=>k c d e f b g h i j
def ac0{ρ:Type}:=shut (ajy (ρ:=ρ))
theorem aro{ρ:Type}(a:Int)(b:List Int)(k:Int→(List Int)→(List Int)→Int→Int→Int→(List Int)→(List Int)→Int→Option ρ):ac0 a b k=ajy a b k:=by unfold ac0;rw[cu]

def ahf{ρ:Type}(b c d e f:Int)(a:Bool)(g:List Int)(k:Int→Int→Int→Int→Int→Bool→Nat→Int→(List Int)→Int→Bool→Int→Int→(List Int)→(List Int)→Int→Int→Int→(List Int)→(List Int)→Int→Bool→Option ρ):Option ρ:=jk b c d e f a fun n=>br (!n) (k 0 0 0 0 0 false 0 0 [] 0 false 0 0 [] [] 0 0 0 [] [] 0 false) (br ((↑g.length:Int) !=b) (k 0 0 0 0 0 false 0 0 [] 0 false 0 0 [] [] 0 0 0 [] [] 0 false) (br a (ac1 b g fun o p q r s=>k b c d e f a 1 o p q r s 0 [] [] 0 0 0 [] [] 0 true) (ac0 b g fun t u v w h i j l m=>k b c d e f a 2 0 [] 0 false 0 t u v w h i j l m true)))
def y7{ρ:Type}:=shut (ahf (ρ:=ρ))
theorem ank{ρ:Type}(b:Int)(c:Int)(d:Int)(e:Int)(f:Int)(a:Bool)(g:List Int)(k:Int→Int→Int→Int→Int→Bool→Nat→Int→(List Int)→Int→Bool→Int→Int→(List Int)→(List Int)→Int→Int→Int→(List Int)→(List Int)→Int→Bool→Option ρ):y7 b c d e f a g k=ahf b c d e f a g k:=by unfold y7;rw[cu]

def apc{ρ:Type}(b c d e f:Int)(a:Bool)(z g h:List Int)(k:(List Int)→Option ρ):Option ρ:=y7 b c d e f a z fun F G H I J M i A B C j l m n o p q r s t u v=>br (!v) (k []) (br (decide (i=1)) (jg g h A B C j l fun w=>k w) (br (decide (i=2)) (jf g h m n o p q r s t u fun y=>k y) none))
def zy{ρ:Type}:=shut (apc (ρ:=ρ))
theorem ay7{ρ:Type}(b:Int)(c:Int)(d:Int)(e:Int)(f:Int)(a:Bool)(g:List Int)(h:List Int)(i:List Int)(k:(List Int)→Option ρ):zy b c d e f a g h i k=apc b c d e f a g h i k:=by unfold zy;rw[cu]

def aou{ρ:Type}(b:List Int)(a c:Int)(k:(List Int)→Option ρ):Option ρ:=br (a==0) (wu c 4 fun d=>k ((Ac 4 d).append (Ae (0+min 4 d.length) b))) (br (a==1) (wu c 12 fun e=>k ((Ac 4 b).append (Ac 12 e++Ae (4+min 12 e.length) b))) (br (a==2) (wu c 4 fun j=>jc [j,Af 12 (0:Int)] fun f=>k ((Ac 16 b).append (Ac 16 f++Ae (16+min 16 f.length) b))) (br (a==3) (br (a==3) (br (decide (0≤Aa.wrap (8+Aa.wrap (4*a)))) (br (decide (Aa.wrap (8+Aa.wrap (4*a))≤(↑32:Int))) (wu c 4 fun g=>k ((Ac (Aa.wrap (8+Aa.wrap (4*a))).toNat b).append (Ac ((↑32:Int)-Aa.wrap (8+Aa.wrap (4*a))).toNat g++Ae ((Aa.wrap (8+Aa.wrap (4*a))).toNat+min ((↑32:Int)-Aa.wrap (8+Aa.wrap (4*a))).toNat g.length) b))) none) none) (k b)) (br (a==4) (br (a==4) (br (decide (0≤Aa.wrap (8+Aa.wrap (4*a)))) (br (decide (Aa.wrap (8+Aa.wrap (4*a))≤(↑32:Int))) (wu c 4 fun h=>k ((Ac (Aa.wrap (8+Aa.wrap (4*a))).toNat b).append (Ac ((↑32:Int)-Aa.wrap (8+Aa.wrap (4*a))).toNat h++Ae ((Aa.wrap (8+Aa.wrap (4*a))).toNat+min ((↑32:Int)-Aa.wrap (8+Aa.wrap (4*a))).toNat h.length) b))) none) none) (k b)) (br (a==5) (br (decide (0≤Aa.wrap (8+Aa.wrap (4*a)))) (br (decide (Aa.wrap (8+Aa.wrap (4*a))≤(↑32:Int))) (wu c 4 fun i=>k ((Ac (Aa.wrap (8+Aa.wrap (4*a))).toNat b).append (Ac ((↑32:Int)-Aa.wrap (8+Aa.wrap (4*a))).toNat i++Ae ((Aa.wrap (8+Aa.wrap (4*a))).toNat+min ((↑32:Int)-Aa.wrap (8+Aa.wrap (4*a))).toNat i.length) b))) none) none) (k b))))))
def gy{ρ:Type}:=shut (aou (ρ:=ρ))
theorem az6{ρ:Type}(a:List Int)(b:Int)(c:Int)(k:(List Int)→Option ρ):gy a b c k=aou a b c k:=by unfold gy;rw[cu]

def agv{ρ:Type}(d e f g h:Int)(b:Bool)(c i a:List Int)(j:Int)(k:(List Int)→Option ρ):Option ρ:=gy a 2 j fun l=>uz (Ac 4 (Ae 20 a)) fun m=>gy l 3 m fun n=>k n
def p8{ρ:Type}:=shut (agv (ρ:=ρ))
theorem anv{ρ:Type}(c:Int)(d:Int)(e:Int)(f:Int)(g:Int)(a:Bool)(b:List Int)(h:List Int)(i:List Int)(j:Int)(k:(List Int)→Option ρ):p8 c d e f g a b h i j k=agv c d e f g a b h i j k:=by unfold p8;rw[cu]

def adb{ρ:Type}(c d e f g:Int)(a:Bool)(b h i:List Int)(j l:Int)(k:(List Int)→Option ρ):Option ρ:=p8 c d e f g a b h i 3 fun m=>gy m 4 (Ab.wrap j) fun n=>gy n 5 l fun o=>k o
def uj{ρ:Type}:=shut (adb (ρ:=ρ))
theorem ail{ρ:Type}(c:Int)(d:Int)(e:Int)(f:Int)(g:Int)(a:Bool)(b:List Int)(h:List Int)(i:List Int)(j:Int)(l:Int)(k:(List Int)→Option ρ):uj c d e f g a b h i j l k=adb c d e f g a b h i j l k:=by unfold uj;rw[cu]

def aeu{ρ:Type}(b c d e f:Int)(a:Bool)(g h i:List Int)(j l:Int)(m:List (List Int))(k:(List Int)→Option ρ):Option ρ:=uj b c d e f a g h i j l fun n=>jc m fun o=>zy b c d e f a h n o fun p=>k p
def qb{ρ:Type}:=shut (aeu (ρ:=ρ))
theorem akx{ρ:Type}(c:Int)(d:Int)(e:Int)(f:Int)(g:Int)(a:Bool)(b:List Int)(h:List Int)(i:List Int)(j:Int)(l:Int)(m:List (List Int))(k:(List Int)→Option ρ):qb c d e f g a b h i j l m k=aeu c d e f g a b h i j l m k:=by unfold qb;rw[cu]

abbrev b6f(ρ:Type):=Int→(List Int)→(List Int)→Int→Int→Int→Int→Int→Int→Int→Bool→(List Int)→(List Int)→(List Int)→Option ρ
def aia{ρ:Type}(m:Int)(c n:List Int)(l b a d e f g:Int)(h:Bool)(i j k:List Int)(nx o:b6f ρ):Option ρ:=br (decide (b<l)) (br (decide ((0:Int)≤a)) (br (decide (a≤(↑c.length:Int))) (br (decide ((↑c.length:Int)≤(↑c.length:Int))) (br (decide ((0:Int)≤a)) (br (decide (a≤(↑(Ae a.toNat (Ac (↑c.length:Int).toNat c)).length:Int))) (br (decide (b<(0:Int))) none (br (bits BinOp.and Ab (m.fdiv ((2:Int)^min b.toNat 64)) (1:Int)==(1:Int)) (br (decide (Aa.wrap (b+(1:Int))<(0:Int))) none (qb a d e f g h i j k (Aa.wrap (b+(1:Int))) (m.fdiv ((2:Int)^min (Aa.wrap (b+(1:Int))).toNat 64)) [Ae 0 (Ac a.toNat (Ae a.toNat (Ac (↑c.length:Int).toNat c))),n] fun p=>nx m (Ae a.toNat (Ac (↑c.length:Int).toNat c)) p l (Aa.wrap (b+(1:Int))) a d e f g h i j k)) (br (decide (Aa.wrap (b+(1:Int))<(0:Int))) none (qb a d e f g h i j k (Aa.wrap (b+(1:Int))) (m.fdiv ((2:Int)^min (Aa.wrap (b+(1:Int))).toNat 64)) [n,Ae 0 (Ac a.toNat (Ae a.toNat (Ac (↑c.length:Int).toNat c)))] fun q=>nx m (Ae a.toNat (Ac (↑c.length:Int).toNat c)) q l (Aa.wrap (b+(1:Int))) a d e f g h i j k)))) none) none) none) none) none) (o m c n l b a d e f g h i j k)
abbrev bzs:=Int×(List Int)×(List Int)×Int×Int×Int×Int×Int×Int×Int×Bool×(List Int)×(List Int)×(List Int)
abbrev b90:=bzs
def b53{ρ:Type}(f:bzs→Option ρ):b6f ρ:=fun m n o k l a b c d e g h i j=>f (m,n,o,k,l,a,b,c,d,e,g,h,i,j)
def b1z{ρ:Type}:aej bzs b90 ρ:=fun (l,m,n,j,k,a,b,c,d,e,f,g,h,i) next ex=>aia l m n j k a b c d e f g h i (b53 next) (b53 ex)
def b7u{ρ:Type}:=shut (lp (b1z (ρ:=ρ)))
theorem cdz{ρ:Type}:b7u (ρ:=ρ)=lp b1z:=cu _
def b3x{ρ:Type}(f:aei bzs b90 ρ)(m:Int)(n o:List Int)(k l a b c d e:Int)(g:Bool)(h i j:List Int)(p:b6f ρ):Option ρ:=f (m,n,o,k,l,a,b,c,d,e,g,h,i,j) (fun (m,n,o,k,l,a,b,c,d,e,g,h,i,j)=>p m n o k l a b c d e g h i j)
def an6{ρ:Type}:=b3x (lp (b1z (ρ:=ρ)))
def an4{ρ:Type}:=b3x (b7u (ρ:=ρ))
theorem asa{ρ:Type}:an4 (ρ:=ρ)=an6:=congrArg b3x cdz
def ags{ρ:Type}(a e f c g:Int)(b:Bool)(d h i:List Int)(l:Int)(j:List Int)(k:(List Int)→Option ρ):Option ρ:=br (decide (0≤a)) (br (decide (a≤(↑j.length:Int))) (qb a e f c g b d h i 0 l [Ae 0 (Ac a.toNat j)] fun m=>an4 l j m c 0 a e f c g b d h i fun t u n v w y z A B o p q r s=>k n) none) none
def qm{ρ:Type}:=shut (ags (ρ:=ρ))
theorem an1{ρ:Type}(c:Int)(d:Int)(e:Int)(f:Int)(g:Int)(a:Bool)(b:List Int)(h:List Int)(i:List Int)(j:Int)(l:List Int)(k:(List Int)→Option ρ):qm c d e f g a b h i j l k=ags c d e f g a b h i j l k:=by unfold qm;rw[cu]

def afv{ρ:Type}(b c d e f:Int)(a:Bool)(g h i j:List Int)(k:(List Int)→Option ρ):Option ρ:=p8 b c d e f a g h i 4 fun l=>zy b c d e f a h l j fun m=>k m
def o8{ρ:Type}:=shut (afv (ρ:=ρ))
theorem alz{ρ:Type}(c:Int)(d:Int)(e:Int)(f:Int)(g:Int)(a:Bool)(b:List Int)(h:List Int)(i:List Int)(j:List Int)(k:(List Int)→Option ρ):o8 c d e f g a b h i j k=afv c d e f g a b h i j k:=by unfold o8;rw[cu]

def att{ρ:Type}(c:List Int)(a b:Int)(k:Bool→Option ρ):Option ρ:=br (decide (a≥1)) (br (decide (a≤24)) (br (decide (b≥0)) (br (decide (a=0)) none (k (decide (b≤Aa.wrap ((Aa.wrap ((↑c.length:Int)*8)).tdiv a))))) (k false)) (k false)) (k false)
def adj{ρ:Type}:=shut (att (ρ:=ρ))
theorem axg{ρ:Type}(a:List Int)(b:Int)(c:Int)(k:Bool→Option ρ):adj a b c k=att a b c k:=by unfold adj;rw[cu]

abbrev b9x(ρ:Type):=(List Int)→Int→Int→Int→Int→Int→Int→(List Int)→Option ρ
def alg{ρ:Type}(a:List Int)(e g f b c d:Int)(h:List Int)(nx i:b9x ρ):Option ρ:=br (decide (f<e)) (br (decide (0<(↑a.length:Int))) (br (decide (1≤(↑a.length:Int))) (br (decide ((↑a.length:Int)≤(↑a.length:Int))) (nx (Ae 1 (Ac (↑a.length:Int).toNat a)) e (bits BinOp.or Ab (Ab.wrap (g*2^8)) (Ab.wrap (a.getD 0 0))) (Aa.wrap (f+8)) b c d h) none) none) none) (i a e g f b c d h)
abbrev b09:=(List Int)×Int×Int×Int×Int×Int×Int×(List Int)
abbrev b6s:=b09
def cba{ρ:Type}(f:b09→Option ρ):b9x ρ:=fun d e g h a b c i=>f (d,e,g,h,a,b,c,i)
def b1t{ρ:Type}:aej b09 b6s ρ:=fun (d,e,f,g,a,b,c,h) next ex=>alg d e f g a b c h (cba next) (cba ex)
def b8r{ρ:Type}:=shut (lp (b1t (ρ:=ρ)))
theorem cdp{ρ:Type}:b8r (ρ:=ρ)=lp b1t:=cu _
def b4m{ρ:Type}(f:aei b09 b6s ρ)(d:List Int)(e g h a b c:Int)(i:List Int)(j:b9x ρ):Option ρ:=f (d,e,g,h,a,b,c,i) (fun (d,e,g,h,a,b,c,i)=>j d e g h a b c i)
def aq9{ρ:Type}:=b4m (lp (b1t (ρ:=ρ)))
def aqx{ρ:Type}:=b4m (b8r (ρ:=ρ))
theorem av9{ρ:Type}:aqx (ρ:=ρ)=aq9:=congrArg b4m cdp
abbrev ccn(ρ:Type):=(List Int)→Int→Int→Int→Int→Int→(List Int)→Option ρ
def akz{ρ:Type}(f:List Int)(g h i c a:Int)(j:List Int)(nx m:ccn ρ):Option ρ:=br (decide (a<c)) (aqx f g h i a c a j fun n b k d e o p l=>br (decide (Aa.wrap (d-b)<0)) none (br (decide (b<0)) none (br (decide (0≤e)) (br (decide (e<(↑l.length:Int))) (nx n b k (Aa.wrap (d-b)) o (Aa.wrap (p+1)) (l.set e.toNat (Ad.wrap (bits BinOp.and Ab (k.fdiv (2^min (Aa.wrap (d-b)).toNat 64)) (Ab.wrap (Ab.wrap (1*2^min b.toNat 64)-1)))))) none) none))) (m f g h i c a j)
abbrev bxl:=(List Int)×Int×Int×Int×Int×Int×(List Int)
abbrev b56:=bxl
def b8b{ρ:Type}(f:bxl→Option ρ):ccn ρ:=fun c d e g a b h=>f (c,d,e,g,a,b,h)
def b1i{ρ:Type}:aej bxl b56 ρ:=fun (c,d,e,f,a,b,g) next ex=>akz c d e f a b g (b8b next) (b8b ex)
def b8g{ρ:Type}:=shut (lp (b1i (ρ:=ρ)))
theorem ccu{ρ:Type}:b8g (ρ:=ρ)=lp b1i:=cu _
def b3h{ρ:Type}(f:aei bxl b56 ρ)(c:List Int)(d e g a b:Int)(h:List Int)(i:ccn ρ):Option ρ:=f (c,d,e,g,a,b,h) (fun (c,d,e,g,a,b,h)=>i c d e g a b h)
def aq5{ρ:Type}:=b3h (lp (b1i (ρ:=ρ)))
def arq{ρ:Type}:=b3h (b8g (ρ:=ρ))
theorem avs{ρ:Type}:arq (ρ:=ρ)=aq5:=congrArg b3h ccu
def ajs{ρ:Type}(b:List Int)(c a:Int)(k:(List Int)→Option ρ):Option ρ:=adj b c a fun d=>br (!d) (k []) (br (decide (0≤a)) (br (decide (a≤a)) (br (decide (a*(↑4:Int)≤(↑140737488355328:Int))) (arq b c 0 0 (↑(Af a.toNat (0:Int)).length:Int) 0 (Af a.toNat (0:Int)) fun f g h i j l e=>k e) none) none) none)
def nu{ρ:Type}:=shut (ajs (ρ:=ρ))
theorem arn{ρ:Type}(a:List Int)(b:Int)(c:Int)(k:(List Int)→Option ρ):nu a b c k=ajs a b c k:=by unfold nu;rw[cu]

end P
end
