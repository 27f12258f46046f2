/-
  SlhVerifies, part 11: an interpreter of my own over abstract values, the pure functions, the walks and the plain law.
-/

import Derived.Test.YtciddcopcdmnbaaGreatDoorSlhVerifiesH
import Derived.Test.YtciddcopcdmnbaaGreatDoorSlhVerifiesI
import Derived.Test.YtciddcopcdmnbaaGreatDoorSlhVerifiesJ
open Go.IntKind renaming i64 → Aa, u64 → Ab, u32 → Ad, u8 → Ag
open List renaming take → Ac, drop → Ae, replicate → Af

noncomputable section
open Go Go.Abs
set_option linter.unusedVariables false
namespace P

abbrev zc3(ρ:Type):=Int→(List Int)→(List Int)→(List Int)→Option ρ
def akn{ρ:Type}(a:Int)(c b d:List Int)(nx e:zc3 ρ):Option ρ:=br (decide (a<5)) (br (decide (0≤a)) (br (decide (a<(↑25:Int))) (br (decide (0≤Aa.wrap (a+5))) (br (decide (Aa.wrap (a+5)<(↑25:Int))) (br (decide (0≤Aa.wrap (a+10))) (br (decide (Aa.wrap (a+10)<(↑25:Int))) (br (decide (0≤Aa.wrap (a+15))) (br (decide (Aa.wrap (a+15)<(↑25:Int))) (br (decide (0≤Aa.wrap (a+20))) (br (decide (Aa.wrap (a+20)<(↑25:Int))) (br (decide (0≤a)) (br (decide (a<(↑5:Int))) (nx (Aa.wrap (a+1)) c b (d.set a.toNat (bits BinOp.xor Ab (bits BinOp.xor Ab (bits BinOp.xor Ab (bits BinOp.xor Ab (b.getD a.toNat 0) (b.getD (Aa.wrap (a+5)).toNat 0)) (b.getD (Aa.wrap (a+10)).toNat 0)) (b.getD (Aa.wrap (a+15)).toNat 0)) (b.getD (Aa.wrap (a+20)).toNat 0)))) none) none) none) none) none) none) none) none) none) none) none) none) (e a c b d)
abbrev zt3:=Int×(List Int)×(List Int)×(List Int)
abbrev zy3:=zt3
def zu3{ρ:Type}(f:zt3→Option ρ):zc3 ρ:=fun d a b c=>f (d,a,b,c)
def zs3{ρ:Type}:aed zt3 zy3 ρ:=fun (d,a,b,c) next ex=>akn d a b c (zu3 next) (zu3 ex)
def zm3{ρ:Type}:=shut (lp (zs3 (ρ:=ρ)))
theorem ze3{ρ:Type}:zm3 (ρ:=ρ)=lp zs3:=cu _
def zk3{ρ:Type}(f:ad4 zt3 zy3 ρ)(d:Int)(a b c:List Int)(e:zc3 ρ):Option ρ:=f (d,a,b,c) (fun (d,a,b,c)=>e d a b c)
def akb{ρ:Type}:=zk3 (lp (zs3 (ρ:=ρ)))
def afg{ρ:Type}:=zk3 (zm3 (ρ:=ρ))
theorem ap1{ρ:Type}:afg (ρ:=ρ)=akb:=congrArg zk3 ze3
abbrev zc4(ρ:Type):=Int→Int→Int→Int→Int→(List Int)→(List Int)→(List Int)→(List Int)→Option ρ
def acp{ρ:Type}(i b h a g:Int)(d e f c:List Int)(nx j:zc4 ρ):Option ρ:=br (decide (a<25)) (br (decide (0≤Aa.wrap (b+a))) (br (decide (Aa.wrap (b+a)<(↑25:Int))) (br (decide (0≤Aa.wrap (b+a))) (br (decide (Aa.wrap (b+a)<(↑25:Int))) (nx i b h (Aa.wrap (a+5)) g d e f (c.set (Aa.wrap (b+a)).toNat (bits BinOp.xor Ab (c.getD (Aa.wrap (b+a)).toNat 0) h))) none) none) none) none) (j i b h a g d e f c)
abbrev zt4:=Int×Int×Int×Int×Int×(List Int)×(List Int)×(List Int)×(List Int)
abbrev zy4:=zt4
def zu4{ρ:Type}(f:zt4→Option ρ):zc4 ρ:=fun g h i j e a b c d=>f (g,h,i,j,e,a,b,c,d)
def zs4{ρ:Type}:aed zt4 zy4 ρ:=fun (f,g,h,i,e,a,b,c,d) next ex=>acp f g h i e a b c d (zu4 next) (zu4 ex)
def zm4{ρ:Type}:=shut (lp (zs4 (ρ:=ρ)))
theorem ze4{ρ:Type}:zm4 (ρ:=ρ)=lp zs4:=cu _
def zk4{ρ:Type}(f:ad4 zt4 zy4 ρ)(g h i j e:Int)(a b c d:List Int)(k:zc4 ρ):Option ρ:=f (g,h,i,j,e,a,b,c,d) (fun (g,h,i,j,e,a,b,c,d)=>k g h i j e a b c d)
def acs{ρ:Type}:=zk4 (lp (zs4 (ρ:=ρ)))
def aj5{ρ:Type}:=zk4 (zm4 (ρ:=ρ))
theorem ac5{ρ:Type}:aj5 (ρ:=ρ)=acs:=congrArg zk4 ze4
abbrev zc5(ρ:Type):=Int→Int→(List Int)→(List Int)→(List Int)→(List Int)→Option ρ
def ake{ρ:Type}(f a:Int)(c d e b:List Int)(nx g:zc5 ρ):Option ρ:=br (decide (a<5)) (br (decide (0≤(Aa.wrap (a+4)).tmod 5)) (br (decide ((Aa.wrap (a+4)).tmod 5<(↑5:Int))) (br (decide (0≤(Aa.wrap (a+1)).tmod 5)) (br (decide ((Aa.wrap (a+1)).tmod 5<(↑5:Int))) (jm (b.getD ((Aa.wrap (a+1)).tmod 5).toNat 0) 1 fun h=>aj5 f a (bits BinOp.xor Ab (b.getD ((Aa.wrap (a+4)).tmod 5).toNat 0) h) 0 a b e d c fun i o p q j k l m n=>nx i (Aa.wrap (j+1)) n m l k) none) none) none) none) (g f a c d e b)
abbrev zt5:=Int×Int×(List Int)×(List Int)×(List Int)×(List Int)
abbrev zy5:=zt5
def zu5{ρ:Type}(f:zt5→Option ρ):zc5 ρ:=fun g e a b c d=>f (g,e,a,b,c,d)
def zs5{ρ:Type}:aed zt5 zy5 ρ:=fun (f,e,a,b,c,d) next ex=>ake f e a b c d (zu5 next) (zu5 ex)
def zm5{ρ:Type}:=shut (lp (zs5 (ρ:=ρ)))
theorem ze5{ρ:Type}:zm5 (ρ:=ρ)=lp zs5:=cu _
def zk5{ρ:Type}(f:ad4 zt5 zy5 ρ)(g e:Int)(a b c d:List Int)(h:zc5 ρ):Option ρ:=f (g,e,a,b,c,d) (fun (g,e,a,b,c,d)=>h g e a b c d)
def aj3{ρ:Type}:=zk5 (lp (zs5 (ρ:=ρ)))
def afk{ρ:Type}:=zk5 (zm5 (ρ:=ρ))
theorem apx{ρ:Type}:afk (ρ:=ρ)=aj3:=congrArg zk5 ze5
abbrev zc6(ρ:Type):=Int→Int→(List Int)→Int→(List Int)→(List Int)→(List Int)→(List Int)→Option ρ
def ajh{ρ:Type}(g h:Int)(b:List Int)(a:Int)(d e f c:List Int)(nx i:zc6 ρ):Option ρ:=br (decide (a<24)) (br (decide (0≤a)) (br (decide (a<(↑24:Int))) (br (decide (0≤a)) (br (decide (a<(↑24:Int))) (jm h (b65.getD a.toNat 0) fun j=>br (decide (0≤b.getD a.toNat 0)) (br (decide (b.getD a.toNat 0<(↑25:Int))) (br (decide (0≤b.getD a.toNat 0)) (br (decide (b.getD a.toNat 0<(↑25:Int))) (nx g (c.getD (b.getD a.toNat 0).toNat 0) b (Aa.wrap (a+1)) d e f (c.set (b.getD a.toNat 0).toNat j)) none) none) none) none) none) none) none) none) (i g h b a d e f c)
abbrev zt6:=Int×Int×(List Int)×Int×(List Int)×(List Int)×(List Int)×(List Int)
abbrev zy6:=zt6
def zu6{ρ:Type}(f:zt6→Option ρ):zc6 ρ:=fun h i e g a b c d=>f (h,i,e,g,a,b,c,d)
def zs6{ρ:Type}:aed zt6 zy6 ρ:=fun (g,h,e,f,a,b,c,d) next ex=>ajh g h e f a b c d (zu6 next) (zu6 ex)
def zm6{ρ:Type}:=shut (lp (zs6 (ρ:=ρ)))
theorem ze6{ρ:Type}:zm6 (ρ:=ρ)=lp zs6:=cu _
def zk6{ρ:Type}(f:ad4 zt6 zy6 ρ)(h i:Int)(e:List Int)(g:Int)(a b c d:List Int)(j:zc6 ρ):Option ρ:=f (h,i,e,g,a,b,c,d) (fun (h,i,e,g,a,b,c,d)=>j h i e g a b c d)
def ajj{ρ:Type}:=zk6 (lp (zs6 (ρ:=ρ)))
def ae2{ρ:Type}:=zk6 (zm6 (ρ:=ρ))
theorem aoe{ρ:Type}:ae2 (ρ:=ρ)=ajj:=congrArg zk6 ze6
abbrev zc7(ρ:Type):=Int→Int→Int→(List Int)→(List Int)→(List Int)→(List Int)→(List Int)→Option ρ
def abw{ρ:Type}(h c a:Int)(d e f g b:List Int)(nx i:zc7 ρ):Option ρ:=br (decide (a<5)) (br (decide (0≤a)) (br (decide (a<(↑5:Int))) (br (decide (0≤(Aa.wrap (a+2)).tmod 5)) (br (decide ((Aa.wrap (a+2)).tmod 5<(↑5:Int))) (br (decide (0≤(Aa.wrap (a+1)).tmod 5)) (br (decide ((Aa.wrap (a+1)).tmod 5<(↑5:Int))) (br (decide (0≤Aa.wrap (c+a))) (br (decide (Aa.wrap (c+a)<(↑25:Int))) (nx h c (Aa.wrap (a+1)) d e f (g.set (Aa.wrap (c+a)).toNat (bits BinOp.xor Ab (b.getD a.toNat 0) (bits BinOp.andNot Ab (b.getD ((Aa.wrap (a+2)).tmod 5).toNat 0) (b.getD ((Aa.wrap (a+1)).tmod 5).toNat 0)))) b) none) none) none) none) none) none) none) none) (i h c a d e f g b)
abbrev zt7:=Int×Int×Int×(List Int)×(List Int)×(List Int)×(List Int)×(List Int)
abbrev zy7:=zt7
def zu7{ρ:Type}(f:zt7→Option ρ):zc7 ρ:=fun i g h a b c d e=>f (i,g,h,a,b,c,d,e)
def zs7{ρ:Type}:aed zt7 zy7 ρ:=fun (h,f,g,a,b,c,d,e) next ex=>abw h f g a b c d e (zu7 next) (zu7 ex)
def zm7{ρ:Type}:=shut (lp (zs7 (ρ:=ρ)))
theorem ze7{ρ:Type}:zm7 (ρ:=ρ)=lp zs7:=cu _
def zk7{ρ:Type}(f:ad4 zt7 zy7 ρ)(i g h:Int)(a b c d e:List Int)(j:zc7 ρ):Option ρ:=f (i,g,h,a,b,c,d,e) (fun (i,g,h,a,b,c,d,e)=>j i g h a b c d e)
def abx{ρ:Type}:=zk7 (lp (zs7 (ρ:=ρ)))
def ajc{ρ:Type}:=zk7 (zm7 (ρ:=ρ))
theorem aco{ρ:Type}:ajc (ρ:=ρ)=abx:=congrArg zk7 ze7
abbrev zc8(ρ:Type):=Int→Int→(List Int)→(List Int)→(List Int)→(List Int)→Option ρ
def ajf{ρ:Type}(f a:Int)(b c d e:List Int)(nx g:zc5 ρ):Option ρ:=br (decide (a<25)) (br (decide (0≤a)) (br (decide (a≤Aa.wrap (a+5))) (br (decide (Aa.wrap (a+5)≤(↑25:Int))) (br (decide (5≤(Aa.wrap (a+5)-a).toNat)) (br (decide (a.toNat+5≤25)) (ajc f a 0 e d c b (Ac 5 (Ae a.toNat b)) fun h i n j k l m o=>nx h (Aa.wrap (i+5)) m l k j) none) none) none) none) none) (g f a b c d e)
abbrev zt8:=Int×Int×(List Int)×(List Int)×(List Int)×(List Int)
abbrev zy8:=zt8
def zu8{ρ:Type}(f:zt8→Option ρ):zc8 ρ:=fun g e a b c d=>f (g,e,a,b,c,d)
def zs8{ρ:Type}:aed zt8 zy8 ρ:=fun (f,e,a,b,c,d) next ex=>ajf f e a b c d (zu8 next) (zu8 ex)
def zm8{ρ:Type}:=shut (lp (zs8 (ρ:=ρ)))
theorem ze8{ρ:Type}:zm8 (ρ:=ρ)=lp zs8:=cu _
def zk8{ρ:Type}(f:ad4 zt8 zy8 ρ)(g e:Int)(a b c d:List Int)(h:zc5 ρ):Option ρ:=f (g,e,a,b,c,d) (fun (g,e,a,b,c,d)=>h g e a b c d)
def aje{ρ:Type}:=zk8 (lp (zs8 (ρ:=ρ)))
def ae3{ρ:Type}:=zk8 (zm8 (ρ:=ρ))
theorem aog{ρ:Type}:ae3 (ρ:=ρ)=aje:=congrArg zk8 ze8
abbrev zc9(ρ:Type):=(List Int)→Int→(List Int)→(List Int)→Option ρ
def ahq{ρ:Type}(e:List Int)(a:Int)(b c:List Int)(nx o:zc9 ρ):Option ρ:=br (decide (a<24)) (br (decide (0≤a)) (br (decide (a<(↑24:Int))) (afg 0 c b [0,0,0,0,0] fun C p q f=>afk (e.getD a.toNat 0) 0 q p f f fun r F g s t u=>ae2 r (g.getD 1 0) bzv 0 u t s g fun h v w y i j k l=>ae3 h 0 l k j i fun m z d n A B=>nx e (Aa.wrap (a+1)) (d.set 0 (bits BinOp.xor Ab (d.getD 0 0) m)) n) none) none) (o e a b c)
abbrev zt9:=(List Int)×Int×(List Int)×(List Int)
abbrev zy9:=zt9
def zu9{ρ:Type}(f:zt9→Option ρ):zc9 ρ:=fun c d a b=>f (c,d,a,b)
def zs9{ρ:Type}:aed zt9 zy9 ρ:=fun (c,d,a,b) next ex=>ahq c d a b (zu9 next) (zu9 ex)
def zm9{ρ:Type}:=shut (lp (zs9 (ρ:=ρ)))
theorem ze9{ρ:Type}:zm9 (ρ:=ρ)=lp zs9:=cu _
def zk9{ρ:Type}(f:ad4 zt9 zy9 ρ)(c:List Int)(d:Int)(a b:List Int)(e:zc9 ρ):Option ρ:=f (c,d,a,b) (fun (c,d,a,b)=>e c d a b)
def ams{ρ:Type}:=zk9 (lp (zs9 (ρ:=ρ)))
def am1{ρ:Type}:=zk9 (zm9 (ρ:=ρ))
theorem asa{ρ:Type}:am1 (ρ:=ρ)=ams:=congrArg zk9 ze9
def ag0{ρ:Type}(a:List Int)(k:(List Int)→Option ρ):Option ρ:=am1 bp6 0 a [0,0,0,0,0,0,0,0,0,0,0,0,0,0,0,0,0,0,0,0,0,0,0,0,0] fun c d b e=>k b
def jk{ρ:Type}:=shut (ag0 (ρ:=ρ))
theorem amr{ρ:Type}(a:List Int)(k:(List Int)→Option ρ):jk a k=ag0 a k:=by unfold jk;rw[cu]

def ahb{ρ:Type}(c:Int)(b:List Int)(a:Int)(g:Bool)(k:Int→(List Int)→Int→Bool→Option ρ):Option ρ:=br (c==4) (br (decide (0≤Aa.wrap (a.tdiv 8))) (br (decide (Aa.wrap (a.tdiv 8)<(↑25:Int))) (br (decide (Aa.wrap (8*a.tmod 8)<0)) none (br (decide (0≤Aa.wrap (a.tdiv 8))) (br (decide (Aa.wrap (a.tdiv 8)<(↑25:Int))) (oo c fun d=>br (decide (0≤Aa.wrap ((Aa.wrap (d-1)).tdiv 8))) (br (decide (Aa.wrap ((Aa.wrap (d-1)).tdiv 8)<(↑25:Int))) (br (decide (Aa.wrap (8*(Aa.wrap (d-1)).tmod 8)<0)) none (br (decide (0≤Aa.wrap ((Aa.wrap (d-1)).tdiv 8))) (br (decide (Aa.wrap ((Aa.wrap (d-1)).tdiv 8)<(↑25:Int))) (jk ((b.set (Aa.wrap (a.tdiv 8)).toNat (bits BinOp.xor Ab (b.getD (Aa.wrap (a.tdiv 8)).toNat 0) (Ab.wrap (Ab.wrap 6*2^min (Aa.wrap (8*a.tmod 8)).toNat 64)))).set (Aa.wrap ((Aa.wrap (d-1)).tdiv 8)).toNat (bits BinOp.xor Ab ((b.set (Aa.wrap (a.tdiv 8)).toNat (bits BinOp.xor Ab (b.getD (Aa.wrap (a.tdiv 8)).toNat 0) (Ab.wrap (Ab.wrap 6*2^min (Aa.wrap (8*a.tmod 8)).toNat 64)))).getD (Aa.wrap ((Aa.wrap (d-1)).tdiv 8)).toNat 0) (Ab.wrap (Ab.wrap 128*2^min (Aa.wrap (8*(Aa.wrap (d-1)).tmod 8)).toNat 64)))) fun h=>k c h 0 true) none) none)) none) none) none) none)) none) none) (br (c==5) (br (decide (0≤Aa.wrap (a.tdiv 8))) (br (decide (Aa.wrap (a.tdiv 8)<(↑25:Int))) (br (decide (Aa.wrap (8*a.tmod 8)<0)) none (br (decide (0≤Aa.wrap (a.tdiv 8))) (br (decide (Aa.wrap (a.tdiv 8)<(↑25:Int))) (oo c fun e=>br (decide (0≤Aa.wrap ((Aa.wrap (e-1)).tdiv 8))) (br (decide (Aa.wrap ((Aa.wrap (e-1)).tdiv 8)<(↑25:Int))) (br (decide (Aa.wrap (8*(Aa.wrap (e-1)).tmod 8)<0)) none (br (decide (0≤Aa.wrap ((Aa.wrap (e-1)).tdiv 8))) (br (decide (Aa.wrap ((Aa.wrap (e-1)).tdiv 8)<(↑25:Int))) (jk ((b.set (Aa.wrap (a.tdiv 8)).toNat (bits BinOp.xor Ab (b.getD (Aa.wrap (a.tdiv 8)).toNat 0) (Ab.wrap (Ab.wrap 6*2^min (Aa.wrap (8*a.tmod 8)).toNat 64)))).set (Aa.wrap ((Aa.wrap (e-1)).tdiv 8)).toNat (bits BinOp.xor Ab ((b.set (Aa.wrap (a.tdiv 8)).toNat (bits BinOp.xor Ab (b.getD (Aa.wrap (a.tdiv 8)).toNat 0) (Ab.wrap (Ab.wrap 6*2^min (Aa.wrap (8*a.tmod 8)).toNat 64)))).getD (Aa.wrap ((Aa.wrap (e-1)).tdiv 8)).toNat 0) (Ab.wrap (Ab.wrap 128*2^min (Aa.wrap (8*(Aa.wrap (e-1)).tmod 8)).toNat 64)))) fun i=>k c i 0 true) none) none)) none) none) none) none)) none) none) (br (decide (0≤Aa.wrap (a.tdiv 8))) (br (decide (Aa.wrap (a.tdiv 8)<(↑25:Int))) (br (decide (Aa.wrap (8*a.tmod 8)<0)) none (br (decide (0≤Aa.wrap (a.tdiv 8))) (br (decide (Aa.wrap (a.tdiv 8)<(↑25:Int))) (oo c fun f=>br (decide (0≤Aa.wrap ((Aa.wrap (f-1)).tdiv 8))) (br (decide (Aa.wrap ((Aa.wrap (f-1)).tdiv 8)<(↑25:Int))) (br (decide (Aa.wrap (8*(Aa.wrap (f-1)).tmod 8)<0)) none (br (decide (0≤Aa.wrap ((Aa.wrap (f-1)).tdiv 8))) (br (decide (Aa.wrap ((Aa.wrap (f-1)).tdiv 8)<(↑25:Int))) (jk ((b.set (Aa.wrap (a.tdiv 8)).toNat (bits BinOp.xor Ab (b.getD (Aa.wrap (a.tdiv 8)).toNat 0) (Ab.wrap (Ab.wrap 31*2^min (Aa.wrap (8*a.tmod 8)).toNat 64)))).set (Aa.wrap ((Aa.wrap (f-1)).tdiv 8)).toNat (bits BinOp.xor Ab ((b.set (Aa.wrap (a.tdiv 8)).toNat (bits BinOp.xor Ab (b.getD (Aa.wrap (a.tdiv 8)).toNat 0) (Ab.wrap (Ab.wrap 31*2^min (Aa.wrap (8*a.tmod 8)).toNat 64)))).getD (Aa.wrap ((Aa.wrap (f-1)).tdiv 8)).toNat 0) (Ab.wrap (Ab.wrap 128*2^min (Aa.wrap (8*(Aa.wrap (f-1)).tmod 8)).toNat 64)))) fun j=>k c j 0 true) none) none)) none) none) none) none)) none) none))
def y7{ρ:Type}:=shut (ahb (ρ:=ρ))
theorem apo{ρ:Type}(b:Int)(a:List Int)(d:Int)(c:Bool)(k:Int→(List Int)→Int→Bool→Option ρ):y7 b a d c k=ahb b a d c k:=by unfold y7;rw[cu]

abbrev ce2(ρ:Type):=Int→Int→Int→(List Int)→Int→Bool→Int→(List Int)→Int→Bool→(List Int)→Option ρ
def ah0{ρ:Type}(j b c:Int)(d:List Int)(a:Int)(e:Bool)(f:Int)(g:List Int)(h:Int)(i:Bool)(k:List Int)(nx m:ce2 ρ):Option ρ:=br (decide (b<j)) (oo c fun n=>br (a==n) (jk d fun l=>br (decide (0≤b)) (br (decide (b<(↑k.length:Int))) (nx j (Aa.wrap (b+1)) c l (Aa.wrap (0+1)) e f g h i (k.set b.toNat (Ag.wrap ((l.getD 0 0).fdiv (2^0))))) none) none) (br (decide (0≤Aa.wrap (a.tdiv 8))) (br (decide (Aa.wrap (a.tdiv 8)<(↑25:Int))) (br (decide (Aa.wrap (8*a.tmod 8)<0)) none (br (decide (0≤b)) (br (decide (b<(↑k.length:Int))) (nx j (Aa.wrap (b+1)) c d (Aa.wrap (a+1)) e f g h i (k.set b.toNat (Ag.wrap ((d.getD (Aa.wrap (a.tdiv 8)).toNat 0).fdiv (2^min (Aa.wrap (8*a.tmod 8)).toNat 64))))) none) none)) none) none)) (m j b c d a e f g h i k)
abbrev b34:=Int×Int×Int×(List Int)×Int×Bool×Int×(List Int)×Int×Bool×(List Int)
abbrev cdi:=b34
def ceh{ρ:Type}(f:b34→Option ρ):ce2 ρ:=fun j k a b c d e g h i l=>f (j,k,a,b,c,d,e,g,h,i,l)
def b1z{ρ:Type}:aed b34 cdi ρ:=fun (i,j,a,b,c,d,e,f,g,h,k) next ex=>ah0 i j a b c d e f g h k (ceh next) (ceh ex)
def cc2{ρ:Type}:=shut (lp (b1z (ρ:=ρ)))
theorem cht{ρ:Type}:cc2 (ρ:=ρ)=lp b1z:=cu _
def b7v{ρ:Type}(f:ad4 b34 cdi ρ)(j k a:Int)(b:List Int)(c:Int)(d:Bool)(e:Int)(g:List Int)(h:Int)(i:Bool)(l:List Int)(m:ce2 ρ):Option ρ:=f (j,k,a,b,c,d,e,g,h,i,l) (fun (j,k,a,b,c,d,e,g,h,i,l)=>m j k a b c d e g h i l)
def anb{ρ:Type}:=b7v (lp (b1z (ρ:=ρ)))
def aei{ρ:Type}:=b7v (cc2 (ρ:=ρ))
theorem asb{ρ:Type}:aei (ρ:=ρ)=anb:=congrArg b7v cht
def af7{ρ:Type}(c:Int)(a:List Int)(e:Int)(b:Bool)(d:Int)(k:Int→(List Int)→Int→Bool→(List Int)→Option ρ):Option ρ:=br (decide (d<0)) (k c a e b []) (br (!b) (y7 c a e b fun m n o p=>br (decide (0≤d)) (br (decide (d≤d)) (br (decide (d*(↑1:Int)≤(↑140737488355328:Int))) (aei (↑(Af d.toNat (0:Int)).length:Int) 0 m n o p 0 [0,0,0,0,0,0,0,0,0,0,0,0,0,0,0,0,0,0,0,0,0,0,0,0,0] 0 false (Af d.toNat (0:Int)) fun H I q r s t u v w y f=>k q r s t f) none) none) none) (br (decide (0≤d)) (br (decide (d≤d)) (br (decide (d*(↑1:Int)≤(↑140737488355328:Int))) (aei (↑(Af d.toNat (0:Int)).length:Int) 0 c a e b 0 [0,0,0,0,0,0,0,0,0,0,0,0,0,0,0,0,0,0,0,0,0,0,0,0,0] 0 false (Af d.toNat (0:Int)) fun z A g h i j B C F G l=>k g h i j l) none) none) none))
def pq{ρ:Type}:=shut (af7 (ρ:=ρ))
theorem ane{ρ:Type}(b:Int)(a:List Int)(d:Int)(c:Bool)(e:Int)(k:Int→(List Int)→Int→Bool→(List Int)→Option ρ):pq b a d c e k=af7 b a d c e k:=by unfold pq;rw[cu]

abbrev cen(ρ:Type):=(List Int)→Int→Int→Int→Int→(List Int)→Int→Bool→Int→(List Int)→Int→Bool→Option ρ
def ai0{ρ:Type}(k:List Int)(l j b d:Int)(c:List Int)(a:Int)(e:Bool)(f:Int)(g:List Int)(h:Int)(i:Bool)(nx m:cen ρ):Option ρ:=br (decide (b<j)) (br (decide (0≤b)) (br (decide (b<(↑k.length:Int))) (br (decide (0≤Aa.wrap (a.tdiv 8))) (br (decide (Aa.wrap (a.tdiv 8)<(↑25:Int))) (br (decide (Aa.wrap (8*a.tmod 8)<0)) none (br (decide (0≤Aa.wrap (a.tdiv 8))) (br (decide (Aa.wrap (a.tdiv 8)<(↑25:Int))) (br (Aa.wrap (a+1)==l) (jk (c.set (Aa.wrap (a.tdiv 8)).toNat (bits BinOp.xor Ab (c.getD (Aa.wrap (a.tdiv 8)).toNat 0) (Ab.wrap (Ab.wrap (k.getD b.toNat 0)*2^min (Aa.wrap (8*a.tmod 8)).toNat 64)))) fun n=>nx k l j (Aa.wrap (b+1)) d n 0 e f g h i) (nx k l j (Aa.wrap (b+1)) d (c.set (Aa.wrap (a.tdiv 8)).toNat (bits BinOp.xor Ab (c.getD (Aa.wrap (a.tdiv 8)).toNat 0) (Ab.wrap (Ab.wrap (k.getD b.toNat 0)*2^min (Aa.wrap (8*a.tmod 8)).toNat 64)))) (Aa.wrap (a+1)) e f g h i)) none) none)) none) none) none) none) (m k l j b d c a e f g h i)
abbrev b1m:=(List Int)×Int×Int×Int×Int×(List Int)×Int×Bool×Int×(List Int)×Int×Bool
abbrev b8u:=b1m
def b93{ρ:Type}(f:b1m→Option ρ):cen ρ:=fun l m j k a b c d e g h i=>f (l,m,j,k,a,b,c,d,e,g,h,i)
def b1j{ρ:Type}:aed b1m b8u ρ:=fun (k,l,i,j,a,b,c,d,e,f,g,h) next ex=>ai0 k l i j a b c d e f g h (b93 next) (b93 ex)
def cge{ρ:Type}:=shut (lp (b1j (ρ:=ρ)))
theorem cg6{ρ:Type}:cge (ρ:=ρ)=lp b1j:=cu _
def b70{ρ:Type}(f:ad4 b1m b8u ρ)(l:List Int)(m j k a:Int)(b:List Int)(c:Int)(d:Bool)(e:Int)(g:List Int)(h:Int)(i:Bool)(n:cen ρ):Option ρ:=f (l,m,j,k,a,b,c,d,e,g,h,i) (fun (l,m,j,k,a,b,c,d,e,g,h,i)=>n l m j k a b c d e g h i)
def ao0{ρ:Type}:=b70 (lp (b1j (ρ:=ρ)))
def ao5{ρ:Type}:=b70 (cge (ρ:=ρ))
theorem auo{ρ:Type}:ao5 (ρ:=ρ)=ao0:=congrArg b70 cg6
def ag9{ρ:Type}(a:Int)(b:List Int)(d:Int)(c:Bool)(e:List Int)(k:Int→(List Int)→Int→Bool→Option ρ):Option ρ:=br c (k a b d c) (oo a fun f=>ao5 e f (↑e.length:Int) 0 a b d c 0 [0,0,0,0,0,0,0,0,0,0,0,0,0,0,0,0,0,0,0,0,0,0,0,0,0] 0 false fun o p q r g h i j s l m n=>k g h i j)
def om{ρ:Type}:=shut (ag9 (ρ:=ρ))
theorem apk{ρ:Type}(b:Int)(a:List Int)(d:Int)(c:Bool)(e:List Int)(k:Int→(List Int)→Int→Bool→Option ρ):om b a d c e k=ag9 b a d c e k:=by unfold om;rw[cu]

def amd{ρ:Type}(d:Int)(e:List Int)(a:Int)(k:(List Int)→Int→Option ρ):Option ρ:=ab8 d fun f g h i b=>br (b !=0) (k [] b) (br (decide (a<0)) (k [] 8) (br (decide (a>16777216)) (k [] 8) (om f g h i e fun j l m n=>pq j l m n a fun r o p q c=>k c 0)))
def zq{ρ:Type}:=shut (amd (ρ:=ρ))
theorem awl{ρ:Type}(a:Int)(b:List Int)(c:Int)(k:(List Int)→Int→Option ρ):zq a b c k=amd a b c k:=by unfold zq;rw[cu]

def ahx{ρ:Type}(a:Int)(b:List (List Int))(k:(List Int)→Option ρ):Option ρ:=jd b fun c=>zq 7 c a fun d e=>k d
def oq{ρ:Type}:=shut (ahx (ρ:=ρ))
theorem apb{ρ:Type}(a:Int)(b:List (List Int))(k:(List Int)→Option ρ):oq a b k=ahx a b k:=by unfold oq;rw[cu]

def amy{ρ:Type}(c d e:List Int)(a f g h i:Int)(b:Bool)(k:(List Int)→Option ρ):Option ρ:=oq a [c,d,e] fun j=>k j
def uq{ρ:Type}:=shut (amy (ρ:=ρ))
theorem azl{ρ:Type}(g:List Int)(h:List Int)(i:List Int)(b:Int)(c:Int)(d:Int)(e:Int)(f:Int)(a:Bool)(k:(List Int)→Option ρ):uq g h i b c d e f a k=amy g h i b c d e f a k:=by unfold uq;rw[cu]

def ahi{ρ:Type}(a:Int)(b c d:List Int)(k:(List Int)→Option ρ):Option ρ:=oq a [b,c,d] fun e=>k e
def qo{ρ:Type}:=shut (ahi (ρ:=ρ))
theorem apj{ρ:Type}(a:Int)(b:List Int)(c:List Int)(d:List Int)(k:(List Int)→Option ρ):qo a b c d k=ahi a b c d k:=by unfold qo;rw[cu]

def al5{ρ:Type}(b c d e f:Int)(a:Bool)(k:Int→Int→Int→Int→Int→Bool→Int→Int→Int→Int→Int→Bool→Option ρ):Option ρ:=k b c d e f a b c d e f a
def afs{ρ:Type}:=shut (al5 (ρ:=ρ))
theorem aws{ρ:Type}(b:Int)(c:Int)(d:Int)(e:Int)(f:Int)(a:Bool)(k:Int→Int→Int→Int→Int→Bool→Int→Int→Int→Int→Int→Bool→Option ρ):afs b c d e f a k=al5 b c d e f a k:=by unfold afs;rw[cu]

def aoq{ρ:Type}(a:Int)(k:Bool→Option ρ):Option ρ:=br (decide (a≥1)) (k (decide (a≤5))) (k false)
def afz{ρ:Type}:=shut (aoq (ρ:=ρ))
theorem aym{ρ:Type}(a:Int)(k:Bool→Option ρ):afz a k=aoq a k:=by unfold afz;rw[cu]

def arw{ρ:Type}(a:Int)(k:Int→Option ρ):Option ρ:=br (decide (a<0)) (k 0) (br (decide (a≥8)) (k 0) (br (decide (0≤a)) (br (decide (a<(↑8:Int))) (br (decide (a.toNat*2+0<16)) (k ([(0:Int),(0:Int),(32:Int),(64:Int),(48:Int),(128:Int),(64:Int),(128:Int),(32:Int),(136:Int),(64:Int),(72:Int),(32:Int),(168:Int),(64:Int),(136:Int)].getD (a.toNat*2+0) 0)) none) none) none))
def aeh{ρ:Type}:=shut (arw (ρ:=ρ))
theorem bca{ρ:Type}(a:Int)(k:Int→Option ρ):aeh a k=arw a k:=by unfold aeh;rw[cu]

def avs{ρ:Type}(a:Int)(k:(List Int)→Bool→Option ρ):Option ρ:=br (a==1) (k [1779033703,3144134277,1013904242,2773480762,1359893119,2600822924,528734635,1541459225] true) (br (a==2) (k [14680500436340154072,7105036623409894663,10473403895298186519,1526699215303891257,7436329637833083697,10282925794625328401,15784041429090275239,5167115440072839076] true) (br (a==3) (k [7640891576956012808,13503953896175478587,4354685564936845355,11912009170470909681,5840696475078001361,11170449401992604703,2270897969802886507,6620516959819538809] true) (k [0,0,0,0,0,0,0,0] false)))
def agr{ρ:Type}:=shut (avs (ρ:=ρ))
theorem ayi{ρ:Type}(a:Int)(k:(List Int)→Bool→Option ρ):agr a k=avs a k:=by unfold agr;rw[cu]

def au3{ρ:Type}(a:Int)(k:Int→(List Int)→(List Int)→Int→Int→Option ρ):Option ρ:=agr a fun b c=>br (!c) (k 0 [0,0,0,0,0,0,0,0] [] 0 9) (k a b [] 0 0)
def afn{ρ:Type}:=shut (au3 (ρ:=ρ))
theorem bes{ρ:Type}(a:Int)(k:Int→(List Int)→(List Int)→Int→Int→Option ρ):afn a k=au3 a k:=by unfold afn;rw[cu]

abbrev b87(ρ:Type):=Int→Int→Int→(List Int)→Option ρ
def axh{ρ:Type}(c b a:Int)(d:List Int)(nx e:b87 ρ):Option ρ:=br (decide (a<b)) (br (decide (Aa.wrap (8*a)<0)) none (br (decide (0≤a)) (br (decide (a<(↑d.length:Int))) (nx c b (Aa.wrap (a+1)) (d.set a.toNat (Ag.wrap (c.fdiv (2^min (Aa.wrap (8*a)).toNat 64))))) none) none)) (e c b a d)
abbrev b2t:=Int×Int×Int×(List Int)
abbrev b9l:=b2t
def cao{ρ:Type}(f:b2t→Option ρ):b87 ρ:=fun c a b d=>f (c,a,b,d)
def zs12{ρ:Type}:aed b2t b9l ρ:=fun (c,a,b,d) next ex=>axh c a b d (cao next) (cao ex)
def ccm{ρ:Type}:=shut (lp (zs12 (ρ:=ρ)))
theorem cgn{ρ:Type}:ccm (ρ:=ρ)=lp zs12:=cu _
def b7k{ρ:Type}(f:ad4 b2t b9l ρ)(c a b:Int)(d:List Int)(e:b87 ρ):Option ρ:=f (c,a,b,d) (fun (c,a,b,d)=>e c a b d)
def be5{ρ:Type}:=b7k (lp (zs12 (ρ:=ρ)))
def bez{ρ:Type}:=b7k (ccm (ρ:=ρ))
theorem bhe{ρ:Type}:bez (ρ:=ρ)=be5:=congrArg b7k cgn
def auc{ρ:Type}(b a:Int)(k:(List Int)→Option ρ):Option ρ:=br (decide (a<0)) (k []) (br (decide (a>65536)) (k []) (br (decide (0≤a)) (br (decide (a≤a)) (br (decide (a*(↑1:Int)≤(↑140737488355328:Int))) (bez b (bif decide (8<a) then 8 else a) 0 (Af a.toNat (0:Int)) fun d e f c=>k c) none) none) none))
def ahv{ρ:Type}:=shut (auc (ρ:=ρ))
theorem bga{ρ:Type}(a:Int)(b:Int)(k:(List Int)→Option ρ):ahv a b k=auc a b k:=by unfold ahv;rw[cu]

abbrev ccz(ρ:Type):=Int→Int→(List Int)→Option ρ
def aq6{ρ:Type}(a b:Int)(c:List Int)(nx d:ccz ρ):Option ρ:=br (decide (a<b)) (br (decide (0≤b)) (br (decide (b<(↑c.length:Int))) (br (decide (0≤a)) (br (decide (a<(↑c.length:Int))) (br (decide (0≤a)) (br (decide (a<(↑c.length:Int))) (br (decide (0≤b)) (br (decide (b<(↑(c.set a.toNat (c.getD b.toNat 0)).length:Int))) (nx (Aa.wrap (a+1)) (Aa.wrap (b-1)) ((c.set a.toNat (c.getD b.toNat 0)).set b.toNat (c.getD a.toNat 0))) none) none) none) none) none) none) none) none) (d a b c)
abbrev b3o:=Int×Int×(List Int)
abbrev b9a:=b3o
def car{ρ:Type}(f:b3o→Option ρ):ccz ρ:=fun a b c=>f (a,b,c)
def b36{ρ:Type}:aed b3o b9a ρ:=fun (a,b,c) next ex=>aq6 a b c (car next) (car ex)
def cdc{ρ:Type}:=shut (lp (b36 (ρ:=ρ)))
theorem ch5{ρ:Type}:cdc (ρ:=ρ)=lp b36:=cu _
def b7h{ρ:Type}(f:ad4 b3o b9a ρ)(a b:Int)(c:List Int)(d:ccz ρ):Option ρ:=f (a,b,c) (fun (a,b,c)=>d a b c)
def ay1{ρ:Type}:=b7h (lp (b36 (ρ:=ρ)))
def ayf{ρ:Type}:=b7h (cdc (ρ:=ρ))
theorem ba1{ρ:Type}:ayf (ρ:=ρ)=ay1:=congrArg b7h ch5
def auw{ρ:Type}(b c:Int)(k:(List Int)→Option ρ):Option ρ:=ahv b c fun a=>ayf 0 (Aa.wrap ((↑a.length:Int)-1)) a fun e f d=>k d
def xq{ρ:Type}:=shut (auw (ρ:=ρ))
theorem be0{ρ:Type}(a:Int)(b:Int)(k:(List Int)→Option ρ):xq a b k=auw a b k:=by unfold xq;rw[cu]

abbrev cbn(ρ:Type):=Int→(List Int)→Int→Int→Option ρ
def aui{ρ:Type}(d:Int)(b:List Int)(c a:Int)(nx e:cbn ρ):Option ρ:=br (decide (a<c)) (br (decide (0≤a)) (br (decide (a<(↑b.length:Int))) (nx (bits BinOp.or Ab (Ab.wrap (d*2^8)) (Ab.wrap (b.getD a.toNat 0))) b c (Aa.wrap (a+1))) none) none) (e d b c a)
abbrev b5n:=Int×(List Int)×Int×Int
abbrev cf7:=b5n
def ca9{ρ:Type}(f:b5n→Option ρ):cbn ρ:=fun a b c d=>f (a,b,c,d)
def b5t{ρ:Type}:aed b5n cf7 ρ:=fun (a,b,c,d) next ex=>aui a b c d (ca9 next) (ca9 ex)
def cch{ρ:Type}:=shut (lp (b5t (ρ:=ρ)))
theorem cik{ρ:Type}:cch (ρ:=ρ)=lp b5t:=cu _
def b7x{ρ:Type}(f:ad4 b5n cf7 ρ)(a:Int)(b:List Int)(c d:Int)(e:cbn ρ):Option ρ:=f (a,b,c,d) (fun (a,b,c,d)=>e a b c d)
def ba3{ρ:Type}:=b7x (lp (b5t (ρ:=ρ)))
def bbm{ρ:Type}:=b7x (cch (ρ:=ρ))
theorem bdv{ρ:Type}:bbm (ρ:=ρ)=ba3:=congrArg b7x cik
def aq3{ρ:Type}(a:List Int)(k:Int→Option ρ):Option ρ:=bbm 0 a (↑a.length:Int) 0 fun b c d e=>k b
def uy{ρ:Type}:=shut (aq3 (ρ:=ρ))
theorem bdh{ρ:Type}(a:List Int)(k:Int→Option ρ):uy a k=aq3 a k:=by unfold uy;rw[cu]

def aj8{ρ:Type}(a:Int)(k:Int→Option ρ):Option ρ:=br (decide (0≤a)) (br (decide (a<(↑64:Int))) (k (roots256.getD a.toNat 0)) none) none
def qm{ρ:Type}:=shut (aj8 (ρ:=ρ))
theorem as3{ρ:Type}(a:Int)(k:Int→Option ρ):qm a k=aj8 a k:=by unfold qm;rw[cu]

def aaj{ρ:Type}(a g:Int)(b c d e:List Int)(h f:Int)(k:Int→Option ρ):Option ρ:=br (decide (f<0)) none (br (decide (Aa.wrap (a-f)<0)) none (k (bits BinOp.or Ad (h.fdiv (2^min f.toNat 32)) (Ad.wrap (h*2^min (Aa.wrap (a-f)).toNat 32)))))
def dz{ρ:Type}:=shut (aaj (ρ:=ρ))
theorem adf{ρ:Type}(f:Int)(e:Int)(a:List Int)(b:List Int)(c:List Int)(d:List Int)(g:Int)(h:Int)(k:Int→Option ρ):dz f e a b c d g h k=aaj f e a b c d g h k:=by unfold dz;rw[cu]

def zl{ρ:Type}(f e:Int)(a b c d:List Int)(g h:Int)(k:Int→Option ρ):Option ρ:=br (decide (h=(↑0:Int))) (dz f e a b c d g (a.getD 0 0) fun l=>dz f e a b c d g (a.getD 1 0) fun m=>dz f e a b c d g (a.getD 2 0) fun n=>k (bits BinOp.xor Ad (bits BinOp.xor Ad l m) n)) (br (decide (h=(↑1:Int))) (dz f e a b c d g (b.getD 0 0) fun o=>dz f e a b c d g (b.getD 1 0) fun p=>dz f e a b c d g (b.getD 2 0) fun q=>k (bits BinOp.xor Ad (bits BinOp.xor Ad o p) q)) (br (decide (h=(↑2:Int))) (dz f e a b c d g (c.getD 0 0) fun r=>dz f e a b c d g (c.getD 1 0) fun s=>dz f e a b c d g (c.getD 2 0) fun t=>k (bits BinOp.xor Ad (bits BinOp.xor Ad r s) t)) (br (decide (h=(↑3:Int))) (dz f e a b c d g (d.getD 0 0) fun u=>dz f e a b c d g (d.getD 1 0) fun i=>dz f e a b c d g (d.getD 2 0) fun j=>k (bits BinOp.xor Ad (bits BinOp.xor Ad u i) j)) none)))
def ko{ρ:Type}:=shut (zl (ρ:=ρ))
theorem abu{ρ:Type}(f:Int)(e:Int)(a:List Int)(b:List Int)(c:List Int)(d:List Int)(g:Int)(h:Int)(k:Int→Option ρ):ko f e a b c d g h k=zl f e a b c d g h k:=by unfold ko;rw[cu]

def aad{ρ:Type}(f e:Int)(a b c d:List Int)(g h:Int)(k:Int→Option ρ):Option ρ:=br (decide (h=(↑0:Int))) (dz f e a b c d g (a.getD 0 (0:Int)) fun i=>dz f e a b c d g (a.getD 1 (0:Int)) fun j=>br (decide (a.getD 2 (0:Int)<(0:Int))) none (k (bits BinOp.xor Ad (bits BinOp.xor Ad i j) (g.fdiv ((2:Int)^min (a.getD 2 (0:Int)).toNat 32))))) (br (decide (h=(↑1:Int))) (dz f e a b c d g (b.getD 0 (0:Int)) fun l=>dz f e a b c d g (b.getD 1 (0:Int)) fun m=>br (decide (b.getD 2 (0:Int)<(0:Int))) none (k (bits BinOp.xor Ad (bits BinOp.xor Ad l m) (g.fdiv ((2:Int)^min (b.getD 2 (0:Int)).toNat 32))))) (br (decide (h=(↑2:Int))) (dz f e a b c d g (c.getD 0 (0:Int)) fun n=>dz f e a b c d g (c.getD 1 (0:Int)) fun o=>br (decide (c.getD 2 (0:Int)<(0:Int))) none (k (bits BinOp.xor Ad (bits BinOp.xor Ad n o) (g.fdiv ((2:Int)^min (c.getD 2 (0:Int)).toNat 32))))) (br (decide (h=(↑3:Int))) (dz f e a b c d g (d.getD 0 (0:Int)) fun p=>dz f e a b c d g (d.getD 1 (0:Int)) fun q=>br (decide (d.getD 2 (0:Int)<(0:Int))) none (k (bits BinOp.xor Ad (bits BinOp.xor Ad p q) (g.fdiv ((2:Int)^min (d.getD 2 (0:Int)).toNat 32))))) none)))
def mg{ρ:Type}:=shut (aad (ρ:=ρ))
theorem ab9{ρ:Type}(f:Int)(e:Int)(a:List Int)(b:List Int)(c:List Int)(d:List Int)(g:Int)(h:Int)(k:Int→Option ρ):mg f e a b c d g h k=aad f e a b c d g h k:=by unfold mg;rw[cu]

abbrev cd9(ρ:Type):=(List Int)→Int→Int→Int→Int→(List Int)→(List Int)→(List Int)→(List Int)→(List Int)→(List Int)→(List Int)→Option ρ
def abf{ρ:Type}(l:List Int)(b a c d:Int)(e f g h i j k:List Int)(nx m:cd9 ρ):Option ρ:=br (decide (a<16)) (br (decide (0≤Aa.wrap (a*b))) (br (decide (Aa.wrap (a*b)≤Aa.wrap (Aa.wrap (a+1)*b))) (br (decide (Aa.wrap (Aa.wrap (a+1)*b)≤(↑l.length:Int))) (uy (Ae (Aa.wrap (a*b)).toNat (Ac (Aa.wrap (Aa.wrap (a+1)*b)).toNat l)) fun n=>br (decide (0≤a)) (br (decide (a<(↑16:Int))) (nx l b (Aa.wrap (a+1)) c d e f g h i j (k.set a.toNat (Ad.wrap n))) none) none) none) none) none) (m l b a c d e f g h i j k)
abbrev b5e:=(List Int)×Int×Int×Int×Int×(List Int)×(List Int)×(List Int)×(List Int)×(List Int)×(List Int)×(List Int)
abbrev ca0:=b5e
def cet{ρ:Type}(f:b5e→Option ρ):cd9 ρ:=fun l m k a b c d e g h i j=>f (l,m,k,a,b,c,d,e,g,h,i,j)
def b4m{ρ:Type}:aed b5e ca0 ρ:=fun (k,l,j,a,b,c,d,e,f,g,h,i) next ex=>abf k l j a b c d e f g h i (cet next) (cet ex)
def b8i{ρ:Type}:=shut (lp (b4m (ρ:=ρ)))
theorem cg8{ρ:Type}:b8i (ρ:=ρ)=lp b4m:=cu _
def b59{ρ:Type}(f:ad4 b5e ca0 ρ)(l:List Int)(m k a b:Int)(c d e g h i j:List Int)(n:cd9 ρ):Option ρ:=f (l,m,k,a,b,c,d,e,g,h,i,j) (fun (l,m,k,a,b,c,d,e,g,h,i,j)=>n l m k a b c d e g h i j)
def aez{ρ:Type}:=b59 (lp (b4m (ρ:=ρ)))
def abe{ρ:Type}:=b59 (b8i (ρ:=ρ))
theorem aiz{ρ:Type}:abe (ρ:=ρ)=aez:=congrArg b59 cg8
abbrev cdu(ρ:Type):=Int→Int→(List Int)→(List Int)→(List Int)→Int→Int→(List Int)→(List Int)→(List Int)→(List Int)→(List Int)→Option ρ
def aaz{ρ:Type}(j b:Int)(c k l:List Int)(d e:Int)(f g h i a:List Int)(nx o:cdu ρ):Option ρ:=br (decide (b<j)) (br (decide (0≤b.tmod 16)) (br (decide (b.tmod 16<(↑16:Int))) (ko d e f g h i (a.getD 4 0) 3 fun m=>qm b fun n=>ko d e f g h i (a.getD 0 0) 2 fun p=>br (decide (0≤(Aa.wrap (b+1)).tmod 16)) (br (decide ((Aa.wrap (b+1)).tmod 16<(↑16:Int))) (mg d e f g h i (c.getD ((Aa.wrap (b+1)).tmod 16).toNat 0) 0 fun q=>br (decide (0≤(Aa.wrap (b+9)).tmod 16)) (br (decide ((Aa.wrap (b+9)).tmod 16<(↑16:Int))) (br (decide (0≤(Aa.wrap (b+14)).tmod 16)) (br (decide ((Aa.wrap (b+14)).tmod 16<(↑16:Int))) (mg d e f g h i (c.getD ((Aa.wrap (b+14)).tmod 16).toNat 0) 1 fun r=>br (decide (0≤b.tmod 16)) (br (decide (b.tmod 16<(↑16:Int))) (nx j (Aa.wrap (b+1)) (c.set (b.tmod 16).toNat (Ad.wrap (Ad.wrap (Ad.wrap (c.getD (b.tmod 16).toNat 0+q)+c.getD ((Aa.wrap (b+9)).tmod 16).toNat 0)+r))) k l d e f g h i ((((Ac 1 a).append (Ac 7 (Ac 7 (Ae 0 a))++Ae (1+min 7 (Ac 7 (Ae 0 a)).length) a)).set 4 (Ad.wrap (((Ac 1 a).append (Ac 7 (Ac 7 (Ae 0 a))++Ae (1+min 7 (Ac 7 (Ae 0 a)).length) a)).getD 4 0+Ad.wrap (Ad.wrap (Ad.wrap (Ad.wrap (a.getD 7 0+m)+bits BinOp.xor Ad (a.getD 6 0) (bits BinOp.and Ad (a.getD 4 0) (bits BinOp.xor Ad (a.getD 5 0) (a.getD 6 0))))+n)+c.getD (b.tmod 16).toNat 0)))).set 0 (Ad.wrap (Ad.wrap (Ad.wrap (Ad.wrap (Ad.wrap (a.getD 7 0+m)+bits BinOp.xor Ad (a.getD 6 0) (bits BinOp.and Ad (a.getD 4 0) (bits BinOp.xor Ad (a.getD 5 0) (a.getD 6 0))))+n)+c.getD (b.tmod 16).toNat 0)+Ad.wrap (p+bits BinOp.or Ad (bits BinOp.and Ad (a.getD 0 0) (a.getD 1 0)) (bits BinOp.and Ad (a.getD 2 0) (bits BinOp.or Ad (a.getD 0 0) (a.getD 1 0)))))))) none) none) none) none) none) none) none) none) none) none) (o j b c k l d e f g h i a)
abbrev b5k:=Int×Int×(List Int)×(List Int)×(List Int)×Int×Int×(List Int)×(List Int)×(List Int)×(List Int)×(List Int)
abbrev ccs:=b5k
def ccj{ρ:Type}(f:b5k→Option ρ):cdu ρ:=fun l m a b c d e g h i j k=>f (l,m,a,b,c,d,e,g,h,i,j,k)
def b21{ρ:Type}:aed b5k ccs ρ:=fun (k,l,a,b,c,d,e,f,g,h,i,j) next ex=>aaz k l a b c d e f g h i j (ccj next) (ccj ex)
def cct{ρ:Type}:=shut (lp (b21 (ρ:=ρ)))
theorem cgx{ρ:Type}:cct (ρ:=ρ)=lp b21:=cu _
def b7u{ρ:Type}(f:ad4 b5k ccs ρ)(l m:Int)(a b c:List Int)(d e:Int)(g h i j k:List Int)(n:cdu ρ):Option ρ:=f (l,m,a,b,c,d,e,g,h,i,j,k) (fun (l,m,a,b,c,d,e,g,h,i,j,k)=>n l m a b c d e g h i j k)
def adj{ρ:Type}:=b7u (lp (b21 (ρ:=ρ)))
def yw{ρ:Type}:=b7u (cct (ρ:=ρ))
theorem ain{ρ:Type}:yw (ρ:=ρ)=adj:=congrArg b7u cgx
abbrev caf(ρ:Type):=Int→(List Int)→(List Int)→(List Int)→Option ρ
def aat{ρ:Type}(a:Int)(b d c:List Int)(nx e:caf ρ):Option ρ:=br (decide (a<8)) (br (decide (0≤a)) (br (decide (a<(↑8:Int))) (br (decide (0≤a)) (br (decide (a<(↑8:Int))) (br (decide (0≤a)) (br (decide (a<(↑8:Int))) (nx (Aa.wrap (a+1)) b d (c.set a.toNat (Ad.wrap (c.getD a.toNat 0+b.getD a.toNat 0)))) none) none) none) none) none) none) (e a b d c)
abbrev b4y:=Int×(List Int)×(List Int)×(List Int)
abbrev ccd:=b4y
def cgc{ρ:Type}(f:b4y→Option ρ):caf ρ:=fun a b c d=>f (a,b,c,d)
def b5i{ρ:Type}:aed b4y ccd ρ:=fun (a,b,c,d) next ex=>aat a b c d (cgc next) (cgc ex)
def cd2{ρ:Type}:=shut (lp (b5i (ρ:=ρ)))
theorem chf{ρ:Type}:cd2 (ρ:=ρ)=lp b5i:=cu _
def b7o{ρ:Type}(f:ad4 b4y ccd ρ)(a:Int)(b c d:List Int)(e:caf ρ):Option ρ:=f (a,b,c,d) (fun (a,b,c,d)=>e a b c d)
def adn{ρ:Type}:=b7o (lp (b5i (ρ:=ρ)))
def yh{ρ:Type}:=b7o (cd2 (ρ:=ρ))
theorem aip{ρ:Type}:yh (ρ:=ρ)=adn:=congrArg b7o chf
def aa4{ρ:Type}(a f:Int)(b c d e p q:List Int)(k:(List Int)→Option ρ):Option ρ:=abe q (Aa.wrap (a.tdiv 8)) 0 a f b c d e p [0,0,0,0,0,0,0,0] [0,0,0,0,0,0,0,0,0,0,0,0,0,0,0,0] fun N O Q r g s t u v h i j=>yw g 0 j i h r g s t u v h fun w y z l m A B C F G H n=>yh 0 m l n fun I J M o=>k o
def oh{ρ:Type}:=shut (aa4 (ρ:=ρ))
theorem aew{ρ:Type}(f:Int)(e:Int)(a:List Int)(b:List Int)(c:List Int)(d:List Int)(g:List Int)(h:List Int)(k:(List Int)→Option ρ):oh f e a b c d g h k=aa4 f e a b c d g h k:=by unfold oh;rw[cu]

abbrev b8c(ρ:Type):=(List Int)→(List Int)→Int→Int→Int→(List Int)→(List Int)→(List Int)→(List Int)→(List Int)→(List Int)→(List Int)→Option ρ
def aec{ρ:Type}(l b:List Int)(a c d:Int)(e f g h i j k:List Int)(nx m:b8c ρ):Option ρ:=br (decide (a<8)) (br (decide (0≤a)) (br (decide (a<(↑8:Int))) (br (decide (0≤a)) (br (decide (a<(↑8:Int))) (nx l b (Aa.wrap (a+1)) c d e f g h i j (k.set a.toNat (Ad.wrap (b.getD a.toNat 0)))) none) none) none) none) (m l b a c d e f g h i j k)
abbrev b0t:=(List Int)×(List Int)×Int×Int×Int×(List Int)×(List Int)×(List Int)×(List Int)×(List Int)×(List Int)×(List Int)
abbrev cag:=b0t
def cdv{ρ:Type}(f:b0t→Option ρ):b8c ρ:=fun m k l a b c d e g h i j=>f (m,k,l,a,b,c,d,e,g,h,i,j)
def b2f{ρ:Type}:aed b0t cag ρ:=fun (l,j,k,a,b,c,d,e,f,g,h,i) next ex=>aec l j k a b c d e f g h i (cdv next) (cdv ex)
def cfp{ρ:Type}:=shut (lp (b2f (ρ:=ρ)))
theorem chu{ρ:Type}:cfp (ρ:=ρ)=lp b2f:=cu _
def b7l{ρ:Type}(f:ad4 b0t cag ρ)(m k:List Int)(l a b:Int)(c d e g h i j:List Int)(n:b8c ρ):Option ρ:=f (m,k,l,a,b,c,d,e,g,h,i,j) (fun (m,k,l,a,b,c,d,e,g,h,i,j)=>n m k l a b c d e g h i j)
def aie{ρ:Type}:=b7l (lp (b2f (ρ:=ρ)))
def adg{ρ:Type}:=b7l (cfp (ρ:=ρ))
theorem ang{ρ:Type}:adg (ρ:=ρ)=aie:=congrArg b7l chu
abbrev cfw(ρ:Type):=(List Int)→Int→(List Int)→(List Int)→(List Int)→Int→Int→(List Int)→(List Int)→(List Int)→(List Int)→Option ρ
def adv{ρ:Type}(b:List Int)(a:Int)(i j k:List Int)(c d:Int)(e f g h:List Int)(nx l:cfw ρ):Option ρ:=br (decide ((↑b.length:Int)≥a)) (br (decide (0≤a)) (br (decide (a≤(↑b.length:Int))) (oh c d e f g h i (Ae 0 (Ac a.toNat b)) fun m=>br (decide (0≤a)) (br (decide (a≤(↑b.length:Int))) (br (decide ((↑b.length:Int)≤(↑b.length:Int))) (nx (Ae a.toNat (Ac (↑b.length:Int).toNat b)) a m j k c d e f g h) none) none) none) none) none) (l b a i j k c d e f g h)
abbrev b4n:=(List Int)×Int×(List Int)×(List Int)×(List Int)×Int×Int×(List Int)×(List Int)×(List Int)×(List Int)
abbrev cc0:=b4n
def cd0{ρ:Type}(f:b4n→Option ρ):cfw ρ:=fun l k a b c d e g h i j=>f (l,k,a,b,c,d,e,g,h,i,j)
def b4d{ρ:Type}:aed b4n cc0 ρ:=fun (k,j,a,b,c,d,e,f,g,h,i) next ex=>adv k j a b c d e f g h i (cd0 next) (cd0 ex)
def cek{ρ:Type}:=shut (lp (b4d (ρ:=ρ)))
theorem cha{ρ:Type}:cek (ρ:=ρ)=lp b4d:=cu _
def b71{ρ:Type}(f:ad4 b4n cc0 ρ)(l:List Int)(k:Int)(a b c:List Int)(d e:Int)(g h i j:List Int)(m:cfw ρ):Option ρ:=f (l,k,a,b,c,d,e,g,h,i,j) (fun (l,k,a,b,c,d,e,g,h,i,j)=>m l k a b c d e g h i j)
def ail{ρ:Type}:=b71 (lp (b4d (ρ:=ρ)))
def adh{ρ:Type}:=b71 (cek (ρ:=ρ))
theorem amq{ρ:Type}:adh (ρ:=ρ)=ail:=congrArg b71 cha
abbrev cbw(ρ:Type):=(List Int)→(List Int)→Int→(List Int)→(List Int)→Option ρ
def ac7{ρ:Type}(e b:List Int)(a:Int)(c d:List Int)(nx f:cbw ρ):Option ρ:=br (decide (a<8)) (br (decide (0≤a)) (br (decide (a<(↑8:Int))) (br (decide (0≤a)) (br (decide (a<(↑8:Int))) (nx e b (Aa.wrap (a+1)) (c.set a.toNat (Ab.wrap (b.getD a.toNat 0))) d) none) none) none) none) (f e b a c d)
abbrev b2v:=(List Int)×(List Int)×Int×(List Int)×(List Int)
abbrev b89:=b2v
def ccx{ρ:Type}(f:b2v→Option ρ):cbw ρ:=fun e c d a b=>f (e,c,d,a,b)
def b57{ρ:Type}:aed b2v b89 ρ:=fun (e,c,d,a,b) next ex=>ac7 e c d a b (ccx next) (ccx ex)
def ca7{ρ:Type}:=shut (lp (b57 (ρ:=ρ)))
theorem chk{ρ:Type}:ca7 (ρ:=ρ)=lp b57:=cu _
def b68{ρ:Type}(f:ad4 b2v b89 ρ)(e c:List Int)(d:Int)(a b:List Int)(g:cbw ρ):Option ρ:=f (e,c,d,a,b) (fun (e,c,d,a,b)=>g e c d a b)
def ag6{ρ:Type}:=b68 (lp (b57 (ρ:=ρ)))
def ac6{ρ:Type}:=b68 (ca7 (ρ:=ρ))
theorem amo{ρ:Type}:ac6 (ρ:=ρ)=ag6:=congrArg b68 chk
def ac3{ρ:Type}(f e:Int)(a b c d g r:List Int)(k:(List Int)→(List Int)→Option ρ):Option ρ:=adg r g 0 f e a b c d g [0,0,0,0,0,0,0,0] [0,0,0,0,0,0,0,0] fun s O Q h t u v w y z i j=>adh s (Aa.wrap (h*2)) j i z h t u v w y fun l A m n o B C F G H I=>ac6 l m 0 o n fun p J M q N=>k q p
def rz{ρ:Type}:=shut (ac3 (ρ:=ρ))
theorem aif{ρ:Type}(f:Int)(e:Int)(a:List Int)(b:List Int)(c:List Int)(d:List Int)(g:List Int)(h:List Int)(k:(List Int)→(List Int)→Option ρ):rz f e a b c d g h k=ac3 f e a b c d g h k:=by unfold rz;rw[cu]

def avb{ρ:Type}(k:Int→Int→(List Int)→(List Int)→(List Int)→(List Int)→Option ρ):Option ρ:=k 32 64 [7,18,3] [17,19,10] [2,13,22] [6,11,25]
def adw{ρ:Type}:=shut (avb (ρ:=ρ))
theorem ay5{ρ:Type}  (k:Int→Int→(List Int)→(List Int)→(List Int)→(List Int)→Option ρ):adw  k=avb  k:=by unfold adw;rw[cu]

def ak0{ρ:Type}(a:Int)(k:Int→Option ρ):Option ρ:=br (decide (0≤a)) (br (decide (a<(↑80:Int))) (k (roots512.getD a.toNat 0)) none) none
def ql{ρ:Type}:=shut (ak0 (ρ:=ρ))
theorem as8{ρ:Type}(a:Int)(k:Int→Option ρ):ql a k=ak0 a k:=by unfold ql;rw[cu]

def aam{ρ:Type}(a g:Int)(b c d e:List Int)(h f:Int)(k:Int→Option ρ):Option ρ:=br (decide (f<0)) none (br (decide (Aa.wrap (a-f)<0)) none (k (bits BinOp.or Ab (h.fdiv (2^min f.toNat 64)) (Ab.wrap (h*2^min (Aa.wrap (a-f)).toNat 64)))))
def eu{ρ:Type}:=shut (aam (ρ:=ρ))
theorem ade{ρ:Type}(f:Int)(e:Int)(a:List Int)(b:List Int)(c:List Int)(d:List Int)(g:Int)(h:Int)(k:Int→Option ρ):eu f e a b c d g h k=aam f e a b c d g h k:=by unfold eu;rw[cu]

def zh{ρ:Type}(f e:Int)(a b c d:List Int)(g h:Int)(k:Int→Option ρ):Option ρ:=br (decide (h=(↑0:Int))) (eu f e a b c d g (a.getD 0 0) fun l=>eu f e a b c d g (a.getD 1 0) fun m=>eu f e a b c d g (a.getD 2 0) fun n=>k (bits BinOp.xor Ab (bits BinOp.xor Ab l m) n)) (br (decide (h=(↑1:Int))) (eu f e a b c d g (b.getD 0 0) fun o=>eu f e a b c d g (b.getD 1 0) fun p=>eu f e a b c d g (b.getD 2 0) fun q=>k (bits BinOp.xor Ab (bits BinOp.xor Ab o p) q)) (br (decide (h=(↑2:Int))) (eu f e a b c d g (c.getD 0 0) fun r=>eu f e a b c d g (c.getD 1 0) fun s=>eu f e a b c d g (c.getD 2 0) fun t=>k (bits BinOp.xor Ab (bits BinOp.xor Ab r s) t)) (br (decide (h=(↑3:Int))) (eu f e a b c d g (d.getD 0 0) fun u=>eu f e a b c d g (d.getD 1 0) fun i=>eu f e a b c d g (d.getD 2 0) fun j=>k (bits BinOp.xor Ab (bits BinOp.xor Ab u i) j)) none)))
def ku{ρ:Type}:=shut (zh (ρ:=ρ))
theorem abp{ρ:Type}(f:Int)(e:Int)(a:List Int)(b:List Int)(c:List Int)(d:List Int)(g:Int)(h:Int)(k:Int→Option ρ):ku f e a b c d g h k=zh f e a b c d g h k:=by unfold ku;rw[cu]

def aac{ρ:Type}(f e:Int)(a b c d:List Int)(g h:Int)(k:Int→Option ρ):Option ρ:=br (decide (h=(↑0:Int))) (eu f e a b c d g (a.getD 0 (0:Int)) fun i=>eu f e a b c d g (a.getD 1 (0:Int)) fun j=>br (decide (a.getD 2 (0:Int)<(0:Int))) none (k (bits BinOp.xor Ab (bits BinOp.xor Ab i j) (g.fdiv ((2:Int)^min (a.getD 2 (0:Int)).toNat 64))))) (br (decide (h=(↑1:Int))) (eu f e a b c d g (b.getD 0 (0:Int)) fun l=>eu f e a b c d g (b.getD 1 (0:Int)) fun m=>br (decide (b.getD 2 (0:Int)<(0:Int))) none (k (bits BinOp.xor Ab (bits BinOp.xor Ab l m) (g.fdiv ((2:Int)^min (b.getD 2 (0:Int)).toNat 64))))) (br (decide (h=(↑2:Int))) (eu f e a b c d g (c.getD 0 (0:Int)) fun n=>eu f e a b c d g (c.getD 1 (0:Int)) fun o=>br (decide (c.getD 2 (0:Int)<(0:Int))) none (k (bits BinOp.xor Ab (bits BinOp.xor Ab n o) (g.fdiv ((2:Int)^min (c.getD 2 (0:Int)).toNat 64))))) (br (decide (h=(↑3:Int))) (eu f e a b c d g (d.getD 0 (0:Int)) fun p=>eu f e a b c d g (d.getD 1 (0:Int)) fun q=>br (decide (d.getD 2 (0:Int)<(0:Int))) none (k (bits BinOp.xor Ab (bits BinOp.xor Ab p q) (g.fdiv ((2:Int)^min (d.getD 2 (0:Int)).toNat 64))))) none)))
def mo{ρ:Type}:=shut (aac (ρ:=ρ))
theorem ab4{ρ:Type}(f:Int)(e:Int)(a:List Int)(b:List Int)(c:List Int)(d:List Int)(g:Int)(h:Int)(k:Int→Option ρ):mo f e a b c d g h k=aac f e a b c d g h k:=by unfold mo;rw[cu]

abbrev cbg(ρ:Type):=(List Int)→Int→Int→Int→Int→(List Int)→(List Int)→(List Int)→(List Int)→(List Int)→(List Int)→(List Int)→Option ρ
def abd{ρ:Type}(l:List Int)(b a c d:Int)(e f g h i j k:List Int)(nx m:cbg ρ):Option ρ:=br (decide (a<16)) (br (decide (0≤Aa.wrap (a*b))) (br (decide (Aa.wrap (a*b)≤Aa.wrap (Aa.wrap (a+1)*b))) (br (decide (Aa.wrap (Aa.wrap (a+1)*b)≤(↑l.length:Int))) (uy (Ae (Aa.wrap (a*b)).toNat (Ac (Aa.wrap (Aa.wrap (a+1)*b)).toNat l)) fun n=>br (decide (0≤a)) (br (decide (a<(↑16:Int))) (nx l b (Aa.wrap (a+1)) c d e f g h i j (k.set a.toNat n)) none) none) none) none) none) (m l b a c d e f g h i j k)
abbrev b3p:=(List Int)×Int×Int×Int×Int×(List Int)×(List Int)×(List Int)×(List Int)×(List Int)×(List Int)×(List Int)
abbrev ce5:=b3p
def b9k{ρ:Type}(f:b3p→Option ρ):cbg ρ:=fun l m k a b c d e g h i j=>f (l,m,k,a,b,c,d,e,g,h,i,j)
def b1o{ρ:Type}:aed b3p ce5 ρ:=fun (k,l,j,a,b,c,d,e,f,g,h,i) next ex=>abd k l j a b c d e f g h i (b9k next) (b9k ex)
def cby{ρ:Type}:=shut (lp (b1o (ρ:=ρ)))
theorem ch1{ρ:Type}:cby (ρ:=ρ)=lp b1o:=cu _
def b6l{ρ:Type}(f:ad4 b3p ce5 ρ)(l:List Int)(m k a b:Int)(c d e g h i j:List Int)(n:cbg ρ):Option ρ:=f (l,m,k,a,b,c,d,e,g,h,i,j) (fun (l,m,k,a,b,c,d,e,g,h,i,j)=>n l m k a b c d e g h i j)
def aey{ρ:Type}:=b6l (lp (b1o (ρ:=ρ)))
def abb{ρ:Type}:=b6l (cby (ρ:=ρ))
theorem ai2{ρ:Type}:abb (ρ:=ρ)=aey:=congrArg b6l ch1
abbrev ce4(ρ:Type):=Int→Int→(List Int)→(List Int)→(List Int)→Int→Int→(List Int)→(List Int)→(List Int)→(List Int)→(List Int)→Option ρ
def aay{ρ:Type}(j b:Int)(c k l:List Int)(d e:Int)(f g h i a:List Int)(nx o:ce4 ρ):Option ρ:=br (decide (b<j)) (br (decide (0≤b.tmod 16)) (br (decide (b.tmod 16<(↑16:Int))) (ku d e f g h i (a.getD 4 0) 3 fun m=>ql b fun n=>ku d e f g h i (a.getD 0 0) 2 fun p=>br (decide (0≤(Aa.wrap (b+1)).tmod 16)) (br (decide ((Aa.wrap (b+1)).tmod 16<(↑16:Int))) (mo d e f g h i (c.getD ((Aa.wrap (b+1)).tmod 16).toNat 0) 0 fun q=>br (decide (0≤(Aa.wrap (b+9)).tmod 16)) (br (decide ((Aa.wrap (b+9)).tmod 16<(↑16:Int))) (br (decide (0≤(Aa.wrap (b+14)).tmod 16)) (br (decide ((Aa.wrap (b+14)).tmod 16<(↑16:Int))) (mo d e f g h i (c.getD ((Aa.wrap (b+14)).tmod 16).toNat 0) 1 fun r=>br (decide (0≤b.tmod 16)) (br (decide (b.tmod 16<(↑16:Int))) (nx j (Aa.wrap (b+1)) (c.set (b.tmod 16).toNat (Ab.wrap (Ab.wrap (Ab.wrap (c.getD (b.tmod 16).toNat 0+q)+c.getD ((Aa.wrap (b+9)).tmod 16).toNat 0)+r))) k l d e f g h i ((((Ac 1 a).append (Ac 7 (Ac 7 (Ae 0 a))++Ae (1+min 7 (Ac 7 (Ae 0 a)).length) a)).set 4 (Ab.wrap (((Ac 1 a).append (Ac 7 (Ac 7 (Ae 0 a))++Ae (1+min 7 (Ac 7 (Ae 0 a)).length) a)).getD 4 0+Ab.wrap (Ab.wrap (Ab.wrap (Ab.wrap (a.getD 7 0+m)+bits BinOp.xor Ab (a.getD 6 0) (bits BinOp.and Ab (a.getD 4 0) (bits BinOp.xor Ab (a.getD 5 0) (a.getD 6 0))))+n)+c.getD (b.tmod 16).toNat 0)))).set 0 (Ab.wrap (Ab.wrap (Ab.wrap (Ab.wrap (Ab.wrap (a.getD 7 0+m)+bits BinOp.xor Ab (a.getD 6 0) (bits BinOp.and Ab (a.getD 4 0) (bits BinOp.xor Ab (a.getD 5 0) (a.getD 6 0))))+n)+c.getD (b.tmod 16).toNat 0)+Ab.wrap (p+bits BinOp.or Ab (bits BinOp.and Ab (a.getD 0 0) (a.getD 1 0)) (bits BinOp.and Ab (a.getD 2 0) (bits BinOp.or Ab (a.getD 0 0) (a.getD 1 0)))))))) none) none) none) none) none) none) none) none) none) none) (o j b c k l d e f g h i a)
abbrev b0f:=Int×Int×(List Int)×(List Int)×(List Int)×Int×Int×(List Int)×(List Int)×(List Int)×(List Int)×(List Int)
abbrev cav:=b0f
def cbq{ρ:Type}(f:b0f→Option ρ):ce4 ρ:=fun l m a b c d e g h i j k=>f (l,m,a,b,c,d,e,g,h,i,j,k)
def b24{ρ:Type}:aed b0f cav ρ:=fun (k,l,a,b,c,d,e,f,g,h,i,j) next ex=>aay k l a b c d e f g h i j (cbq next) (cbq ex)
def cep{ρ:Type}:=shut (lp (b24 (ρ:=ρ)))
theorem cih{ρ:Type}:cep (ρ:=ρ)=lp b24:=cu _
def b6z{ρ:Type}(f:ad4 b0f cav ρ)(l m:Int)(a b c:List Int)(d e:Int)(g h i j k:List Int)(n:ce4 ρ):Option ρ:=f (l,m,a,b,c,d,e,g,h,i,j,k) (fun (l,m,a,b,c,d,e,g,h,i,j,k)=>n l m a b c d e g h i j k)
def ado{ρ:Type}:=b6z (lp (b24 (ρ:=ρ)))
def y5{ρ:Type}:=b6z (cep (ρ:=ρ))
theorem aii{ρ:Type}:y5 (ρ:=ρ)=ado:=congrArg b6z cih
abbrev b8w(ρ:Type):=Int→(List Int)→(List Int)→(List Int)→Option ρ
def aa3{ρ:Type}(a:Int)(b d c:List Int)(nx e:b8w ρ):Option ρ:=br (decide (a<8)) (br (decide (0≤a)) (br (decide (a<(↑8:Int))) (br (decide (0≤a)) (br (decide (a<(↑8:Int))) (br (decide (0≤a)) (br (decide (a<(↑8:Int))) (nx (Aa.wrap (a+1)) b d (c.set a.toNat (Ab.wrap (c.getD a.toNat 0+b.getD a.toNat 0)))) none) none) none) none) none) none) (e a b d c)
abbrev b1w:=Int×(List Int)×(List Int)×(List Int)
abbrev cbe:=b1w
def cb9{ρ:Type}(f:b1w→Option ρ):b8w ρ:=fun a b c d=>f (a,b,c,d)
def b4r{ρ:Type}:aed b1w cbe ρ:=fun (a,b,c,d) next ex=>aa3 a b c d (cb9 next) (cb9 ex)
def cb3{ρ:Type}:=shut (lp (b4r (ρ:=ρ)))
theorem che{ρ:Type}:cb3 (ρ:=ρ)=lp b4r:=cu _
def b6a{ρ:Type}(f:ad4 b1w cbe ρ)(a:Int)(b c d:List Int)(e:b8w ρ):Option ρ:=f (a,b,c,d) (fun (a,b,c,d)=>e a b c d)
def ad1{ρ:Type}:=b6a (lp (b4r (ρ:=ρ)))
def y8{ρ:Type}:=b6a (cb3 (ρ:=ρ))
theorem aiw{ρ:Type}:y8 (ρ:=ρ)=ad1:=congrArg b6a che
def aax{ρ:Type}(a f:Int)(b c d e p q:List Int)(k:(List Int)→Option ρ):Option ρ:=abb q (Aa.wrap (a.tdiv 8)) 0 a f b c d e p [0,0,0,0,0,0,0,0] [0,0,0,0,0,0,0,0,0,0,0,0,0,0,0,0] fun N O Q r g s t u v h i j=>y5 g 0 j i h r g s t u v h fun w y z l m A B C F G H n=>y8 0 m l n fun I J M o=>k o
def og{ρ:Type}:=shut (aax (ρ:=ρ))
theorem aex{ρ:Type}(f:Int)(e:Int)(a:List Int)(b:List Int)(c:List Int)(d:List Int)(g:List Int)(h:List Int)(k:(List Int)→Option ρ):og f e a b c d g h k=aax f e a b c d g h k:=by unfold og;rw[cu]

abbrev b9j(ρ:Type):=(List Int)→(List Int)→Int→Int→Int→(List Int)→(List Int)→(List Int)→(List Int)→(List Int)→(List Int)→(List Int)→Option ρ
def adr{ρ:Type}(l b:List Int)(a c d:Int)(e f g h i j k:List Int)(nx m:b9j ρ):Option ρ:=br (decide (a<8)) (br (decide (0≤a)) (br (decide (a<(↑8:Int))) (br (decide (0≤a)) (br (decide (a<(↑8:Int))) (nx l b (Aa.wrap (a+1)) c d e f g h i j (k.set a.toNat (b.getD a.toNat 0))) none) none) none) none) (m l b a c d e f g h i j k)
abbrev b5q:=(List Int)×(List Int)×Int×Int×Int×(List Int)×(List Int)×(List Int)×(List Int)×(List Int)×(List Int)×(List Int)
abbrev cdk:=b5q
def b83{ρ:Type}(f:b5q→Option ρ):b9j ρ:=fun m k l a b c d e g h i j=>f (m,k,l,a,b,c,d,e,g,h,i,j)
def b45{ρ:Type}:aed b5q cdk ρ:=fun (l,j,k,a,b,c,d,e,f,g,h,i) next ex=>adr l j k a b c d e f g h i (b83 next) (b83 ex)
def cgd{ρ:Type}:=shut (lp (b45 (ρ:=ρ)))
theorem cgu{ρ:Type}:cgd (ρ:=ρ)=lp b45:=cu _
def b62{ρ:Type}(f:ad4 b5q cdk ρ)(m k:List Int)(l a b:Int)(c d e g h i j:List Int)(n:b9j ρ):Option ρ:=f (m,k,l,a,b,c,d,e,g,h,i,j) (fun (m,k,l,a,b,c,d,e,g,h,i,j)=>n m k l a b c d e g h i j)
def aiu{ρ:Type}:=b62 (lp (b45 (ρ:=ρ)))
def adx{ρ:Type}:=b62 (cgd (ρ:=ρ))
theorem anl{ρ:Type}:adx (ρ:=ρ)=aiu:=congrArg b62 cgu
abbrev cc9(ρ:Type):=(List Int)→Int→(List Int)→(List Int)→(List Int)→Int→Int→(List Int)→(List Int)→(List Int)→(List Int)→Option ρ
def ads{ρ:Type}(b:List Int)(a:Int)(i j k:List Int)(c d:Int)(e f g h:List Int)(nx l:cc9 ρ):Option ρ:=br (decide ((↑b.length:Int)≥a)) (br (decide (0≤a)) (br (decide (a≤(↑b.length:Int))) (og c d e f g h i (Ae 0 (Ac a.toNat b)) fun m=>br (decide (0≤a)) (br (decide (a≤(↑b.length:Int))) (br (decide ((↑b.length:Int)≤(↑b.length:Int))) (nx (Ae a.toNat (Ac (↑b.length:Int).toNat b)) a m j k c d e f g h) none) none) none) none) none) (l b a i j k c d e f g h)
abbrev b5g:=(List Int)×Int×(List Int)×(List Int)×(List Int)×Int×Int×(List Int)×(List Int)×(List Int)×(List Int)
abbrev cc8:=b5g
def cck{ρ:Type}(f:b5g→Option ρ):cc9 ρ:=fun l k a b c d e g h i j=>f (l,k,a,b,c,d,e,g,h,i,j)
def b44{ρ:Type}:aed b5g cc8 ρ:=fun (k,j,a,b,c,d,e,f,g,h,i) next ex=>ads k j a b c d e f g h i (cck next) (cck ex)
def b81{ρ:Type}:=shut (lp (b44 (ρ:=ρ)))
theorem cig{ρ:Type}:b81 (ρ:=ρ)=lp b44:=cu _
def b6k{ρ:Type}(f:ad4 b5g cc8 ρ)(l:List Int)(k:Int)(a b c:List Int)(d e:Int)(g h i j:List Int)(m:cc9 ρ):Option ρ:=f (l,k,a,b,c,d,e,g,h,i,j) (fun (l,k,a,b,c,d,e,g,h,i,j)=>m l k a b c d e g h i j)
def aib{ρ:Type}:=b6k (lp (b44 (ρ:=ρ)))
def ad5{ρ:Type}:=b6k (b81 (ρ:=ρ))
theorem ani{ρ:Type}:ad5 (ρ:=ρ)=aib:=congrArg b6k cig
abbrev cew(ρ:Type):=(List Int)→(List Int)→Int→(List Int)→(List Int)→Option ρ
def ada{ρ:Type}(e b:List Int)(a:Int)(c d:List Int)(nx f:cew ρ):Option ρ:=br (decide (a<8)) (br (decide (0≤a)) (br (decide (a<(↑8:Int))) (br (decide (0≤a)) (br (decide (a<(↑8:Int))) (nx e b (Aa.wrap (a+1)) (c.set a.toNat (b.getD a.toNat 0)) d) none) none) none) none) (f e b a c d)
abbrev b4g:=(List Int)×(List Int)×Int×(List Int)×(List Int)
abbrev cec:=b4g
def cel{ρ:Type}(f:b4g→Option ρ):cew ρ:=fun e c d a b=>f (e,c,d,a,b)
def b0y{ρ:Type}:aed b4g cec ρ:=fun (e,c,d,a,b) next ex=>ada e c d a b (cel next) (cel ex)
def cfo{ρ:Type}:=shut (lp (b0y (ρ:=ρ)))
theorem cgz{ρ:Type}:cfo (ρ:=ρ)=lp b0y:=cu _
def b7e{ρ:Type}(f:ad4 b4g cec ρ)(e c:List Int)(d:Int)(a b:List Int)(g:cew ρ):Option ρ:=f (e,c,d,a,b) (fun (e,c,d,a,b)=>g e c d a b)
def ag8{ρ:Type}:=b7e (lp (b0y (ρ:=ρ)))
def ac4{ρ:Type}:=b7e (cfo (ρ:=ρ))
theorem al3{ρ:Type}:ac4 (ρ:=ρ)=ag8:=congrArg b7e cgz
def ac2{ρ:Type}(f e:Int)(a b c d g r:List Int)(k:(List Int)→(List Int)→Option ρ):Option ρ:=adx r g 0 f e a b c d g [0,0,0,0,0,0,0,0] [0,0,0,0,0,0,0,0] fun s O Q h t u v w y z i j=>ad5 s (Aa.wrap (h*2)) j i z h t u v w y fun l A m n o B C F G H I=>ac4 l m 0 o n fun p J M q N=>k q p
def sj{ρ:Type}:=shut (ac2 (ρ:=ρ))
theorem ais{ρ:Type}(f:Int)(e:Int)(a:List Int)(b:List Int)(c:List Int)(d:List Int)(g:List Int)(h:List Int)(k:(List Int)→(List Int)→Option ρ):sj f e a b c d g h k=ac2 f e a b c d g h k:=by unfold sj;rw[cu]

def ava{ρ:Type}(k:Int→Int→(List Int)→(List Int)→(List Int)→(List Int)→Option ρ):Option ρ:=k 64 80 [1,8,7] [19,61,6] [28,34,39] [14,18,41]
def ad6{ρ:Type}:=shut (ava (ρ:=ρ))
theorem ayq{ρ:Type}  (k:Int→Int→(List Int)→(List Int)→(List Int)→(List Int)→Option ρ):ad6  k=ava  k:=by unfold ad6;rw[cu]

def qz{ρ:Type}(a:List Int)(k:(List Int)→Option ρ):Option ρ:=br (decide (a.length*1≤140737488355328)) (k a) none

def atr{ρ:Type}(a:Int)(b d:List Int)(c:Int)(e:List Int)(k:Int→(List Int)→(List Int)→Int→Option ρ):Option ρ:=j5 [d,e] fun f=>br (a==1) (adw fun q r s t u v=>rz q r s t u v b f fun w y=>qz y fun z=>k a w z (Ab.wrap (c+Ab.wrap (↑e.length:Int)))) (ad6 fun g h i j l m=>sj g h i j l m b f fun n o=>qz o fun p=>k a n p (Ab.wrap (c+Ab.wrap (↑e.length:Int))))
def zo{ρ:Type}:=shut (atr (ρ:=ρ))
theorem bf5{ρ:Type}(b:Int)(a:List Int)(c:List Int)(d:Int)(e:List Int)(k:Int→(List Int)→(List Int)→Int→Option ρ):zo b a c d e k=atr b a c d e k:=by unfold zo;rw[cu]

def ahp{ρ:Type}(a:Int)(k:Int→Option ρ):Option ρ:=br (a==1) (k 64) (k 128)
def yc{ρ:Type}:=shut (ahp (ρ:=ρ))
theorem apu{ρ:Type}(a:Int)(k:Int→Option ρ):yc a k=ahp a k:=by unfold yc;rw[cu]

abbrev b85(ρ:Type):=Int→(List Int)→Int→(List Int)→Int→(List Int)→Int→(List Int)→Option ρ
def aur{ρ:Type}(g:Int)(b:List Int)(a:Int)(c:List Int)(d:Int)(e:List Int)(f:Int)(h:List Int)(nx j:b85 ρ):Option ρ:=br (decide (a<8)) (br (decide (0≤a)) (br (decide (a<(↑8:Int))) (xq (b.getD a.toNat 0) (Aa.wrap (g.tdiv 16)) fun i=>br (decide ((c.length+i.length)*1≤140737488355328)) (nx g b (Aa.wrap (a+1)) (c++i) d e f h) none) none) none) (j g b a c d e f h)
abbrev b0p:=Int×(List Int)×Int×(List Int)×Int×(List Int)×Int×(List Int)
abbrev ccb:=b0p
def b9e{ρ:Type}(f:b0p→Option ρ):b85 ρ:=fun h d e g a b c i=>f (h,d,e,g,a,b,c,i)
def b1v{ρ:Type}:aed b0p ccb ρ:=fun (g,d,e,f,a,b,c,h) next ex=>aur g d e f a b c h (b9e next) (b9e ex)
def b96{ρ:Type}:=shut (lp (b1v (ρ:=ρ)))
theorem chi{ρ:Type}:b96 (ρ:=ρ)=lp b1v:=cu _
def b6n{ρ:Type}(f:ad4 b0p ccb ρ)(h:Int)(d:List Int)(e:Int)(g:List Int)(a:Int)(b:List Int)(c:Int)(i:List Int)(j:b85 ρ):Option ρ:=f (h,d,e,g,a,b,c,i) (fun (h,d,e,g,a,b,c,i)=>j h d e g a b c i)
def bai{ρ:Type}:=b6n (lp (b1v (ρ:=ρ)))
def au6{ρ:Type}:=b6n (b96 (ρ:=ρ))
theorem bd0{ρ:Type}:au6 (ρ:=ρ)=bai:=congrArg b6n chi
def aue{ρ:Type}(c:Int)(e a:List Int)(d:Int)(k:(List Int)→Option ρ):Option ρ:=yc c fun b=>br (decide (1≤b)) (br (decide (b*(↑1:Int)≤(↑140737488355328:Int))) (br (decide (b=0)) none (br (decide (0≤Aa.wrap (Aa.wrap ((Aa.wrap (Aa.wrap (Aa.wrap (Aa.wrap (2*b)-1)-Aa.wrap (b.tdiv 8))-(↑a.length:Int))).tmod b+Aa.wrap (b.tdiv 8))-8))) (br (decide ((1+(Aa.wrap (Aa.wrap ((Aa.wrap (Aa.wrap (Aa.wrap (Aa.wrap (2*b)-1)-Aa.wrap (b.tdiv 8))-(↑a.length:Int))).tmod b+Aa.wrap (b.tdiv 8))-8)).toNat)*1≤140737488355328)) (xq (Ab.wrap (d*2^3)) 8 fun g=>br (decide ((((Af (Aa.wrap (Aa.wrap ((Aa.wrap (Aa.wrap (Aa.wrap (Aa.wrap (2*b)-1)-Aa.wrap (b.tdiv 8))-(↑a.length:Int))).tmod b+Aa.wrap (b.tdiv 8))-8)).toNat (0:Int)).length.add 0).succ+g.length)*1≤140737488355328)) (zo c e a d ((Af 1 (0:Int)).set 0 128++Af (Aa.wrap (Aa.wrap ((Aa.wrap (Aa.wrap (Aa.wrap (Aa.wrap (2*b)-1)-Aa.wrap (b.tdiv 8))-(↑a.length:Int))).tmod b+Aa.wrap (b.tdiv 8))-8)).toNat (0:Int)++g) fun j h l m=>au6 b h 0 [] j h m l fun q r s f i n o p=>br (i==2) (br (decide (48≤(↑f.length:Int))) (k (Ac ((48:Int)-(0:Int)).toNat f)) none) (k f)) none) none) none)) none) none
def ac8{ρ:Type}:=shut (aue (ρ:=ρ))
theorem bf1{ρ:Type}(b:Int)(a:List Int)(c:List Int)(d:Int)(k:(List Int)→Option ρ):ac8 b a c d k=aue b a c d k:=by unfold ac8;rw[cu]

def aum{ρ:Type}(b:Int)(c:List Int)(k:(List Int)→Int→Option ρ):Option ρ:=afn b fun d e f g a=>br (a !=0) (k [] a) (zo d e f g c fun h i j l=>ac8 h i j l fun m=>k m 0)
def akl{ρ:Type}:=shut (aum (ρ:=ρ))
theorem be8{ρ:Type}(a:Int)(b:List Int)(k:(List Int)→Int→Option ρ):akl a b k=aum a b k:=by unfold akl;rw[cu]

def al0{ρ:Type}(a:Int)(b:List Int)(k:(List Int)→Int→Option ρ):Option ρ:=aeh a fun c=>br (c==0) (k [] 9) (br (decide (a≤3)) (akl a b fun d e=>k d e) (aeh a fun f=>zq a b f fun g h=>k g h))
def zx{ρ:Type}:=shut (al0 (ρ:=ρ))
theorem avk{ρ:Type}(a:Int)(b:List Int)(k:(List Int)→Int→Option ρ):zx a b k=al0 a b k:=by unfold zx;rw[cu]

def agf{ρ:Type}(a:List (List Int))(b:Int)(k:(List Int)→Option ρ):Option ρ:=jd a fun c=>zx b c fun d e=>k d
def l9{ρ:Type}:=shut (agf (ρ:=ρ))
theorem am4{ρ:Type}(a:List (List Int))(b:Int)(k:(List Int)→Option ρ):l9 a b k=agf a b k:=by unfold l9;rw[cu]

def arn{ρ:Type}(a:Int)(k:Int→Option ρ):Option ρ:=k a
def aal{ρ:Type}:=shut (arn (ρ:=ρ))
theorem as2{ρ:Type}(a:Int)(k:Int→Option ρ):aal a k=arn a k:=by unfold aal;rw[cu]

abbrev cbj(ρ:Type):=Int→Int→Int→(List Int)→Option ρ
def ami{ρ:Type}(d b a:Int)(c:List Int)(nx e:cbj ρ):Option ρ:=br (decide (a<b)) (br (decide (0≤a)) (br (decide (a<(↑c.length:Int))) (br (decide (0≤a)) (br (decide (a<(↑c.length:Int))) (nx d b (Aa.wrap (a+1)) (c.set a.toNat (bits BinOp.xor Ag (c.getD a.toNat 0) d))) none) none) none) none) (e d b a c)
abbrev b3c:=Int×Int×Int×(List Int)
abbrev cfk:=b3c
def b95{ρ:Type}(f:b3c→Option ρ):cbj ρ:=fun c a b d=>f (c,a,b,d)
def b3t{ρ:Type}:aed b3c cfk ρ:=fun (c,a,b,d) next ex=>ami c a b d (b95 next) (b95 ex)
def cdq{ρ:Type}:=shut (lp (b3t (ρ:=ρ)))
theorem chv{ρ:Type}:cdq (ρ:=ρ)=lp b3t:=cu _
def b7n{ρ:Type}(f:ad4 b3c cfk ρ)(c a b:Int)(d:List Int)(e:cbj ρ):Option ρ:=f (c,a,b,d) (fun (c,a,b,d)=>e c a b d)
def asw{ρ:Type}:=b7n (lp (b3t (ρ:=ρ)))
def as9{ρ:Type}:=b7n (cdq (ρ:=ρ))
theorem axf{ρ:Type}:as9 (ρ:=ρ)=asw:=congrArg b7n chv
def ajz{ρ:Type}(b:List Int)(a c:Int)(k:(List Int)→Option ρ):Option ρ:=br (decide (0≤a)) (br (decide (a≤a)) (br (decide (a*(↑1:Int)≤(↑140737488355328:Int))) (as9 c (↑((Ac (Af a.toNat (0:Int)).length b).append (Ae (0+min (Af a.toNat (0:Int)).length b.length) (Af a.toNat (0:Int)))).length:Int) 0 ((Ac (Af a.toNat (0:Int)).length b).append (Ae (0+min (Af a.toNat (0:Int)).length b.length) (Af a.toNat (0:Int)))) fun e f g d=>k d) none) none) none
def uf{ρ:Type}:=shut (ajz (ρ:=ρ))
theorem asu{ρ:Type}(a:List Int)(b:Int)(c:Int)(k:(List Int)→Option ρ):uf a b c k=ajz a b c k:=by unfold uf;rw[cu]

def aj6{ρ:Type}(b:List (List Int))(a:Int)(c d:List Int)(k:(List Int)→Option ρ):Option ρ:=jd b fun e=>l9 [d,e] a fun f=>l9 [c,f] a fun g=>k g
def aa8{ρ:Type}:=shut (aj6 (ρ:=ρ))
theorem as4{ρ:Type}(b:List (List Int))(a:Int)(c:List Int)(d:List Int)(k:(List Int)→Option ρ):aa8 b a c d k=aj6 b a c d k:=by unfold aa8;rw[cu]

def aqd{ρ:Type}(a:Int)(b:List Int)(k:Int→(List Int)→(List Int)→Option ρ):Option ρ:=aal a fun c=>br (decide (0≤a)) (br (decide (a<(↑8:Int))) (br (decide (a.toNat*2+1<16)) (br (decide ((↑b.length:Int)>[(0:Int),(0:Int),(32:Int),(64:Int),(48:Int),(128:Int),(64:Int),(128:Int),(32:Int),(136:Int),(64:Int),(72:Int),(32:Int),(168:Int),(64:Int),(136:Int)].getD (a.toNat*2+1) 0)) (l9 [b] c fun d=>uf d ([(0:Int),(0:Int),(32:Int),(64:Int),(48:Int),(128:Int),(64:Int),(128:Int),(32:Int),(136:Int),(64:Int),(72:Int),(32:Int),(168:Int),(64:Int),(136:Int)].getD (a.toNat*2+1) 0) 54 fun e=>uf d ([(0:Int),(0:Int),(32:Int),(64:Int),(48:Int),(128:Int),(64:Int),(128:Int),(32:Int),(136:Int),(64:Int),(72:Int),(32:Int),(168:Int),(64:Int),(136:Int)].getD (a.toNat*2+1) 0) 92 fun f=>k c f e) (uf b ([(0:Int),(0:Int),(32:Int),(64:Int),(48:Int),(128:Int),(64:Int),(128:Int),(32:Int),(136:Int),(64:Int),(72:Int),(32:Int),(168:Int),(64:Int),(136:Int)].getD (a.toNat*2+1) 0) 54 fun g=>uf b ([(0:Int),(0:Int),(32:Int),(64:Int),(48:Int),(128:Int),(64:Int),(128:Int),(32:Int),(136:Int),(64:Int),(72:Int),(32:Int),(168:Int),(64:Int),(136:Int)].getD (a.toNat*2+1) 0) 92 fun h=>k c h g)) none) none) none
def af5{ρ:Type}:=shut (aqd (ρ:=ρ))
theorem bae{ρ:Type}(a:Int)(b:List Int)(k:Int→(List Int)→(List Int)→Option ρ):af5 a b k=aqd a b k:=by unfold af5;rw[cu]

def arf{ρ:Type}(a:Int)(b c:List Int)(k:(List Int)→Int→Option ρ):Option ρ:=afz a fun d=>br (!d) (k [] 9) (af5 a b fun e f g=>aa8 [c] e f g fun h=>k h 0)
def ah4{ρ:Type}:=shut (arf (ρ:=ρ))
theorem bc4{ρ:Type}(a:Int)(b:List Int)(c:List Int)(k:(List Int)→Int→Option ρ):ah4 a b c k=arf a b c k:=by unfold ah4;rw[cu]

def am2{ρ:Type}(d e f:List Int)(g a h i j l:Int)(b:Bool)(k:(List Int)→Option ρ):Option ρ:=jd [e,f] fun m=>ah4 g d m fun c n=>br (decide (0≤a)) (br (decide (a≤(↑c.length:Int))) (k (Ac (a-0).toNat (Ae 0 c))) none) none
def u6{ρ:Type}:=shut (am2 (ρ:=ρ))
theorem azi{ρ:Type}(g:List Int)(h:List Int)(i:List Int)(j:Int)(b:Int)(c:Int)(d:Int)(e:Int)(f:Int)(a:Bool)(k:(List Int)→Option ρ):u6 g h i j b c d e f a k=am2 g h i j b c d e f a k:=by unfold u6;rw[cu]

abbrev b9t(ρ:Type):=(List Int)→Int→Int→Int→(List Int)→Option ρ
def at7{ρ:Type}(d:List Int)(e a b:Int)(c:List Int)(nx g:b9t ρ):Option ρ:=br (decide ((↑c.length:Int)<e)) (xq b 4 fun h=>l9 [d,h] a fun f=>br (decide ((c.length+f.length)*1≤140737488355328)) (nx d e a (Ab.wrap (b+1)) (c++f)) none) (g d e a b c)
abbrev b29:=(List Int)×Int×Int×Int×(List Int)
abbrev ca5:=b29
def ce9{ρ:Type}(f:b29→Option ρ):b9t ρ:=fun c d a b e=>f (c,d,a,b,e)
def b2w{ρ:Type}:aed b29 ca5 ρ:=fun (c,d,a,b,e) next ex=>at7 c d a b e (ce9 next) (ce9 ex)
def b8m{ρ:Type}:=shut (lp (b2w (ρ:=ρ)))
theorem cgw{ρ:Type}:b8m (ρ:=ρ)=lp b2w:=cu _
def b7i{ρ:Type}(f:ad4 b29 ca5 ρ)(c:List Int)(d a b:Int)(e:List Int)(g:b9t ρ):Option ρ:=f (c,d,a,b,e) (fun (c,d,a,b,e)=>g c d a b e)
def ba7{ρ:Type}:=b7i (lp (b2w (ρ:=ρ)))
def ba5{ρ:Type}:=b7i (b8m (ρ:=ρ))
theorem bds{ρ:Type}:ba5 (ρ:=ρ)=ba7:=congrArg b7i cgw
def ap4{ρ:Type}(b:Int)(e:List Int)(c:Int)(k:(List Int)→Int→Option ρ):Option ρ:=br (decide (b<1)) (k [] 9) (br (decide (b>3)) (k [] 9) (br (decide (c<0)) (k [] 8) (br (decide (c>1048576)) (k [] 8) (aal b fun f=>ba5 e c f 0 [] fun g a h i d=>br (decide (0≤a)) (br (decide (a≤(↑d.length:Int))) (br (decide (a≤a)) (br (decide (a≤(↑d.length:Int))) (k (Ae 0 (Ac a.toNat d)) 0) none) none) none) none))))
def af0{ρ:Type}:=shut (ap4 (ρ:=ρ))
theorem az7{ρ:Type}(a:Int)(b:List Int)(c:Int)(k:(List Int)→Int→Option ρ):af0 a b c k=ap4 a b c k:=by unfold af0;rw[cu]

def ahy{ρ:Type}(f:Int)(d b g:List Int)(e a h i j l:Int)(c:Bool)(k:(List Int)→Option ρ):Option ρ:=jd [d,b,g] fun m=>zx e m fun n q=>br (decide (0≤a)) (br (decide (a≤(↑b.length:Int))) (jd [d,Ae 0 (Ac a.toNat b),n] fun o=>af0 e o f fun p r=>k p) none) none
def qj{ρ:Type}:=shut (ahy (ρ:=ρ))
theorem ao4{ρ:Type}(g:Int)(h:List Int)(i:List Int)(j:List Int)(l:Int)(b:Int)(c:Int)(d:Int)(e:Int)(f:Int)(a:Bool)(k:(List Int)→Option ρ):qj g h i j l b c d e f a k=ahy g h i j l b c d e f a k:=by unfold qj;rw[cu]

def al9{ρ:Type}(b c d e f:Int)(a:Bool)(k:Int→Int→Int→Int→Int→Bool→Int→Int→Int→Int→Int→Int→Bool→Int→Int→Int→Int→Int→Int→Bool→Option ρ):Option ρ:=br (b==16) (k b c d e f a 1 b c d e f a 1 b c d e f a) (k b c d e f a 3 b c d e f a 3 b c d e f a)
def afq{ρ:Type}:=shut (al9 (ρ:=ρ))
theorem awo{ρ:Type}(b:Int)(c:Int)(d:Int)(e:Int)(f:Int)(a:Bool)(k:Int→Int→Int→Int→Int→Bool→Int→Int→Int→Int→Int→Int→Bool→Int→Int→Int→Int→Int→Int→Bool→Option ρ):afq b c d e f a k=al9 b c d e f a k:=by unfold afq;rw[cu]

def ajr{ρ:Type}(b c d e f:Int)(a:Bool)(k:Int→Int→Int→Int→Int→Bool→Nat→Int→Int→Int→Int→Int→Bool→Int→Int→Int→Int→Int→Int→Bool→Nat→Int→Int→Int→Int→Int→Int→Bool→Option ρ):Option ρ:=br a (afs b c d e f a fun G H I J M N O Q U W g h=>k G H I J M N 1 O Q U W g h 0 0 0 0 0 0 false 1 0 0 0 0 0 0 false) (afq b c d e f a fun i j l m n o p q r s t u v w y z A B C F=>k i j l m n o 2 0 0 0 0 0 false p q r s t u v 2 w y z A B C F)
def ae4{ρ:Type}:=shut (ajr (ρ:=ρ))
theorem arl{ρ:Type}(b:Int)(c:Int)(d:Int)(e:Int)(f:Int)(a:Bool)(k:Int→Int→Int→Int→Int→Bool→Nat→Int→Int→Int→Int→Int→Bool→Int→Int→Int→Int→Int→Int→Bool→Nat→Int→Int→Int→Int→Int→Int→Bool→Option ρ):ae4 b c d e f a k=ajr b c d e f a k:=by unfold ae4;rw[cu]

def amb{ρ:Type}(b:List Int)(a:Int)(k:Int→(List Int)→Option ρ):Option ρ:=br (decide (0≤Aa.wrap ((Aa.wrap (a+7)).tdiv 8))) (br (decide (Aa.wrap ((Aa.wrap (a+7)).tdiv 8)≤(↑b.length:Int))) (uy (Ae 0 (Ac (Aa.wrap ((Aa.wrap (a+7)).tdiv 8)).toNat b)) fun c=>br (decide (a<0)) none (br (decide (0≤Aa.wrap ((Aa.wrap (a+7)).tdiv 8))) (br (decide (Aa.wrap ((Aa.wrap (a+7)).tdiv 8)≤(↑b.length:Int))) (br (decide ((↑b.length:Int)≤(↑b.length:Int))) (k (bits BinOp.and Ab c (Ab.wrap (Ab.wrap (1*2^min a.toNat 64)-1))) (Ae (Aa.wrap ((Aa.wrap (a+7)).tdiv 8)).toNat (Ac (↑b.length:Int).toNat b))) none) none) none)) none) none
def aai{ρ:Type}:=shut (amb (ρ:=ρ))
theorem avz{ρ:Type}(a:List Int)(b:Int)(k:Int→(List Int)→Option ρ):aai a b k=amb a b k:=by unfold aai;rw[cu]

def acv{ρ:Type}(n a b o p:Int)(l:Bool)(I:Nat)(u v w y z:Int)(q:Bool)(H A B C F G:Int)(r:Bool)(j:Nat)(m e f g h i:Int)(c:Bool)(J M N:List Int)(k:(List Int)→Int→Int→Option ρ):Option ρ:=ow n a b o p l fun q0 d=>br (decide (b=0)) none (br (decide (j=1)) (qo (Aa.wrap (Aa.wrap (d+Aa.wrap ((Aa.wrap (Aa.wrap (a-Aa.wrap (a.tdiv b))+7)).tdiv 8))+Aa.wrap ((Aa.wrap (Aa.wrap (a.tdiv b)+7)).tdiv 8))) J M N fun s=>br (decide (0≤d)) (br (decide (d≤(↑s.length:Int))) (br (decide (0≤d)) (br (decide (d≤(↑s.length:Int))) (br (decide ((↑s.length:Int)≤(↑s.length:Int))) (aai (Ac ((↑s.length:Int)-d).toNat (Ae d.toNat s)) (Aa.wrap (a-Aa.wrap (a.tdiv b))) fun Q U=>aai U (Aa.wrap (a.tdiv b)) fun W q6=>k (Ac (d-0).toNat (Ae 0 s)) Q W) none) none) none) none) none) (br (decide (j=2)) (qj (Aa.wrap (Aa.wrap (d+Aa.wrap ((Aa.wrap (Aa.wrap (a-Aa.wrap (a.tdiv b))+7)).tdiv 8))+Aa.wrap ((Aa.wrap (Aa.wrap (a.tdiv b)+7)).tdiv 8))) J M N m e f g h i c fun t=>br (decide (0≤d)) (br (decide (d≤(↑t.length:Int))) (br (decide (0≤d)) (br (decide (d≤(↑t.length:Int))) (br (decide ((↑t.length:Int)≤(↑t.length:Int))) (aai (Ae d.toNat (Ac (↑t.length:Int).toNat t)) (Aa.wrap (a-Aa.wrap (a.tdiv b))) fun Z q9=>aai q9 (Aa.wrap (a.tdiv b)) fun O aa=>k (Ae 0 (Ac d.toNat t)) Z O) none) none) none) none) none) none))
def wh{ρ:Type}:=shut (acv (ρ:=ρ))
theorem ag2{ρ:Type}(y:Int)(z:Int)(A:Int)(B:Int)(C:Int)(i:Bool)(F:Nat)(j:Int)(l:Int)(m:Int)(n:Int)(o:Int)(b:Bool)(v:Int)(p:Int)(q:Int)(r:Int)(s:Int)(t:Int)(c:Bool)(w:Nat)(u:Int)(d:Int)(e:Int)(f:Int)(g:Int)(h:Int)(a:Bool)(G:List Int)(H:List Int)(I:List Int)(k:(List Int)→Int→Int→Option ρ):wh y z A B C i F j l m n o b v p q r s t c w u d e f g h a G H I k=acv y z A B C i F j l m n o b v p q r s t c w u d e f g h a G H I k:=by unfold wh;rw[cu]

def aoa{ρ:Type}(b a:List Int)(k:(List Int)→Option ρ):Option ρ:=jd [[0,Ag.wrap (↑a.length:Int)],a,b] fun c=>k c
def af3{ρ:Type}:=shut (aoa (ρ:=ρ))
theorem ayh{ρ:Type}(a:List Int)(b:List Int)(k:(List Int)→Option ρ):af3 a b k=aoa a b k:=by unfold af3;rw[cu]

def agh{ρ:Type}(e f:List Int)(b:Int)(a:List Int)(d:Int)(c:Bool)(g:Int)(k:(List Int)→Option ρ):Option ρ:=jd [Ac 32 (Ae 0 e),f] fun h=>om b a d c h fun i j l m=>pq i j l m g fun o p q r n=>k n
def jo{ρ:Type}:=shut (agh (ρ:=ρ))
theorem am7{ρ:Type}(e:List Int)(f:List Int)(b:Int)(a:List Int)(d:Int)(c:Bool)(g:Int)(k:(List Int)→Option ρ):jo e f b a d c g k=agh e f b a d c g k:=by unfold jo;rw[cu]

def akz{ρ:Type}(a:Int)(b:List Int)(k:Int→(List Int)→Int→Bool→Int→Option ρ):Option ρ:=ab8 7 fun c d e f l=>om c d e f b fun g h i j=>k g h i j a
def aeb{ρ:Type}:=shut (akz (ρ:=ρ))
theorem asq{ρ:Type}(a:Int)(b:List Int)(k:Int→(List Int)→Int→Bool→Int→Option ρ):aeb a b k=akz a b k:=by unfold aeb;rw[cu]

def aku{ρ:Type}(d b:Int)(a:List Int)(k:Int→(List Int)→(List Int)→Int→Option ρ):Option ρ:=afn d fun e f g h n=>jd [a] fun c=>br (decide (0≤Aa.wrap (b-(↑a.length:Int)))) (br (decide ((c.length+(Aa.wrap (b-(↑a.length:Int))).toNat)*1≤140737488355328)) (zo e f g h (c++Af (Aa.wrap (b-(↑a.length:Int))).toNat (0:Int)) fun i j l m=>k i j l m) none) none
def zu{ρ:Type}:=shut (aku (ρ:=ρ))
theorem as7{ρ:Type}(a:Int)(b:Int)(c:List Int)(k:Int→(List Int)→(List Int)→Int→Option ρ):zu a b c k=aku a b c k:=by unfold zu;rw[cu]

def amk{ρ:Type}(a:List Int)(k:(List Int)→Option ρ):Option ρ:=jd [Ac 1 (Ae 3 a),Ac 8 (Ae 8 a),Ac 13 (Ae 19 a)] fun b=>k b
def zw{ρ:Type}:=shut (amk (ρ:=ρ))
theorem avp{ρ:Type}(a:List Int)(k:(List Int)→Option ρ):zw a k=amk a k:=by unfold zw;rw[cu]

def af4{ρ:Type}(n j:List Int)(c:Int)(a d:List Int)(e b g:Int)(f h:List Int)(i:Int)(k:(List Int)→Option ρ):Option ρ:=br (decide (b>16)) (br (decide ((↑j.length:Int)>b)) (zw n fun z=>jd [z,j] fun A=>zo g f h i A fun B C F G=>ac8 B C F G fun o=>br (decide (0≤b)) (br (decide (b≤(↑o.length:Int))) (k (Ac (b-0).toNat (Ae 0 o))) none) none) (zw n fun H=>jd [H,j] fun I=>zo c a d e I fun J p q r=>ac8 J p q r fun l=>br (decide (0≤b)) (br (decide (b≤(↑l.length:Int))) (k (Ac (b-0).toNat (Ae 0 l))) none) none)) (zw n fun s=>jd [s,j] fun t=>zo c a d e t fun u v w y=>ac8 u v w y fun m=>br (decide (0≤b)) (br (decide (b≤(↑m.length:Int))) (k (Ac (b-0).toNat (Ae 0 m))) none) none)
def jq{ρ:Type}:=shut (af4 (ρ:=ρ))
theorem amx{ρ:Type}(i:List Int)(j:List Int)(c:Int)(a:List Int)(d:List Int)(e:Int)(l:Int)(f:Int)(b:List Int)(g:List Int)(h:Int)(k:(List Int)→Option ρ):jq i j c a d e l f b g h k=af4 i j c a d e l f b g h k:=by unfold jq;rw[cu]

def aj7{ρ:Type}(b:Int)(a:List Int)(k:Int→(List Int)→(List Int)→Int→Int→Int→(List Int)→(List Int)→Int→Option ρ):Option ρ:=zu 1 64 a fun c d e f=>zu 3 128 a fun g h i j=>k c d e f b g h i j
def ad3{ρ:Type}:=shut (aj7 (ρ:=ρ))
theorem as1{ρ:Type}(a:Int)(b:List Int)(k:Int→(List Int)→(List Int)→Int→Int→Int→(List Int)→(List Int)→Int→Option ρ):ad3 a b k=aj7 a b k:=by unfold ad3;rw[cu]

def ah5{ρ:Type}(b c d e f:Int)(a:Bool)(g:List Int)(k:Int→Int→Int→Int→Int→Bool→Nat→Int→(List Int)→Int→Bool→Int→Int→(List Int)→(List Int)→Int→Int→Int→(List Int)→(List Int)→Int→Bool→Option ρ):Option ρ:=jv b c d e f a fun n=>br (!n) (k 0 0 0 0 0 false 0 0 [] 0 false 0 0 [] [] 0 0 0 [] [] 0 false) (br ((↑g.length:Int) !=b) (k 0 0 0 0 0 false 0 0 [] 0 false 0 0 [] [] 0 0 0 [] [] 0 false) (br a (aeb b g fun o p q r s=>k b c d e f a 1 o p q r s 0 [] [] 0 0 0 [] [] 0 true) (ad3 b g fun t u v w h i j l m=>k b c d e f a 2 0 [] 0 false 0 t u v w h i j l m true)))
def abk{ρ:Type}:=shut (ah5 (ρ:=ρ))
theorem an8{ρ:Type}(b:Int)(c:Int)(d:Int)(e:Int)(f:Int)(a:Bool)(g:List Int)(k:Int→Int→Int→Int→Int→Bool→Nat→Int→(List Int)→Int→Bool→Int→Int→(List Int)→(List Int)→Int→Int→Int→(List Int)→(List Int)→Int→Bool→Option ρ):abk b c d e f a g k=ah5 b c d e f a g k:=by unfold abk;rw[cu]

def aqz{ρ:Type}(b c d e f:Int)(a:Bool)(z g h:List Int)(k:(List Int)→Option ρ):Option ρ:=abk b c d e f a z fun F G H I J M i A B C j l m n o p q r s t u v=>br (!v) (k []) (br (decide (i=1)) (jo g h A B C j l fun w=>k w) (br (decide (i=2)) (jq g h m n o p q r s t u fun y=>k y) none))
def aao{ρ:Type}:=shut (aqz (ρ:=ρ))
theorem bdk{ρ:Type}(b:Int)(c:Int)(d:Int)(e:Int)(f:Int)(a:Bool)(g:List Int)(h:List Int)(i:List Int)(k:(List Int)→Option ρ):aao b c d e f a g h i k=aqz b c d e f a g h i k:=by unfold aao;rw[cu]

def ap5{ρ:Type}(b:List Int)(a c:Int)(k:(List Int)→Option ρ):Option ρ:=br (a==0) (xq c 4 fun d=>k ((Ac 4 d).append (Ae (0+min 4 d.length) b))) (br (a==1) (xq c 12 fun e=>k ((Ac 4 b).append (Ac 12 e++Ae (4+min 12 e.length) b))) (br (a==2) (xq c 4 fun j=>jd [j,Af 12 (0:Int)] fun f=>k ((Ac 16 b).append (Ac 16 f++Ae (16+min 16 f.length) b))) (br (a==3) (br (a==3) (br (decide (0≤Aa.wrap (8+Aa.wrap (4*a)))) (br (decide (Aa.wrap (8+Aa.wrap (4*a))≤(↑32:Int))) (xq c 4 fun g=>k ((Ac (Aa.wrap (8+Aa.wrap (4*a))).toNat b).append (Ac ((↑32:Int)-Aa.wrap (8+Aa.wrap (4*a))).toNat g++Ae ((Aa.wrap (8+Aa.wrap (4*a))).toNat+min ((↑32:Int)-Aa.wrap (8+Aa.wrap (4*a))).toNat g.length) b))) none) none) (k b)) (br (a==4) (br (a==4) (br (decide (0≤Aa.wrap (8+Aa.wrap (4*a)))) (br (decide (Aa.wrap (8+Aa.wrap (4*a))≤(↑32:Int))) (xq c 4 fun h=>k ((Ac (Aa.wrap (8+Aa.wrap (4*a))).toNat b).append (Ac ((↑32:Int)-Aa.wrap (8+Aa.wrap (4*a))).toNat h++Ae ((Aa.wrap (8+Aa.wrap (4*a))).toNat+min ((↑32:Int)-Aa.wrap (8+Aa.wrap (4*a))).toNat h.length) b))) none) none) (k b)) (br (a==5) (br (decide (0≤Aa.wrap (8+Aa.wrap (4*a)))) (br (decide (Aa.wrap (8+Aa.wrap (4*a))≤(↑32:Int))) (xq c 4 fun i=>k ((Ac (Aa.wrap (8+Aa.wrap (4*a))).toNat b).append (Ac ((↑32:Int)-Aa.wrap (8+Aa.wrap (4*a))).toNat i++Ae ((Aa.wrap (8+Aa.wrap (4*a))).toNat+min ((↑32:Int)-Aa.wrap (8+Aa.wrap (4*a))).toNat i.length) b))) none) none) (k b))))))
def jc{ρ:Type}:=shut (ap5 (ρ:=ρ))
theorem bc9{ρ:Type}(a:List Int)(b:Int)(c:Int)(k:(List Int)→Option ρ):jc a b c k=ap5 a b c k:=by unfold jc;rw[cu]

def ahf{ρ:Type}(d e f g h:Int)(b:Bool)(c i a:List Int)(j:Int)(k:(List Int)→Option ρ):Option ρ:=jc a 2 j fun l=>uy (Ac 4 (Ae 20 a)) fun m=>jc l 3 m fun n=>k n
def qb{ρ:Type}:=shut (ahf (ρ:=ρ))
theorem apt{ρ:Type}(c:Int)(d:Int)(e:Int)(f:Int)(g:Int)(a:Bool)(b:List Int)(h:List Int)(i:List Int)(j:Int)(k:(List Int)→Option ρ):qb c d e f g a b h i j k=ahf c d e f g a b h i j k:=by unfold qb;rw[cu]

def ad2{ρ:Type}(c d e f g:Int)(a:Bool)(b h i:List Int)(j l:Int)(k:(List Int)→Option ρ):Option ρ:=qb c d e f g a b h i 3 fun m=>jc m 4 (Ab.wrap j) fun n=>jc n 5 l fun o=>k o
def uo{ρ:Type}:=shut (ad2 (ρ:=ρ))
theorem ajb{ρ:Type}(c:Int)(d:Int)(e:Int)(f:Int)(g:Int)(a:Bool)(b:List Int)(h:List Int)(i:List Int)(j:Int)(l:Int)(k:(List Int)→Option ρ):uo c d e f g a b h i j l k=ad2 c d e f g a b h i j l k:=by unfold uo;rw[cu]

def afd{ρ:Type}(b c d e f:Int)(a:Bool)(g h i:List Int)(j l:Int)(m:List (List Int))(k:(List Int)→Option ρ):Option ρ:=uo b c d e f a g h i j l fun n=>jd m fun o=>aao b c d e f a h n o fun p=>k p
def qc{ρ:Type}:=shut (afd (ρ:=ρ))
theorem alo{ρ:Type}(c:Int)(d:Int)(e:Int)(f:Int)(g:Int)(a:Bool)(b:List Int)(h:List Int)(i:List Int)(j:Int)(l:Int)(m:List (List Int))(k:(List Int)→Option ρ):qc c d e f g a b h i j l m k=afd c d e f g a b h i j l m k:=by unfold qc;rw[cu]

abbrev cax(ρ:Type):=Int→(List Int)→(List Int)→Int→Int→Int→Int→Int→Int→Int→Bool→(List Int)→(List Int)→(List Int)→Option ρ
def aiy{ρ:Type}(m:Int)(c n:List Int)(l b a d e f g:Int)(h:Bool)(i j k:List Int)(nx o:cax ρ):Option ρ:=br (decide (b<l)) (br (decide ((0:Int)≤a)) (br (decide (a≤(↑c.length:Int))) (br (decide ((↑c.length:Int)≤(↑c.length:Int))) (br (decide ((0:Int)≤a)) (br (decide (a≤(↑(Ae a.toNat (Ac (↑c.length:Int).toNat c)).length:Int))) (br (decide (b<(0:Int))) none (br (bits BinOp.and Ab (m.fdiv ((2:Int)^min b.toNat 64)) (1:Int)==(1:Int)) (br (decide (Aa.wrap (b+(1:Int))<(0:Int))) none (qc a d e f g h i j k (Aa.wrap (b+(1:Int))) (m.fdiv ((2:Int)^min (Aa.wrap (b+(1:Int))).toNat 64)) [Ae 0 (Ac a.toNat (Ae a.toNat (Ac (↑c.length:Int).toNat c))),n] fun p=>nx m (Ae a.toNat (Ac (↑c.length:Int).toNat c)) p l (Aa.wrap (b+(1:Int))) a d e f g h i j k)) (br (decide (Aa.wrap (b+(1:Int))<(0:Int))) none (qc a d e f g h i j k (Aa.wrap (b+(1:Int))) (m.fdiv ((2:Int)^min (Aa.wrap (b+(1:Int))).toNat 64)) [n,Ae 0 (Ac a.toNat (Ae a.toNat (Ac (↑c.length:Int).toNat c)))] fun q=>nx m (Ae a.toNat (Ac (↑c.length:Int).toNat c)) q l (Aa.wrap (b+(1:Int))) a d e f g h i j k)))) none) none) none) none) none) (o m c n l b a d e f g h i j k)
abbrev b4u:=Int×(List Int)×(List Int)×Int×Int×Int×Int×Int×Int×Int×Bool×(List Int)×(List Int)×(List Int)
abbrev cdj:=b4u
def cca{ρ:Type}(f:b4u→Option ρ):cax ρ:=fun m n o k l a b c d e g h i j=>f (m,n,o,k,l,a,b,c,d,e,g,h,i,j)
def b56{ρ:Type}:aed b4u cdj ρ:=fun (l,m,n,j,k,a,b,c,d,e,f,g,h,i) next ex=>aiy l m n j k a b c d e f g h i (cca next) (cca ex)
def cei{ρ:Type}:=shut (lp (b56 (ρ:=ρ)))
theorem chp{ρ:Type}:cei (ρ:=ρ)=lp b56:=cu _
def b6j{ρ:Type}(f:ad4 b4u cdj ρ)(m:Int)(n o:List Int)(k l a b c d e:Int)(g:Bool)(h i j:List Int)(p:cax ρ):Option ρ:=f (m,n,o,k,l,a,b,c,d,e,g,h,i,j) (fun (m,n,o,k,l,a,b,c,d,e,g,h,i,j)=>p m n o k l a b c d e g h i j)
def apa{ρ:Type}:=b6j (lp (b56 (ρ:=ρ)))
def ao2{ρ:Type}:=b6j (cei (ρ:=ρ))
theorem atq{ρ:Type}:ao2 (ρ:=ρ)=apa:=congrArg b6j chp
def ahw{ρ:Type}(a e f c g:Int)(b:Bool)(d h i:List Int)(l:Int)(j:List Int)(k:(List Int)→Option ρ):Option ρ:=br (decide (0≤a)) (br (decide (a≤(↑j.length:Int))) (qc a e f c g b d h i 0 l [Ae 0 (Ac a.toNat j)] fun m=>ao2 l j m c 0 a e f c g b d h i fun t u n v w y z A B o p q r s=>k n) none) none
def qp{ρ:Type}:=shut (ahw (ρ:=ρ))
theorem ao6{ρ:Type}(c:Int)(d:Int)(e:Int)(f:Int)(g:Int)(a:Bool)(b:List Int)(h:List Int)(i:List Int)(j:Int)(l:List Int)(k:(List Int)→Option ρ):qp c d e f g a b h i j l k=ahw c d e f g a b h i j l k:=by unfold qp;rw[cu]

def agm{ρ:Type}(b c d e f:Int)(a:Bool)(g h i j:List Int)(k:(List Int)→Option ρ):Option ρ:=qb b c d e f a g h i 4 fun l=>aao b c d e f a h l j fun m=>k m
def pz{ρ:Type}:=shut (agm (ρ:=ρ))
theorem amt{ρ:Type}(c:Int)(d:Int)(e:Int)(f:Int)(g:Int)(a:Bool)(b:List Int)(h:List Int)(i:List Int)(j:List Int)(k:(List Int)→Option ρ):pz c d e f g a b h i j k=agm c d e f g a b h i j k:=by unfold pz;rw[cu]

def av8{ρ:Type}(c:List Int)(a b:Int)(k:Bool→Option ρ):Option ρ:=br (decide (a≥1)) (br (decide (a≤24)) (br (decide (b≥0)) (br (decide (a=0)) none (k (decide (b≤Aa.wrap ((Aa.wrap ((↑c.length:Int)*8)).tdiv a))))) (k false)) (k false)) (k false)
def ad8{ρ:Type}:=shut (av8 (ρ:=ρ))
theorem aze{ρ:Type}(a:List Int)(b:Int)(c:Int)(k:Bool→Option ρ):ad8 a b c k=av8 a b c k:=by unfold ad8;rw[cu]

abbrev cfb(ρ:Type):=(List Int)→Int→Int→Int→Int→Int→Int→(List Int)→Option ρ
def aml{ρ:Type}(a:List Int)(e g f b c d:Int)(h:List Int)(nx i:cfb ρ):Option ρ:=br (decide (f<e)) (br (decide (0<(↑a.length:Int))) (br (decide (1≤(↑a.length:Int))) (br (decide ((↑a.length:Int)≤(↑a.length:Int))) (nx (Ae 1 (Ac (↑a.length:Int).toNat a)) e (bits BinOp.or Ab (Ab.wrap (g*2^8)) (Ab.wrap (a.getD 0 0))) (Aa.wrap (f+8)) b c d h) none) none) none) (i a e g f b c d h)
abbrev b5y:=(List Int)×Int×Int×Int×Int×Int×Int×(List Int)
abbrev ccp:=b5y
def b8h{ρ:Type}(f:b5y→Option ρ):cfb ρ:=fun d e g h a b c i=>f (d,e,g,h,a,b,c,i)
def b1l{ρ:Type}:aed b5y ccp ρ:=fun (d,e,f,g,a,b,c,h) next ex=>aml d e f g a b c h (b8h next) (b8h ex)
def b99{ρ:Type}:=shut (lp (b1l (ρ:=ρ)))
theorem cgv{ρ:Type}:b99 (ρ:=ρ)=lp b1l:=cu _
def b6x{ρ:Type}(f:ad4 b5y ccp ρ)(d:List Int)(e g h a b c:Int)(i:List Int)(j:cfb ρ):Option ρ:=f (d,e,g,h,a,b,c,i) (fun (d,e,g,h,a,b,c,i)=>j d e g h a b c i)
def asr{ρ:Type}:=b6x (lp (b1l (ρ:=ρ)))
def as0{ρ:Type}:=b6x (b99 (ρ:=ρ))
theorem axa{ρ:Type}:as0 (ρ:=ρ)=asr:=congrArg b6x cgv
abbrev ccq(ρ:Type):=(List Int)→Int→Int→Int→Int→Int→(List Int)→Option ρ
def al8{ρ:Type}(f:List Int)(g h i c a:Int)(j:List Int)(nx m:ccq ρ):Option ρ:=br (decide (a<c)) (as0 f g h i a c a j fun n b k d e o p l=>br (decide (Aa.wrap (d-b)<0)) none (br (decide (b<0)) none (br (decide (0≤e)) (br (decide (e<(↑l.length:Int))) (nx n b k (Aa.wrap (d-b)) o (Aa.wrap (p+1)) (l.set e.toNat (Ad.wrap (bits BinOp.and Ab (k.fdiv (2^min (Aa.wrap (d-b)).toNat 64)) (Ab.wrap (Ab.wrap (1*2^min b.toNat 64)-1)))))) none) none))) (m f g h i c a j)
abbrev b33:=(List Int)×Int×Int×Int×Int×Int×(List Int)
abbrev cdg:=b33
def b91{ρ:Type}(f:b33→Option ρ):ccq ρ:=fun c d e g a b h=>f (c,d,e,g,a,b,h)
def b5o{ρ:Type}:aed b33 cdg ρ:=fun (c,d,e,f,a,b,g) next ex=>al8 c d e f a b g (b91 next) (b91 ex)
def cdf{ρ:Type}:=shut (lp (b5o (ρ:=ρ)))
theorem cgr{ρ:Type}:cdf (ρ:=ρ)=lp b5o:=cu _
def b7f{ρ:Type}(f:ad4 b33 cdg ρ)(c:List Int)(d e g a b:Int)(h:List Int)(i:ccq ρ):Option ρ:=f (c,d,e,g,a,b,h) (fun (c,d,e,g,a,b,h)=>i c d e g a b h)
def ata{ρ:Type}:=b7f (lp (b5o (ρ:=ρ)))
def asv{ρ:Type}:=b7f (cdf (ρ:=ρ))
theorem axl{ρ:Type}:asv (ρ:=ρ)=ata:=congrArg b7f cgr
def akc{ρ:Type}(b:List Int)(c a:Int)(k:(List Int)→Option ρ):Option ρ:=ad8 b c a fun d=>br (!d) (k []) (br (decide (0≤a)) (br (decide (a≤a)) (br (decide (a*(↑4:Int)≤(↑140737488355328:Int))) (asv b c 0 0 (↑(Af a.toNat (0:Int)).length:Int) 0 (Af a.toNat (0:Int)) fun f g h i j l e=>k e) none) none) none)
def ny{ρ:Type}:=shut (akc (ρ:=ρ))
theorem as6{ρ:Type}(a:List Int)(b:Int)(c:Int)(k:(List Int)→Option ρ):ny a b c k=akc a b c k:=by unfold ny;rw[cu]

end P
end
