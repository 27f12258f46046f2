/-
  SlhSigns, part 11: lemmas for the law.
-/

import Derived.Test.YtciddcopcdmnbaaGreatDoorSlhSignsH
import Derived.Test.YtciddcopcdmnbaaGreatDoorSlhSignsI
import Derived.Test.YtciddcopcdmnbaaGreatDoorSlhSignsJ
open Go.IntKind renaming i64 → Aa, u64 → Ab, u32 → Ad, u8 → Ag
open List renaming take → Ac, drop → Ae, replicate → Af

noncomputable section
open Go Go.Abs
set_option linter.unusedVariables false
namespace P

abbrev zc3(ρ:Type):=Int→(List Int)→(List Int)→(List Int)→Option ρ
def aln{ρ:Type}(a:Int)(c b d:List Int)(nx e:zc3 ρ):Option ρ:=br (decide (a<5)) (br (decide (0≤a)) (br (decide (a<(↑25:Int))) (br (decide (0≤Aa.wrap (a+5))) (br (decide (Aa.wrap (a+5)<(↑25:Int))) (br (decide (0≤Aa.wrap (a+10))) (br (decide (Aa.wrap (a+10)<(↑25:Int))) (br (decide (0≤Aa.wrap (a+15))) (br (decide (Aa.wrap (a+15)<(↑25:Int))) (br (decide (0≤Aa.wrap (a+20))) (br (decide (Aa.wrap (a+20)<(↑25:Int))) (br (decide (0≤a)) (br (decide (a<(↑5:Int))) (nx (Aa.wrap (a+1)) c b (d.set a.toNat (bits BinOp.xor Ab (bits BinOp.xor Ab (bits BinOp.xor Ab (bits BinOp.xor Ab (b.getD a.toNat 0) (b.getD (Aa.wrap (a+5)).toNat 0)) (b.getD (Aa.wrap (a+10)).toNat 0)) (b.getD (Aa.wrap (a+15)).toNat 0)) (b.getD (Aa.wrap (a+20)).toNat 0)))) none) none) none) none) none) none) none) none) none) none) none) none) (e a c b d)
abbrev zt3:=Int×(List Int)×(List Int)×(List Int)
abbrev zy3:=zt3
def zu3{ρ:Type}(f:zt3→Option ρ):zc3 ρ:=fun d a b c=>f (d,a,b,c)
def zs3{ρ:Type}:ab5 zt3 zy3 ρ:=fun (d,a,b,c) next ex=>aln d a b c (zu3 next) (zu3 ex)
def zm3{ρ:Type}:=shut (lp (zs3 (ρ:=ρ)))
theorem ze3{ρ:Type}:zm3 (ρ:=ρ)=lp zs3:=bg _
def zk3{ρ:Type}(f:ab6 zt3 zy3 ρ)(d:Int)(a b c:List Int)(e:zc3 ρ):Option ρ:=f (d,a,b,c) (fun (d,a,b,c)=>e d a b c)
def amc{ρ:Type}:=zk3 (lp (zs3 (ρ:=ρ)))
def af5{ρ:Type}:=zk3 (zm3 (ρ:=ρ))
theorem aru{ρ:Type}:af5 (ρ:=ρ)=amc:=congrArg zk3 ze3
abbrev zc4(ρ:Type):=Int→Int→Int→Int→Int→(List Int)→(List Int)→(List Int)→(List Int)→Option ρ
def adf{ρ:Type}(i b h a g:Int)(d e f c:List Int)(nx j:zc4 ρ):Option ρ:=br (decide (a<25)) (br (decide (0≤Aa.wrap (b+a))) (br (decide (Aa.wrap (b+a)<(↑25:Int))) (br (decide (0≤Aa.wrap (b+a))) (br (decide (Aa.wrap (b+a)<(↑25:Int))) (nx i b h (Aa.wrap (a+5)) g d e f (c.set (Aa.wrap (b+a)).toNat (bits BinOp.xor Ab (c.getD (Aa.wrap (b+a)).toNat 0) h))) none) none) none) none) (j i b h a g d e f c)
abbrev zt4:=Int×Int×Int×Int×Int×(List Int)×(List Int)×(List Int)×(List Int)
abbrev zy4:=zt4
def zu4{ρ:Type}(f:zt4→Option ρ):zc4 ρ:=fun g h i j e a b c d=>f (g,h,i,j,e,a,b,c,d)
def zs4{ρ:Type}:ab5 zt4 zy4 ρ:=fun (f,g,h,i,e,a,b,c,d) next ex=>adf f g h i e a b c d (zu4 next) (zu4 ex)
def zm4{ρ:Type}:=shut (lp (zs4 (ρ:=ρ)))
theorem ze4{ρ:Type}:zm4 (ρ:=ρ)=lp zs4:=bg _
def zk4{ρ:Type}(f:ab6 zt4 zy4 ρ)(g h i j e:Int)(a b c d:List Int)(k:zc4 ρ):Option ρ:=f (g,h,i,j,e,a,b,c,d) (fun (g,h,i,j,e,a,b,c,d)=>k g h i j e a b c d)
def ac6{ρ:Type}:=zk4 (lp (zs4 (ρ:=ρ)))
def al2{ρ:Type}:=zk4 (zm4 (ρ:=ρ))
theorem adu{ρ:Type}:al2 (ρ:=ρ)=ac6:=congrArg zk4 ze4
abbrev zc5(ρ:Type):=Int→Int→(List Int)→(List Int)→(List Int)→(List Int)→Option ρ
def alh{ρ:Type}(f a:Int)(c d e b:List Int)(nx g:zc5 ρ):Option ρ:=br (decide (a<5)) (br (decide (0≤(Aa.wrap (a+4)).tmod 5)) (br (decide ((Aa.wrap (a+4)).tmod 5<(↑5:Int))) (br (decide (0≤(Aa.wrap (a+1)).tmod 5)) (br (decide ((Aa.wrap (a+1)).tmod 5<(↑5:Int))) (j6 (b.getD ((Aa.wrap (a+1)).tmod 5).toNat 0) 1 fun h=>al2 f a (bits BinOp.xor Ab (b.getD ((Aa.wrap (a+4)).tmod 5).toNat 0) h) 0 a b e d c fun i o p q j k l m n=>nx i (Aa.wrap (j+1)) n m l k) none) none) none) none) (g f a c d e b)
abbrev zt5:=Int×Int×(List Int)×(List Int)×(List Int)×(List Int)
abbrev zy5:=zt5
def zu5{ρ:Type}(f:zt5→Option ρ):zc5 ρ:=fun g e a b c d=>f (g,e,a,b,c,d)
def zs5{ρ:Type}:ab5 zt5 zy5 ρ:=fun (f,e,a,b,c,d) next ex=>alh f e a b c d (zu5 next) (zu5 ex)
def zm5{ρ:Type}:=shut (lp (zs5 (ρ:=ρ)))
theorem ze5{ρ:Type}:zm5 (ρ:=ρ)=lp zs5:=bg _
def zk5{ρ:Type}(f:ab6 zt5 zy5 ρ)(g e:Int)(a b c d:List Int)(h:zc5 ρ):Option ρ:=f (g,e,a,b,c,d) (fun (g,e,a,b,c,d)=>h g e a b c d)
def alp{ρ:Type}:=zk5 (lp (zs5 (ρ:=ρ)))
def agc{ρ:Type}:=zk5 (zm5 (ρ:=ρ))
theorem arq{ρ:Type}:agc (ρ:=ρ)=alp:=congrArg zk5 ze5
abbrev zc6(ρ:Type):=Int→Int→(List Int)→Int→(List Int)→(List Int)→(List Int)→(List Int)→Option ρ
def akg{ρ:Type}(g h:Int)(b:List Int)(a:Int)(d e f c:List Int)(nx i:zc6 ρ):Option ρ:=br (decide (a<24)) (br (decide (0≤a)) (br (decide (a<(↑24:Int))) (br (decide (0≤a)) (br (decide (a<(↑24:Int))) (j6 h (cax.getD a.toNat 0) fun j=>br (decide (0≤b.getD a.toNat 0)) (br (decide (b.getD a.toNat 0<(↑25:Int))) (br (decide (0≤b.getD a.toNat 0)) (br (decide (b.getD a.toNat 0<(↑25:Int))) (nx g (c.getD (b.getD a.toNat 0).toNat 0) b (Aa.wrap (a+1)) d e f (c.set (b.getD a.toNat 0).toNat j)) none) none) none) none) none) none) none) none) (i g h b a d e f c)
abbrev zt6:=Int×Int×(List Int)×Int×(List Int)×(List Int)×(List Int)×(List Int)
abbrev zy6:=zt6
def zu6{ρ:Type}(f:zt6→Option ρ):zc6 ρ:=fun h i e g a b c d=>f (h,i,e,g,a,b,c,d)
def zs6{ρ:Type}:ab5 zt6 zy6 ρ:=fun (g,h,e,f,a,b,c,d) next ex=>akg g h e f a b c d (zu6 next) (zu6 ex)
def zm6{ρ:Type}:=shut (lp (zs6 (ρ:=ρ)))
theorem ze6{ρ:Type}:zm6 (ρ:=ρ)=lp zs6:=bg _
def zk6{ρ:Type}(f:ab6 zt6 zy6 ρ)(h i:Int)(e:List Int)(g:Int)(a b c d:List Int)(j:zc6 ρ):Option ρ:=f (h,i,e,g,a,b,c,d) (fun (h,i,e,g,a,b,c,d)=>j h i e g a b c d)
def akf{ρ:Type}:=zk6 (lp (zs6 (ρ:=ρ)))
def afs{ρ:Type}:=zk6 (zm6 (ρ:=ρ))
theorem ap1{ρ:Type}:afs (ρ:=ρ)=akf:=congrArg zk6 ze6
abbrev zc7(ρ:Type):=Int→Int→Int→(List Int)→(List Int)→(List Int)→(List Int)→(List Int)→Option ρ
def acj{ρ:Type}(h c a:Int)(d e f g b:List Int)(nx i:zc7 ρ):Option ρ:=br (decide (a<5)) (br (decide (0≤a)) (br (decide (a<(↑5:Int))) (br (decide (0≤(Aa.wrap (a+2)).tmod 5)) (br (decide ((Aa.wrap (a+2)).tmod 5<(↑5:Int))) (br (decide (0≤(Aa.wrap (a+1)).tmod 5)) (br (decide ((Aa.wrap (a+1)).tmod 5<(↑5:Int))) (br (decide (0≤Aa.wrap (c+a))) (br (decide (Aa.wrap (c+a)<(↑25:Int))) (nx h c (Aa.wrap (a+1)) d e f (g.set (Aa.wrap (c+a)).toNat (bits BinOp.xor Ab (b.getD a.toNat 0) (bits BinOp.andNot Ab (b.getD ((Aa.wrap (a+2)).tmod 5).toNat 0) (b.getD ((Aa.wrap (a+1)).tmod 5).toNat 0)))) b) none) none) none) none) none) none) none) none) (i h c a d e f g b)
abbrev zt7:=Int×Int×Int×(List Int)×(List Int)×(List Int)×(List Int)×(List Int)
abbrev zy7:=zt7
def zu7{ρ:Type}(f:zt7→Option ρ):zc7 ρ:=fun i g h a b c d e=>f (i,g,h,a,b,c,d,e)
def zs7{ρ:Type}:ab5 zt7 zy7 ρ:=fun (h,f,g,a,b,c,d,e) next ex=>acj h f g a b c d e (zu7 next) (zu7 ex)
def zm7{ρ:Type}:=shut (lp (zs7 (ρ:=ρ)))
theorem ze7{ρ:Type}:zm7 (ρ:=ρ)=lp zs7:=bg _
def zk7{ρ:Type}(f:ab6 zt7 zy7 ρ)(i g h:Int)(a b c d e:List Int)(j:zc7 ρ):Option ρ:=f (i,g,h,a,b,c,d,e) (fun (i,g,h,a,b,c,d,e)=>j i g h a b c d e)
def aci{ρ:Type}:=zk7 (lp (zs7 (ρ:=ρ)))
def aj9{ρ:Type}:=zk7 (zm7 (ρ:=ρ))
theorem ade{ρ:Type}:aj9 (ρ:=ρ)=aci:=congrArg zk7 ze7
abbrev zc8(ρ:Type):=Int→Int→(List Int)→(List Int)→(List Int)→(List Int)→Option ρ
def akb{ρ:Type}(f a:Int)(b c d e:List Int)(nx g:zc5 ρ):Option ρ:=br (decide (a<25)) (br (decide (0≤a)) (br (decide (a≤Aa.wrap (a+5))) (br (decide (Aa.wrap (a+5)≤(↑25:Int))) (br (decide (5≤(Aa.wrap (a+5)-a).toNat)) (br (decide (a.toNat+5≤25)) (aj9 f a 0 e d c b (Ac 5 (Ae a.toNat b)) fun h i n j k l m o=>nx h (Aa.wrap (i+5)) m l k j) none) none) none) none) none) (g f a b c d e)
abbrev zt8:=Int×Int×(List Int)×(List Int)×(List Int)×(List Int)
abbrev zy8:=zt8
def zu8{ρ:Type}(f:zt8→Option ρ):zc8 ρ:=fun g e a b c d=>f (g,e,a,b,c,d)
def zs8{ρ:Type}:ab5 zt8 zy8 ρ:=fun (f,e,a,b,c,d) next ex=>akb f e a b c d (zu8 next) (zu8 ex)
def zm8{ρ:Type}:=shut (lp (zs8 (ρ:=ρ)))
theorem ze8{ρ:Type}:zm8 (ρ:=ρ)=lp zs8:=bg _
def zk8{ρ:Type}(f:ab6 zt8 zy8 ρ)(g e:Int)(a b c d:List Int)(h:zc5 ρ):Option ρ:=f (g,e,a,b,c,d) (fun (g,e,a,b,c,d)=>h g e a b c d)
def aki{ρ:Type}:=zk8 (lp (zs8 (ρ:=ρ)))
def afq{ρ:Type}:=zk8 (zm8 (ρ:=ρ))
theorem apm{ρ:Type}:afq (ρ:=ρ)=aki:=congrArg zk8 ze8
abbrev zc9(ρ:Type):=(List Int)→Int→(List Int)→(List Int)→Option ρ
def aip{ρ:Type}(e:List Int)(a:Int)(b c:List Int)(nx o:zc9 ρ):Option ρ:=br (decide (a<24)) (br (decide (0≤a)) (br (decide (a<(↑24:Int))) (af5 0 c b [0,0,0,0,0] fun C p q f=>agc (e.getD a.toNat 0) 0 q p f f fun r F g s t u=>afs r (g.getD 1 0) b5h 0 u t s g fun h v w y i j k l=>afq h 0 l k j i fun m z d n A B=>nx e (Aa.wrap (a+1)) (d.set 0 (bits BinOp.xor Ab (d.getD 0 0) m)) n) none) none) (o e a b c)
abbrev zt9:=(List Int)×Int×(List Int)×(List Int)
abbrev zy9:=zt9
def zu9{ρ:Type}(f:zt9→Option ρ):zc9 ρ:=fun c d a b=>f (c,d,a,b)
def zs9{ρ:Type}:ab5 zt9 zy9 ρ:=fun (c,d,a,b) next ex=>aip c d a b (zu9 next) (zu9 ex)
def zm9{ρ:Type}:=shut (lp (zs9 (ρ:=ρ)))
theorem ze9{ρ:Type}:zm9 (ρ:=ρ)=lp zs9:=bg _
def zk9{ρ:Type}(f:ab6 zt9 zy9 ρ)(c:List Int)(d:Int)(a b:List Int)(e:zc9 ρ):Option ρ:=f (c,d,a,b) (fun (c,d,a,b)=>e c d a b)
def aoh{ρ:Type}:=zk9 (lp (zs9 (ρ:=ρ)))
def an9{ρ:Type}:=zk9 (zm9 (ρ:=ρ))
theorem au1{ρ:Type}:an9 (ρ:=ρ)=aoh:=congrArg zk9 ze9
def ahk{ρ:Type}(a:List Int)(k:(List Int)→Option ρ):Option ρ:=an9 bu4 0 a [0,0,0,0,0,0,0,0,0,0,0,0,0,0,0,0,0,0,0,0,0,0,0,0,0] fun c d b e=>k b
def jo{ρ:Type}:=shut (ahk (ρ:=ρ))
theorem an7{ρ:Type}(a:List Int)(k:(List Int)→Option ρ):jo a k=ahk a k:=by unfold jo;rw[bg]

def ah9{ρ:Type}(c:Int)(b:List Int)(a:Int)(g:Bool)(k:Int→(List Int)→Int→Bool→Option ρ):Option ρ:=br (c==4) (br (decide (0≤Aa.wrap (a.tdiv 8))) (br (decide (Aa.wrap (a.tdiv 8)<(↑25:Int))) (br (decide (Aa.wrap (8*a.tmod 8)<0)) none (br (decide (0≤Aa.wrap (a.tdiv 8))) (br (decide (Aa.wrap (a.tdiv 8)<(↑25:Int))) (oz c fun d=>br (decide (0≤Aa.wrap ((Aa.wrap (d-1)).tdiv 8))) (br (decide (Aa.wrap ((Aa.wrap (d-1)).tdiv 8)<(↑25:Int))) (br (decide (Aa.wrap (8*(Aa.wrap (d-1)).tmod 8)<0)) none (br (decide (0≤Aa.wrap ((Aa.wrap (d-1)).tdiv 8))) (br (decide (Aa.wrap ((Aa.wrap (d-1)).tdiv 8)<(↑25:Int))) (jo ((b.set (Aa.wrap (a.tdiv 8)).toNat (bits BinOp.xor Ab (b.getD (Aa.wrap (a.tdiv 8)).toNat 0) (Ab.wrap (Ab.wrap 6*2^min (Aa.wrap (8*a.tmod 8)).toNat 64)))).set (Aa.wrap ((Aa.wrap (d-1)).tdiv 8)).toNat (bits BinOp.xor Ab ((b.set (Aa.wrap (a.tdiv 8)).toNat (bits BinOp.xor Ab (b.getD (Aa.wrap (a.tdiv 8)).toNat 0) (Ab.wrap (Ab.wrap 6*2^min (Aa.wrap (8*a.tmod 8)).toNat 64)))).getD (Aa.wrap ((Aa.wrap (d-1)).tdiv 8)).toNat 0) (Ab.wrap (Ab.wrap 128*2^min (Aa.wrap (8*(Aa.wrap (d-1)).tmod 8)).toNat 64)))) fun h=>k c h 0 true) none) none)) none) none) none) none)) none) none) (br (c==5) (br (decide (0≤Aa.wrap (a.tdiv 8))) (br (decide (Aa.wrap (a.tdiv 8)<(↑25:Int))) (br (decide (Aa.wrap (8*a.tmod 8)<0)) none (br (decide (0≤Aa.wrap (a.tdiv 8))) (br (decide (Aa.wrap (a.tdiv 8)<(↑25:Int))) (oz c fun e=>br (decide (0≤Aa.wrap ((Aa.wrap (e-1)).tdiv 8))) (br (decide (Aa.wrap ((Aa.wrap (e-1)).tdiv 8)<(↑25:Int))) (br (decide (Aa.wrap (8*(Aa.wrap (e-1)).tmod 8)<0)) none (br (decide (0≤Aa.wrap ((Aa.wrap (e-1)).tdiv 8))) (br (decide (Aa.wrap ((Aa.wrap (e-1)).tdiv 8)<(↑25:Int))) (jo ((b.set (Aa.wrap (a.tdiv 8)).toNat (bits BinOp.xor Ab (b.getD (Aa.wrap (a.tdiv 8)).toNat 0) (Ab.wrap (Ab.wrap 6*2^min (Aa.wrap (8*a.tmod 8)).toNat 64)))).set (Aa.wrap ((Aa.wrap (e-1)).tdiv 8)).toNat (bits BinOp.xor Ab ((b.set (Aa.wrap (a.tdiv 8)).toNat (bits BinOp.xor Ab (b.getD (Aa.wrap (a.tdiv 8)).toNat 0) (Ab.wrap (Ab.wrap 6*2^min (Aa.wrap (8*a.tmod 8)).toNat 64)))).getD (Aa.wrap ((Aa.wrap (e-1)).tdiv 8)).toNat 0) (Ab.wrap (Ab.wrap 128*2^min (Aa.wrap (8*(Aa.wrap (e-1)).tmod 8)).toNat 64)))) fun i=>k c i 0 true) none) none)) none) none) none) none)) none) none) (br (decide (0≤Aa.wrap (a.tdiv 8))) (br (decide (Aa.wrap (a.tdiv 8)<(↑25:Int))) (br (decide (Aa.wrap (8*a.tmod 8)<0)) none (br (decide (0≤Aa.wrap (a.tdiv 8))) (br (decide (Aa.wrap (a.tdiv 8)<(↑25:Int))) (oz c fun f=>br (decide (0≤Aa.wrap ((Aa.wrap (f-1)).tdiv 8))) (br (decide (Aa.wrap ((Aa.wrap (f-1)).tdiv 8)<(↑25:Int))) (br (decide (Aa.wrap (8*(Aa.wrap (f-1)).tmod 8)<0)) none (br (decide (0≤Aa.wrap ((Aa.wrap (f-1)).tdiv 8))) (br (decide (Aa.wrap ((Aa.wrap (f-1)).tdiv 8)<(↑25:Int))) (jo ((b.set (Aa.wrap (a.tdiv 8)).toNat (bits BinOp.xor Ab (b.getD (Aa.wrap (a.tdiv 8)).toNat 0) (Ab.wrap (Ab.wrap 31*2^min (Aa.wrap (8*a.tmod 8)).toNat 64)))).set (Aa.wrap ((Aa.wrap (f-1)).tdiv 8)).toNat (bits BinOp.xor Ab ((b.set (Aa.wrap (a.tdiv 8)).toNat (bits BinOp.xor Ab (b.getD (Aa.wrap (a.tdiv 8)).toNat 0) (Ab.wrap (Ab.wrap 31*2^min (Aa.wrap (8*a.tmod 8)).toNat 64)))).getD (Aa.wrap ((Aa.wrap (f-1)).tdiv 8)).toNat 0) (Ab.wrap (Ab.wrap 128*2^min (Aa.wrap (8*(Aa.wrap (f-1)).tmod 8)).toNat 64)))) fun j=>k c j 0 true) none) none)) none) none) none) none)) none) none))
def za{ρ:Type}:=shut (ah9 (ρ:=ρ))
theorem aq7{ρ:Type}(b:Int)(a:List Int)(d:Int)(c:Bool)(k:Int→(List Int)→Int→Bool→Option ρ):za b a d c k=ah9 b a d c k:=by unfold za;rw[bg]

abbrev ckq(ρ:Type):=Int→Int→Int→(List Int)→Int→Bool→Int→(List Int)→Int→Bool→(List Int)→Option ρ
def aio{ρ:Type}(j b c:Int)(d:List Int)(a:Int)(e:Bool)(f:Int)(g:List Int)(h:Int)(i:Bool)(k:List Int)(nx m:ckq ρ):Option ρ:=br (decide (b<j)) (oz c fun n=>br (a==n) (jo d fun l=>br (decide (0≤b)) (br (decide (b<(↑k.length:Int))) (nx j (Aa.wrap (b+1)) c l (Aa.wrap (0+1)) e f g h i (k.set b.toNat (Ag.wrap ((l.getD 0 0).fdiv (2^0))))) none) none) (br (decide (0≤Aa.wrap (a.tdiv 8))) (br (decide (Aa.wrap (a.tdiv 8)<(↑25:Int))) (br (decide (Aa.wrap (8*a.tmod 8)<0)) none (br (decide (0≤b)) (br (decide (b<(↑k.length:Int))) (nx j (Aa.wrap (b+1)) c d (Aa.wrap (a+1)) e f g h i (k.set b.toNat (Ag.wrap ((d.getD (Aa.wrap (a.tdiv 8)).toNat 0).fdiv (2^min (Aa.wrap (8*a.tmod 8)).toNat 64))))) none) none)) none) none)) (m j b c d a e f g h i k)
abbrev b9i:=Int×Int×Int×(List Int)×Int×Bool×Int×(List Int)×Int×Bool×(List Int)
abbrev cn4:=b9i
def cpf{ρ:Type}(f:b9i→Option ρ):ckq ρ:=fun j k a b c d e g h i l=>f (j,k,a,b,c,d,e,g,h,i,l)
def cbz{ρ:Type}:ab5 b9i cn4 ρ:=fun (i,j,a,b,c,d,e,f,g,h,k) next ex=>aio i j a b c d e f g h k (cpf next) (cpf ex)
def ckn{ρ:Type}:=shut (lp (cbz (ρ:=ρ)))
theorem cr4{ρ:Type}:ckn (ρ:=ρ)=lp cbz:=bg _
def cdm{ρ:Type}(f:ab6 b9i cn4 ρ)(j k a:Int)(b:List Int)(c:Int)(d:Bool)(e:Int)(g:List Int)(h:Int)(i:Bool)(l:List Int)(m:ckq ρ):Option ρ:=f (j,k,a,b,c,d,e,g,h,i,l) (fun (j,k,a,b,c,d,e,g,h,i,l)=>m j k a b c d e g h i l)
def an3{ρ:Type}:=cdm (lp (cbz (ρ:=ρ)))
def afi{ρ:Type}:=cdm (ckn (ρ:=ρ))
theorem au0{ρ:Type}:afi (ρ:=ρ)=an3:=congrArg cdm cr4
def agm{ρ:Type}(c:Int)(a:List Int)(e:Int)(b:Bool)(d:Int)(k:Int→(List Int)→Int→Bool→(List Int)→Option ρ):Option ρ:=br (decide (d<0)) (k c a e b []) (br (!b) (za c a e b fun m n o p=>br (decide (0≤d)) (br (decide (d≤d)) (br (decide (d*(↑1:Int)≤(↑140737488355328:Int))) (afi (↑(Af d.toNat (0:Int)).length:Int) 0 m n o p 0 [0,0,0,0,0,0,0,0,0,0,0,0,0,0,0,0,0,0,0,0,0,0,0,0,0] 0 false (Af d.toNat (0:Int)) fun H I q r s t u v w y f=>k q r s t f) none) none) none) (br (decide (0≤d)) (br (decide (d≤d)) (br (decide (d*(↑1:Int)≤(↑140737488355328:Int))) (afi (↑(Af d.toNat (0:Int)).length:Int) 0 c a e b 0 [0,0,0,0,0,0,0,0,0,0,0,0,0,0,0,0,0,0,0,0,0,0,0,0,0] 0 false (Af d.toNat (0:Int)) fun z A g h i j B C F G l=>k g h i j l) none) none) none))
def qz{ρ:Type}:=shut (agm (ρ:=ρ))
theorem an8{ρ:Type}(b:Int)(a:List Int)(d:Int)(c:Bool)(e:Int)(k:Int→(List Int)→Int→Bool→(List Int)→Option ρ):qz b a d c e k=agm b a d c e k:=by unfold qz;rw[bg]

abbrev chs(ρ:Type):=(List Int)→Int→Int→Int→Int→(List Int)→Int→Bool→Int→(List Int)→Int→Bool→Option ρ
def ajs{ρ:Type}(k:List Int)(l j b d:Int)(c:List Int)(a:Int)(e:Bool)(f:Int)(g:List Int)(h:Int)(i:Bool)(nx m:chs ρ):Option ρ:=br (decide (b<j)) (br (decide (0≤b)) (br (decide (b<(↑k.length:Int))) (br (decide (0≤Aa.wrap (a.tdiv 8))) (br (decide (Aa.wrap (a.tdiv 8)<(↑25:Int))) (br (decide (Aa.wrap (8*a.tmod 8)<0)) none (br (decide (0≤Aa.wrap (a.tdiv 8))) (br (decide (Aa.wrap (a.tdiv 8)<(↑25:Int))) (br (Aa.wrap (a+1)==l) (jo (c.set (Aa.wrap (a.tdiv 8)).toNat (bits BinOp.xor Ab (c.getD (Aa.wrap (a.tdiv 8)).toNat 0) (Ab.wrap (Ab.wrap (k.getD b.toNat 0)*2^min (Aa.wrap (8*a.tmod 8)).toNat 64)))) fun n=>nx k l j (Aa.wrap (b+1)) d n 0 e f g h i) (nx k l j (Aa.wrap (b+1)) d (c.set (Aa.wrap (a.tdiv 8)).toNat (bits BinOp.xor Ab (c.getD (Aa.wrap (a.tdiv 8)).toNat 0) (Ab.wrap (Ab.wrap (k.getD b.toNat 0)*2^min (Aa.wrap (8*a.tmod 8)).toNat 64)))) (Aa.wrap (a+1)) e f g h i)) none) none)) none) none) none) none) (m k l j b d c a e f g h i)
abbrev b7z:=(List Int)×Int×Int×Int×Int×(List Int)×Int×Bool×Int×(List Int)×Int×Bool
abbrev ckv:=b7z
def ck4{ρ:Type}(f:b7z→Option ρ):chs ρ:=fun l m j k a b c d e g h i=>f (l,m,j,k,a,b,c,d,e,g,h,i)
def cd7{ρ:Type}:ab5 b7z ckv ρ:=fun (k,l,i,j,a,b,c,d,e,f,g,h) next ex=>ajs k l i j a b c d e f g h (ck4 next) (ck4 ex)
def cjf{ρ:Type}:=shut (lp (cd7 (ρ:=ρ)))
theorem cq2{ρ:Type}:cjf (ρ:=ρ)=lp cd7:=bg _
def cca{ρ:Type}(f:ab6 b7z ckv ρ)(l:List Int)(m j k a:Int)(b:List Int)(c:Int)(d:Bool)(e:Int)(g:List Int)(h:Int)(i:Bool)(n:chs ρ):Option ρ:=f (l,m,j,k,a,b,c,d,e,g,h,i) (fun (l,m,j,k,a,b,c,d,e,g,h,i)=>n l m j k a b c d e g h i)
def aqp{ρ:Type}:=cca (lp (cd7 (ρ:=ρ)))
def aq9{ρ:Type}:=cca (cjf (ρ:=ρ))
theorem awx{ρ:Type}:aq9 (ρ:=ρ)=aqp:=congrArg cca cq2
def ah5{ρ:Type}(a:Int)(b:List Int)(d:Int)(c:Bool)(e:List Int)(k:Int→(List Int)→Int→Bool→Option ρ):Option ρ:=br c (k a b d c) (oz a fun f=>aq9 e f (↑e.length:Int) 0 a b d c 0 [0,0,0,0,0,0,0,0,0,0,0,0,0,0,0,0,0,0,0,0,0,0,0,0,0] 0 false fun o p q r g h i j s l m n=>k g h i j)
def o7{ρ:Type}:=shut (ah5 (ρ:=ρ))
theorem arp{ρ:Type}(b:Int)(a:List Int)(d:Int)(c:Bool)(e:List Int)(k:Int→(List Int)→Int→Bool→Option ρ):o7 b a d c e k=ah5 b a d c e k:=by unfold o7;rw[bg]

def ano{ρ:Type}(d:Int)(e:List Int)(a:Int)(k:(List Int)→Int→Option ρ):Option ρ:=acw d fun f g h i b=>br (b !=0) (k [] b) (br (decide (a<0)) (k [] 8) (br (decide (a>16777216)) (k [] 8) (o7 f g h i e fun j l m n=>qz j l m n a fun r o p q c=>k c 0)))
def zw{ρ:Type}:=shut (ano (ρ:=ρ))
theorem ay4{ρ:Type}(a:Int)(b:List Int)(c:Int)(k:(List Int)→Int→Option ρ):zw a b c k=ano a b c k:=by unfold zw;rw[bg]

def afa{ρ:Type}(a:Int)(b:List (List Int))(k:(List Int)→Option ρ):Option ρ:=jc b fun c=>zw 7 c a fun d e=>k d
def nu{ρ:Type}:=shut (afa (ρ:=ρ))
theorem ajr{ρ:Type}(a:Int)(b:List (List Int))(k:(List Int)→Option ρ):nu a b k=afa a b k:=by unfold nu;rw[bg]

def ain{ρ:Type}(c d e:List Int)(a f g h i:Int)(b:Bool)(k:(List Int)→Option ρ):Option ρ:=nu a [c,d,e] fun j=>k j
def ql{ρ:Type}:=shut (ain (ρ:=ρ))
theorem arl{ρ:Type}(g:List Int)(h:List Int)(i:List Int)(b:Int)(c:Int)(d:Int)(e:Int)(f:Int)(a:Bool)(k:(List Int)→Option ρ):ql g h i b c d e f a k=ain g h i b c d e f a k:=by unfold ql;rw[bg]

def aij{ρ:Type}(a:Int)(b c d:List Int)(k:(List Int)→Option ρ):Option ρ:=nu a [b,c,d] fun e=>k e
def qm{ρ:Type}:=shut (aij (ρ:=ρ))
theorem aq4{ρ:Type}(a:Int)(b:List Int)(c:List Int)(d:List Int)(k:(List Int)→Option ρ):qm a b c d k=aij a b c d k:=by unfold qm;rw[bg]

def an0{ρ:Type}(b c d e f:Int)(a:Bool)(k:Int→Int→Int→Int→Int→Bool→Int→Int→Int→Int→Int→Bool→Option ρ):Option ρ:=k b c d e f a b c d e f a
def agh{ρ:Type}:=shut (an0 (ρ:=ρ))
theorem azf{ρ:Type}(b:Int)(c:Int)(d:Int)(e:Int)(f:Int)(a:Bool)(k:Int→Int→Int→Int→Int→Bool→Int→Int→Int→Int→Int→Bool→Option ρ):agh b c d e f a k=an0 b c d e f a k:=by unfold agh;rw[bg]

def aqh{ρ:Type}(a:Int)(k:Bool→Option ρ):Option ρ:=br (decide (a≥1)) (k (decide (a≤5))) (k false)
def ahd{ρ:Type}:=shut (aqh (ρ:=ρ))
theorem bcu{ρ:Type}(a:Int)(k:Bool→Option ρ):ahd a k=aqh a k:=by unfold ahd;rw[bg]

def asg{ρ:Type}(a:Int)(k:Int→Option ρ):Option ρ:=br (decide (a<0)) (k 0) (br (decide (a≥8)) (k 0) (br (decide (0≤a)) (br (decide (a<(↑8:Int))) (br (decide (a.toNat*2+0<16)) (k ([(0:Int),(0:Int),(32:Int),(64:Int),(48:Int),(128:Int),(64:Int),(128:Int),(32:Int),(136:Int),(64:Int),(72:Int),(32:Int),(168:Int),(64:Int),(136:Int)].getD (a.toNat*2+0) 0)) none) none) none))
def afc{ρ:Type}:=shut (asg (ρ:=ρ))
theorem bhn{ρ:Type}(a:Int)(k:Int→Option ρ):afc a k=asg a k:=by unfold afc;rw[bg]

def ayw{ρ:Type}(a:Int)(k:(List Int)→Bool→Option ρ):Option ρ:=br (a==1) (k [1779033703,3144134277,1013904242,2773480762,1359893119,2600822924,528734635,1541459225] true) (br (a==2) (k [14680500436340154072,7105036623409894663,10473403895298186519,1526699215303891257,7436329637833083697,10282925794625328401,15784041429090275239,5167115440072839076] true) (br (a==3) (k [7640891576956012808,13503953896175478587,4354685564936845355,11912009170470909681,5840696475078001361,11170449401992604703,2270897969802886507,6620516959819538809] true) (k [0,0,0,0,0,0,0,0] false)))
def ahe{ρ:Type}:=shut (ayw (ρ:=ρ))
theorem bbz{ρ:Type}(a:Int)(k:(List Int)→Bool→Option ρ):ahe a k=ayw a k:=by unfold ahe;rw[bg]

def axq{ρ:Type}(a:Int)(k:Int→(List Int)→(List Int)→Int→Int→Option ρ):Option ρ:=ahe a fun b c=>br (!c) (k 0 [0,0,0,0,0,0,0,0] [] 0 9) (k a b [] 0 0)
def af8{ρ:Type}:=shut (axq (ρ:=ρ))
theorem bkn{ρ:Type}(a:Int)(k:Int→(List Int)→(List Int)→Int→Int→Option ρ):af8 a k=axq a k:=by unfold af8;rw[bg]

abbrev ck9(ρ:Type):=Int→Int→Int→(List Int)→Option ρ
def bai{ρ:Type}(c b a:Int)(d:List Int)(nx e:ck9 ρ):Option ρ:=br (decide (a<b)) (br (decide (Aa.wrap (8*a)<0)) none (br (decide (0≤a)) (br (decide (a<(↑d.length:Int))) (nx c b (Aa.wrap (a+1)) (d.set a.toNat (Ag.wrap (c.fdiv (2^min (Aa.wrap (8*a)).toNat 64))))) none) none)) (e c b a d)
abbrev b9n:=Int×Int×Int×(List Int)
abbrev cfq:=b9n
def cmb{ρ:Type}(f:b9n→Option ρ):ck9 ρ:=fun c a b d=>f (c,a,b,d)
def zs12{ρ:Type}:ab5 b9n cfq ρ:=fun (c,a,b,d) next ex=>bai c a b d (cmb next) (cmb ex)
def ci4{ρ:Type}:=shut (lp (zs12 (ρ:=ρ)))
theorem cpv{ρ:Type}:ci4 (ρ:=ρ)=lp zs12:=bg _
def ca1{ρ:Type}(f:ab6 b9n cfq ρ)(c a b:Int)(d:List Int)(e:ck9 ρ):Option ρ:=f (c,a,b,d) (fun (c,a,b,d)=>e c a b d)
def bks{ρ:Type}:=ca1 (lp (zs12 (ρ:=ρ)))
def bi5{ρ:Type}:=ca1 (ci4 (ρ:=ρ))
theorem bm7{ρ:Type}:bi5 (ρ:=ρ)=bks:=congrArg ca1 cpv
def aw8{ρ:Type}(b a:Int)(k:(List Int)→Option ρ):Option ρ:=br (decide (a<0)) (k []) (br (decide (a>65536)) (k []) (br (decide (0≤a)) (br (decide (a≤a)) (br (decide (a*(↑1:Int)≤(↑140737488355328:Int))) (bi5 b (bif decide (8<a) then 8 else a) 0 (Af a.toNat (0:Int)) fun d e f c=>k c) none) none) none))
def aie{ρ:Type}:=shut (aw8 (ρ:=ρ))
theorem bkz{ρ:Type}(a:Int)(b:Int)(k:(List Int)→Option ρ):aie a b k=aw8 a b k:=by unfold aie;rw[bg]

abbrev cof(ρ:Type):=Int→Int→(List Int)→Option ρ
def aty{ρ:Type}(a b:Int)(c:List Int)(nx d:cof ρ):Option ρ:=br (decide (a<b)) (br (decide (0≤b)) (br (decide (b<(↑c.length:Int))) (br (decide (0≤a)) (br (decide (a<(↑c.length:Int))) (br (decide (0≤a)) (br (decide (a<(↑c.length:Int))) (br (decide (0≤b)) (br (decide (b<(↑(c.set a.toNat (c.getD b.toNat 0)).length:Int))) (nx (Aa.wrap (a+1)) (Aa.wrap (b-1)) ((c.set a.toNat (c.getD b.toNat 0)).set b.toNat (c.getD a.toNat 0))) none) none) none) none) none) none) none) none) (d a b c)
abbrev b9r:=Int×Int×(List Int)
abbrev ci1:=b9r
def cf6{ρ:Type}(f:b9r→Option ρ):cof ρ:=fun a b c=>f (a,b,c)
def cag{ρ:Type}:ab5 b9r ci1 ρ:=fun (a,b,c) next ex=>aty a b c (cf6 next) (cf6 ex)
def chh{ρ:Type}:=shut (lp (cag (ρ:=ρ)))
theorem cqy{ρ:Type}:chh (ρ:=ρ)=lp cag:=bg _
def cbi{ρ:Type}(f:ab6 b9r ci1 ρ)(a b:Int)(c:List Int)(d:cof ρ):Option ρ:=f (a,b,c) (fun (a,b,c)=>d a b c)
def bbm{ρ:Type}:=cbi (lp (cag (ρ:=ρ)))
def bc8{ρ:Type}:=cbi (chh (ρ:=ρ))
theorem be9{ρ:Type}:bc8 (ρ:=ρ)=bbm:=congrArg cbi cqy
def axt{ρ:Type}(b c:Int)(k:(List Int)→Option ρ):Option ρ:=aie b c fun a=>bc8 0 (Aa.wrap ((↑a.length:Int)-1)) a fun e f d=>k d
def y7{ρ:Type}:=shut (axt (ρ:=ρ))
theorem bjr{ρ:Type}(a:Int)(b:Int)(k:(List Int)→Option ρ):y7 a b k=axt a b k:=by unfold y7;rw[bg]

abbrev cmk(ρ:Type):=Int→(List Int)→Int→Int→Option ρ
def aw6{ρ:Type}(d:Int)(b:List Int)(c a:Int)(nx e:cmk ρ):Option ρ:=br (decide (a<c)) (br (decide (0≤a)) (br (decide (a<(↑b.length:Int))) (nx (bits BinOp.or Ab (Ab.wrap (d*2^8)) (Ab.wrap (b.getD a.toNat 0))) b c (Aa.wrap (a+1))) none) none) (e d b c a)
abbrev b8v:=Int×(List Int)×Int×Int
abbrev cnn:=b8v
def cgb{ρ:Type}(f:b8v→Option ρ):cmk ρ:=fun a b c d=>f (a,b,c,d)
def cco{ρ:Type}:ab5 b8v cnn ρ:=fun (a,b,c,d) next ex=>aw6 a b c d (cgb next) (cgb ex)
def cmc{ρ:Type}:=shut (lp (cco (ρ:=ρ)))
theorem crf{ρ:Type}:cmc (ρ:=ρ)=lp cco:=bg _
def ccn{ρ:Type}(f:ab6 b8v cnn ρ)(a:Int)(b:List Int)(c d:Int)(e:cmk ρ):Option ρ:=f (a,b,c,d) (fun (a,b,c,d)=>e a b c d)
def bgv{ρ:Type}:=ccn (lp (cco (ρ:=ρ)))
def bgl{ρ:Type}:=ccn (cmc (ρ:=ρ))
theorem bik{ρ:Type}:bgl (ρ:=ρ)=bgv:=congrArg ccn crf
def as2{ρ:Type}(a:List Int)(k:Int→Option ρ):Option ρ:=bgl 0 a (↑a.length:Int) 0 fun b c d e=>k b
def wz{ρ:Type}:=shut (as2 (ρ:=ρ))
theorem bez{ρ:Type}(a:List Int)(k:Int→Option ρ):wz a k=as2 a k:=by unfold wz;rw[bg]

def al5{ρ:Type}(a:Int)(k:Int→Option ρ):Option ρ:=br (decide (0≤a)) (br (decide (a<(↑64:Int))) (k (roots256.getD a.toNat 0)) none) none
def uj{ρ:Type}:=shut (al5 (ρ:=ρ))
theorem avv{ρ:Type}(a:Int)(k:Int→Option ρ):uj a k=al5 a k:=by unfold uj;rw[bg]

def aas{ρ:Type}(a g:Int)(b c d e:List Int)(h f:Int)(k:Int→Option ρ):Option ρ:=br (decide (f<0)) none (br (decide (Aa.wrap (a-f)<0)) none (k (bits BinOp.or Ad (h.fdiv (2^min f.toNat 32)) (Ad.wrap (h*2^min (Aa.wrap (a-f)).toNat 32)))))
def dx{ρ:Type}:=shut (aas (ρ:=ρ))
theorem ad2{ρ:Type}(f:Int)(e:Int)(a:List Int)(b:List Int)(c:List Int)(d:List Int)(g:Int)(h:Int)(k:Int→Option ρ):dx f e a b c d g h k=aas f e a b c d g h k:=by unfold dx;rw[bg]

def zx{ρ:Type}(f e:Int)(a b c d:List Int)(g h:Int)(k:Int→Option ρ):Option ρ:=br (decide (h=(↑0:Int))) (dx f e a b c d g (a.getD 0 0) fun l=>dx f e a b c d g (a.getD 1 0) fun m=>dx f e a b c d g (a.getD 2 0) fun n=>k (bits BinOp.xor Ad (bits BinOp.xor Ad l m) n)) (br (decide (h=(↑1:Int))) (dx f e a b c d g (b.getD 0 0) fun o=>dx f e a b c d g (b.getD 1 0) fun p=>dx f e a b c d g (b.getD 2 0) fun q=>k (bits BinOp.xor Ad (bits BinOp.xor Ad o p) q)) (br (decide (h=(↑2:Int))) (dx f e a b c d g (c.getD 0 0) fun r=>dx f e a b c d g (c.getD 1 0) fun s=>dx f e a b c d g (c.getD 2 0) fun t=>k (bits BinOp.xor Ad (bits BinOp.xor Ad r s) t)) (br (decide (h=(↑3:Int))) (dx f e a b c d g (d.getD 0 0) fun u=>dx f e a b c d g (d.getD 1 0) fun i=>dx f e a b c d g (d.getD 2 0) fun j=>k (bits BinOp.xor Ad (bits BinOp.xor Ad u i) j)) none)))
def l8{ρ:Type}:=shut (zx (ρ:=ρ))
theorem ace{ρ:Type}(f:Int)(e:Int)(a:List Int)(b:List Int)(c:List Int)(d:List Int)(g:Int)(h:Int)(k:Int→Option ρ):l8 f e a b c d g h k=zx f e a b c d g h k:=by unfold l8;rw[bg]

def aai{ρ:Type}(f e:Int)(a b c d:List Int)(g h:Int)(k:Int→Option ρ):Option ρ:=br (decide (h=(↑0:Int))) (dx f e a b c d g (a.getD 0 (0:Int)) fun i=>dx f e a b c d g (a.getD 1 (0:Int)) fun j=>br (decide (a.getD 2 (0:Int)<(0:Int))) none (k (bits BinOp.xor Ad (bits BinOp.xor Ad i j) (g.fdiv ((2:Int)^min (a.getD 2 (0:Int)).toNat 32))))) (br (decide (h=(↑1:Int))) (dx f e a b c d g (b.getD 0 (0:Int)) fun l=>dx f e a b c d g (b.getD 1 (0:Int)) fun m=>br (decide (b.getD 2 (0:Int)<(0:Int))) none (k (bits BinOp.xor Ad (bits BinOp.xor Ad l m) (g.fdiv ((2:Int)^min (b.getD 2 (0:Int)).toNat 32))))) (br (decide (h=(↑2:Int))) (dx f e a b c d g (c.getD 0 (0:Int)) fun n=>dx f e a b c d g (c.getD 1 (0:Int)) fun o=>br (decide (c.getD 2 (0:Int)<(0:Int))) none (k (bits BinOp.xor Ad (bits BinOp.xor Ad n o) (g.fdiv ((2:Int)^min (c.getD 2 (0:Int)).toNat 32))))) (br (decide (h=(↑3:Int))) (dx f e a b c d g (d.getD 0 (0:Int)) fun p=>dx f e a b c d g (d.getD 1 (0:Int)) fun q=>br (decide (d.getD 2 (0:Int)<(0:Int))) none (k (bits BinOp.xor Ad (bits BinOp.xor Ad p q) (g.fdiv ((2:Int)^min (d.getD 2 (0:Int)).toNat 32))))) none)))
def oh{ρ:Type}:=shut (aai (ρ:=ρ))
theorem acu{ρ:Type}(f:Int)(e:Int)(a:List Int)(b:List Int)(c:List Int)(d:List Int)(g:Int)(h:Int)(k:Int→Option ρ):oh f e a b c d g h k=aai f e a b c d g h k:=by unfold oh;rw[bg]

abbrev cjd(ρ:Type):=(List Int)→Int→Int→Int→Int→(List Int)→(List Int)→(List Int)→(List Int)→(List Int)→(List Int)→(List Int)→Option ρ
def abt{ρ:Type}(l:List Int)(b a c d:Int)(e f g h i j k:List Int)(nx m:cjd ρ):Option ρ:=br (decide (a<16)) (br (decide (0≤Aa.wrap (a*b))) (br (decide (Aa.wrap (a*b)≤Aa.wrap (Aa.wrap (a+1)*b))) (br (decide (Aa.wrap (Aa.wrap (a+1)*b)≤(↑l.length:Int))) (wz (Ae (Aa.wrap (a*b)).toNat (Ac (Aa.wrap (Aa.wrap (a+1)*b)).toNat l)) fun n=>br (decide (0≤a)) (br (decide (a<(↑16:Int))) (nx l b (Aa.wrap (a+1)) c d e f g h i j (k.set a.toNat (Ad.wrap n))) none) none) none) none) none) (m l b a c d e f g h i j k)
abbrev b75:=(List Int)×Int×Int×Int×Int×(List Int)×(List Int)×(List Int)×(List Int)×(List Int)×(List Int)×(List Int)
abbrev cjq:=b75
def chg{ρ:Type}(f:b75→Option ρ):cjd ρ:=fun l m k a b c d e g h i j=>f (l,m,k,a,b,c,d,e,g,h,i,j)
def cdq{ρ:Type}:ab5 b75 cjq ρ:=fun (k,l,j,a,b,c,d,e,f,g,h,i) next ex=>abt k l j a b c d e f g h i (chg next) (chg ex)
def cks{ρ:Type}:=shut (lp (cdq (ρ:=ρ)))
theorem crt{ρ:Type}:cks (ρ:=ρ)=lp cdq:=bg _
def ccq{ρ:Type}(f:ab6 b75 cjq ρ)(l:List Int)(m k a b:Int)(c d e g h i j:List Int)(n:cjd ρ):Option ρ:=f (l,m,k,a,b,c,d,e,g,h,i,j) (fun (l,m,k,a,b,c,d,e,g,h,i,j)=>n l m k a b c d e g h i j)
def afl{ρ:Type}:=ccq (lp (cdq (ρ:=ρ)))
def abv{ρ:Type}:=ccq (cks (ρ:=ρ))
theorem aj3{ρ:Type}:abv (ρ:=ρ)=afl:=congrArg ccq crt
abbrev cpm(ρ:Type):=Int→Int→(List Int)→(List Int)→(List Int)→Int→Int→(List Int)→(List Int)→(List Int)→(List Int)→(List Int)→Option ρ
def abb{ρ:Type}(j b:Int)(c k l:List Int)(d e:Int)(f g h i a:List Int)(nx o:cpm ρ):Option ρ:=br (decide (b<j)) (br (decide (0≤b.tmod 16)) (br (decide (b.tmod 16<(↑16:Int))) (l8 d e f g h i (a.getD 4 0) 3 fun m=>uj b fun n=>l8 d e f g h i (a.getD 0 0) 2 fun p=>br (decide (0≤(Aa.wrap (b+1)).tmod 16)) (br (decide ((Aa.wrap (b+1)).tmod 16<(↑16:Int))) (oh d e f g h i (c.getD ((Aa.wrap (b+1)).tmod 16).toNat 0) 0 fun q=>br (decide (0≤(Aa.wrap (b+9)).tmod 16)) (br (decide ((Aa.wrap (b+9)).tmod 16<(↑16:Int))) (br (decide (0≤(Aa.wrap (b+14)).tmod 16)) (br (decide ((Aa.wrap (b+14)).tmod 16<(↑16:Int))) (oh d e f g h i (c.getD ((Aa.wrap (b+14)).tmod 16).toNat 0) 1 fun r=>br (decide (0≤b.tmod 16)) (br (decide (b.tmod 16<(↑16:Int))) (nx j (Aa.wrap (b+1)) (c.set (b.tmod 16).toNat (Ad.wrap (Ad.wrap (Ad.wrap (c.getD (b.tmod 16).toNat 0+q)+c.getD ((Aa.wrap (b+9)).tmod 16).toNat 0)+r))) k l d e f g h i ((((Ac 1 a).append (Ac 7 (Ac 7 (Ae 0 a))++Ae (1+min 7 (Ac 7 (Ae 0 a)).length) a)).set 4 (Ad.wrap (((Ac 1 a).append (Ac 7 (Ac 7 (Ae 0 a))++Ae (1+min 7 (Ac 7 (Ae 0 a)).length) a)).getD 4 0+Ad.wrap (Ad.wrap (Ad.wrap (Ad.wrap (a.getD 7 0+m)+bits BinOp.xor Ad (a.getD 6 0) (bits BinOp.and Ad (a.getD 4 0) (bits BinOp.xor Ad (a.getD 5 0) (a.getD 6 0))))+n)+c.getD (b.tmod 16).toNat 0)))).set 0 (Ad.wrap (Ad.wrap (Ad.wrap (Ad.wrap (Ad.wrap (a.getD 7 0+m)+bits BinOp.xor Ad (a.getD 6 0) (bits BinOp.and Ad (a.getD 4 0) (bits BinOp.xor Ad (a.getD 5 0) (a.getD 6 0))))+n)+c.getD (b.tmod 16).toNat 0)+Ad.wrap (p+bits BinOp.or Ad (bits BinOp.and Ad (a.getD 0 0) (a.getD 1 0)) (bits BinOp.and Ad (a.getD 2 0) (bits BinOp.or Ad (a.getD 0 0) (a.getD 1 0)))))))) none) none) none) none) none) none) none) none) none) none) (o j b c k l d e f g h i a)
abbrev b9c:=Int×Int×(List Int)×(List Int)×(List Int)×Int×Int×(List Int)×(List Int)×(List Int)×(List Int)×(List Int)
abbrev cia:=b9c
def cjg{ρ:Type}(f:b9c→Option ρ):cpm ρ:=fun l m a b c d e g h i j k=>f (l,m,a,b,c,d,e,g,h,i,j,k)
def ccm{ρ:Type}:ab5 b9c cia ρ:=fun (k,l,a,b,c,d,e,f,g,h,i,j) next ex=>abb k l a b c d e f g h i j (cjg next) (cjg ex)
def cpj{ρ:Type}:=shut (lp (ccm (ρ:=ρ)))
theorem cpo{ρ:Type}:cpj (ρ:=ρ)=lp ccm:=bg _
def cd5{ρ:Type}(f:ab6 b9c cia ρ)(l m:Int)(a b c:List Int)(d e:Int)(g h i j k:List Int)(n:cpm ρ):Option ρ:=f (l,m,a,b,c,d,e,g,h,i,j,k) (fun (l,m,a,b,c,d,e,g,h,i,j,k)=>n l m a b c d e g h i j k)
def ae3{ρ:Type}:=cd5 (lp (ccm (ρ:=ρ)))
def ze{ρ:Type}:=cd5 (cpj (ρ:=ρ))
theorem ajb{ρ:Type}:ze (ρ:=ρ)=ae3:=congrArg cd5 cpo
abbrev cfy(ρ:Type):=Int→(List Int)→(List Int)→(List Int)→Option ρ
def aa2{ρ:Type}(a:Int)(b d c:List Int)(nx e:cfy ρ):Option ρ:=br (decide (a<8)) (br (decide (0≤a)) (br (decide (a<(↑8:Int))) (br (decide (0≤a)) (br (decide (a<(↑8:Int))) (br (decide (0≤a)) (br (decide (a<(↑8:Int))) (nx (Aa.wrap (a+1)) b d (c.set a.toNat (Ad.wrap (c.getD a.toNat 0+b.getD a.toNat 0)))) none) none) none) none) none) none) (e a b d c)
abbrev b99:=Int×(List Int)×(List Int)×(List Int)
abbrev chj:=b99
def ckc{ρ:Type}(f:b99→Option ρ):cfy ρ:=fun a b c d=>f (a,b,c,d)
def caz{ρ:Type}:ab5 b99 chj ρ:=fun (a,b,c,d) next ex=>aa2 a b c d (ckc next) (ckc ex)
def cm6{ρ:Type}:=shut (lp (caz (ρ:=ρ)))
theorem cpx{ρ:Type}:cm6 (ρ:=ρ)=lp caz:=bg _
def ccb{ρ:Type}(f:ab6 b99 chj ρ)(a:Int)(b c d:List Int)(e:cfy ρ):Option ρ:=f (a,b,c,d) (fun (a,b,c,d)=>e a b c d)
def ae0{ρ:Type}:=ccb (lp (caz (ρ:=ρ)))
def zo{ρ:Type}:=ccb (cm6 (ρ:=ρ))
theorem ajp{ρ:Type}:zo (ρ:=ρ)=ae0:=congrArg ccb cpx
def aa9{ρ:Type}(a f:Int)(b c d e p q:List Int)(k:(List Int)→Option ρ):Option ρ:=abv q (Aa.wrap (a.tdiv 8)) 0 a f b c d e p [0,0,0,0,0,0,0,0] [0,0,0,0,0,0,0,0,0,0,0,0,0,0,0,0] fun N O Q r g s t u v h i j=>ze g 0 j i h r g s t u v h fun w y z l m A B C F G H n=>zo 0 m l n fun I J M o=>k o
def ow{ρ:Type}:=shut (aa9 (ρ:=ρ))
theorem afk{ρ:Type}(f:Int)(e:Int)(a:List Int)(b:List Int)(c:List Int)(d:List Int)(g:List Int)(h:List Int)(k:(List Int)→Option ρ):ow f e a b c d g h k=aa9 f e a b c d g h k:=by unfold ow;rw[bg]

abbrev ckd(ρ:Type):=(List Int)→(List Int)→Int→Int→Int→(List Int)→(List Int)→(List Int)→(List Int)→(List Int)→(List Int)→(List Int)→Option ρ
def aeb{ρ:Type}(l b:List Int)(a c d:Int)(e f g h i j k:List Int)(nx m:ckd ρ):Option ρ:=br (decide (a<8)) (br (decide (0≤a)) (br (decide (a<(↑8:Int))) (br (decide (0≤a)) (br (decide (a<(↑8:Int))) (nx l b (Aa.wrap (a+1)) c d e f g h i j (k.set a.toNat (Ad.wrap (b.getD a.toNat 0)))) none) none) none) none) (m l b a c d e f g h i j k)
abbrev b9x:=(List Int)×(List Int)×Int×Int×Int×(List Int)×(List Int)×(List Int)×(List Int)×(List Int)×(List Int)×(List Int)
abbrev cn7:=b9x
def cl3{ρ:Type}(f:b9x→Option ρ):ckd ρ:=fun m k l a b c d e g h i j=>f (m,k,l,a,b,c,d,e,g,h,i,j)
def cc7{ρ:Type}:ab5 b9x cn7 ρ:=fun (l,j,k,a,b,c,d,e,f,g,h,i) next ex=>aeb l j k a b c d e f g h i (cl3 next) (cl3 ex)
def cpd{ρ:Type}:=shut (lp (cc7 (ρ:=ρ)))
theorem cq3{ρ:Type}:cpd (ρ:=ρ)=lp cc7:=bg _
def car{ρ:Type}(f:ab6 b9x cn7 ρ)(m k:List Int)(l a b:Int)(c d e g h i j:List Int)(n:ckd ρ):Option ρ:=f (m,k,l,a,b,c,d,e,g,h,i,j) (fun (m,k,l,a,b,c,d,e,g,h,i,j)=>n m k l a b c d e g h i j)
def ajq{ρ:Type}:=car (lp (cc7 (ρ:=ρ)))
def aei{ρ:Type}:=car (cpd (ρ:=ρ))
theorem aov{ρ:Type}:aei (ρ:=ρ)=ajq:=congrArg car cq3
abbrev cjj(ρ:Type):=(List Int)→Int→(List Int)→(List Int)→(List Int)→Int→Int→(List Int)→(List Int)→(List Int)→(List Int)→Option ρ
def aee{ρ:Type}(b:List Int)(a:Int)(i j k:List Int)(c d:Int)(e f g h:List Int)(nx l:cjj ρ):Option ρ:=br (decide ((↑b.length:Int)≥a)) (br (decide (0≤a)) (br (decide (a≤(↑b.length:Int))) (ow c d e f g h i (Ae 0 (Ac a.toNat b)) fun m=>br (decide (0≤a)) (br (decide (a≤(↑b.length:Int))) (br (decide ((↑b.length:Int)≤(↑b.length:Int))) (nx (Ae a.toNat (Ac (↑b.length:Int).toNat b)) a m j k c d e f g h) none) none) none) none) none) (l b a i j k c d e f g h)
abbrev b8y:=(List Int)×Int×(List Int)×(List Int)×(List Int)×Int×Int×(List Int)×(List Int)×(List Int)×(List Int)
abbrev ckg:=b8y
def cgs{ρ:Type}(f:b8y→Option ρ):cjj ρ:=fun l k a b c d e g h i j=>f (l,k,a,b,c,d,e,g,h,i,j)
def cc6{ρ:Type}:ab5 b8y ckg ρ:=fun (k,j,a,b,c,d,e,f,g,h,i) next ex=>aee k j a b c d e f g h i (cgs next) (cgs ex)
def ch0{ρ:Type}:=shut (lp (cc6 (ρ:=ρ)))
theorem cry{ρ:Type}:ch0 (ρ:=ρ)=lp cc6:=bg _
def cet{ρ:Type}(f:ab6 b8y ckg ρ)(l:List Int)(k:Int)(a b c:List Int)(d e:Int)(g h i j:List Int)(m:cjj ρ):Option ρ:=f (l,k,a,b,c,d,e,g,h,i,j) (fun (l,k,a,b,c,d,e,g,h,i,j)=>m l k a b c d e g h i j)
def aje{ρ:Type}:=cet (lp (cc6 (ρ:=ρ)))
def ad8{ρ:Type}:=cet (ch0 (ρ:=ρ))
theorem aoj{ρ:Type}:ad8 (ρ:=ρ)=aje:=congrArg cet cry
abbrev coq(ρ:Type):=(List Int)→(List Int)→Int→(List Int)→(List Int)→Option ρ
def adp{ρ:Type}(e b:List Int)(a:Int)(c d:List Int)(nx f:coq ρ):Option ρ:=br (decide (a<8)) (br (decide (0≤a)) (br (decide (a<(↑8:Int))) (br (decide (0≤a)) (br (decide (a<(↑8:Int))) (nx e b (Aa.wrap (a+1)) (c.set a.toNat (Ab.wrap (b.getD a.toNat 0))) d) none) none) none) none) (f e b a c d)
abbrev b8h:=(List Int)×(List Int)×Int×(List Int)×(List Int)
abbrev cn5:=b8h
def cfj{ρ:Type}(f:b8h→Option ρ):coq ρ:=fun e c d a b=>f (e,c,d,a,b)
def ca7{ρ:Type}:ab5 b8h cn5 ρ:=fun (e,c,d,a,b) next ex=>adp e c d a b (cfj next) (cfj ex)
def cm7{ρ:Type}:=shut (lp (ca7 (ρ:=ρ)))
theorem cqq{ρ:Type}:cm7 (ρ:=ρ)=lp ca7:=bg _
def cda{ρ:Type}(f:ab6 b8h cn5 ρ)(e c:List Int)(d:Int)(a b:List Int)(g:coq ρ):Option ρ:=f (e,c,d,a,b) (fun (e,c,d,a,b)=>g e c d a b)
def ahz{ρ:Type}:=cda (lp (ca7 (ρ:=ρ)))
def adt{ρ:Type}:=cda (cm7 (ρ:=ρ))
theorem ani{ρ:Type}:adt (ρ:=ρ)=ahz:=congrArg cda cqq
def adq{ρ:Type}(f e:Int)(a b c d g r:List Int)(k:(List Int)→(List Int)→Option ρ):Option ρ:=aei r g 0 f e a b c d g [0,0,0,0,0,0,0,0] [0,0,0,0,0,0,0,0] fun s O Q h t u v w y z i j=>ad8 s (Aa.wrap (h*2)) j i z h t u v w y fun l A m n o B C F G H I=>adt l m 0 o n fun p J M q N=>k q p
def vk{ρ:Type}:=shut (adq (ρ:=ρ))
theorem ajd{ρ:Type}(f:Int)(e:Int)(a:List Int)(b:List Int)(c:List Int)(d:List Int)(g:List Int)(h:List Int)(k:(List Int)→(List Int)→Option ρ):vk f e a b c d g h k=adq f e a b c d g h k:=by unfold vk;rw[bg]

def azl{ρ:Type}(k:Int→Int→(List Int)→(List Int)→(List Int)→(List Int)→Option ρ):Option ρ:=k 32 64 [7,18,3] [17,19,10] [2,13,22] [6,11,25]
def ad6{ρ:Type}:=shut (azl (ρ:=ρ))
theorem bcp{ρ:Type}  (k:Int→Int→(List Int)→(List Int)→(List Int)→(List Int)→Option ρ):ad6  k=azl  k:=by unfold ad6;rw[bg]

def al7{ρ:Type}(a:Int)(k:Int→Option ρ):Option ρ:=br (decide (0≤a)) (br (decide (a<(↑80:Int))) (k (roots512.getD a.toNat 0)) none) none
def uq{ρ:Type}:=shut (al7 (ρ:=ρ))
theorem au5{ρ:Type}(a:Int)(k:Int→Option ρ):uq a k=al7 a k:=by unfold uq;rw[bg]

def aat{ρ:Type}(a g:Int)(b c d e:List Int)(h f:Int)(k:Int→Option ρ):Option ρ:=br (decide (f<0)) none (br (decide (Aa.wrap (a-f)<0)) none (k (bits BinOp.or Ab (h.fdiv (2^min f.toNat 64)) (Ab.wrap (h*2^min (Aa.wrap (a-f)).toNat 64)))))
def dn{ρ:Type}:=shut (aat (ρ:=ρ))
theorem adz{ρ:Type}(f:Int)(e:Int)(a:List Int)(b:List Int)(c:List Int)(d:List Int)(g:Int)(h:Int)(k:Int→Option ρ):dn f e a b c d g h k=aat f e a b c d g h k:=by unfold dn;rw[bg]

def zy{ρ:Type}(f e:Int)(a b c d:List Int)(g h:Int)(k:Int→Option ρ):Option ρ:=br (decide (h=(↑0:Int))) (dn f e a b c d g (a.getD 0 0) fun l=>dn f e a b c d g (a.getD 1 0) fun m=>dn f e a b c d g (a.getD 2 0) fun n=>k (bits BinOp.xor Ab (bits BinOp.xor Ab l m) n)) (br (decide (h=(↑1:Int))) (dn f e a b c d g (b.getD 0 0) fun o=>dn f e a b c d g (b.getD 1 0) fun p=>dn f e a b c d g (b.getD 2 0) fun q=>k (bits BinOp.xor Ab (bits BinOp.xor Ab o p) q)) (br (decide (h=(↑2:Int))) (dn f e a b c d g (c.getD 0 0) fun r=>dn f e a b c d g (c.getD 1 0) fun s=>dn f e a b c d g (c.getD 2 0) fun t=>k (bits BinOp.xor Ab (bits BinOp.xor Ab r s) t)) (br (decide (h=(↑3:Int))) (dn f e a b c d g (d.getD 0 0) fun u=>dn f e a b c d g (d.getD 1 0) fun i=>dn f e a b c d g (d.getD 2 0) fun j=>k (bits BinOp.xor Ab (bits BinOp.xor Ab u i) j)) none)))
def l9{ρ:Type}:=shut (zy (ρ:=ρ))
theorem acd{ρ:Type}(f:Int)(e:Int)(a:List Int)(b:List Int)(c:List Int)(d:List Int)(g:Int)(h:Int)(k:Int→Option ρ):l9 f e a b c d g h k=zy f e a b c d g h k:=by unfold l9;rw[bg]

def aaj{ρ:Type}(f e:Int)(a b c d:List Int)(g h:Int)(k:Int→Option ρ):Option ρ:=br (decide (h=(↑0:Int))) (dn f e a b c d g (a.getD 0 (0:Int)) fun i=>dn f e a b c d g (a.getD 1 (0:Int)) fun j=>br (decide (a.getD 2 (0:Int)<(0:Int))) none (k (bits BinOp.xor Ab (bits BinOp.xor Ab i j) (g.fdiv ((2:Int)^min (a.getD 2 (0:Int)).toNat 64))))) (br (decide (h=(↑1:Int))) (dn f e a b c d g (b.getD 0 (0:Int)) fun l=>dn f e a b c d g (b.getD 1 (0:Int)) fun m=>br (decide (b.getD 2 (0:Int)<(0:Int))) none (k (bits BinOp.xor Ab (bits BinOp.xor Ab l m) (g.fdiv ((2:Int)^min (b.getD 2 (0:Int)).toNat 64))))) (br (decide (h=(↑2:Int))) (dn f e a b c d g (c.getD 0 (0:Int)) fun n=>dn f e a b c d g (c.getD 1 (0:Int)) fun o=>br (decide (c.getD 2 (0:Int)<(0:Int))) none (k (bits BinOp.xor Ab (bits BinOp.xor Ab n o) (g.fdiv ((2:Int)^min (c.getD 2 (0:Int)).toNat 64))))) (br (decide (h=(↑3:Int))) (dn f e a b c d g (d.getD 0 (0:Int)) fun p=>dn f e a b c d g (d.getD 1 (0:Int)) fun q=>br (decide (d.getD 2 (0:Int)<(0:Int))) none (k (bits BinOp.xor Ab (bits BinOp.xor Ab p q) (g.fdiv ((2:Int)^min (d.getD 2 (0:Int)).toNat 64))))) none)))
def og{ρ:Type}:=shut (aaj (ρ:=ρ))
theorem acy{ρ:Type}(f:Int)(e:Int)(a:List Int)(b:List Int)(c:List Int)(d:List Int)(g:Int)(h:Int)(k:Int→Option ρ):og f e a b c d g h k=aaj f e a b c d g h k:=by unfold og;rw[bg]

abbrev chu(ρ:Type):=(List Int)→Int→Int→Int→Int→(List Int)→(List Int)→(List Int)→(List Int)→(List Int)→(List Int)→(List Int)→Option ρ
def abu{ρ:Type}(l:List Int)(b a c d:Int)(e f g h i j k:List Int)(nx m:chu ρ):Option ρ:=br (decide (a<16)) (br (decide (0≤Aa.wrap (a*b))) (br (decide (Aa.wrap (a*b)≤Aa.wrap (Aa.wrap (a+1)*b))) (br (decide (Aa.wrap (Aa.wrap (a+1)*b)≤(↑l.length:Int))) (wz (Ae (Aa.wrap (a*b)).toNat (Ac (Aa.wrap (Aa.wrap (a+1)*b)).toNat l)) fun n=>br (decide (0≤a)) (br (decide (a<(↑16:Int))) (nx l b (Aa.wrap (a+1)) c d e f g h i j (k.set a.toNat n)) none) none) none) none) none) (m l b a c d e f g h i j k)
abbrev b9h:=(List Int)×Int×Int×Int×Int×(List Int)×(List Int)×(List Int)×(List Int)×(List Int)×(List Int)×(List Int)
abbrev cl9:=b9h
def chx{ρ:Type}(f:b9h→Option ρ):chu ρ:=fun l m k a b c d e g h i j=>f (l,m,k,a,b,c,d,e,g,h,i,j)
def cao{ρ:Type}:ab5 b9h cl9 ρ:=fun (k,l,j,a,b,c,d,e,f,g,h,i) next ex=>abu k l j a b c d e f g h i (chx next) (chx ex)
def ciy{ρ:Type}:=shut (lp (cao (ρ:=ρ)))
theorem cp3{ρ:Type}:ciy (ρ:=ρ)=lp cao:=bg _
def cd4{ρ:Type}(f:ab6 b9h cl9 ρ)(l:List Int)(m k a b:Int)(c d e g h i j:List Int)(n:chu ρ):Option ρ:=f (l,m,k,a,b,c,d,e,g,h,i,j) (fun (l,m,k,a,b,c,d,e,g,h,i,j)=>n l m k a b c d e g h i j)
def afn{ρ:Type}:=cd4 (lp (cao (ρ:=ρ)))
def abw{ρ:Type}:=cd4 (ciy (ρ:=ρ))
theorem ajy{ρ:Type}:abw (ρ:=ρ)=afn:=congrArg cd4 cp3
abbrev cfm(ρ:Type):=Int→Int→(List Int)→(List Int)→(List Int)→Int→Int→(List Int)→(List Int)→(List Int)→(List Int)→(List Int)→Option ρ
def abh{ρ:Type}(j b:Int)(c k l:List Int)(d e:Int)(f g h i a:List Int)(nx o:cfm ρ):Option ρ:=br (decide (b<j)) (br (decide (0≤b.tmod 16)) (br (decide (b.tmod 16<(↑16:Int))) (l9 d e f g h i (a.getD 4 0) 3 fun m=>uq b fun n=>l9 d e f g h i (a.getD 0 0) 2 fun p=>br (decide (0≤(Aa.wrap (b+1)).tmod 16)) (br (decide ((Aa.wrap (b+1)).tmod 16<(↑16:Int))) (og d e f g h i (c.getD ((Aa.wrap (b+1)).tmod 16).toNat 0) 0 fun q=>br (decide (0≤(Aa.wrap (b+9)).tmod 16)) (br (decide ((Aa.wrap (b+9)).tmod 16<(↑16:Int))) (br (decide (0≤(Aa.wrap (b+14)).tmod 16)) (br (decide ((Aa.wrap (b+14)).tmod 16<(↑16:Int))) (og d e f g h i (c.getD ((Aa.wrap (b+14)).tmod 16).toNat 0) 1 fun r=>br (decide (0≤b.tmod 16)) (br (decide (b.tmod 16<(↑16:Int))) (nx j (Aa.wrap (b+1)) (c.set (b.tmod 16).toNat (Ab.wrap (Ab.wrap (Ab.wrap (c.getD (b.tmod 16).toNat 0+q)+c.getD ((Aa.wrap (b+9)).tmod 16).toNat 0)+r))) k l d e f g h i ((((Ac 1 a).append (Ac 7 (Ac 7 (Ae 0 a))++Ae (1+min 7 (Ac 7 (Ae 0 a)).length) a)).set 4 (Ab.wrap (((Ac 1 a).append (Ac 7 (Ac 7 (Ae 0 a))++Ae (1+min 7 (Ac 7 (Ae 0 a)).length) a)).getD 4 0+Ab.wrap (Ab.wrap (Ab.wrap (Ab.wrap (a.getD 7 0+m)+bits BinOp.xor Ab (a.getD 6 0) (bits BinOp.and Ab (a.getD 4 0) (bits BinOp.xor Ab (a.getD 5 0) (a.getD 6 0))))+n)+c.getD (b.tmod 16).toNat 0)))).set 0 (Ab.wrap (Ab.wrap (Ab.wrap (Ab.wrap (Ab.wrap (a.getD 7 0+m)+bits BinOp.xor Ab (a.getD 6 0) (bits BinOp.and Ab (a.getD 4 0) (bits BinOp.xor Ab (a.getD 5 0) (a.getD 6 0))))+n)+c.getD (b.tmod 16).toNat 0)+Ab.wrap (p+bits BinOp.or Ab (bits BinOp.and Ab (a.getD 0 0) (a.getD 1 0)) (bits BinOp.and Ab (a.getD 2 0) (bits BinOp.or Ab (a.getD 0 0) (a.getD 1 0)))))))) none) none) none) none) none) none) none) none) none) none) (o j b c k l d e f g h i a)
abbrev b97:=Int×Int×(List Int)×(List Int)×(List Int)×Int×Int×(List Int)×(List Int)×(List Int)×(List Int)×(List Int)
abbrev cn0:=b97
def cjc{ρ:Type}(f:b97→Option ρ):cfm ρ:=fun l m a b c d e g h i j k=>f (l,m,a,b,c,d,e,g,h,i,j,k)
def ccd{ρ:Type}:ab5 b97 cn0 ρ:=fun (k,l,a,b,c,d,e,f,g,h,i,j) next ex=>abh k l a b c d e f g h i j (cjc next) (cjc ex)
def cgj{ρ:Type}:=shut (lp (ccd (ρ:=ρ)))
theorem cp9{ρ:Type}:cgj (ρ:=ρ)=lp ccd:=bg _
def cce{ρ:Type}(f:ab6 b97 cn0 ρ)(l m:Int)(a b c:List Int)(d e:Int)(g h i j k:List Int)(n:cfm ρ):Option ρ:=f (l,m,a,b,c,d,e,g,h,i,j,k) (fun (l,m,a,b,c,d,e,g,h,i,j,k)=>n l m a b c d e g h i j k)
def aer{ρ:Type}:=cce (lp (ccd (ρ:=ρ)))
def zl{ρ:Type}:=cce (cgj (ρ:=ρ))
theorem aji{ρ:Type}:zl (ρ:=ρ)=aer:=congrArg cce cp9
abbrev cm3(ρ:Type):=Int→(List Int)→(List Int)→(List Int)→Option ρ
def aa5{ρ:Type}(a:Int)(b d c:List Int)(nx e:cm3 ρ):Option ρ:=br (decide (a<8)) (br (decide (0≤a)) (br (decide (a<(↑8:Int))) (br (decide (0≤a)) (br (decide (a<(↑8:Int))) (br (decide (0≤a)) (br (decide (a<(↑8:Int))) (nx (Aa.wrap (a+1)) b d (c.set a.toNat (Ab.wrap (c.getD a.toNat 0+b.getD a.toNat 0)))) none) none) none) none) none) none) (e a b d c)
abbrev b9t:=Int×(List Int)×(List Int)×(List Int)
abbrev ce7:=b9t
def cno{ρ:Type}(f:b9t→Option ρ):cm3 ρ:=fun a b c d=>f (a,b,c,d)
def ceq{ρ:Type}:ab5 b9t ce7 ρ:=fun (a,b,c,d) next ex=>aa5 a b c d (cno next) (cno ex)
def ci5{ρ:Type}:=shut (lp (ceq (ρ:=ρ)))
theorem cq4{ρ:Type}:ci5 (ρ:=ρ)=lp ceq:=bg _
def cee{ρ:Type}(f:ab6 b9t ce7 ρ)(a:Int)(b c d:List Int)(e:cm3 ρ):Option ρ:=f (a,b,c,d) (fun (a,b,c,d)=>e a b c d)
def ae1{ρ:Type}:=cee (lp (ceq (ρ:=ρ)))
def zq{ρ:Type}:=cee (ci5 (ρ:=ρ))
theorem ajo{ρ:Type}:zq (ρ:=ρ)=ae1:=congrArg cee cq4
def aa6{ρ:Type}(a f:Int)(b c d e p q:List Int)(k:(List Int)→Option ρ):Option ρ:=abw q (Aa.wrap (a.tdiv 8)) 0 a f b c d e p [0,0,0,0,0,0,0,0] [0,0,0,0,0,0,0,0,0,0,0,0,0,0,0,0] fun N O Q r g s t u v h i j=>zl g 0 j i h r g s t u v h fun w y z l m A B C F G H n=>zq 0 m l n fun I J M o=>k o
def ou{ρ:Type}:=shut (aa6 (ρ:=ρ))
theorem afm{ρ:Type}(f:Int)(e:Int)(a:List Int)(b:List Int)(c:List Int)(d:List Int)(g:List Int)(h:List Int)(k:(List Int)→Option ρ):ou f e a b c d g h k=aa6 f e a b c d g h k:=by unfold ou;rw[bg]

abbrev cnz(ρ:Type):=(List Int)→(List Int)→Int→Int→Int→(List Int)→(List Int)→(List Int)→(List Int)→(List Int)→(List Int)→(List Int)→Option ρ
def aew{ρ:Type}(l b:List Int)(a c d:Int)(e f g h i j k:List Int)(nx m:cnz ρ):Option ρ:=br (decide (a<8)) (br (decide (0≤a)) (br (decide (a<(↑8:Int))) (br (decide (0≤a)) (br (decide (a<(↑8:Int))) (nx l b (Aa.wrap (a+1)) c d e f g h i j (k.set a.toNat (b.getD a.toNat 0))) none) none) none) none) (m l b a c d e f g h i j k)
abbrev b7b:=(List Int)×(List Int)×Int×Int×Int×(List Int)×(List Int)×(List Int)×(List Int)×(List Int)×(List Int)×(List Int)
abbrev cho:=b7b
def cf2{ρ:Type}(f:b7b→Option ρ):cnz ρ:=fun m k l a b c d e g h i j=>f (m,k,l,a,b,c,d,e,g,h,i,j)
def cdg{ρ:Type}:ab5 b7b cho ρ:=fun (l,j,k,a,b,c,d,e,f,g,h,i) next ex=>aew l j k a b c d e f g h i (cf2 next) (cf2 ex)
def cit{ρ:Type}:=shut (lp (cdg (ρ:=ρ)))
theorem cr7{ρ:Type}:cit (ρ:=ρ)=lp cdg:=bg _
def cb5{ρ:Type}(f:ab6 b7b cho ρ)(m k:List Int)(l a b:Int)(c d e g h i j:List Int)(n:cnz ρ):Option ρ:=f (m,k,l,a,b,c,d,e,g,h,i,j) (fun (m,k,l,a,b,c,d,e,g,h,i,j)=>n m k l a b c d e g h i j)
def ajj{ρ:Type}:=cb5 (lp (cdg (ρ:=ρ)))
def aep{ρ:Type}:=cb5 (cit (ρ:=ρ))
theorem aof{ρ:Type}:aep (ρ:=ρ)=ajj:=congrArg cb5 cr7
abbrev cn6(ρ:Type):=(List Int)→Int→(List Int)→(List Int)→(List Int)→Int→Int→(List Int)→(List Int)→(List Int)→(List Int)→Option ρ
def aej{ρ:Type}(b:List Int)(a:Int)(i j k:List Int)(c d:Int)(e f g h:List Int)(nx l:cn6 ρ):Option ρ:=br (decide ((↑b.length:Int)≥a)) (br (decide (0≤a)) (br (decide (a≤(↑b.length:Int))) (ou c d e f g h i (Ae 0 (Ac a.toNat b)) fun m=>br (decide (0≤a)) (br (decide (a≤(↑b.length:Int))) (br (decide ((↑b.length:Int)≤(↑b.length:Int))) (nx (Ae a.toNat (Ac (↑b.length:Int).toNat b)) a m j k c d e f g h) none) none) none) none) none) (l b a i j k c d e f g h)
abbrev b54:=(List Int)×Int×(List Int)×(List Int)×(List Int)×Int×Int×(List Int)×(List Int)×(List Int)×(List Int)
abbrev ce9:=b54
def cim{ρ:Type}(f:b54→Option ρ):cn6 ρ:=fun l k a b c d e g h i j=>f (l,k,a,b,c,d,e,g,h,i,j)
def cd3{ρ:Type}:ab5 b54 ce9 ρ:=fun (k,j,a,b,c,d,e,f,g,h,i) next ex=>aej k j a b c d e f g h i (cim next) (cim ex)
def ce3{ρ:Type}:=shut (lp (cd3 (ρ:=ρ)))
theorem crq{ρ:Type}:ce3 (ρ:=ρ)=lp cd3:=bg _
def cdj{ρ:Type}(f:ab6 b54 ce9 ρ)(l:List Int)(k:Int)(a b c:List Int)(d e:Int)(g h i j:List Int)(m:cn6 ρ):Option ρ:=f (l,k,a,b,c,d,e,g,h,i,j) (fun (l,k,a,b,c,d,e,g,h,i,j)=>m l k a b c d e g h i j)
def ajc{ρ:Type}:=cdj (lp (cd3 (ρ:=ρ)))
def aeg{ρ:Type}:=cdj (ce3 (ρ:=ρ))
theorem aol{ρ:Type}:aeg (ρ:=ρ)=ajc:=congrArg cdj crq
abbrev cj0(ρ:Type):=(List Int)→(List Int)→Int→(List Int)→(List Int)→Option ρ
def adv{ρ:Type}(e b:List Int)(a:Int)(c d:List Int)(nx f:cj0 ρ):Option ρ:=br (decide (a<8)) (br (decide (0≤a)) (br (decide (a<(↑8:Int))) (br (decide (0≤a)) (br (decide (a<(↑8:Int))) (nx e b (Aa.wrap (a+1)) (c.set a.toNat (b.getD a.toNat 0)) d) none) none) none) none) (f e b a c d)
abbrev b95:=(List Int)×(List Int)×Int×(List Int)×(List Int)
abbrev cms:=b95
def cmg{ρ:Type}(f:b95→Option ρ):cj0 ρ:=fun e c d a b=>f (e,c,d,a,b)
def ccr{ρ:Type}:ab5 b95 cms ρ:=fun (e,c,d,a,b) next ex=>adv e c d a b (cmg next) (cmg ex)
def cja{ρ:Type}:=shut (lp (ccr (ρ:=ρ)))
theorem cqd{ρ:Type}:cja (ρ:=ρ)=lp ccr:=bg _
def cdv{ρ:Type}(f:ab6 b95 cms ρ)(e c:List Int)(d:Int)(a b:List Int)(g:cj0 ρ):Option ρ:=f (e,c,d,a,b) (fun (e,c,d,a,b)=>g e c d a b)
def ahw{ρ:Type}:=cdv (lp (ccr (ρ:=ρ)))
def adr{ρ:Type}:=cdv (cja (ρ:=ρ))
theorem anr{ρ:Type}:adr (ρ:=ρ)=ahw:=congrArg cdv cqd
def ads{ρ:Type}(f e:Int)(a b c d g r:List Int)(k:(List Int)→(List Int)→Option ρ):Option ρ:=aep r g 0 f e a b c d g [0,0,0,0,0,0,0,0] [0,0,0,0,0,0,0,0] fun s O Q h t u v w y z i j=>aeg s (Aa.wrap (h*2)) j i z h t u v w y fun l A m n o B C F G H I=>adr l m 0 o n fun p J M q N=>k q p
def vg{ρ:Type}:=shut (ads (ρ:=ρ))
theorem ajg{ρ:Type}(f:Int)(e:Int)(a:List Int)(b:List Int)(c:List Int)(d:List Int)(g:List Int)(h:List Int)(k:(List Int)→(List Int)→Option ρ):vg f e a b c d g h k=ads f e a b c d g h k:=by unfold vg;rw[bg]

def ayf{ρ:Type}(k:Int→Int→(List Int)→(List Int)→(List Int)→(List Int)→Option ρ):Option ρ:=k 64 80 [1,8,7] [19,61,6] [28,34,39] [14,18,41]
def aed{ρ:Type}:=shut (ayf (ρ:=ρ))
theorem bb9{ρ:Type}  (k:Int→Int→(List Int)→(List Int)→(List Int)→(List Int)→Option ρ):aed  k=ayf  k:=by unfold aed;rw[bg]

def uz{ρ:Type}(a:List Int)(k:(List Int)→Option ρ):Option ρ:=br (decide (a.length*1≤140737488355328)) (k a) none

def av7{ρ:Type}(a:Int)(b d:List Int)(c:Int)(e:List Int)(k:Int→(List Int)→(List Int)→Int→Option ρ):Option ρ:=lg [d,e] fun f=>br (a==1) (ad6 fun q r s t u v=>vk q r s t u v b f fun w y=>uz y fun z=>k a w z (Ab.wrap (c+Ab.wrap (↑e.length:Int)))) (aed fun g h i j l m=>vg g h i j l m b f fun n o=>uz o fun p=>k a n p (Ab.wrap (c+Ab.wrap (↑e.length:Int))))
def aaf{ρ:Type}:=shut (av7 (ρ:=ρ))
theorem bi3{ρ:Type}(b:Int)(a:List Int)(c:List Int)(d:Int)(e:List Int)(k:Int→(List Int)→(List Int)→Int→Option ρ):aaf b a c d e k=av7 b a c d e k:=by unfold aaf;rw[bg]

def aix{ρ:Type}(a:Int)(k:Int→Option ρ):Option ρ:=br (a==1) (k 64) (k 128)
def zn{ρ:Type}:=shut (aix (ρ:=ρ))
theorem aq1{ρ:Type}(a:Int)(k:Int→Option ρ):zn a k=aix a k:=by unfold zn;rw[bg]

abbrev cn9(ρ:Type):=Int→(List Int)→Int→(List Int)→Int→(List Int)→Int→(List Int)→Option ρ
def aw5{ρ:Type}(g:Int)(b:List Int)(a:Int)(c:List Int)(d:Int)(e:List Int)(f:Int)(h:List Int)(nx j:cn9 ρ):Option ρ:=br (decide (a<8)) (br (decide (0≤a)) (br (decide (a<(↑8:Int))) (y7 (b.getD a.toNat 0) (Aa.wrap (g.tdiv 16)) fun i=>br (decide ((c.length+i.length)*1≤140737488355328)) (nx g b (Aa.wrap (a+1)) (c++i) d e f h) none) none) none) (j g b a c d e f h)
abbrev b80:=Int×(List Int)×Int×(List Int)×Int×(List Int)×Int×(List Int)
abbrev cil:=b80
def chy{ρ:Type}(f:b80→Option ρ):cn9 ρ:=fun h d e g a b c i=>f (h,d,e,g,a,b,c,i)
def cba{ρ:Type}:ab5 b80 cil ρ:=fun (g,d,e,f,a,b,c,h) next ex=>aw5 g d e f a b c h (chy next) (chy ex)
def cjn{ρ:Type}:=shut (lp (cba (ρ:=ρ)))
theorem cr8{ρ:Type}:cjn (ρ:=ρ)=lp cba:=bg _
def ccs{ρ:Type}(f:ab6 b80 cil ρ)(h:Int)(d:List Int)(e:Int)(g:List Int)(a:Int)(b:List Int)(c:Int)(i:List Int)(j:cn9 ρ):Option ρ:=f (h,d,e,g,a,b,c,i) (fun (h,d,e,g,a,b,c,i)=>j h d e g a b c i)
def bep{ρ:Type}:=ccs (lp (cba (ρ:=ρ)))
def awk{ρ:Type}:=ccs (cjn (ρ:=ρ))
theorem bij{ρ:Type}:awk (ρ:=ρ)=bep:=congrArg ccs cr8
def aw2{ρ:Type}(c:Int)(e a:List Int)(d:Int)(k:(List Int)→Option ρ):Option ρ:=zn c fun b=>br (decide (1≤b)) (br (decide (b*(↑1:Int)≤(↑140737488355328:Int))) (br (decide (b=0)) none (br (decide (0≤Aa.wrap (Aa.wrap ((Aa.wrap (Aa.wrap (Aa.wrap (Aa.wrap (2*b)-1)-Aa.wrap (b.tdiv 8))-(↑a.length:Int))).tmod b+Aa.wrap (b.tdiv 8))-8))) (br (decide ((1+(Aa.wrap (Aa.wrap ((Aa.wrap (Aa.wrap (Aa.wrap (Aa.wrap (2*b)-1)-Aa.wrap (b.tdiv 8))-(↑a.length:Int))).tmod b+Aa.wrap (b.tdiv 8))-8)).toNat)*1≤140737488355328)) (y7 (Ab.wrap (d*2^3)) 8 fun g=>br (decide ((((Af (Aa.wrap (Aa.wrap ((Aa.wrap (Aa.wrap (Aa.wrap (Aa.wrap (2*b)-1)-Aa.wrap (b.tdiv 8))-(↑a.length:Int))).tmod b+Aa.wrap (b.tdiv 8))-8)).toNat (0:Int)).length.add 0).succ+g.length)*1≤140737488355328)) (aaf c e a d ((Af 1 (0:Int)).set 0 128++Af (Aa.wrap (Aa.wrap ((Aa.wrap (Aa.wrap (Aa.wrap (Aa.wrap (2*b)-1)-Aa.wrap (b.tdiv 8))-(↑a.length:Int))).tmod b+Aa.wrap (b.tdiv 8))-8)).toNat (0:Int)++g) fun j h l m=>awk b h 0 [] j h m l fun q r s f i n o p=>br (i==2) (br (decide (48≤(↑f.length:Int))) (k (Ac ((48:Int)-(0:Int)).toNat f)) none) (k f)) none) none) none)) none) none
def adw{ρ:Type}:=shut (aw2 (ρ:=ρ))
theorem bjb{ρ:Type}(b:Int)(a:List Int)(c:List Int)(d:Int)(k:(List Int)→Option ρ):adw b a c d k=aw2 b a c d k:=by unfold adw;rw[bg]

def awe{ρ:Type}(b:Int)(c:List Int)(k:(List Int)→Int→Option ρ):Option ρ:=af8 b fun d e f g a=>br (a !=0) (k [] a) (aaf d e f g c fun h i j l=>adw h i j l fun m=>k m 0)
def alb{ρ:Type}:=shut (awe (ρ:=ρ))
theorem bjn{ρ:Type}(a:Int)(b:List Int)(k:(List Int)→Int→Option ρ):alb a b k=awe a b k:=by unfold alb;rw[bg]

def ank{ρ:Type}(a:Int)(b:List Int)(k:(List Int)→Int→Option ρ):Option ρ:=afc a fun c=>br (c==0) (k [] 9) (br (decide (a≤3)) (alb a b fun d e=>k d e) (afc a fun f=>zw a b f fun g h=>k g h))
def aad{ρ:Type}:=shut (ank (ρ:=ρ))
theorem azs{ρ:Type}(a:Int)(b:List Int)(k:(List Int)→Int→Option ρ):aad a b k=ank a b k:=by unfold aad;rw[bg]

def ag7{ρ:Type}(a:List (List Int))(b:Int)(k:(List Int)→Option ρ):Option ρ:=jc a fun c=>aad b c fun d e=>k d
def ng{ρ:Type}:=shut (ag7 (ρ:=ρ))
theorem aod{ρ:Type}(a:List (List Int))(b:Int)(k:(List Int)→Option ρ):ng a b k=ag7 a b k:=by unfold ng;rw[bg]

def atd{ρ:Type}(a:Int)(k:Int→Option ρ):Option ρ:=k a
def aar{ρ:Type}:=shut (atd (ρ:=ρ))
theorem avr{ρ:Type}(a:Int)(k:Int→Option ρ):aar a k=atd a k:=by unfold aar;rw[bg]

abbrev co5(ρ:Type):=Int→Int→Int→(List Int)→Option ρ
def ant{ρ:Type}(d b a:Int)(c:List Int)(nx e:co5 ρ):Option ρ:=br (decide (a<b)) (br (decide (0≤a)) (br (decide (a<(↑c.length:Int))) (br (decide (0≤a)) (br (decide (a<(↑c.length:Int))) (nx d b (Aa.wrap (a+1)) (c.set a.toNat (bits BinOp.xor Ag (c.getD a.toNat 0) d))) none) none) none) none) (e d b a c)
abbrev b9g:=Int×Int×Int×(List Int)
abbrev clj:=b9g
def ckp{ρ:Type}(f:b9g→Option ρ):co5 ρ:=fun c a b d=>f (c,a,b,d)
def cc8{ρ:Type}:ab5 b9g clj ρ:=fun (c,a,b,d) next ex=>ant c a b d (ckp next) (ckp ex)
def co2{ρ:Type}:=shut (lp (cc8 (ρ:=ρ)))
theorem cqj{ρ:Type}:co2 (ρ:=ρ)=lp cc8:=bg _
def caw{ρ:Type}(f:ab6 b9g clj ρ)(c a b:Int)(d:List Int)(e:co5 ρ):Option ρ:=f (c,a,b,d) (fun (c,a,b,d)=>e c a b d)
def au6{ρ:Type}:=caw (lp (cc8 (ρ:=ρ)))
def avp{ρ:Type}:=caw (co2 (ρ:=ρ))
theorem bbh{ρ:Type}:avp (ρ:=ρ)=au6:=congrArg caw cqj
def ak7{ρ:Type}(b:List Int)(a c:Int)(k:(List Int)→Option ρ):Option ρ:=br (decide (0≤a)) (br (decide (a≤a)) (br (decide (a*(↑1:Int)≤(↑140737488355328:Int))) (avp c (↑((Ac (Af a.toNat (0:Int)).length b).append (Ae (0+min (Af a.toNat (0:Int)).length b.length) (Af a.toNat (0:Int)))).length:Int) 0 ((Ac (Af a.toNat (0:Int)).length b).append (Ae (0+min (Af a.toNat (0:Int)).length b.length) (Af a.toNat (0:Int)))) fun e f g d=>k d) none) none) none
def wh{ρ:Type}:=shut (ak7 (ρ:=ρ))
theorem ava{ρ:Type}(a:List Int)(b:Int)(c:Int)(k:(List Int)→Option ρ):wh a b c k=ak7 a b c k:=by unfold wh;rw[bg]

def ali{ρ:Type}(b:List (List Int))(a:Int)(c d:List Int)(k:(List Int)→Option ρ):Option ρ:=jc b fun e=>ng [d,e] a fun f=>ng [c,f] a fun g=>k g
def abg{ρ:Type}:=shut (ali (ρ:=ρ))
theorem avn{ρ:Type}(b:List (List Int))(a:Int)(c:List Int)(d:List Int)(k:(List Int)→Option ρ):abg b a c d k=ali b a c d k:=by unfold abg;rw[bg]

def as1{ρ:Type}(a:Int)(b:List Int)(k:Int→(List Int)→(List Int)→Option ρ):Option ρ:=aar a fun c=>br (decide (0≤a)) (br (decide (a<(↑8:Int))) (br (decide (a.toNat*2+1<16)) (br (decide ((↑b.length:Int)>[(0:Int),(0:Int),(32:Int),(64:Int),(48:Int),(128:Int),(64:Int),(128:Int),(32:Int),(136:Int),(64:Int),(72:Int),(32:Int),(168:Int),(64:Int),(136:Int)].getD (a.toNat*2+1) 0)) (ng [b] c fun d=>wh d ([(0:Int),(0:Int),(32:Int),(64:Int),(48:Int),(128:Int),(64:Int),(128:Int),(32:Int),(136:Int),(64:Int),(72:Int),(32:Int),(168:Int),(64:Int),(136:Int)].getD (a.toNat*2+1) 0) 54 fun e=>wh d ([(0:Int),(0:Int),(32:Int),(64:Int),(48:Int),(128:Int),(64:Int),(128:Int),(32:Int),(136:Int),(64:Int),(72:Int),(32:Int),(168:Int),(64:Int),(136:Int)].getD (a.toNat*2+1) 0) 92 fun f=>k c f e) (wh b ([(0:Int),(0:Int),(32:Int),(64:Int),(48:Int),(128:Int),(64:Int),(128:Int),(32:Int),(136:Int),(64:Int),(72:Int),(32:Int),(168:Int),(64:Int),(136:Int)].getD (a.toNat*2+1) 0) 54 fun g=>wh b ([(0:Int),(0:Int),(32:Int),(64:Int),(48:Int),(128:Int),(64:Int),(128:Int),(32:Int),(136:Int),(64:Int),(72:Int),(32:Int),(168:Int),(64:Int),(136:Int)].getD (a.toNat*2+1) 0) 92 fun h=>k c h g)) none) none) none
def agt{ρ:Type}:=shut (as1 (ρ:=ρ))
theorem bek{ρ:Type}(a:Int)(b:List Int)(k:Int→(List Int)→(List Int)→Option ρ):agt a b k=as1 a b k:=by unfold agt;rw[bg]

def atj{ρ:Type}(a:Int)(b c:List Int)(k:(List Int)→Int→Option ρ):Option ρ:=ahd a fun d=>br (!d) (k [] 9) (agt a b fun e f g=>abg [c] e f g fun h=>k h 0)
def ahp{ρ:Type}:=shut (atj (ρ:=ρ))
theorem bgi{ρ:Type}(a:Int)(b:List Int)(c:List Int)(k:(List Int)→Int→Option ρ):ahp a b c k=atj a b c k:=by unfold ahp;rw[bg]

def ais{ρ:Type}(d e f:List Int)(g a h i j l:Int)(b:Bool)(k:(List Int)→Option ρ):Option ρ:=jc [e,f] fun m=>ahp g d m fun c n=>br (decide (0≤a)) (br (decide (a≤(↑c.length:Int))) (k (Ac (a-0).toNat (Ae 0 c))) none) none
def qo{ρ:Type}:=shut (ais (ρ:=ρ))
theorem aqt{ρ:Type}(g:List Int)(h:List Int)(i:List Int)(j:Int)(b:Int)(c:Int)(d:Int)(e:Int)(f:Int)(a:Bool)(k:(List Int)→Option ρ):qo g h i j b c d e f a k=ais g h i j b c d e f a k:=by unfold qo;rw[bg]

abbrev cfe(ρ:Type):=(List Int)→Int→Int→Int→(List Int)→Option ρ
def awt{ρ:Type}(d:List Int)(e a b:Int)(c:List Int)(nx g:cfe ρ):Option ρ:=br (decide ((↑c.length:Int)<e)) (y7 b 4 fun h=>ng [d,h] a fun f=>br (decide ((c.length+f.length)*1≤140737488355328)) (nx d e a (Ab.wrap (b+1)) (c++f)) none) (g d e a b c)
abbrev b7u:=(List Int)×Int×Int×Int×(List Int)
abbrev cfd:=b7u
def clf{ρ:Type}(f:b7u→Option ρ):cfe ρ:=fun c d a b e=>f (c,d,a,b,e)
def cdi{ρ:Type}:ab5 b7u cfd ρ:=fun (c,d,a,b,e) next ex=>awt c d a b e (clf next) (clf ex)
def cik{ρ:Type}:=shut (lp (cdi (ρ:=ρ)))
theorem cpz{ρ:Type}:cik (ρ:=ρ)=lp cdi:=bg _
def cch{ρ:Type}(f:ab6 b7u cfd ρ)(c:List Int)(d a b:Int)(e:List Int)(g:cfe ρ):Option ρ:=f (c,d,a,b,e) (fun (c,d,a,b,e)=>g c d a b e)
def bee{ρ:Type}:=cch (lp (cdi (ρ:=ρ)))
def beg{ρ:Type}:=cch (cik (ρ:=ρ))
theorem bi1{ρ:Type}:beg (ρ:=ρ)=bee:=congrArg cch cpz
def asw{ρ:Type}(b:Int)(e:List Int)(c:Int)(k:(List Int)→Int→Option ρ):Option ρ:=br (decide (b<1)) (k [] 9) (br (decide (b>3)) (k [] 9) (br (decide (c<0)) (k [] 8) (br (decide (c>1048576)) (k [] 8) (aar b fun f=>beg e c f 0 [] fun g a h i d=>br (decide (0≤a)) (br (decide (a≤(↑d.length:Int))) (br (decide (a≤a)) (br (decide (a≤(↑d.length:Int))) (k (Ae 0 (Ac a.toNat d)) 0) none) none) none) none))))
def ag6{ρ:Type}:=shut (asw (ρ:=ρ))
theorem bhh{ρ:Type}(a:Int)(b:List Int)(c:Int)(k:(List Int)→Int→Option ρ):ag6 a b c k=asw a b c k:=by unfold ag6;rw[bg]

def ait{ρ:Type}(f:Int)(d b g:List Int)(e a h i j l:Int)(c:Bool)(k:(List Int)→Option ρ):Option ρ:=jc [d,b,g] fun m=>aad e m fun n q=>br (decide (0≤a)) (br (decide (a≤(↑b.length:Int))) (jc [d,Ae 0 (Ac a.toNat b),n] fun o=>ag6 e o f fun p r=>k p) none) none
def qj{ρ:Type}:=shut (ait (ρ:=ρ))
theorem aqv{ρ:Type}(g:Int)(h:List Int)(i:List Int)(j:List Int)(l:Int)(b:Int)(c:Int)(d:Int)(e:Int)(f:Int)(a:Bool)(k:(List Int)→Option ρ):qj g h i j l b c d e f a k=ait g h i j l b c d e f a k:=by unfold qj;rw[bg]

def anq{ρ:Type}(b c d e f:Int)(a:Bool)(k:Int→Int→Int→Int→Int→Bool→Int→Int→Int→Int→Int→Int→Bool→Int→Int→Int→Int→Int→Int→Bool→Option ρ):Option ρ:=br (b==16) (k b c d e f a 1 b c d e f a 1 b c d e f a) (k b c d e f a 3 b c d e f a 3 b c d e f a)
def agi{ρ:Type}:=shut (anq (ρ:=ρ))
theorem azo{ρ:Type}(b:Int)(c:Int)(d:Int)(e:Int)(f:Int)(a:Bool)(k:Int→Int→Int→Int→Int→Bool→Int→Int→Int→Int→Int→Int→Bool→Int→Int→Int→Int→Int→Int→Bool→Option ρ):agi b c d e f a k=anq b c d e f a k:=by unfold agi;rw[bg]

def akj{ρ:Type}(b c d e f:Int)(a:Bool)(k:Int→Int→Int→Int→Int→Bool→Nat→Int→Int→Int→Int→Int→Bool→Int→Int→Int→Int→Int→Int→Bool→Nat→Int→Int→Int→Int→Int→Int→Bool→Option ρ):Option ρ:=br a (agh b c d e f a fun G H I J M N O Q U W g h=>k G H I J M N 1 O Q U W g h 0 0 0 0 0 0 false 1 0 0 0 0 0 0 false) (agi b c d e f a fun i j l m n o p q r s t u v w y z A B C F=>k i j l m n o 2 0 0 0 0 0 false p q r s t u v 2 w y z A B C F)
def acv{ρ:Type}:=shut (akj (ρ:=ρ))
theorem atu{ρ:Type}(b:Int)(c:Int)(d:Int)(e:Int)(f:Int)(a:Bool)(k:Int→Int→Int→Int→Int→Bool→Nat→Int→Int→Int→Int→Int→Bool→Int→Int→Int→Int→Int→Int→Bool→Nat→Int→Int→Int→Int→Int→Int→Bool→Option ρ):acv b c d e f a k=akj b c d e f a k:=by unfold acv;rw[bg]

def anl{ρ:Type}(b:List Int)(a:Int)(k:Int→(List Int)→Option ρ):Option ρ:=br (decide (0≤Aa.wrap ((Aa.wrap (a+7)).tdiv 8))) (br (decide (Aa.wrap ((Aa.wrap (a+7)).tdiv 8)≤(↑b.length:Int))) (wz (Ae 0 (Ac (Aa.wrap ((Aa.wrap (a+7)).tdiv 8)).toNat b)) fun c=>br (decide (a<0)) none (br (decide (0≤Aa.wrap ((Aa.wrap (a+7)).tdiv 8))) (br (decide (Aa.wrap ((Aa.wrap (a+7)).tdiv 8)≤(↑b.length:Int))) (br (decide ((↑b.length:Int)≤(↑b.length:Int))) (k (bits BinOp.and Ab c (Ab.wrap (Ab.wrap (1*2^min a.toNat 64)-1))) (Ae (Aa.wrap ((Aa.wrap (a+7)).tdiv 8)).toNat (Ac (↑b.length:Int).toNat b))) none) none) none)) none) none
def aaq{ρ:Type}:=shut (anl (ρ:=ρ))
theorem ay5{ρ:Type}(a:List Int)(b:Int)(k:Int→(List Int)→Option ρ):aaq a b k=anl a b k:=by unfold aaq;rw[bg]

def ac7{ρ:Type}(n a b o p:Int)(l:Bool)(I:Nat)(u v w y z:Int)(q:Bool)(H A B C F G:Int)(r:Bool)(j:Nat)(m e f g h i:Int)(c:Bool)(J M N:List Int)(k:(List Int)→Int→Int→Option ρ):Option ρ:=ku n a b o p l fun q0 d=>br (decide (b=0)) none (br (decide (j=1)) (qm (Aa.wrap (Aa.wrap (d+Aa.wrap ((Aa.wrap (Aa.wrap (a-Aa.wrap (a.tdiv b))+7)).tdiv 8))+Aa.wrap ((Aa.wrap (Aa.wrap (a.tdiv b)+7)).tdiv 8))) J M N fun s=>br (decide (0≤d)) (br (decide (d≤(↑s.length:Int))) (br (decide (0≤d)) (br (decide (d≤(↑s.length:Int))) (br (decide ((↑s.length:Int)≤(↑s.length:Int))) (aaq (Ac ((↑s.length:Int)-d).toNat (Ae d.toNat s)) (Aa.wrap (a-Aa.wrap (a.tdiv b))) fun Q U=>aaq U (Aa.wrap (a.tdiv b)) fun W q6=>k (Ac (d-0).toNat (Ae 0 s)) Q W) none) none) none) none) none) (br (decide (j=2)) (qj (Aa.wrap (Aa.wrap (d+Aa.wrap ((Aa.wrap (Aa.wrap (a-Aa.wrap (a.tdiv b))+7)).tdiv 8))+Aa.wrap ((Aa.wrap (Aa.wrap (a.tdiv b)+7)).tdiv 8))) J M N m e f g h i c fun t=>br (decide (0≤d)) (br (decide (d≤(↑t.length:Int))) (br (decide (0≤d)) (br (decide (d≤(↑t.length:Int))) (br (decide ((↑t.length:Int)≤(↑t.length:Int))) (aaq (Ae d.toNat (Ac (↑t.length:Int).toNat t)) (Aa.wrap (a-Aa.wrap (a.tdiv b))) fun Z q9=>aaq q9 (Aa.wrap (a.tdiv b)) fun O aa=>k (Ae 0 (Ac d.toNat t)) Z O) none) none) none) none) none) none))
def qp{ρ:Type}:=shut (ac7 (ρ:=ρ))
theorem ags{ρ:Type}(y:Int)(z:Int)(A:Int)(B:Int)(C:Int)(i:Bool)(F:Nat)(j:Int)(l:Int)(m:Int)(n:Int)(o:Int)(b:Bool)(v:Int)(p:Int)(q:Int)(r:Int)(s:Int)(t:Int)(c:Bool)(w:Nat)(u:Int)(d:Int)(e:Int)(f:Int)(g:Int)(h:Int)(a:Bool)(G:List Int)(H:List Int)(I:List Int)(k:(List Int)→Int→Int→Option ρ):qp y z A B C i F j l m n o b v p q r s t c w u d e f g h a G H I k=ac7 y z A B C i F j l m n o b v p q r s t c w u d e f g h a G H I k:=by unfold qp;rw[bg]

def ao1{ρ:Type}(b a:List Int)(k:(List Int)→Option ρ):Option ρ:=jc [[0,Ag.wrap (↑a.length:Int)],a,b] fun c=>k c
def adl{ρ:Type}:=shut (ao1 (ρ:=ρ))
theorem bb4{ρ:Type}(a:List Int)(b:List Int)(k:(List Int)→Option ρ):adl a b k=ao1 a b k:=by unfold adl;rw[bg]

def ag4{ρ:Type}(e f:List Int)(b:Int)(a:List Int)(d:Int)(c:Bool)(g:Int)(k:(List Int)→Option ρ):Option ρ:=jc [Ac 32 (Ae 0 e),f] fun h=>o7 b a d c h fun i j l m=>qz i j l m g fun o p q r n=>k n
def jq{ρ:Type}:=shut (ag4 (ρ:=ρ))
theorem aoc{ρ:Type}(e:List Int)(f:List Int)(b:Int)(a:List Int)(d:Int)(c:Bool)(g:Int)(k:(List Int)→Option ρ):jq e f b a d c g k=ag4 e f b a d c g k:=by unfold jq;rw[bg]

def alx{ρ:Type}(a:Int)(b:List Int)(k:Int→(List Int)→Int→Bool→Int→Option ρ):Option ρ:=acw 7 fun c d e f l=>o7 c d e f b fun g h i j=>k g h i j a
def aem{ρ:Type}:=shut (alx (ρ:=ρ))
theorem avf{ρ:Type}(a:Int)(b:List Int)(k:Int→(List Int)→Int→Bool→Int→Option ρ):aem a b k=alx a b k:=by unfold aem;rw[bg]

def alk{ρ:Type}(d b:Int)(a:List Int)(k:Int→(List Int)→(List Int)→Int→Option ρ):Option ρ:=af8 d fun e f g h n=>jc [a] fun c=>br (decide (0≤Aa.wrap (b-(↑a.length:Int)))) (br (decide ((c.length+(Aa.wrap (b-(↑a.length:Int))).toNat)*1≤140737488355328)) (aaf e f g h (c++Af (Aa.wrap (b-(↑a.length:Int))).toNat (0:Int)) fun i j l m=>k i j l m) none) none
def aah{ρ:Type}:=shut (alk (ρ:=ρ))
theorem avu{ρ:Type}(a:Int)(b:Int)(c:List Int)(k:Int→(List Int)→(List Int)→Int→Option ρ):aah a b c k=alk a b c k:=by unfold aah;rw[bg]

def anw{ρ:Type}(a:List Int)(k:(List Int)→Option ρ):Option ρ:=jc [Ac 1 (Ae 3 a),Ac 8 (Ae 8 a),Ac 13 (Ae 19 a)] fun b=>k b
def aae{ρ:Type}:=shut (anw (ρ:=ρ))
theorem azy{ρ:Type}(a:List Int)(k:(List Int)→Option ρ):aae a k=anw a k:=by unfold aae;rw[bg]

def agq{ρ:Type}(n j:List Int)(c:Int)(a d:List Int)(e b g:Int)(f h:List Int)(i:Int)(k:(List Int)→Option ρ):Option ρ:=br (decide (b>16)) (br (decide ((↑j.length:Int)>b)) (aae n fun z=>jc [z,j] fun A=>aaf g f h i A fun B C F G=>adw B C F G fun o=>br (decide (0≤b)) (br (decide (b≤(↑o.length:Int))) (k (Ac (b-0).toNat (Ae 0 o))) none) none) (aae n fun H=>jc [H,j] fun I=>aaf c a d e I fun J p q r=>adw J p q r fun l=>br (decide (0≤b)) (br (decide (b≤(↑l.length:Int))) (k (Ac (b-0).toNat (Ae 0 l))) none) none)) (aae n fun s=>jc [s,j] fun t=>aaf c a d e t fun u v w y=>adw u v w y fun m=>br (decide (0≤b)) (br (decide (b≤(↑m.length:Int))) (k (Ac (b-0).toNat (Ae 0 m))) none) none)
def jm{ρ:Type}:=shut (agq (ρ:=ρ))
theorem aos{ρ:Type}(i:List Int)(j:List Int)(c:Int)(a:List Int)(d:List Int)(e:Int)(l:Int)(f:Int)(b:List Int)(g:List Int)(h:Int)(k:(List Int)→Option ρ):jm i j c a d e l f b g h k=agq i j c a d e l f b g h k:=by unfold jm;rw[bg]

def al0{ρ:Type}(b:Int)(a:List Int)(k:Int→(List Int)→(List Int)→Int→Int→Int→(List Int)→(List Int)→Int→Option ρ):Option ρ:=aah 1 64 a fun c d e f=>aah 3 128 a fun g h i j=>k c d e f b g h i j
def aec{ρ:Type}:=shut (al0 (ρ:=ρ))
theorem avb{ρ:Type}(a:Int)(b:List Int)(k:Int→(List Int)→(List Int)→Int→Int→Int→(List Int)→(List Int)→Int→Option ρ):aec a b k=al0 a b k:=by unfold aec;rw[bg]

def ai8{ρ:Type}(b c d e f:Int)(a:Bool)(g:List Int)(k:Int→Int→Int→Int→Int→Bool→Nat→Int→(List Int)→Int→Bool→Int→Int→(List Int)→(List Int)→Int→Int→Int→(List Int)→(List Int)→Int→Bool→Option ρ):Option ρ:=jy b c d e f a fun n=>br (!n) (k 0 0 0 0 0 false 0 0 [] 0 false 0 0 [] [] 0 0 0 [] [] 0 false) (br ((↑g.length:Int) !=b) (k 0 0 0 0 0 false 0 0 [] 0 false 0 0 [] [] 0 0 0 [] [] 0 false) (br a (aem b g fun o p q r s=>k b c d e f a 1 o p q r s 0 [] [] 0 0 0 [] [] 0 true) (aec b g fun t u v w h i j l m=>k b c d e f a 2 0 [] 0 false 0 t u v w h i j l m true)))
def xw{ρ:Type}:=shut (ai8 (ρ:=ρ))
theorem ap4{ρ:Type}(b:Int)(c:Int)(d:Int)(e:Int)(f:Int)(a:Bool)(g:List Int)(k:Int→Int→Int→Int→Int→Bool→Nat→Int→(List Int)→Int→Bool→Int→Int→(List Int)→(List Int)→Int→Int→Int→(List Int)→(List Int)→Int→Bool→Option ρ):xw b c d e f a g k=ai8 b c d e f a g k:=by unfold xw;rw[bg]

def asc{ρ:Type}(b c d e f:Int)(a:Bool)(z g h:List Int)(k:(List Int)→Option ρ):Option ρ:=xw b c d e f a z fun F G H I J M i A B C j l m n o p q r s t u v=>br (!v) (k []) (br (decide (i=1)) (jq g h A B C j l fun w=>k w) (br (decide (i=2)) (jm g h m n o p q r s t u fun y=>k y) none))
def zk{ρ:Type}:=shut (asc (ρ:=ρ))
theorem bfe{ρ:Type}(b:Int)(c:Int)(d:Int)(e:Int)(f:Int)(a:Bool)(g:List Int)(h:List Int)(i:List Int)(k:(List Int)→Option ρ):zk b c d e f a g h i k=asc b c d e f a g h i k:=by unfold zk;rw[bg]

def at0{ρ:Type}(b:List Int)(a c:Int)(k:(List Int)→Option ρ):Option ρ:=br (a==0) (y7 c 4 fun d=>k ((Ac 4 d).append (Ae (0+min 4 d.length) b))) (br (a==1) (y7 c 12 fun e=>k ((Ac 4 b).append (Ac 12 e++Ae (4+min 12 e.length) b))) (br (a==2) (y7 c 4 fun j=>jc [j,Af 12 (0:Int)] fun f=>k ((Ac 16 b).append (Ac 16 f++Ae (16+min 16 f.length) b))) (br (a==3) (br (a==3) (br (decide (0≤Aa.wrap (8+Aa.wrap (4*a)))) (br (decide (Aa.wrap (8+Aa.wrap (4*a))≤(↑32:Int))) (y7 c 4 fun g=>k ((Ac (Aa.wrap (8+Aa.wrap (4*a))).toNat b).append (Ac ((↑32:Int)-Aa.wrap (8+Aa.wrap (4*a))).toNat g++Ae ((Aa.wrap (8+Aa.wrap (4*a))).toNat+min ((↑32:Int)-Aa.wrap (8+Aa.wrap (4*a))).toNat g.length) b))) none) none) (k b)) (br (a==4) (br (a==4) (br (decide (0≤Aa.wrap (8+Aa.wrap (4*a)))) (br (decide (Aa.wrap (8+Aa.wrap (4*a))≤(↑32:Int))) (y7 c 4 fun h=>k ((Ac (Aa.wrap (8+Aa.wrap (4*a))).toNat b).append (Ac ((↑32:Int)-Aa.wrap (8+Aa.wrap (4*a))).toNat h++Ae ((Aa.wrap (8+Aa.wrap (4*a))).toNat+min ((↑32:Int)-Aa.wrap (8+Aa.wrap (4*a))).toNat h.length) b))) none) none) (k b)) (br (a==5) (br (decide (0≤Aa.wrap (8+Aa.wrap (4*a)))) (br (decide (Aa.wrap (8+Aa.wrap (4*a))≤(↑32:Int))) (y7 c 4 fun i=>k ((Ac (Aa.wrap (8+Aa.wrap (4*a))).toNat b).append (Ac ((↑32:Int)-Aa.wrap (8+Aa.wrap (4*a))).toNat i++Ae ((Aa.wrap (8+Aa.wrap (4*a))).toNat+min ((↑32:Int)-Aa.wrap (8+Aa.wrap (4*a))).toNat i.length) b))) none) none) (k b))))))
def dz{ρ:Type}:=shut (at0 (ρ:=ρ))
theorem bg0{ρ:Type}(a:List Int)(b:Int)(c:Int)(k:(List Int)→Option ρ):dz a b c k=at0 a b c k:=by unfold dz;rw[bg]

def aib{ρ:Type}(d e f g h:Int)(b:Bool)(c i a:List Int)(j:Int)(k:(List Int)→Option ρ):Option ρ:=dz a 2 j fun l=>wz (Ac 4 (Ae 20 a)) fun m=>dz l 3 m fun n=>k n
def ny{ρ:Type}:=shut (aib (ρ:=ρ))
theorem aqn{ρ:Type}(c:Int)(d:Int)(e:Int)(f:Int)(g:Int)(a:Bool)(b:List Int)(h:List Int)(i:List Int)(j:Int)(k:(List Int)→Option ρ):ny c d e f g a b h i j k=aib c d e f g a b h i j k:=by unfold ny;rw[bg]

def ad5{ρ:Type}(c d e f g:Int)(a:Bool)(b h i:List Int)(j l:Int)(k:(List Int)→Option ρ):Option ρ:=ny c d e f g a b h i 3 fun m=>dz m 4 (Ab.wrap j) fun n=>dz n 5 l fun o=>k o
def wu{ρ:Type}:=shut (ad5 (ρ:=ρ))
theorem ake{ρ:Type}(c:Int)(d:Int)(e:Int)(f:Int)(g:Int)(a:Bool)(b:List Int)(h:List Int)(i:List Int)(j:Int)(l:Int)(k:(List Int)→Option ρ):wu c d e f g a b h i j l k=ad5 c d e f g a b h i j l k:=by unfold wu;rw[bg]

def agb{ρ:Type}(b c d e f:Int)(a:Bool)(g h i:List Int)(j l:Int)(m:List (List Int))(k:(List Int)→Option ρ):Option ρ:=wu b c d e f a g h i j l fun n=>jc m fun o=>zk b c d e f a h n o fun p=>k p
def kr{ρ:Type}:=shut (agb (ρ:=ρ))
theorem amo{ρ:Type}(c:Int)(d:Int)(e:Int)(f:Int)(g:Int)(a:Bool)(b:List Int)(h:List Int)(i:List Int)(j:Int)(l:Int)(m:List (List Int))(k:(List Int)→Option ρ):kr c d e f g a b h i j l m k=agb c d e f g a b h i j l m k:=by unfold kr;rw[bg]

abbrev cjh(ρ:Type):=Int→(List Int)→(List Int)→Int→Int→Int→Int→Int→Int→Int→Bool→(List Int)→(List Int)→(List Int)→Option ρ
def aj6{ρ:Type}(m:Int)(c n:List Int)(l b a d e f g:Int)(h:Bool)(i j k:List Int)(nx o:cjh ρ):Option ρ:=br (decide (b<l)) (br (decide ((0:Int)≤a)) (br (decide (a≤(↑c.length:Int))) (br (decide ((↑c.length:Int)≤(↑c.length:Int))) (br (decide ((0:Int)≤a)) (br (decide (a≤(↑(Ae a.toNat (Ac (↑c.length:Int).toNat c)).length:Int))) (br (decide (b<(0:Int))) none (br (bits BinOp.and Ab (m.fdiv ((2:Int)^min b.toNat 64)) (1:Int)==(1:Int)) (br (decide (Aa.wrap (b+(1:Int))<(0:Int))) none (kr a d e f g h i j k (Aa.wrap (b+(1:Int))) (m.fdiv ((2:Int)^min (Aa.wrap (b+(1:Int))).toNat 64)) [Ae 0 (Ac a.toNat (Ae a.toNat (Ac (↑c.length:Int).toNat c))),n] fun p=>nx m (Ae a.toNat (Ac (↑c.length:Int).toNat c)) p l (Aa.wrap (b+(1:Int))) a d e f g h i j k)) (br (decide (Aa.wrap (b+(1:Int))<(0:Int))) none (kr a d e f g h i j k (Aa.wrap (b+(1:Int))) (m.fdiv ((2:Int)^min (Aa.wrap (b+(1:Int))).toNat 64)) [n,Ae 0 (Ac a.toNat (Ae a.toNat (Ac (↑c.length:Int).toNat c)))] fun q=>nx m (Ae a.toNat (Ac (↑c.length:Int).toNat c)) q l (Aa.wrap (b+(1:Int))) a d e f g h i j k)))) none) none) none) none) none) (o m c n l b a d e f g h i j k)
abbrev b6b:=Int×(List Int)×(List Int)×Int×Int×Int×Int×Int×Int×Int×Bool×(List Int)×(List Int)×(List Int)
abbrev cow:=b6b
def chq{ρ:Type}(f:b6b→Option ρ):cjh ρ:=fun m n o k l a b c d e g h i j=>f (m,n,o,k,l,a,b,c,d,e,g,h,i,j)
def caq{ρ:Type}:ab5 b6b cow ρ:=fun (l,m,n,j,k,a,b,c,d,e,f,g,h,i) next ex=>aj6 l m n j k a b c d e f g h i (chq next) (chq ex)
def cna{ρ:Type}:=shut (lp (caq (ρ:=ρ)))
theorem csh{ρ:Type}:cna (ρ:=ρ)=lp caq:=bg _
def cb9{ρ:Type}(f:ab6 b6b cow ρ)(m:Int)(n o:List Int)(k l a b c d e:Int)(g:Bool)(h i j:List Int)(p:cjh ρ):Option ρ:=f (m,n,o,k,l,a,b,c,d,e,g,h,i,j) (fun (m,n,o,k,l,a,b,c,d,e,g,h,i,j)=>p m n o k l a b c d e g h i j)
def aq8{ρ:Type}:=cb9 (lp (caq (ρ:=ρ)))
def aqz{ρ:Type}:=cb9 (cna (ρ:=ρ))
theorem av5{ρ:Type}:aqz (ρ:=ρ)=aq8:=congrArg cb9 csh
def aik{ρ:Type}(a e f c g:Int)(b:Bool)(d h i:List Int)(l:Int)(j:List Int)(k:(List Int)→Option ρ):Option ρ:=br (decide (0≤a)) (br (decide (a≤(↑j.length:Int))) (kr a e f c g b d h i 0 l [Ae 0 (Ac a.toNat j)] fun m=>aqz l j m c 0 a e f c g b d h i fun t u n v w y z A B o p q r s=>k n) none) none
def ug{ρ:Type}:=shut (aik (ρ:=ρ))
theorem arh{ρ:Type}(c:Int)(d:Int)(e:Int)(f:Int)(g:Int)(a:Bool)(b:List Int)(h:List Int)(i:List Int)(j:Int)(l:List Int)(k:(List Int)→Option ρ):ug c d e f g a b h i j l k=aik c d e f g a b h i j l k:=by unfold ug;rw[bg]

def ahg{ρ:Type}(b c d e f:Int)(a:Bool)(g h i j:List Int)(k:(List Int)→Option ρ):Option ρ:=ny b c d e f a g h i 4 fun l=>zk b c d e f a h l j fun m=>k m
def qx{ρ:Type}:=shut (ahg (ρ:=ρ))
theorem aoo{ρ:Type}(c:Int)(d:Int)(e:Int)(f:Int)(g:Int)(a:Bool)(b:List Int)(h:List Int)(i:List Int)(j:List Int)(k:(List Int)→Option ρ):qx c d e f g a b h i j k=ahg c d e f g a b h i j k:=by unfold qx;rw[bg]

def aym{ρ:Type}(c:List Int)(a b:Int)(k:Bool→Option ρ):Option ρ:=br (decide (a≥1)) (br (decide (a≤24)) (br (decide (b≥0)) (br (decide (a=0)) none (k (decide (b≤Aa.wrap ((Aa.wrap ((↑c.length:Int)*8)).tdiv a))))) (k false)) (k false)) (k false)
def ad4{ρ:Type}:=shut (aym (ρ:=ρ))
theorem bbr{ρ:Type}(a:List Int)(b:Int)(c:Int)(k:Bool→Option ρ):ad4 a b c k=aym a b c k:=by unfold ad4;rw[bg]

abbrev cn3(ρ:Type):=(List Int)→Int→Int→Int→Int→Int→Int→(List Int)→Option ρ
def am9{ρ:Type}(a:List Int)(e g f b c d:Int)(h:List Int)(nx i:cn3 ρ):Option ρ:=br (decide (f<e)) (br (decide (0<(↑a.length:Int))) (br (decide (1≤(↑a.length:Int))) (br (decide ((↑a.length:Int)≤(↑a.length:Int))) (nx (Ae 1 (Ac (↑a.length:Int).toNat a)) e (bits BinOp.or Ab (Ab.wrap (g*2^8)) (Ab.wrap (a.getD 0 0))) (Aa.wrap (f+8)) b c d h) none) none) none) (i a e g f b c d h)
abbrev b8c:=(List Int)×Int×Int×Int×Int×Int×Int×(List Int)
abbrev cn8:=b8c
def cfx{ρ:Type}(f:b8c→Option ρ):cn3 ρ:=fun d e g h a b c i=>f (d,e,g,h,a,b,c,i)
def ced{ρ:Type}:ab5 b8c cn8 ρ:=fun (d,e,f,g,a,b,c,h) next ex=>am9 d e f g a b c h (cfx next) (cfx ex)
def cn2{ρ:Type}:=shut (lp (ced (ρ:=ρ)))
theorem cqn{ρ:Type}:cn2 (ρ:=ρ)=lp ced:=bg _
def cem{ρ:Type}(f:ab6 b8c cn8 ρ)(d:List Int)(e g h a b c:Int)(i:List Int)(j:cn3 ρ):Option ρ:=f (d,e,g,h,a,b,c,i) (fun (d,e,g,h,a,b,c,i)=>j d e g h a b c i)
def av1{ρ:Type}:=cem (lp (ced (ρ:=ρ)))
def avg{ρ:Type}:=cem (cn2 (ρ:=ρ))
theorem ba7{ρ:Type}:avg (ρ:=ρ)=av1:=congrArg cem cqn
abbrev cor(ρ:Type):=(List Int)→Int→Int→Int→Int→Int→(List Int)→Option ρ
def am5{ρ:Type}(f:List Int)(g h i c a:Int)(j:List Int)(nx m:cor ρ):Option ρ:=br (decide (a<c)) (avg f g h i a c a j fun n b k d e o p l=>br (decide (Aa.wrap (d-b)<0)) none (br (decide (b<0)) none (br (decide (0≤e)) (br (decide (e<(↑l.length:Int))) (nx n b k (Aa.wrap (d-b)) o (Aa.wrap (p+1)) (l.set e.toNat (Ad.wrap (bits BinOp.and Ab (k.fdiv (2^min (Aa.wrap (d-b)).toNat 64)) (Ab.wrap (Ab.wrap (1*2^min b.toNat 64)-1)))))) none) none))) (m f g h i c a j)
abbrev b5t:=(List Int)×Int×Int×Int×Int×Int×(List Int)
abbrev cfb:=b5t
def cff{ρ:Type}(f:b5t→Option ρ):cor ρ:=fun c d e g a b h=>f (c,d,e,g,a,b,h)
def ceo{ρ:Type}:ab5 b5t cfb ρ:=fun (c,d,e,f,a,b,g) next ex=>am5 c d e f a b g (cff next) (cff ex)
def chk{ρ:Type}:=shut (lp (ceo (ρ:=ρ)))
theorem cre{ρ:Type}:chk (ρ:=ρ)=lp ceo:=bg _
def cau{ρ:Type}(f:ab6 b5t cfb ρ)(c:List Int)(d e g a b:Int)(h:List Int)(i:cor ρ):Option ρ:=f (c,d,e,g,a,b,h) (fun (c,d,e,g,a,b,h)=>i c d e g a b h)
def avj{ρ:Type}:=cau (lp (ceo (ρ:=ρ)))
def avs{ρ:Type}:=cau (chk (ρ:=ρ))
theorem bbe{ρ:Type}:avs (ρ:=ρ)=avj:=congrArg cau cre
def al1{ρ:Type}(b:List Int)(c a:Int)(k:(List Int)→Option ρ):Option ρ:=ad4 b c a fun d=>br (!d) (k []) (br (decide (0≤a)) (br (decide (a≤a)) (br (decide (a*(↑4:Int)≤(↑140737488355328:Int))) (avs b c 0 0 (↑(Af a.toNat (0:Int)).length:Int) 0 (Af a.toNat (0:Int)) fun f g h i j l e=>k e) none) none) none)
def jr{ρ:Type}:=shut (al1 (ρ:=ρ))
theorem avm{ρ:Type}(a:List Int)(b:Int)(c:Int)(k:(List Int)→Option ρ):jr a b c k=al1 a b c k:=by unfold jr;rw[bg]

end P
end
