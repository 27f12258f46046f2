/-
  SlhRight, part 11: lemmas for the law.
-/

import Derived.Test.YtciddcopcdmnbaaGreatDoorSlhRightH
import Derived.Test.YtciddcopcdmnbaaGreatDoorSlhRightI
import Derived.Test.YtciddcopcdmnbaaGreatDoorSlhRightJ
open Go.IntKind renaming i64 → Aa, u64 → Ab, u32 → Ad, u8 → Ag
open List renaming take → Ac, drop → Ae, replicate → Af

noncomputable section
open Go Go.Abs
set_option linter.unusedVariables false
namespace P

abbrev zc3(ρ:Type):=Int→(List Int)→(List Int)→(List Int)→Option ρ
def aia{ρ:Type}(a:Int)(c b d:List Int)(nx e:zc3 ρ):Option ρ:=br (decide (a<5)) (br (decide (0≤a)) (br (decide (a<(↑25:Int))) (br (decide (0≤Aa.wrap (a+5))) (br (decide (Aa.wrap (a+5)<(↑25:Int))) (br (decide (0≤Aa.wrap (a+10))) (br (decide (Aa.wrap (a+10)<(↑25:Int))) (br (decide (0≤Aa.wrap (a+15))) (br (decide (Aa.wrap (a+15)<(↑25:Int))) (br (decide (0≤Aa.wrap (a+20))) (br (decide (Aa.wrap (a+20)<(↑25:Int))) (br (decide (0≤a)) (br (decide (a<(↑5:Int))) (nx (Aa.wrap (a+1)) c b (d.set a.toNat (bits BinOp.xor Ab (bits BinOp.xor Ab (bits BinOp.xor Ab (bits BinOp.xor Ab (b.getD a.toNat 0) (b.getD (Aa.wrap (a+5)).toNat 0)) (b.getD (Aa.wrap (a+10)).toNat 0)) (b.getD (Aa.wrap (a+15)).toNat 0)) (b.getD (Aa.wrap (a+20)).toNat 0)))) none) none) none) none) none) none) none) none) none) none) none) none) (e a c b d)
abbrev zt3:=Int×(List Int)×(List Int)×(List Int)
abbrev zy3:=zt3
def zu3{ρ:Type}(f:zt3→Option ρ):zc3 ρ:=fun d a b c=>f (d,a,b,c)
def zs3{ρ:Type}:ahn zt3 zy3 ρ:=fun (d,a,b,c) next ex=>aia d a b c (zu3 next) (zu3 ex)
def zm3{ρ:Type}:=shut (lp (zs3 (ρ:=ρ)))
theorem ze3{ρ:Type}:zm3 (ρ:=ρ)=lp zs3:=bq _
def zk3{ρ:Type}(f:ahp zt3 zy3 ρ)(d:Int)(a b c:List Int)(e:zc3 ρ):Option ρ:=f (d,a,b,c) (fun (d,a,b,c)=>e d a b c)
def ait{ρ:Type}:=zk3 (lp (zs3 (ρ:=ρ)))
def ad7{ρ:Type}:=zk3 (zm3 (ρ:=ρ))
theorem amh{ρ:Type}:ad7 (ρ:=ρ)=ait:=congrArg zk3 ze3
abbrev zc4(ρ:Type):=Int→Int→Int→Int→Int→(List Int)→(List Int)→(List Int)→(List Int)→Option ρ
def abu{ρ:Type}(i b h a g:Int)(d e f c:List Int)(nx j:zc4 ρ):Option ρ:=br (decide (a<25)) (br (decide (0≤Aa.wrap (b+a))) (br (decide (Aa.wrap (b+a)<(↑25:Int))) (br (decide (0≤Aa.wrap (b+a))) (br (decide (Aa.wrap (b+a)<(↑25:Int))) (nx i b h (Aa.wrap (a+5)) g d e f (c.set (Aa.wrap (b+a)).toNat (bits BinOp.xor Ab (c.getD (Aa.wrap (b+a)).toNat 0) h))) none) none) none) none) (j i b h a g d e f c)
abbrev zt4:=Int×Int×Int×Int×Int×(List Int)×(List Int)×(List Int)×(List Int)
abbrev zy4:=zt4
def zu4{ρ:Type}(f:zt4→Option ρ):zc4 ρ:=fun g h i j e a b c d=>f (g,h,i,j,e,a,b,c,d)
def zs4{ρ:Type}:ahn zt4 zy4 ρ:=fun (f,g,h,i,e,a,b,c,d) next ex=>abu f g h i e a b c d (zu4 next) (zu4 ex)
def zm4{ρ:Type}:=shut (lp (zs4 (ρ:=ρ)))
theorem ze4{ρ:Type}:zm4 (ρ:=ρ)=lp zs4:=bq _
def zk4{ρ:Type}(f:ahp zt4 zy4 ρ)(g h i j e:Int)(a b c d:List Int)(k:zc4 ρ):Option ρ:=f (g,h,i,j,e,a,b,c,d) (fun (g,h,i,j,e,a,b,c,d)=>k g h i j e a b c d)
def abr{ρ:Type}:=zk4 (lp (zs4 (ρ:=ρ)))
def ai0{ρ:Type}:=zk4 (zm4 (ρ:=ρ))
theorem ab8{ρ:Type}:ai0 (ρ:=ρ)=abr:=congrArg zk4 ze4
abbrev zc5(ρ:Type):=Int→Int→(List Int)→(List Int)→(List Int)→(List Int)→Option ρ
def aiv{ρ:Type}(f a:Int)(c d e b:List Int)(nx g:zc5 ρ):Option ρ:=br (decide (a<5)) (br (decide (0≤(Aa.wrap (a+4)).tmod 5)) (br (decide ((Aa.wrap (a+4)).tmod 5<(↑5:Int))) (br (decide (0≤(Aa.wrap (a+1)).tmod 5)) (br (decide ((Aa.wrap (a+1)).tmod 5<(↑5:Int))) (jm (b.getD ((Aa.wrap (a+1)).tmod 5).toNat 0) 1 fun h=>ai0 f a (bits BinOp.xor Ab (b.getD ((Aa.wrap (a+4)).tmod 5).toNat 0) h) 0 a b e d c fun i o p q j k l m n=>nx i (Aa.wrap (j+1)) n m l k) none) none) none) none) (g f a c d e b)
abbrev zt5:=Int×Int×(List Int)×(List Int)×(List Int)×(List Int)
abbrev zy5:=zt5
def zu5{ρ:Type}(f:zt5→Option ρ):zc5 ρ:=fun g e a b c d=>f (g,e,a,b,c,d)
def zs5{ρ:Type}:ahn zt5 zy5 ρ:=fun (f,e,a,b,c,d) next ex=>aiv f e a b c d (zu5 next) (zu5 ex)
def zm5{ρ:Type}:=shut (lp (zs5 (ρ:=ρ)))
theorem ze5{ρ:Type}:zm5 (ρ:=ρ)=lp zs5:=bq _
def zk5{ρ:Type}(f:ahp zt5 zy5 ρ)(g e:Int)(a b c d:List Int)(h:zc5 ρ):Option ρ:=f (g,e,a,b,c,d) (fun (g,e,a,b,c,d)=>h g e a b c d)
def aip{ρ:Type}:=zk5 (lp (zs5 (ρ:=ρ)))
def aeb{ρ:Type}:=zk5 (zm5 (ρ:=ρ))
theorem ami{ρ:Type}:aeb (ρ:=ρ)=aip:=congrArg zk5 ze5
abbrev zc6(ρ:Type):=Int→Int→(List Int)→Int→(List Int)→(List Int)→(List Int)→(List Int)→Option ρ
def ahl{ρ:Type}(g h:Int)(b:List Int)(a:Int)(d e f c:List Int)(nx i:zc6 ρ):Option ρ:=br (decide (a<24)) (br (decide (0≤a)) (br (decide (a<(↑24:Int))) (br (decide (0≤a)) (br (decide (a<(↑24:Int))) (jm h (bxc.getD a.toNat 0) fun j=>br (decide (0≤b.getD a.toNat 0)) (br (decide (b.getD a.toNat 0<(↑25:Int))) (br (decide (0≤b.getD a.toNat 0)) (br (decide (b.getD a.toNat 0<(↑25:Int))) (nx g (c.getD (b.getD a.toNat 0).toNat 0) b (Aa.wrap (a+1)) d e f (c.set (b.getD a.toNat 0).toNat j)) none) none) none) none) none) none) none) none) (i g h b a d e f c)
abbrev zt6:=Int×Int×(List Int)×Int×(List Int)×(List Int)×(List Int)×(List Int)
abbrev zy6:=zt6
def zu6{ρ:Type}(f:zt6→Option ρ):zc6 ρ:=fun h i e g a b c d=>f (h,i,e,g,a,b,c,d)
def zs6{ρ:Type}:ahn zt6 zy6 ρ:=fun (g,h,e,f,a,b,c,d) next ex=>ahl g h e f a b c d (zu6 next) (zu6 ex)
def zm6{ρ:Type}:=shut (lp (zs6 (ρ:=ρ)))
theorem ze6{ρ:Type}:zm6 (ρ:=ρ)=lp zs6:=bq _
def zk6{ρ:Type}(f:ahp zt6 zy6 ρ)(h i:Int)(e:List Int)(g:Int)(a b c d:List Int)(j:zc6 ρ):Option ρ:=f (h,i,e,g,a,b,c,d) (fun (h,i,e,g,a,b,c,d)=>j h i e g a b c d)
def ahj{ρ:Type}:=zk6 (lp (zs6 (ρ:=ρ)))
def ady{ρ:Type}:=zk6 (zm6 (ρ:=ρ))
theorem alg{ρ:Type}:ady (ρ:=ρ)=ahj:=congrArg zk6 ze6
abbrev zc7(ρ:Type):=Int→Int→Int→(List Int)→(List Int)→(List Int)→(List Int)→(List Int)→Option ρ
def aa6{ρ:Type}(h c a:Int)(d e f g b:List Int)(nx i:zc7 ρ):Option ρ:=br (decide (a<5)) (br (decide (0≤a)) (br (decide (a<(↑5:Int))) (br (decide (0≤(Aa.wrap (a+2)).tmod 5)) (br (decide ((Aa.wrap (a+2)).tmod 5<(↑5:Int))) (br (decide (0≤(Aa.wrap (a+1)).tmod 5)) (br (decide ((Aa.wrap (a+1)).tmod 5<(↑5:Int))) (br (decide (0≤Aa.wrap (c+a))) (br (decide (Aa.wrap (c+a)<(↑25:Int))) (nx h c (Aa.wrap (a+1)) d e f (g.set (Aa.wrap (c+a)).toNat (bits BinOp.xor Ab (b.getD a.toNat 0) (bits BinOp.andNot Ab (b.getD ((Aa.wrap (a+2)).tmod 5).toNat 0) (b.getD ((Aa.wrap (a+1)).tmod 5).toNat 0)))) b) none) none) none) none) none) none) none) none) (i h c a d e f g b)
abbrev zt7:=Int×Int×Int×(List Int)×(List Int)×(List Int)×(List Int)×(List Int)
abbrev zy7:=zt7
def zu7{ρ:Type}(f:zt7→Option ρ):zc7 ρ:=fun i g h a b c d e=>f (i,g,h,a,b,c,d,e)
def zs7{ρ:Type}:ahn zt7 zy7 ρ:=fun (h,f,g,a,b,c,d,e) next ex=>aa6 h f g a b c d e (zu7 next) (zu7 ex)
def zm7{ρ:Type}:=shut (lp (zs7 (ρ:=ρ)))
theorem ze7{ρ:Type}:zm7 (ρ:=ρ)=lp zs7:=bq _
def zk7{ρ:Type}(f:ahp zt7 zy7 ρ)(i g h:Int)(a b c d e:List Int)(j:zc7 ρ):Option ρ:=f (i,g,h,a,b,c,d,e) (fun (i,g,h,a,b,c,d,e)=>j i g h a b c d e)
def aa7{ρ:Type}:=zk7 (lp (zs7 (ρ:=ρ)))
def ahg{ρ:Type}:=zk7 (zm7 (ρ:=ρ))
theorem abm{ρ:Type}:ahg (ρ:=ρ)=aa7:=congrArg zk7 ze7
abbrev zc8(ρ:Type):=Int→Int→(List Int)→(List Int)→(List Int)→(List Int)→Option ρ
def ahf{ρ:Type}(f a:Int)(b c d e:List Int)(nx g:zc5 ρ):Option ρ:=br (decide (a<25)) (br (decide (0≤a)) (br (decide (a≤Aa.wrap (a+5))) (br (decide (Aa.wrap (a+5)≤(↑25:Int))) (br (decide (5≤(Aa.wrap (a+5)-a).toNat)) (br (decide (a.toNat+5≤25)) (ahg f a 0 e d c b (Ac 5 (Ae a.toNat b)) fun h i n j k l m o=>nx h (Aa.wrap (i+5)) m l k j) none) none) none) none) none) (g f a b c d e)
abbrev zt8:=Int×Int×(List Int)×(List Int)×(List Int)×(List Int)
abbrev zy8:=zt8
def zu8{ρ:Type}(f:zt8→Option ρ):zc8 ρ:=fun g e a b c d=>f (g,e,a,b,c,d)
def zs8{ρ:Type}:ahn zt8 zy8 ρ:=fun (f,e,a,b,c,d) next ex=>ahf f e a b c d (zu8 next) (zu8 ex)
def zm8{ρ:Type}:=shut (lp (zs8 (ρ:=ρ)))
theorem ze8{ρ:Type}:zm8 (ρ:=ρ)=lp zs8:=bq _
def zk8{ρ:Type}(f:ahp zt8 zy8 ρ)(g e:Int)(a b c d:List Int)(h:zc5 ρ):Option ρ:=f (g,e,a,b,c,d) (fun (g,e,a,b,c,d)=>h g e a b c d)
def ahm{ρ:Type}:=zk8 (lp (zs8 (ρ:=ρ)))
def adz{ρ:Type}:=zk8 (zm8 (ρ:=ρ))
theorem alq{ρ:Type}:adz (ρ:=ρ)=ahm:=congrArg zk8 ze8
abbrev zc9(ρ:Type):=(List Int)→Int→(List Int)→(List Int)→Option ρ
def afn{ρ:Type}(e:List Int)(a:Int)(b c:List Int)(nx o:zc9 ρ):Option ρ:=br (decide (a<24)) (br (decide (0≤a)) (br (decide (a<(↑24:Int))) (ad7 0 c b [0,0,0,0,0] fun C p q f=>aeb (e.getD a.toNat 0) 0 q p f f fun r F g s t u=>ady r (g.getD 1 0) bsb 0 u t s g fun h v w y i j k l=>adz h 0 l k j i fun m z d n A B=>nx e (Aa.wrap (a+1)) (d.set 0 (bits BinOp.xor Ab (d.getD 0 0) m)) n) none) none) (o e a b c)
abbrev zt9:=(List Int)×Int×(List Int)×(List Int)
abbrev zy9:=zt9
def zu9{ρ:Type}(f:zt9→Option ρ):zc9 ρ:=fun c d a b=>f (c,d,a,b)
def zs9{ρ:Type}:ahn zt9 zy9 ρ:=fun (c,d,a,b) next ex=>afn c d a b (zu9 next) (zu9 ex)
def zm9{ρ:Type}:=shut (lp (zs9 (ρ:=ρ)))
theorem ze9{ρ:Type}:zm9 (ρ:=ρ)=lp zs9:=bq _
def zk9{ρ:Type}(f:ahp zt9 zy9 ρ)(c:List Int)(d:Int)(a b:List Int)(e:zc9 ρ):Option ρ:=f (c,d,a,b) (fun (c,d,a,b)=>e c d a b)
def akg{ρ:Type}:=zk9 (lp (zs9 (ρ:=ρ)))
def akf{ρ:Type}:=zk9 (zm9 (ρ:=ρ))
theorem aod{ρ:Type}:akf (ρ:=ρ)=akg:=congrArg zk9 ze9
def afa{ρ:Type}(a:List Int)(k:(List Int)→Option ρ):Option ρ:=akf bl7 0 a [0,0,0,0,0,0,0,0,0,0,0,0,0,0,0,0,0,0,0,0,0,0,0,0,0] fun c d b e=>k b
def jg{ρ:Type}:=shut (afa (ρ:=ρ))
theorem ak0{ρ:Type}(a:List Int)(k:(List Int)→Option ρ):jg a k=afa a k:=by unfold jg;rw[bq]

def aga{ρ:Type}(c:Int)(b:List Int)(a:Int)(g:Bool)(k:Int→(List Int)→Int→Bool→Option ρ):Option ρ:=br (c==4) (br (decide (0≤Aa.wrap (a.tdiv 8))) (br (decide (Aa.wrap (a.tdiv 8)<(↑25:Int))) (br (decide (Aa.wrap (8*a.tmod 8)<0)) none (br (decide (0≤Aa.wrap (a.tdiv 8))) (br (decide (Aa.wrap (a.tdiv 8)<(↑25:Int))) (oq c fun d=>br (decide (0≤Aa.wrap ((Aa.wrap (d-1)).tdiv 8))) (br (decide (Aa.wrap ((Aa.wrap (d-1)).tdiv 8)<(↑25:Int))) (br (decide (Aa.wrap (8*(Aa.wrap (d-1)).tmod 8)<0)) none (br (decide (0≤Aa.wrap ((Aa.wrap (d-1)).tdiv 8))) (br (decide (Aa.wrap ((Aa.wrap (d-1)).tdiv 8)<(↑25:Int))) (jg ((b.set (Aa.wrap (a.tdiv 8)).toNat (bits BinOp.xor Ab (b.getD (Aa.wrap (a.tdiv 8)).toNat 0) (Ab.wrap (Ab.wrap 6*2^min (Aa.wrap (8*a.tmod 8)).toNat 64)))).set (Aa.wrap ((Aa.wrap (d-1)).tdiv 8)).toNat (bits BinOp.xor Ab ((b.set (Aa.wrap (a.tdiv 8)).toNat (bits BinOp.xor Ab (b.getD (Aa.wrap (a.tdiv 8)).toNat 0) (Ab.wrap (Ab.wrap 6*2^min (Aa.wrap (8*a.tmod 8)).toNat 64)))).getD (Aa.wrap ((Aa.wrap (d-1)).tdiv 8)).toNat 0) (Ab.wrap (Ab.wrap 128*2^min (Aa.wrap (8*(Aa.wrap (d-1)).tmod 8)).toNat 64)))) fun h=>k c h 0 true) none) none)) none) none) none) none)) none) none) (br (c==5) (br (decide (0≤Aa.wrap (a.tdiv 8))) (br (decide (Aa.wrap (a.tdiv 8)<(↑25:Int))) (br (decide (Aa.wrap (8*a.tmod 8)<0)) none (br (decide (0≤Aa.wrap (a.tdiv 8))) (br (decide (Aa.wrap (a.tdiv 8)<(↑25:Int))) (oq c fun e=>br (decide (0≤Aa.wrap ((Aa.wrap (e-1)).tdiv 8))) (br (decide (Aa.wrap ((Aa.wrap (e-1)).tdiv 8)<(↑25:Int))) (br (decide (Aa.wrap (8*(Aa.wrap (e-1)).tmod 8)<0)) none (br (decide (0≤Aa.wrap ((Aa.wrap (e-1)).tdiv 8))) (br (decide (Aa.wrap ((Aa.wrap (e-1)).tdiv 8)<(↑25:Int))) (jg ((b.set (Aa.wrap (a.tdiv 8)).toNat (bits BinOp.xor Ab (b.getD (Aa.wrap (a.tdiv 8)).toNat 0) (Ab.wrap (Ab.wrap 6*2^min (Aa.wrap (8*a.tmod 8)).toNat 64)))).set (Aa.wrap ((Aa.wrap (e-1)).tdiv 8)).toNat (bits BinOp.xor Ab ((b.set (Aa.wrap (a.tdiv 8)).toNat (bits BinOp.xor Ab (b.getD (Aa.wrap (a.tdiv 8)).toNat 0) (Ab.wrap (Ab.wrap 6*2^min (Aa.wrap (8*a.tmod 8)).toNat 64)))).getD (Aa.wrap ((Aa.wrap (e-1)).tdiv 8)).toNat 0) (Ab.wrap (Ab.wrap 128*2^min (Aa.wrap (8*(Aa.wrap (e-1)).tmod 8)).toNat 64)))) fun i=>k c i 0 true) none) none)) none) none) none) none)) none) none) (br (decide (0≤Aa.wrap (a.tdiv 8))) (br (decide (Aa.wrap (a.tdiv 8)<(↑25:Int))) (br (decide (Aa.wrap (8*a.tmod 8)<0)) none (br (decide (0≤Aa.wrap (a.tdiv 8))) (br (decide (Aa.wrap (a.tdiv 8)<(↑25:Int))) (oq c fun f=>br (decide (0≤Aa.wrap ((Aa.wrap (f-1)).tdiv 8))) (br (decide (Aa.wrap ((Aa.wrap (f-1)).tdiv 8)<(↑25:Int))) (br (decide (Aa.wrap (8*(Aa.wrap (f-1)).tmod 8)<0)) none (br (decide (0≤Aa.wrap ((Aa.wrap (f-1)).tdiv 8))) (br (decide (Aa.wrap ((Aa.wrap (f-1)).tdiv 8)<(↑25:Int))) (jg ((b.set (Aa.wrap (a.tdiv 8)).toNat (bits BinOp.xor Ab (b.getD (Aa.wrap (a.tdiv 8)).toNat 0) (Ab.wrap (Ab.wrap 31*2^min (Aa.wrap (8*a.tmod 8)).toNat 64)))).set (Aa.wrap ((Aa.wrap (f-1)).tdiv 8)).toNat (bits BinOp.xor Ab ((b.set (Aa.wrap (a.tdiv 8)).toNat (bits BinOp.xor Ab (b.getD (Aa.wrap (a.tdiv 8)).toNat 0) (Ab.wrap (Ab.wrap 31*2^min (Aa.wrap (8*a.tmod 8)).toNat 64)))).getD (Aa.wrap ((Aa.wrap (f-1)).tdiv 8)).toNat 0) (Ab.wrap (Ab.wrap 128*2^min (Aa.wrap (8*(Aa.wrap (f-1)).tmod 8)).toNat 64)))) fun j=>k c j 0 true) none) none)) none) none) none) none)) none) none))
def xu{ρ:Type}:=shut (aga (ρ:=ρ))
theorem al0{ρ:Type}(b:Int)(a:List Int)(d:Int)(c:Bool)(k:Int→(List Int)→Int→Bool→Option ρ):xu b a d c k=aga b a d c k:=by unfold xu;rw[bq]

abbrev bz9(ρ:Type):=Int→Int→Int→(List Int)→Int→Bool→Int→(List Int)→Int→Bool→(List Int)→Option ρ
def af0{ρ:Type}(j b c:Int)(d:List Int)(a:Int)(e:Bool)(f:Int)(g:List Int)(h:Int)(i:Bool)(k:List Int)(nx m:bz9 ρ):Option ρ:=br (decide (b<j)) (oq c fun n=>br (a==n) (jg d fun l=>br (decide (0≤b)) (br (decide (b<(↑k.length:Int))) (nx j (Aa.wrap (b+1)) c l (Aa.wrap (0+1)) e f g h i (k.set b.toNat (Ag.wrap ((l.getD 0 0).fdiv (2^0))))) none) none) (br (decide (0≤Aa.wrap (a.tdiv 8))) (br (decide (Aa.wrap (a.tdiv 8)<(↑25:Int))) (br (decide (Aa.wrap (8*a.tmod 8)<0)) none (br (decide (0≤b)) (br (decide (b<(↑k.length:Int))) (nx j (Aa.wrap (b+1)) c d (Aa.wrap (a+1)) e f g h i (k.set b.toNat (Ag.wrap ((d.getD (Aa.wrap (a.tdiv 8)).toNat 0).fdiv (2^min (Aa.wrap (8*a.tmod 8)).toNat 64))))) none) none)) none) none)) (m j b c d a e f g h i k)
abbrev bva:=Int×Int×Int×(List Int)×Int×Bool×Int×(List Int)×Int×Bool×(List Int)
abbrev b25:=bva
def b3p{ρ:Type}(f:bva→Option ρ):bz9 ρ:=fun j k a b c d e g h i l=>f (j,k,a,b,c,d,e,g,h,i,l)
def bxi{ρ:Type}:ahn bva b25 ρ:=fun (i,j,a,b,c,d,e,f,g,h,k) next ex=>af0 i j a b c d e f g h k (b3p next) (b3p ex)
def bzx{ρ:Type}:=shut (lp (bxi (ρ:=ρ)))
theorem b5n{ρ:Type}:bzx (ρ:=ρ)=lp bxi:=bq _
def bwy{ρ:Type}(f:ahp bva b25 ρ)(j k a:Int)(b:List Int)(c:Int)(d:Bool)(e:Int)(g:List Int)(h:Int)(i:Bool)(l:List Int)(m:bz9 ρ):Option ρ:=f (j,k,a,b,c,d,e,g,h,i,l) (fun (j,k,a,b,c,d,e,g,h,i,l)=>m j k a b c d e g h i l)
def aki{ρ:Type}:=bwy (lp (bxi (ρ:=ρ)))
def ado{ρ:Type}:=bwy (bzx (ρ:=ρ))
theorem aoc{ρ:Type}:ado (ρ:=ρ)=aki:=congrArg bwy b5n
def ae1{ρ:Type}(c:Int)(a:List Int)(e:Int)(b:Bool)(d:Int)(k:Int→(List Int)→Int→Bool→(List Int)→Option ρ):Option ρ:=br (decide (d<0)) (k c a e b []) (br (!b) (xu c a e b fun m n o p=>br (decide (0≤d)) (br (decide (d≤d)) (br (decide (d*(↑1:Int)≤(↑140737488355328:Int))) (ado (↑(Af d.toNat (0:Int)).length:Int) 0 m n o p 0 [0,0,0,0,0,0,0,0,0,0,0,0,0,0,0,0,0,0,0,0,0,0,0,0,0] 0 false (Af d.toNat (0:Int)) fun H I q r s t u v w y f=>k q r s t f) none) none) none) (br (decide (0≤d)) (br (decide (d≤d)) (br (decide (d*(↑1:Int)≤(↑140737488355328:Int))) (ado (↑(Af d.toNat (0:Int)).length:Int) 0 c a e b 0 [0,0,0,0,0,0,0,0,0,0,0,0,0,0,0,0,0,0,0,0,0,0,0,0,0] 0 false (Af d.toNat (0:Int)) fun z A g h i j B C F G l=>k g h i j l) none) none) none))
def qo{ρ:Type}:=shut (ae1 (ρ:=ρ))
theorem aj8{ρ:Type}(b:Int)(a:List Int)(d:Int)(c:Bool)(e:Int)(k:Int→(List Int)→Int→Bool→(List Int)→Option ρ):qo b a d c e k=ae1 b a d c e k:=by unfold qo;rw[bq]

abbrev bys(ρ:Type):=(List Int)→Int→Int→Int→Int→(List Int)→Int→Bool→Int→(List Int)→Int→Bool→Option ρ
def aha{ρ:Type}(k:List Int)(l j b d:Int)(c:List Int)(a:Int)(e:Bool)(f:Int)(g:List Int)(h:Int)(i:Bool)(nx m:bys ρ):Option ρ:=br (decide (b<j)) (br (decide (0≤b)) (br (decide (b<(↑k.length:Int))) (br (decide (0≤Aa.wrap (a.tdiv 8))) (br (decide (Aa.wrap (a.tdiv 8)<(↑25:Int))) (br (decide (Aa.wrap (8*a.tmod 8)<0)) none (br (decide (0≤Aa.wrap (a.tdiv 8))) (br (decide (Aa.wrap (a.tdiv 8)<(↑25:Int))) (br (Aa.wrap (a+1)==l) (jg (c.set (Aa.wrap (a.tdiv 8)).toNat (bits BinOp.xor Ab (c.getD (Aa.wrap (a.tdiv 8)).toNat 0) (Ab.wrap (Ab.wrap (k.getD b.toNat 0)*2^min (Aa.wrap (8*a.tmod 8)).toNat 64)))) fun n=>nx k l j (Aa.wrap (b+1)) d n 0 e f g h i) (nx k l j (Aa.wrap (b+1)) d (c.set (Aa.wrap (a.tdiv 8)).toNat (bits BinOp.xor Ab (c.getD (Aa.wrap (a.tdiv 8)).toNat 0) (Ab.wrap (Ab.wrap (k.getD b.toNat 0)*2^min (Aa.wrap (8*a.tmod 8)).toNat 64)))) (Aa.wrap (a+1)) e f g h i)) none) none)) none) none) none) none) (m k l j b d c a e f g h i)
abbrev bta:=(List Int)×Int×Int×Int×Int×(List Int)×Int×Bool×Int×(List Int)×Int×Bool
abbrev bzb:=bta
def bzc{ρ:Type}(f:bta→Option ρ):bys ρ:=fun l m j k a b c d e g h i=>f (l,m,j,k,a,b,c,d,e,g,h,i)
def bwk{ρ:Type}:ahn bta bzb ρ:=fun (k,l,i,j,a,b,c,d,e,f,g,h) next ex=>aha k l i j a b c d e f g h (bzc next) (bzc ex)
def b1m{ρ:Type}:=shut (lp (bwk (ρ:=ρ)))
theorem b5k{ρ:Type}:b1m (ρ:=ρ)=lp bwk:=bq _
def bxe{ρ:Type}(f:ahp bta bzb ρ)(l:List Int)(m j k a:Int)(b:List Int)(c:Int)(d:Bool)(e:Int)(g:List Int)(h:Int)(i:Bool)(n:bys ρ):Option ρ:=f (l,m,j,k,a,b,c,d,e,g,h,i) (fun (l,m,j,k,a,b,c,d,e,g,h,i)=>n l m j k a b c d e g h i)
def ama{ρ:Type}:=bxe (lp (bwk (ρ:=ρ)))
def amb{ρ:Type}:=bxe (b1m (ρ:=ρ))
theorem ap4{ρ:Type}:amb (ρ:=ρ)=ama:=congrArg bxe b5k
def afu{ρ:Type}(a:Int)(b:List Int)(d:Int)(c:Bool)(e:List Int)(k:Int→(List Int)→Int→Bool→Option ρ):Option ρ:=br c (k a b d c) (oq a fun f=>amb e f (↑e.length:Int) 0 a b d c 0 [0,0,0,0,0,0,0,0,0,0,0,0,0,0,0,0,0,0,0,0,0,0,0,0,0] 0 false fun o p q r g h i j s l m n=>k g h i j)
def ow{ρ:Type}:=shut (afu (ρ:=ρ))
theorem al5{ρ:Type}(b:Int)(a:List Int)(d:Int)(c:Bool)(e:List Int)(k:Int→(List Int)→Int→Bool→Option ρ):ow b a d c e k=afu b a d c e k:=by unfold ow;rw[bq]

def aju{ρ:Type}(d:Int)(e:List Int)(a:Int)(k:(List Int)→Int→Option ρ):Option ρ:=abg d fun f g h i b=>br (b !=0) (k [] b) (br (decide (a<0)) (k [] 8) (br (decide (a>16777216)) (k [] 8) (ow f g h i e fun j l m n=>qo j l m n a fun r o p q c=>k c 0)))
def yt{ρ:Type}:=shut (aju (ρ:=ρ))
theorem arf{ρ:Type}(a:Int)(b:List Int)(c:Int)(k:(List Int)→Int→Option ρ):yt a b c k=aju a b c k:=by unfold yt;rw[bq]

def adr{ρ:Type}(a:Int)(b:List (List Int))(k:(List Int)→Option ρ):Option ρ:=dz b fun c=>yt 7 c a fun d e=>k d
def l9{ρ:Type}:=shut (adr (ρ:=ρ))
theorem ag6{ρ:Type}(a:Int)(b:List (List Int))(k:(List Int)→Option ρ):l9 a b k=adr a b k:=by unfold l9;rw[bq]

def af6{ρ:Type}(c d e:List Int)(a f g h i:Int)(b:Bool)(k:(List Int)→Option ρ):Option ρ:=l9 a [c,d,e] fun j=>k j
def qh{ρ:Type}:=shut (af6 (ρ:=ρ))
theorem amc{ρ:Type}(g:List Int)(h:List Int)(i:List Int)(b:Int)(c:Int)(d:Int)(e:Int)(f:Int)(a:Bool)(k:(List Int)→Option ρ):qh g h i b c d e f a k=af6 g h i b c d e f a k:=by unfold qh;rw[bq]

def afv{ρ:Type}(a:Int)(b c d:List Int)(k:(List Int)→Option ρ):Option ρ:=l9 a [b,c,d] fun e=>k e
def qd{ρ:Type}:=shut (afv (ρ:=ρ))
theorem ame{ρ:Type}(a:Int)(b:List Int)(c:List Int)(d:List Int)(k:(List Int)→Option ρ):qd a b c d k=afv a b c d k:=by unfold qd;rw[bq]

def aj5{ρ:Type}(b c d e f:Int)(a:Bool)(k:Int→Int→Int→Int→Int→Bool→Int→Int→Int→Int→Int→Bool→Option ρ):Option ρ:=k b c d e f a b c d e f a
def aek{ρ:Type}:=shut (aj5 (ρ:=ρ))
theorem aqg{ρ:Type}(b:Int)(c:Int)(d:Int)(e:Int)(f:Int)(a:Bool)(k:Int→Int→Int→Int→Int→Bool→Int→Int→Int→Int→Int→Bool→Option ρ):aek b c d e f a k=aj5 b c d e f a k:=by unfold aek;rw[bq]

def alx{ρ:Type}(a:Int)(k:Bool→Option ρ):Option ρ:=br (decide (a≥1)) (k (decide (a≤5))) (k false)
def aev{ρ:Type}:=shut (alx (ρ:=ρ))
theorem asz{ρ:Type}(a:Int)(k:Bool→Option ρ):aev a k=alx a k:=by unfold aev;rw[bq]

def ane{ρ:Type}(a:Int)(k:Int→Option ρ):Option ρ:=br (decide (a<0)) (k 0) (br (decide (a≥8)) (k 0) (br (decide (0≤a)) (br (decide (a<(↑8:Int))) (br (decide (a.toNat*2+0<16)) (k ([(0:Int),(0:Int),(32:Int),(64:Int),(48:Int),(128:Int),(64:Int),(128:Int),(32:Int),(136:Int),(64:Int),(72:Int),(32:Int),(168:Int),(64:Int),(136:Int)].getD (a.toNat*2+0) 0)) none) none) none))
def adp{ρ:Type}:=shut (ane (ρ:=ρ))
theorem auw{ρ:Type}(a:Int)(k:Int→Option ρ):adp a k=ane a k:=by unfold adp;rw[bq]

def ara{ρ:Type}(a:Int)(k:(List Int)→Bool→Option ρ):Option ρ:=br (a==1) (k [1779033703,3144134277,1013904242,2773480762,1359893119,2600822924,528734635,1541459225] true) (br (a==2) (k [14680500436340154072,7105036623409894663,10473403895298186519,1526699215303891257,7436329637833083697,10282925794625328401,15784041429090275239,5167115440072839076] true) (br (a==3) (k [7640891576956012808,13503953896175478587,4354685564936845355,11912009170470909681,5840696475078001361,11170449401992604703,2270897969802886507,6620516959819538809] true) (k [0,0,0,0,0,0,0,0] false)))
def aer{ρ:Type}:=shut (ara (ρ:=ρ))
theorem asj{ρ:Type}(a:Int)(k:(List Int)→Bool→Option ρ):aer a k=ara a k:=by unfold aer;rw[bq]

def ap1{ρ:Type}(a:Int)(k:Int→(List Int)→(List Int)→Int→Int→Option ρ):Option ρ:=aer a fun b c=>br (!c) (k 0 [0,0,0,0,0,0,0,0] [] 0 9) (k a b [] 0 0)
def ad8{ρ:Type}:=shut (ap1 (ρ:=ρ))
theorem ayu{ρ:Type}(a:Int)(k:Int→(List Int)→(List Int)→Int→Int→Option ρ):ad8 a k=ap1 a k:=by unfold ad8;rw[bq]

abbrev b2e(ρ:Type):=Int→Int→Int→(List Int)→Option ρ
def ash{ρ:Type}(c b a:Int)(d:List Int)(nx e:b2e ρ):Option ρ:=br (decide (a<b)) (br (decide (Aa.wrap (8*a)<0)) none (br (decide (0≤a)) (br (decide (a<(↑d.length:Int))) (nx c b (Aa.wrap (a+1)) (d.set a.toNat (Ag.wrap (c.fdiv (2^min (Aa.wrap (8*a)).toNat 64))))) none) none)) (e c b a d)
abbrev btp:=Int×Int×Int×(List Int)
abbrev bzy:=btp
def b3s{ρ:Type}(f:btp→Option ρ):b2e ρ:=fun c a b d=>f (c,a,b,d)
def zs12{ρ:Type}:ahn btp bzy ρ:=fun (c,a,b,d) next ex=>ash c a b d (b3s next) (b3s ex)
def bya{ρ:Type}:=shut (lp (zs12 (ρ:=ρ)))
theorem b47{ρ:Type}:bya (ρ:=ρ)=lp zs12:=bq _
def bv1{ρ:Type}(f:ahp btp bzy ρ)(c a b:Int)(d:List Int)(e:b2e ρ):Option ρ:=f (c,a,b,d) (fun (c,a,b,d)=>e c a b d)
def axv{ρ:Type}:=bv1 (lp (zs12 (ρ:=ρ)))
def ax4{ρ:Type}:=bv1 (bya (ρ:=ρ))
theorem az1{ρ:Type}:ax4 (ρ:=ρ)=axv:=congrArg bv1 b47
def ape{ρ:Type}(b a:Int)(k:(List Int)→Option ρ):Option ρ:=br (decide (a<0)) (k []) (br (decide (a>65536)) (k []) (br (decide (0≤a)) (br (decide (a≤a)) (br (decide (a*(↑1:Int)≤(↑140737488355328:Int))) (ax4 b (bif decide (8<a) then 8 else a) 0 (Af a.toNat (0:Int)) fun d e f c=>k c) none) none) none))
def af7{ρ:Type}:=shut (ape (ρ:=ρ))
theorem axk{ρ:Type}(a:Int)(b:Int)(k:(List Int)→Option ρ):af7 a b k=ape a b k:=by unfold af7;rw[bq]

abbrev b1i(ρ:Type):=Int→Int→(List Int)→Option ρ
def ang{ρ:Type}(a b:Int)(c:List Int)(nx d:b1i ρ):Option ρ:=br (decide (a<b)) (br (decide (0≤b)) (br (decide (b<(↑c.length:Int))) (br (decide (0≤a)) (br (decide (a<(↑c.length:Int))) (br (decide (0≤a)) (br (decide (a<(↑c.length:Int))) (br (decide (0≤b)) (br (decide (b<(↑(c.set a.toNat (c.getD b.toNat 0)).length:Int))) (nx (Aa.wrap (a+1)) (Aa.wrap (b-1)) ((c.set a.toNat (c.getD b.toNat 0)).set b.toNat (c.getD a.toNat 0))) none) none) none) none) none) none) none) none) (d a b c)
abbrev bvd:=Int×Int×(List Int)
abbrev b3l:=bvd
def bz1{ρ:Type}(f:bvd→Option ρ):b1i ρ:=fun a b c=>f (a,b,c)
def bvv{ρ:Type}:ahn bvd b3l ρ:=fun (a,b,c) next ex=>ang a b c (bz1 next) (bz1 ex)
def b3a{ρ:Type}:=shut (lp (bvv (ρ:=ρ)))
theorem b4b{ρ:Type}:b3a (ρ:=ρ)=lp bvv:=bq _
def bwo{ρ:Type}(f:ahp bvd b3l ρ)(a b:Int)(c:List Int)(d:b1i ρ):Option ρ:=f (a,b,c) (fun (a,b,c)=>d a b c)
def atr{ρ:Type}:=bwo (lp (bvv (ρ:=ρ)))
def as1{ρ:Type}:=bwo (b3a (ρ:=ρ))
theorem aw2{ρ:Type}:as1 (ρ:=ρ)=atr:=congrArg bwo b4b
def apz{ρ:Type}(b c:Int)(k:(List Int)→Option ρ):Option ρ:=af7 b c fun a=>as1 0 (Aa.wrap ((↑a.length:Int)-1)) a fun e f d=>k d
def xg{ρ:Type}:=shut (apz (ρ:=ρ))
theorem axq{ρ:Type}(a:Int)(b:Int)(k:(List Int)→Option ρ):xg a b k=apz a b k:=by unfold xg;rw[bq]

abbrev b3u(ρ:Type):=Int→(List Int)→Int→Int→Option ρ
def apy{ρ:Type}(d:Int)(b:List Int)(c a:Int)(nx e:b3u ρ):Option ρ:=br (decide (a<c)) (br (decide (0≤a)) (br (decide (a<(↑b.length:Int))) (nx (bits BinOp.or Ab (Ab.wrap (d*2^8)) (Ab.wrap (b.getD a.toNat 0))) b c (Aa.wrap (a+1))) none) none) (e d b c a)
abbrev btu:=Int×(List Int)×Int×Int
abbrev b1h:=btu
def b2s{ρ:Type}(f:btu→Option ρ):b3u ρ:=fun a b c d=>f (a,b,c,d)
def bwm{ρ:Type}:ahn btu b1h ρ:=fun (a,b,c,d) next ex=>apy a b c d (b2s next) (b2s ex)
def b0c{ρ:Type}:=shut (lp (bwm (ρ:=ρ)))
theorem b40{ρ:Type}:b0c (ρ:=ρ)=lp bwm:=bq _
def bvn{ρ:Type}(f:ahp btu b1h ρ)(a:Int)(b:List Int)(c d:Int)(e:b3u ρ):Option ρ:=f (a,b,c,d) (fun (a,b,c,d)=>e a b c d)
def av4{ρ:Type}:=bvn (lp (bwm (ρ:=ρ)))
def avi{ρ:Type}:=bvn (b0c (ρ:=ρ))
theorem axd{ρ:Type}:avi (ρ:=ρ)=av4:=congrArg bvn b40
def amk{ρ:Type}(a:List Int)(k:Int→Option ρ):Option ρ:=avi 0 a (↑a.length:Int) 0 fun b c d e=>k b
def u6{ρ:Type}:=shut (amk (ρ:=ρ))
theorem avh{ρ:Type}(a:List Int)(k:Int→Option ρ):u6 a k=amk a k:=by unfold u6;rw[bq]

def aiw{ρ:Type}(a:Int)(k:Int→Option ρ):Option ρ:=br (decide (0≤a)) (br (decide (a<(↑64:Int))) (k (roots256.getD a.toNat 0)) none) none
def sw{ρ:Type}:=shut (aiw (ρ:=ρ))
theorem aoq{ρ:Type}(a:Int)(k:Int→Option ρ):sw a k=aiw a k:=by unfold sw;rw[bq]

def zw{ρ:Type}(a g:Int)(b c d e:List Int)(h f:Int)(k:Int→Option ρ):Option ρ:=br (decide (f<0)) none (br (decide (Aa.wrap (a-f)<0)) none (k (bits BinOp.or Ad (h.fdiv (2^min f.toNat 32)) (Ad.wrap (h*2^min (Aa.wrap (a-f)).toNat 32)))))
def bg{ρ:Type}:=shut (zw (ρ:=ρ))
theorem acg{ρ:Type}(f:Int)(e:Int)(a:List Int)(b:List Int)(c:List Int)(d:List Int)(g:Int)(h:Int)(k:Int→Option ρ):bg f e a b c d g h k=zw f e a b c d g h k:=by unfold bg;rw[bq]

def yw{ρ:Type}(f e:Int)(a b c d:List Int)(g h:Int)(k:Int→Option ρ):Option ρ:=br (decide (h=(↑0:Int))) (bg f e a b c d g (a.getD 0 0) fun l=>bg f e a b c d g (a.getD 1 0) fun m=>bg f e a b c d g (a.getD 2 0) fun n=>k (bits BinOp.xor Ad (bits BinOp.xor Ad l m) n)) (br (decide (h=(↑1:Int))) (bg f e a b c d g (b.getD 0 0) fun o=>bg f e a b c d g (b.getD 1 0) fun p=>bg f e a b c d g (b.getD 2 0) fun q=>k (bits BinOp.xor Ad (bits BinOp.xor Ad o p) q)) (br (decide (h=(↑2:Int))) (bg f e a b c d g (c.getD 0 0) fun r=>bg f e a b c d g (c.getD 1 0) fun s=>bg f e a b c d g (c.getD 2 0) fun t=>k (bits BinOp.xor Ad (bits BinOp.xor Ad r s) t)) (br (decide (h=(↑3:Int))) (bg f e a b c d g (d.getD 0 0) fun u=>bg f e a b c d g (d.getD 1 0) fun i=>bg f e a b c d g (d.getD 2 0) fun j=>k (bits BinOp.xor Ad (bits BinOp.xor Ad u i) j)) none)))
def j5{ρ:Type}:=shut (yw (ρ:=ρ))
theorem aa2{ρ:Type}(f:Int)(e:Int)(a:List Int)(b:List Int)(c:List Int)(d:List Int)(g:Int)(h:Int)(k:Int→Option ρ):j5 f e a b c d g h k=yw f e a b c d g h k:=by unfold j5;rw[bq]

def ze{ρ:Type}(f e:Int)(a b c d:List Int)(g h:Int)(k:Int→Option ρ):Option ρ:=br (decide (h=(↑0:Int))) (bg f e a b c d g (a.getD 0 (0:Int)) fun i=>bg f e a b c d g (a.getD 1 (0:Int)) fun j=>br (decide (a.getD 2 (0:Int)<(0:Int))) none (k (bits BinOp.xor Ad (bits BinOp.xor Ad i j) (g.fdiv ((2:Int)^min (a.getD 2 (0:Int)).toNat 32))))) (br (decide (h=(↑1:Int))) (bg f e a b c d g (b.getD 0 (0:Int)) fun l=>bg f e a b c d g (b.getD 1 (0:Int)) fun m=>br (decide (b.getD 2 (0:Int)<(0:Int))) none (k (bits BinOp.xor Ad (bits BinOp.xor Ad l m) (g.fdiv ((2:Int)^min (b.getD 2 (0:Int)).toNat 32))))) (br (decide (h=(↑2:Int))) (bg f e a b c d g (c.getD 0 (0:Int)) fun n=>bg f e a b c d g (c.getD 1 (0:Int)) fun o=>br (decide (c.getD 2 (0:Int)<(0:Int))) none (k (bits BinOp.xor Ad (bits BinOp.xor Ad n o) (g.fdiv ((2:Int)^min (c.getD 2 (0:Int)).toNat 32))))) (br (decide (h=(↑3:Int))) (bg f e a b c d g (d.getD 0 (0:Int)) fun p=>bg f e a b c d g (d.getD 1 (0:Int)) fun q=>br (decide (d.getD 2 (0:Int)<(0:Int))) none (k (bits BinOp.xor Ad (bits BinOp.xor Ad p q) (g.fdiv ((2:Int)^min (d.getD 2 (0:Int)).toNat 32))))) none)))
def mq{ρ:Type}:=shut (ze (ρ:=ρ))
theorem abf{ρ:Type}(f:Int)(e:Int)(a:List Int)(b:List Int)(c:List Int)(d:List Int)(g:Int)(h:Int)(k:Int→Option ρ):mq f e a b c d g h k=ze f e a b c d g h k:=by unfold mq;rw[bq]

abbrev byh(ρ:Type):=(List Int)→Int→Int→Int→Int→(List Int)→(List Int)→(List Int)→(List Int)→(List Int)→(List Int)→(List Int)→Option ρ
def aav{ρ:Type}(l:List Int)(b a c d:Int)(e f g h i j k:List Int)(nx m:byh ρ):Option ρ:=br (decide (a<16)) (br (decide (0≤Aa.wrap (a*b))) (br (decide (Aa.wrap (a*b)≤Aa.wrap (Aa.wrap (a+1)*b))) (br (decide (Aa.wrap (Aa.wrap (a+1)*b)≤(↑l.length:Int))) (u6 (Ae (Aa.wrap (a*b)).toNat (Ac (Aa.wrap (Aa.wrap (a+1)*b)).toNat l)) fun n=>br (decide (0≤a)) (br (decide (a<(↑16:Int))) (nx l b (Aa.wrap (a+1)) c d e f g h i j (k.set a.toNat (Ad.wrap n))) none) none) none) none) none) (m l b a c d e f g h i j k)
abbrev bso:=(List Int)×Int×Int×Int×Int×(List Int)×(List Int)×(List Int)×(List Int)×(List Int)×(List Int)×(List Int)
abbrev b04:=bso
def byx{ρ:Type}(f:bso→Option ρ):byh ρ:=fun l m k a b c d e g h i j=>f (l,m,k,a,b,c,d,e,g,h,i,j)
def bvo{ρ:Type}:ahn bso b04 ρ:=fun (k,l,j,a,b,c,d,e,f,g,h,i) next ex=>aav k l j a b c d e f g h i (byx next) (byx ex)
def b0e{ρ:Type}:=shut (lp (bvo (ρ:=ρ)))
theorem b4y{ρ:Type}:b0e (ρ:=ρ)=lp bvo:=bq _
def bvr{ρ:Type}(f:ahp bso b04 ρ)(l:List Int)(m k a b:Int)(c d e g h i j:List Int)(n:byh ρ):Option ρ:=f (l,m,k,a,b,c,d,e,g,h,i,j) (fun (l,m,k,a,b,c,d,e,g,h,i,j)=>n l m k a b c d e g h i j)
def adu{ρ:Type}:=bvr (lp (bvo (ρ:=ρ)))
def aaw{ρ:Type}:=bvr (b0e (ρ:=ρ))
theorem ag3{ρ:Type}:aaw (ρ:=ρ)=adu:=congrArg bvr b4y
abbrev byk(ρ:Type):=Int→Int→(List Int)→(List Int)→(List Int)→Int→Int→(List Int)→(List Int)→(List Int)→(List Int)→(List Int)→Option ρ
def aai{ρ:Type}(j b:Int)(c k l:List Int)(d e:Int)(f g h i a:List Int)(nx o:byk ρ):Option ρ:=br (decide (b<j)) (br (decide (0≤b.tmod 16)) (br (decide (b.tmod 16<(↑16:Int))) (j5 d e f g h i (a.getD 4 0) 3 fun m=>sw b fun n=>j5 d e f g h i (a.getD 0 0) 2 fun p=>br (decide (0≤(Aa.wrap (b+1)).tmod 16)) (br (decide ((Aa.wrap (b+1)).tmod 16<(↑16:Int))) (mq d e f g h i (c.getD ((Aa.wrap (b+1)).tmod 16).toNat 0) 0 fun q=>br (decide (0≤(Aa.wrap (b+9)).tmod 16)) (br (decide ((Aa.wrap (b+9)).tmod 16<(↑16:Int))) (br (decide (0≤(Aa.wrap (b+14)).tmod 16)) (br (decide ((Aa.wrap (b+14)).tmod 16<(↑16:Int))) (mq d e f g h i (c.getD ((Aa.wrap (b+14)).tmod 16).toNat 0) 1 fun r=>br (decide (0≤b.tmod 16)) (br (decide (b.tmod 16<(↑16:Int))) (nx j (Aa.wrap (b+1)) (c.set (b.tmod 16).toNat (Ad.wrap (Ad.wrap (Ad.wrap (c.getD (b.tmod 16).toNat 0+q)+c.getD ((Aa.wrap (b+9)).tmod 16).toNat 0)+r))) k l d e f g h i ((((Ac 1 a).append (Ac 7 (Ac 7 (Ae 0 a))++Ae (1+min 7 (Ac 7 (Ae 0 a)).length) a)).set 4 (Ad.wrap (((Ac 1 a).append (Ac 7 (Ac 7 (Ae 0 a))++Ae (1+min 7 (Ac 7 (Ae 0 a)).length) a)).getD 4 0+Ad.wrap (Ad.wrap (Ad.wrap (Ad.wrap (a.getD 7 0+m)+bits BinOp.xor Ad (a.getD 6 0) (bits BinOp.and Ad (a.getD 4 0) (bits BinOp.xor Ad (a.getD 5 0) (a.getD 6 0))))+n)+c.getD (b.tmod 16).toNat 0)))).set 0 (Ad.wrap (Ad.wrap (Ad.wrap (Ad.wrap (Ad.wrap (a.getD 7 0+m)+bits BinOp.xor Ad (a.getD 6 0) (bits BinOp.and Ad (a.getD 4 0) (bits BinOp.xor Ad (a.getD 5 0) (a.getD 6 0))))+n)+c.getD (b.tmod 16).toNat 0)+Ad.wrap (p+bits BinOp.or Ad (bits BinOp.and Ad (a.getD 0 0) (a.getD 1 0)) (bits BinOp.and Ad (a.getD 2 0) (bits BinOp.or Ad (a.getD 0 0) (a.getD 1 0)))))))) none) none) none) none) none) none) none) none) none) none) (o j b c k l d e f g h i a)
abbrev bvc:=Int×Int×(List Int)×(List Int)×(List Int)×Int×Int×(List Int)×(List Int)×(List Int)×(List Int)×(List Int)
abbrev b1f:=bvc
def b1o{ρ:Type}(f:bvc→Option ρ):byk ρ:=fun l m a b c d e g h i j k=>f (l,m,a,b,c,d,e,g,h,i,j,k)
def bwv{ρ:Type}:ahn bvc b1f ρ:=fun (k,l,a,b,c,d,e,f,g,h,i,j) next ex=>aai k l a b c d e f g h i j (b1o next) (b1o ex)
def b05{ρ:Type}:=shut (lp (bwv (ρ:=ρ)))
theorem b4f{ρ:Type}:b05 (ρ:=ρ)=lp bwv:=bq _
def bvy{ρ:Type}(f:ahp bvc b1f ρ)(l m:Int)(a b c:List Int)(d e:Int)(g h i j k:List Int)(n:byk ρ):Option ρ:=f (l,m,a,b,c,d,e,g,h,i,j,k) (fun (l,m,a,b,c,d,e,g,h,i,j,k)=>n l m a b c d e g h i j k)
def adb{ρ:Type}:=bvy (lp (bwv (ρ:=ρ)))
def xq{ρ:Type}:=bvy (b05 (ρ:=ρ))
theorem agz{ρ:Type}:xq (ρ:=ρ)=adb:=congrArg bvy b4f
abbrev b33(ρ:Type):=Int→(List Int)→(List Int)→(List Int)→Option ρ
def aal{ρ:Type}(a:Int)(b d c:List Int)(nx e:b33 ρ):Option ρ:=br (decide (a<8)) (br (decide (0≤a)) (br (decide (a<(↑8:Int))) (br (decide (0≤a)) (br (decide (a<(↑8:Int))) (br (decide (0≤a)) (br (decide (a<(↑8:Int))) (nx (Aa.wrap (a+1)) b d (c.set a.toNat (Ad.wrap (c.getD a.toNat 0+b.getD a.toNat 0)))) none) none) none) none) none) none) (e a b d c)
abbrev buq:=Int×(List Int)×(List Int)×(List Int)
abbrev b3z:=buq
def bza{ρ:Type}(f:buq→Option ρ):b33 ρ:=fun a b c d=>f (a,b,c,d)
def bvu{ρ:Type}:ahn buq b3z ρ:=fun (a,b,c,d) next ex=>aal a b c d (bza next) (bza ex)
def b30{ρ:Type}:=shut (lp (bvu (ρ:=ρ)))
theorem b4n{ρ:Type}:b30 (ρ:=ρ)=lp bvu:=bq _
def bv6{ρ:Type}(f:ahp buq b3z ρ)(a:Int)(b c d:List Int)(e:b33 ρ):Option ρ:=f (a,b,c,d) (fun (a,b,c,d)=>e a b c d)
def acw{ρ:Type}:=bv6 (lp (bvu (ρ:=ρ)))
def yh{ρ:Type}:=bv6 (b30 (ρ:=ρ))
theorem agv{ρ:Type}:yh (ρ:=ρ)=acw:=congrArg bv6 b4n
def aam{ρ:Type}(a f:Int)(b c d e p q:List Int)(k:(List Int)→Option ρ):Option ρ:=aaw q (Aa.wrap (a.tdiv 8)) 0 a f b c d e p [0,0,0,0,0,0,0,0] [0,0,0,0,0,0,0,0,0,0,0,0,0,0,0,0] fun N O Q r g s t u v h i j=>xq g 0 j i h r g s t u v h fun w y z l m A B C F G H n=>yh 0 m l n fun I J M o=>k o
def oz{ρ:Type}:=shut (aam (ρ:=ρ))
theorem adw{ρ:Type}(f:Int)(e:Int)(a:List Int)(b:List Int)(c:List Int)(d:List Int)(g:List Int)(h:List Int)(k:(List Int)→Option ρ):oz f e a b c d g h k=aam f e a b c d g h k:=by unfold oz;rw[bq]

abbrev bz5(ρ:Type):=(List Int)→(List Int)→Int→Int→Int→(List Int)→(List Int)→(List Int)→(List Int)→(List Int)→(List Int)→(List Int)→Option ρ
def adg{ρ:Type}(l b:List Int)(a c d:Int)(e f g h i j k:List Int)(nx m:bz5 ρ):Option ρ:=br (decide (a<8)) (br (decide (0≤a)) (br (decide (a<(↑8:Int))) (br (decide (0≤a)) (br (decide (a<(↑8:Int))) (nx l b (Aa.wrap (a+1)) c d e f g h i j (k.set a.toNat (Ad.wrap (b.getD a.toNat 0)))) none) none) none) none) (m l b a c d e f g h i j k)
abbrev bus:=(List Int)×(List Int)×Int×Int×Int×(List Int)×(List Int)×(List Int)×(List Int)×(List Int)×(List Int)×(List Int)
abbrev b3r:=bus
def b09{ρ:Type}(f:bus→Option ρ):bz5 ρ:=fun m k l a b c d e g h i j=>f (m,k,l,a,b,c,d,e,g,h,i,j)
def bw4{ρ:Type}:ahn bus b3r ρ:=fun (l,j,k,a,b,c,d,e,f,g,h,i) next ex=>adg l j k a b c d e f g h i (b09 next) (b09 ex)
def b0r{ρ:Type}:=shut (lp (bw4 (ρ:=ρ)))
theorem b49{ρ:Type}:b0r (ρ:=ρ)=lp bw4:=bq _
def bwj{ρ:Type}(f:ahp bus b3r ρ)(m k:List Int)(l a b:Int)(c d e g h i j:List Int)(n:bz5 ρ):Option ρ:=f (m,k,l,a,b,c,d,e,g,h,i,j) (fun (m,k,l,a,b,c,d,e,g,h,i,j)=>n m k l a b c d e g h i j)
def agq{ρ:Type}:=bwj (lp (bw4 (ρ:=ρ)))
def acn{ρ:Type}:=bwj (b0r (ρ:=ρ))
theorem akx{ρ:Type}:acn (ρ:=ρ)=agq:=congrArg bwj b49
abbrev b0k(ρ:Type):=(List Int)→Int→(List Int)→(List Int)→(List Int)→Int→Int→(List Int)→(List Int)→(List Int)→(List Int)→Option ρ
def acz{ρ:Type}(b:List Int)(a:Int)(i j k:List Int)(c d:Int)(e f g h:List Int)(nx l:b0k ρ):Option ρ:=br (decide ((↑b.length:Int)≥a)) (br (decide (0≤a)) (br (decide (a≤(↑b.length:Int))) (oz c d e f g h i (Ae 0 (Ac a.toNat b)) fun m=>br (decide (0≤a)) (br (decide (a≤(↑b.length:Int))) (br (decide ((↑b.length:Int)≤(↑b.length:Int))) (nx (Ae a.toNat (Ac (↑b.length:Int).toNat b)) a m j k c d e f g h) none) none) none) none) none) (l b a i j k c d e f g h)
abbrev btm:=(List Int)×Int×(List Int)×(List Int)×(List Int)×Int×Int×(List Int)×(List Int)×(List Int)×(List Int)
abbrev b03:=btm
def bzh{ρ:Type}(f:btm→Option ρ):b0k ρ:=fun l k a b c d e g h i j=>f (l,k,a,b,c,d,e,g,h,i,j)
def bxa{ρ:Type}:ahn btm b03 ρ:=fun (k,j,a,b,c,d,e,f,g,h,i) next ex=>acz k j a b c d e f g h i (bzh next) (bzh ex)
def byz{ρ:Type}:=shut (lp (bxa (ρ:=ρ)))
theorem b4t{ρ:Type}:byz (ρ:=ρ)=lp bxa:=bq _
def bwi{ρ:Type}(f:ahp btm b03 ρ)(l:List Int)(k:Int)(a b c:List Int)(d e:Int)(g h i j:List Int)(m:b0k ρ):Option ρ:=f (l,k,a,b,c,d,e,g,h,i,j) (fun (l,k,a,b,c,d,e,g,h,i,j)=>m l k a b c d e g h i j)
def agy{ρ:Type}:=bwi (lp (bxa (ρ:=ρ)))
def aco{ρ:Type}:=bwi (byz (ρ:=ρ))
theorem akt{ρ:Type}:aco (ρ:=ρ)=agy:=congrArg bwi b4t
abbrev bzv(ρ:Type):=(List Int)→(List Int)→Int→(List Int)→(List Int)→Option ρ
def ab3{ρ:Type}(e b:List Int)(a:Int)(c d:List Int)(nx f:bzv ρ):Option ρ:=br (decide (a<8)) (br (decide (0≤a)) (br (decide (a<(↑8:Int))) (br (decide (0≤a)) (br (decide (a<(↑8:Int))) (nx e b (Aa.wrap (a+1)) (c.set a.toNat (Ab.wrap (b.getD a.toNat 0))) d) none) none) none) none) (f e b a c d)
abbrev buu:=(List Int)×(List Int)×Int×(List Int)×(List Int)
abbrev byj:=buu
def b0o{ρ:Type}(f:buu→Option ρ):bzv ρ:=fun e c d a b=>f (e,c,d,a,b)
def bxx{ρ:Type}:ahn buu byj ρ:=fun (e,c,d,a,b) next ex=>ab3 e c d a b (b0o next) (b0o ex)
def b2v{ρ:Type}:=shut (lp (bxx (ρ:=ρ)))
theorem b4p{ρ:Type}:b2v (ρ:=ρ)=lp bxx:=bq _
def bw3{ρ:Type}(f:ahp buu byj ρ)(e c:List Int)(d:Int)(a b:List Int)(g:bzv ρ):Option ρ:=f (e,c,d,a,b) (fun (e,c,d,a,b)=>g e c d a b)
def afi{ρ:Type}:=bw3 (lp (bxx (ρ:=ρ)))
def ab5{ρ:Type}:=bw3 (b2v (ρ:=ρ))
theorem ajl{ρ:Type}:ab5 (ρ:=ρ)=afi:=congrArg bw3 b4p
def ab9{ρ:Type}(f e:Int)(a b c d g r:List Int)(k:(List Int)→(List Int)→Option ρ):Option ρ:=acn r g 0 f e a b c d g [0,0,0,0,0,0,0,0] [0,0,0,0,0,0,0,0] fun s O Q h t u v w y z i j=>aco s (Aa.wrap (h*2)) j i z h t u v w y fun l A m n o B C F G H I=>ab5 l m 0 o n fun p J M q N=>k q p
def uo{ρ:Type}:=shut (ab9 (ρ:=ρ))
theorem agr{ρ:Type}(f:Int)(e:Int)(a:List Int)(b:List Int)(c:List Int)(d:List Int)(g:List Int)(h:List Int)(k:(List Int)→(List Int)→Option ρ):uo f e a b c d g h k=ab9 f e a b c d g h k:=by unfold uo;rw[bq]

def aq2{ρ:Type}(k:Int→Int→(List Int)→(List Int)→(List Int)→(List Int)→Option ρ):Option ρ:=k 32 64 [7,18,3] [17,19,10] [2,13,22] [6,11,25]
def ac7{ρ:Type}:=shut (aq2 (ρ:=ρ))
theorem atg{ρ:Type}  (k:Int→Int→(List Int)→(List Int)→(List Int)→(List Int)→Option ρ):ac7  k=aq2  k:=by unfold ac7;rw[bq]

def aiz{ρ:Type}(a:Int)(k:Int→Option ρ):Option ρ:=br (decide (0≤a)) (br (decide (a<(↑80:Int))) (k (roots512.getD a.toNat 0)) none) none
def sj{ρ:Type}:=shut (aiz (ρ:=ρ))
theorem aou{ρ:Type}(a:Int)(k:Int→Option ρ):sj a k=aiz a k:=by unfold sj;rw[bq]

def aad{ρ:Type}(a g:Int)(b c d e:List Int)(h f:Int)(k:Int→Option ρ):Option ρ:=br (decide (f<0)) none (br (decide (Aa.wrap (a-f)<0)) none (k (bits BinOp.or Ab (h.fdiv (2^min f.toNat 64)) (Ab.wrap (h*2^min (Aa.wrap (a-f)).toNat 64)))))
def bn{ρ:Type}:=shut (aad (ρ:=ρ))
theorem ach{ρ:Type}(f:Int)(e:Int)(a:List Int)(b:List Int)(c:List Int)(d:List Int)(g:Int)(h:Int)(k:Int→Option ρ):bn f e a b c d g h k=aad f e a b c d g h k:=by unfold bn;rw[bq]

def yu{ρ:Type}(f e:Int)(a b c d:List Int)(g h:Int)(k:Int→Option ρ):Option ρ:=br (decide (h=(↑0:Int))) (bn f e a b c d g (a.getD 0 0) fun l=>bn f e a b c d g (a.getD 1 0) fun m=>bn f e a b c d g (a.getD 2 0) fun n=>k (bits BinOp.xor Ab (bits BinOp.xor Ab l m) n)) (br (decide (h=(↑1:Int))) (bn f e a b c d g (b.getD 0 0) fun o=>bn f e a b c d g (b.getD 1 0) fun p=>bn f e a b c d g (b.getD 2 0) fun q=>k (bits BinOp.xor Ab (bits BinOp.xor Ab o p) q)) (br (decide (h=(↑2:Int))) (bn f e a b c d g (c.getD 0 0) fun r=>bn f e a b c d g (c.getD 1 0) fun s=>bn f e a b c d g (c.getD 2 0) fun t=>k (bits BinOp.xor Ab (bits BinOp.xor Ab r s) t)) (br (decide (h=(↑3:Int))) (bn f e a b c d g (d.getD 0 0) fun u=>bn f e a b c d g (d.getD 1 0) fun i=>bn f e a b c d g (d.getD 2 0) fun j=>k (bits BinOp.xor Ab (bits BinOp.xor Ab u i) j)) none)))
def kg{ρ:Type}:=shut (yu (ρ:=ρ))
theorem aa4{ρ:Type}(f:Int)(e:Int)(a:List Int)(b:List Int)(c:List Int)(d:List Int)(g:Int)(h:Int)(k:Int→Option ρ):kg f e a b c d g h k=yu f e a b c d g h k:=by unfold kg;rw[bq]

def zf{ρ:Type}(f e:Int)(a b c d:List Int)(g h:Int)(k:Int→Option ρ):Option ρ:=br (decide (h=(↑0:Int))) (bn f e a b c d g (a.getD 0 (0:Int)) fun i=>bn f e a b c d g (a.getD 1 (0:Int)) fun j=>br (decide (a.getD 2 (0:Int)<(0:Int))) none (k (bits BinOp.xor Ab (bits BinOp.xor Ab i j) (g.fdiv ((2:Int)^min (a.getD 2 (0:Int)).toNat 64))))) (br (decide (h=(↑1:Int))) (bn f e a b c d g (b.getD 0 (0:Int)) fun l=>bn f e a b c d g (b.getD 1 (0:Int)) fun m=>br (decide (b.getD 2 (0:Int)<(0:Int))) none (k (bits BinOp.xor Ab (bits BinOp.xor Ab l m) (g.fdiv ((2:Int)^min (b.getD 2 (0:Int)).toNat 64))))) (br (decide (h=(↑2:Int))) (bn f e a b c d g (c.getD 0 (0:Int)) fun n=>bn f e a b c d g (c.getD 1 (0:Int)) fun o=>br (decide (c.getD 2 (0:Int)<(0:Int))) none (k (bits BinOp.xor Ab (bits BinOp.xor Ab n o) (g.fdiv ((2:Int)^min (c.getD 2 (0:Int)).toNat 64))))) (br (decide (h=(↑3:Int))) (bn f e a b c d g (d.getD 0 (0:Int)) fun p=>bn f e a b c d g (d.getD 1 (0:Int)) fun q=>br (decide (d.getD 2 (0:Int)<(0:Int))) none (k (bits BinOp.xor Ab (bits BinOp.xor Ab p q) (g.fdiv ((2:Int)^min (d.getD 2 (0:Int)).toNat 64))))) none)))
def ng{ρ:Type}:=shut (zf (ρ:=ρ))
theorem abe{ρ:Type}(f:Int)(e:Int)(a:List Int)(b:List Int)(c:List Int)(d:List Int)(g:Int)(h:Int)(k:Int→Option ρ):ng f e a b c d g h k=zf f e a b c d g h k:=by unfold ng;rw[bq]

abbrev b31(ρ:Type):=(List Int)→Int→Int→Int→Int→(List Int)→(List Int)→(List Int)→(List Int)→(List Int)→(List Int)→(List Int)→Option ρ
def aax{ρ:Type}(l:List Int)(b a c d:Int)(e f g h i j k:List Int)(nx m:b31 ρ):Option ρ:=br (decide (a<16)) (br (decide (0≤Aa.wrap (a*b))) (br (decide (Aa.wrap (a*b)≤Aa.wrap (Aa.wrap (a+1)*b))) (br (decide (Aa.wrap (Aa.wrap (a+1)*b)≤(↑l.length:Int))) (u6 (Ae (Aa.wrap (a*b)).toNat (Ac (Aa.wrap (Aa.wrap (a+1)*b)).toNat l)) fun n=>br (decide (0≤a)) (br (decide (a<(↑16:Int))) (nx l b (Aa.wrap (a+1)) c d e f g h i j (k.set a.toNat n)) none) none) none) none) none) (m l b a c d e f g h i j k)
abbrev bui:=(List Int)×Int×Int×Int×Int×(List Int)×(List Int)×(List Int)×(List Int)×(List Int)×(List Int)×(List Int)
abbrev b1c:=bui
def by3{ρ:Type}(f:bui→Option ρ):b31 ρ:=fun l m k a b c d e g h i j=>f (l,m,k,a,b,c,d,e,g,h,i,j)
def bvs{ρ:Type}:ahn bui b1c ρ:=fun (k,l,j,a,b,c,d,e,f,g,h,i) next ex=>aax k l j a b c d e f g h i (by3 next) (by3 ex)
def b06{ρ:Type}:=shut (lp (bvs (ρ:=ρ)))
theorem b4s{ρ:Type}:b06 (ρ:=ρ)=lp bvs:=bq _
def bxy{ρ:Type}(f:ahp bui b1c ρ)(l:List Int)(m k a b:Int)(c d e g h i j:List Int)(n:b31 ρ):Option ρ:=f (l,m,k,a,b,c,d,e,g,h,i,j) (fun (l,m,k,a,b,c,d,e,g,h,i,j)=>n l m k a b c d e g h i j)
def adt{ρ:Type}:=bxy (lp (bvs (ρ:=ρ)))
def aau{ρ:Type}:=bxy (b06 (ρ:=ρ))
theorem ag8{ρ:Type}:aau (ρ:=ρ)=adt:=congrArg bxy b4s
abbrev b2x(ρ:Type):=Int→Int→(List Int)→(List Int)→(List Int)→Int→Int→(List Int)→(List Int)→(List Int)→(List Int)→(List Int)→Option ρ
def aah{ρ:Type}(j b:Int)(c k l:List Int)(d e:Int)(f g h i a:List Int)(nx o:b2x ρ):Option ρ:=br (decide (b<j)) (br (decide (0≤b.tmod 16)) (br (decide (b.tmod 16<(↑16:Int))) (kg d e f g h i (a.getD 4 0) 3 fun m=>sj b fun n=>kg d e f g h i (a.getD 0 0) 2 fun p=>br (decide (0≤(Aa.wrap (b+1)).tmod 16)) (br (decide ((Aa.wrap (b+1)).tmod 16<(↑16:Int))) (ng d e f g h i (c.getD ((Aa.wrap (b+1)).tmod 16).toNat 0) 0 fun q=>br (decide (0≤(Aa.wrap (b+9)).tmod 16)) (br (decide ((Aa.wrap (b+9)).tmod 16<(↑16:Int))) (br (decide (0≤(Aa.wrap (b+14)).tmod 16)) (br (decide ((Aa.wrap (b+14)).tmod 16<(↑16:Int))) (ng d e f g h i (c.getD ((Aa.wrap (b+14)).tmod 16).toNat 0) 1 fun r=>br (decide (0≤b.tmod 16)) (br (decide (b.tmod 16<(↑16:Int))) (nx j (Aa.wrap (b+1)) (c.set (b.tmod 16).toNat (Ab.wrap (Ab.wrap (Ab.wrap (c.getD (b.tmod 16).toNat 0+q)+c.getD ((Aa.wrap (b+9)).tmod 16).toNat 0)+r))) k l d e f g h i ((((Ac 1 a).append (Ac 7 (Ac 7 (Ae 0 a))++Ae (1+min 7 (Ac 7 (Ae 0 a)).length) a)).set 4 (Ab.wrap (((Ac 1 a).append (Ac 7 (Ac 7 (Ae 0 a))++Ae (1+min 7 (Ac 7 (Ae 0 a)).length) a)).getD 4 0+Ab.wrap (Ab.wrap (Ab.wrap (Ab.wrap (a.getD 7 0+m)+bits BinOp.xor Ab (a.getD 6 0) (bits BinOp.and Ab (a.getD 4 0) (bits BinOp.xor Ab (a.getD 5 0) (a.getD 6 0))))+n)+c.getD (b.tmod 16).toNat 0)))).set 0 (Ab.wrap (Ab.wrap (Ab.wrap (Ab.wrap (Ab.wrap (a.getD 7 0+m)+bits BinOp.xor Ab (a.getD 6 0) (bits BinOp.and Ab (a.getD 4 0) (bits BinOp.xor Ab (a.getD 5 0) (a.getD 6 0))))+n)+c.getD (b.tmod 16).toNat 0)+Ab.wrap (p+bits BinOp.or Ab (bits BinOp.and Ab (a.getD 0 0) (a.getD 1 0)) (bits BinOp.and Ab (a.getD 2 0) (bits BinOp.or Ab (a.getD 0 0) (a.getD 1 0)))))))) none) none) none) none) none) none) none) none) none) none) (o j b c k l d e f g h i a)
abbrev btl:=Int×Int×(List Int)×(List Int)×(List Int)×Int×Int×(List Int)×(List Int)×(List Int)×(List Int)×(List Int)
abbrev b1s:=btl
def b0s{ρ:Type}(f:btl→Option ρ):b2x ρ:=fun l m a b c d e g h i j k=>f (l,m,a,b,c,d,e,g,h,i,j,k)
def bxp{ρ:Type}:ahn btl b1s ρ:=fun (k,l,a,b,c,d,e,f,g,h,i,j) next ex=>aah k l a b c d e f g h i j (b0s next) (b0s ex)
def b3m{ρ:Type}:=shut (lp (bxp (ρ:=ρ)))
theorem b4g{ρ:Type}:b3m (ρ:=ρ)=lp bxp:=bq _
def bxs{ρ:Type}(f:ahp btl b1s ρ)(l m:Int)(a b c:List Int)(d e:Int)(g h i j k:List Int)(n:b2x ρ):Option ρ:=f (l,m,a,b,c,d,e,g,h,i,j,k) (fun (l,m,a,b,c,d,e,g,h,i,j,k)=>n l m a b c d e g h i j k)
def ac9{ρ:Type}:=bxs (lp (bxp (ρ:=ρ)))
def xw{ρ:Type}:=bxs (b3m (ρ:=ρ))
theorem agn{ρ:Type}:xw (ρ:=ρ)=ac9:=congrArg bxs b4g
abbrev b2a(ρ:Type):=Int→(List Int)→(List Int)→(List Int)→Option ρ
def aaj{ρ:Type}(a:Int)(b d c:List Int)(nx e:b2a ρ):Option ρ:=br (decide (a<8)) (br (decide (0≤a)) (br (decide (a<(↑8:Int))) (br (decide (0≤a)) (br (decide (a<(↑8:Int))) (br (decide (0≤a)) (br (decide (a<(↑8:Int))) (nx (Aa.wrap (a+1)) b d (c.set a.toNat (Ab.wrap (c.getD a.toNat 0+b.getD a.toNat 0)))) none) none) none) none) none) none) (e a b d c)
abbrev bsi:=Int×(List Int)×(List Int)×(List Int)
abbrev bzr:=bsi
def b2m{ρ:Type}(f:bsi→Option ρ):b2a ρ:=fun a b c d=>f (a,b,c,d)
def bw6{ρ:Type}:ahn bsi bzr ρ:=fun (a,b,c,d) next ex=>aaj a b c d (b2m next) (b2m ex)
def by9{ρ:Type}:=shut (lp (bw6 (ρ:=ρ)))
theorem b38{ρ:Type}:by9 (ρ:=ρ)=lp bw6:=bq _
def bw8{ρ:Type}(f:ahp bsi bzr ρ)(a:Int)(b c d:List Int)(e:b2a ρ):Option ρ:=f (a,b,c,d) (fun (a,b,c,d)=>e a b c d)
def acv{ρ:Type}:=bw8 (lp (bw6 (ρ:=ρ)))
def xk{ρ:Type}:=bw8 (by9 (ρ:=ρ))
theorem agp{ρ:Type}:xk (ρ:=ρ)=acv:=congrArg bw8 b38
def aaq{ρ:Type}(a f:Int)(b c d e p q:List Int)(k:(List Int)→Option ρ):Option ρ:=aau q (Aa.wrap (a.tdiv 8)) 0 a f b c d e p [0,0,0,0,0,0,0,0] [0,0,0,0,0,0,0,0,0,0,0,0,0,0,0,0] fun N O Q r g s t u v h i j=>xw g 0 j i h r g s t u v h fun w y z l m A B C F G H n=>xk 0 m l n fun I J M o=>k o
def ou{ρ:Type}:=shut (aaq (ρ:=ρ))
theorem ads{ρ:Type}(f:Int)(e:Int)(a:List Int)(b:List Int)(c:List Int)(d:List Int)(g:List Int)(h:List Int)(k:(List Int)→Option ρ):ou f e a b c d g h k=aaq f e a b c d g h k:=by unfold ou;rw[bq]

abbrev bzq(ρ:Type):=(List Int)→(List Int)→Int→Int→Int→(List Int)→(List Int)→(List Int)→(List Int)→(List Int)→(List Int)→(List Int)→Option ρ
def acj{ρ:Type}(l b:List Int)(a c d:Int)(e f g h i j k:List Int)(nx m:bzq ρ):Option ρ:=br (decide (a<8)) (br (decide (0≤a)) (br (decide (a<(↑8:Int))) (br (decide (0≤a)) (br (decide (a<(↑8:Int))) (nx l b (Aa.wrap (a+1)) c d e f g h i j (k.set a.toNat (b.getD a.toNat 0))) none) none) none) none) (m l b a c d e f g h i j k)
abbrev btw:=(List Int)×(List Int)×Int×Int×Int×(List Int)×(List Int)×(List Int)×(List Int)×(List Int)×(List Int)×(List Int)
abbrev b3g:=btw
def bye{ρ:Type}(f:btw→Option ρ):bzq ρ:=fun m k l a b c d e g h i j=>f (m,k,l,a,b,c,d,e,g,h,i,j)
def bwr{ρ:Type}:ahn btw b3g ρ:=fun (l,j,k,a,b,c,d,e,f,g,h,i) next ex=>acj l j k a b c d e f g h i (bye next) (bye ex)
def byg{ρ:Type}:=shut (lp (bwr (ρ:=ρ)))
theorem b5q{ρ:Type}:byg (ρ:=ρ)=lp bwr:=bq _
def bwt{ρ:Type}(f:ahp btw b3g ρ)(m k:List Int)(l a b:Int)(c d e g h i j:List Int)(n:bzq ρ):Option ρ:=f (m,k,l,a,b,c,d,e,g,h,i,j) (fun (m,k,l,a,b,c,d,e,g,h,i,j)=>n m k l a b c d e g h i j)
def agx{ρ:Type}:=bwt (lp (bwr (ρ:=ρ)))
def adf{ρ:Type}:=bwt (byg (ρ:=ρ))
theorem aku{ρ:Type}:adf (ρ:=ρ)=agx:=congrArg bwt b5q
abbrev by4(ρ:Type):=(List Int)→Int→(List Int)→(List Int)→(List Int)→Int→Int→(List Int)→(List Int)→(List Int)→(List Int)→Option ρ
def ac0{ρ:Type}(b:List Int)(a:Int)(i j k:List Int)(c d:Int)(e f g h:List Int)(nx l:by4 ρ):Option ρ:=br (decide ((↑b.length:Int)≥a)) (br (decide (0≤a)) (br (decide (a≤(↑b.length:Int))) (ou c d e f g h i (Ae 0 (Ac a.toNat b)) fun m=>br (decide (0≤a)) (br (decide (a≤(↑b.length:Int))) (br (decide ((↑b.length:Int)≤(↑b.length:Int))) (nx (Ae a.toNat (Ac (↑b.length:Int).toNat b)) a m j k c d e f g h) none) none) none) none) none) (l b a i j k c d e f g h)
abbrev buz:=(List Int)×Int×(List Int)×(List Int)×(List Int)×Int×Int×(List Int)×(List Int)×(List Int)×(List Int)
abbrev bzn:=buz
def b2u{ρ:Type}(f:buz→Option ρ):by4 ρ:=fun l k a b c d e g h i j=>f (l,k,a,b,c,d,e,g,h,i,j)
def bxq{ρ:Type}:ahn buz bzn ρ:=fun (k,j,a,b,c,d,e,f,g,h,i) next ex=>ac0 k j a b c d e f g h i (b2u next) (b2u ex)
def by7{ρ:Type}:=shut (lp (bxq (ρ:=ρ)))
theorem b4h{ρ:Type}:by7 (ρ:=ρ)=lp bxq:=bq _
def bv8{ρ:Type}(f:ahp buz bzn ρ)(l:List Int)(k:Int)(a b c:List Int)(d e:Int)(g h i j:List Int)(m:by4 ρ):Option ρ:=f (l,k,a,b,c,d,e,g,h,i,j) (fun (l,k,a,b,c,d,e,g,h,i,j)=>m l k a b c d e g h i j)
def agm{ρ:Type}:=bv8 (lp (bxq (ρ:=ρ)))
def acr{ρ:Type}:=bv8 (by7 (ρ:=ρ))
theorem akq{ρ:Type}:acr (ρ:=ρ)=agm:=congrArg bv8 b4h
abbrev byy(ρ:Type):=(List Int)→(List Int)→Int→(List Int)→(List Int)→Option ρ
def ab7{ρ:Type}(e b:List Int)(a:Int)(c d:List Int)(nx f:byy ρ):Option ρ:=br (decide (a<8)) (br (decide (0≤a)) (br (decide (a<(↑8:Int))) (br (decide (0≤a)) (br (decide (a<(↑8:Int))) (nx e b (Aa.wrap (a+1)) (c.set a.toNat (b.getD a.toNat 0)) d) none) none) none) none) (f e b a c d)
abbrev buj:=(List Int)×(List Int)×Int×(List Int)×(List Int)
abbrev b0l:=buj
def b22{ρ:Type}(f:buj→Option ρ):byy ρ:=fun e c d a b=>f (e,c,d,a,b)
def bwq{ρ:Type}:ahn buj b0l ρ:=fun (e,c,d,a,b) next ex=>ab7 e c d a b (b22 next) (b22 ex)
def b0n{ρ:Type}:=shut (lp (bwq (ρ:=ρ)))
theorem b4z{ρ:Type}:b0n (ρ:=ρ)=lp bwq:=bq _
def bxh{ρ:Type}(f:ahp buj b0l ρ)(e c:List Int)(d:Int)(a b:List Int)(g:byy ρ):Option ρ:=f (e,c,d,a,b) (fun (e,c,d,a,b)=>g e c d a b)
def afj{ρ:Type}:=bxh (lp (bwq (ρ:=ρ)))
def ab6{ρ:Type}:=bxh (b0n (ρ:=ρ))
theorem ajw{ρ:Type}:ab6 (ρ:=ρ)=afj:=congrArg bxh b4z
def ace{ρ:Type}(f e:Int)(a b c d g r:List Int)(k:(List Int)→(List Int)→Option ρ):Option ρ:=adf r g 0 f e a b c d g [0,0,0,0,0,0,0,0] [0,0,0,0,0,0,0,0] fun s O Q h t u v w y z i j=>acr s (Aa.wrap (h*2)) j i z h t u v w y fun l A m n o B C F G H I=>ab6 l m 0 o n fun p J M q N=>k q p
def um{ρ:Type}:=shut (ace (ρ:=ρ))
theorem agt{ρ:Type}(f:Int)(e:Int)(a:List Int)(b:List Int)(c:List Int)(d:List Int)(g:List Int)(h:List Int)(k:(List Int)→(List Int)→Option ρ):um f e a b c d g h k=ace f e a b c d g h k:=by unfold um;rw[bq]

def ard{ρ:Type}(k:Int→Int→(List Int)→(List Int)→(List Int)→(List Int)→Option ρ):Option ρ:=k 64 80 [1,8,7] [19,61,6] [28,34,39] [14,18,41]
def ade{ρ:Type}:=shut (ard (ρ:=ρ))
theorem asv{ρ:Type}  (k:Int→Int→(List Int)→(List Int)→(List Int)→(List Int)→Option ρ):ade  k=ard  k:=by unfold ade;rw[bq]

def uf{ρ:Type}(a:List Int)(k:(List Int)→Option ρ):Option ρ:=br (decide (a.length*1≤140737488355328)) (k a) none

def ao8{ρ:Type}(a:Int)(b d:List Int)(c:Int)(e:List Int)(k:Int→(List Int)→(List Int)→Int→Option ρ):Option ρ:=jv [d,e] fun f=>br (a==1) (ac7 fun q r s t u v=>uo q r s t u v b f fun w y=>uf y fun z=>k a w z (Ab.wrap (c+Ab.wrap (↑e.length:Int)))) (ade fun g h i j l m=>um g h i j l m b f fun n o=>uf o fun p=>k a n p (Ab.wrap (c+Ab.wrap (↑e.length:Int))))
def y9{ρ:Type}:=shut (ao8 (ρ:=ρ))
theorem aye{ρ:Type}(b:Int)(a:List Int)(c:List Int)(d:Int)(e:List Int)(k:Int→(List Int)→(List Int)→Int→Option ρ):y9 b a c d e k=ao8 b a c d e k:=by unfold y9;rw[bq]

def af3{ρ:Type}(a:Int)(k:Int→Option ρ):Option ρ:=br (a==1) (k 64) (k 128)
def yg{ρ:Type}:=shut (af3 (ρ:=ρ))
theorem amd{ρ:Type}(a:Int)(k:Int→Option ρ):yg a k=af3 a k:=by unfold yg;rw[bq]

abbrev b35(ρ:Type):=Int→(List Int)→Int→(List Int)→Int→(List Int)→Int→(List Int)→Option ρ
def aps{ρ:Type}(g:Int)(b:List Int)(a:Int)(c:List Int)(d:Int)(e:List Int)(f:Int)(h:List Int)(nx j:b35 ρ):Option ρ:=br (decide (a<8)) (br (decide (0≤a)) (br (decide (a<(↑8:Int))) (xg (b.getD a.toNat 0) (Aa.wrap (g.tdiv 16)) fun i=>br (decide ((c.length+i.length)*1≤140737488355328)) (nx g b (Aa.wrap (a+1)) (c++i) d e f h) none) none) none) (j g b a c d e f h)
abbrev bu2:=Int×(List Int)×Int×(List Int)×Int×(List Int)×Int×(List Int)
abbrev b1x:=bu2
def b1l{ρ:Type}(f:bu2→Option ρ):b35 ρ:=fun h d e g a b c i=>f (h,d,e,g,a,b,c,i)
def bv3{ρ:Type}:ahn bu2 b1x ρ:=fun (g,d,e,f,a,b,c,h) next ex=>aps g d e f a b c h (b1l next) (b1l ex)
def bz6{ρ:Type}:=shut (lp (bv3 (ρ:=ρ)))
theorem b4c{ρ:Type}:bz6 (ρ:=ρ)=lp bv3:=bq _
def bwx{ρ:Type}(f:ahp bu2 b1x ρ)(h:Int)(d:List Int)(e:Int)(g:List Int)(a:Int)(b:List Int)(c:Int)(i:List Int)(j:b35 ρ):Option ρ:=f (h,d,e,g,a,b,c,i) (fun (h,d,e,g,a,b,c,i)=>j h d e g a b c i)
def av7{ρ:Type}:=bwx (lp (bv3 (ρ:=ρ)))
def apb{ρ:Type}:=bwx (bz6 (ρ:=ρ))
theorem aw6{ρ:Type}:apb (ρ:=ρ)=av7:=congrArg bwx b4c
def aph{ρ:Type}(c:Int)(e a:List Int)(d:Int)(k:(List Int)→Option ρ):Option ρ:=yg c fun b=>br (decide (1≤b)) (br (decide (b*(↑1:Int)≤(↑140737488355328:Int))) (br (decide (b=0)) none (br (decide (0≤Aa.wrap (Aa.wrap ((Aa.wrap (Aa.wrap (Aa.wrap (Aa.wrap (2*b)-1)-Aa.wrap (b.tdiv 8))-(↑a.length:Int))).tmod b+Aa.wrap (b.tdiv 8))-8))) (br (decide ((1+(Aa.wrap (Aa.wrap ((Aa.wrap (Aa.wrap (Aa.wrap (Aa.wrap (2*b)-1)-Aa.wrap (b.tdiv 8))-(↑a.length:Int))).tmod b+Aa.wrap (b.tdiv 8))-8)).toNat)*1≤140737488355328)) (xg (Ab.wrap (d*2^3)) 8 fun g=>br (decide ((((Af (Aa.wrap (Aa.wrap ((Aa.wrap (Aa.wrap (Aa.wrap (Aa.wrap (2*b)-1)-Aa.wrap (b.tdiv 8))-(↑a.length:Int))).tmod b+Aa.wrap (b.tdiv 8))-8)).toNat (0:Int)).length.add 0).succ+g.length)*1≤140737488355328)) (y9 c e a d ((Af 1 (0:Int)).set 0 128++Af (Aa.wrap (Aa.wrap ((Aa.wrap (Aa.wrap (Aa.wrap (Aa.wrap (2*b)-1)-Aa.wrap (b.tdiv 8))-(↑a.length:Int))).tmod b+Aa.wrap (b.tdiv 8))-8)).toNat (0:Int)++g) fun j h l m=>apb b h 0 [] j h m l fun q r s f i n o p=>br (i==2) (br (decide (48≤(↑f.length:Int))) (k (Ac ((48:Int)-(0:Int)).toNat f)) none) (k f)) none) none) none)) none) none
def ab2{ρ:Type}:=shut (aph (ρ:=ρ))
theorem ax0{ρ:Type}(b:Int)(a:List Int)(c:List Int)(d:Int)(k:(List Int)→Option ρ):ab2 b a c d k=aph b a c d k:=by unfold ab2;rw[bq]

def apx{ρ:Type}(b:Int)(c:List Int)(k:(List Int)→Int→Option ρ):Option ρ:=ad8 b fun d e f g a=>br (a !=0) (k [] a) (y9 d e f g c fun h i j l=>ab2 h i j l fun m=>k m 0)
def ah7{ρ:Type}:=shut (apx (ρ:=ρ))
theorem ayj{ρ:Type}(a:Int)(b:List Int)(k:(List Int)→Int→Option ρ):ah7 a b k=apx a b k:=by unfold ah7;rw[bq]

def ajp{ρ:Type}(a:Int)(b:List Int)(k:(List Int)→Int→Option ρ):Option ρ:=adp a fun c=>br (c==0) (k [] 9) (br (decide (a≤3)) (ah7 a b fun d e=>k d e) (adp a fun f=>yt a b f fun g h=>k g h))
def y8{ρ:Type}:=shut (ajp (ρ:=ρ))
theorem aqz{ρ:Type}(a:Int)(b:List Int)(k:(List Int)→Int→Option ρ):y8 a b k=ajp a b k:=by unfold y8;rw[bq]

def ae8{ρ:Type}(a:List (List Int))(b:Int)(k:(List Int)→Option ρ):Option ρ:=dz a fun c=>y8 b c fun d e=>k d
def mh{ρ:Type}:=shut (ae8 (ρ:=ρ))
theorem akw{ρ:Type}(a:List (List Int))(b:Int)(k:(List Int)→Option ρ):mh a b k=ae8 a b k:=by unfold mh;rw[bq]

def am2{ρ:Type}(a:Int)(k:Int→Option ρ):Option ρ:=k a
def zx{ρ:Type}:=shut (am2 (ρ:=ρ))
theorem ao4{ρ:Type}(a:Int)(k:Int→Option ρ):zx a k=am2 a k:=by unfold zx;rw[bq]

abbrev byi(ρ:Type):=Int→Int→Int→(List Int)→Option ρ
def ajt{ρ:Type}(d b a:Int)(c:List Int)(nx e:byi ρ):Option ρ:=br (decide (a<b)) (br (decide (0≤a)) (br (decide (a<(↑c.length:Int))) (br (decide (0≤a)) (br (decide (a<(↑c.length:Int))) (nx d b (Aa.wrap (a+1)) (c.set a.toNat (bits BinOp.xor Ag (c.getD a.toNat 0) d))) none) none) none) none) (e d b a c)
abbrev bsh:=Int×Int×Int×(List Int)
abbrev b2n:=bsh
def b0m{ρ:Type}(f:bsh→Option ρ):byi ρ:=fun c a b d=>f (c,a,b,d)
def bxt{ρ:Type}:ahn bsh b2n ρ:=fun (c,a,b,d) next ex=>ajt c a b d (b0m next) (b0m ex)
def bz2{ρ:Type}:=shut (lp (bxt (ρ:=ρ)))
theorem b4o{ρ:Type}:bz2 (ρ:=ρ)=lp bxt:=bq _
def bxu{ρ:Type}(f:ahp bsh b2n ρ)(c a b:Int)(d:List Int)(e:byi ρ):Option ρ:=f (c,a,b,d) (fun (c,a,b,d)=>e c a b d)
def aoi{ρ:Type}:=bxu (lp (bxt (ρ:=ρ)))
def aoz{ρ:Type}:=bxu (bz2 (ρ:=ρ))
theorem arx{ρ:Type}:aoz (ρ:=ρ)=aoi:=congrArg bxu b4o
def aif{ρ:Type}(b:List Int)(a c:Int)(k:(List Int)→Option ρ):Option ρ:=br (decide (0≤a)) (br (decide (a≤a)) (br (decide (a*(↑1:Int)≤(↑140737488355328:Int))) (aoz c (↑((Ac (Af a.toNat (0:Int)).length b).append (Ae (0+min (Af a.toNat (0:Int)).length b.length) (Af a.toNat (0:Int)))).length:Int) 0 ((Ac (Af a.toNat (0:Int)).length b).append (Ae (0+min (Af a.toNat (0:Int)).length b.length) (Af a.toNat (0:Int)))) fun e f g d=>k d) none) none) none
def uy{ρ:Type}:=shut (aif (ρ:=ρ))
theorem aon{ρ:Type}(a:List Int)(b:Int)(c:Int)(k:(List Int)→Option ρ):uy a b c k=aif a b c k:=by unfold uy;rw[bq]

def ah9{ρ:Type}(b:List (List Int))(a:Int)(c d:List Int)(k:(List Int)→Option ρ):Option ρ:=dz b fun e=>mh [d,e] a fun f=>mh [c,f] a fun g=>k g
def aak{ρ:Type}:=shut (ah9 (ρ:=ρ))
theorem aos{ρ:Type}(b:List (List Int))(a:Int)(c:List Int)(d:List Int)(k:(List Int)→Option ρ):aak b a c d k=ah9 b a c d k:=by unfold aak;rw[bq]

def anj{ρ:Type}(a:Int)(b:List Int)(k:Int→(List Int)→(List Int)→Option ρ):Option ρ:=zx a fun c=>br (decide (0≤a)) (br (decide (a<(↑8:Int))) (br (decide (a.toNat*2+1<16)) (br (decide ((↑b.length:Int)>[(0:Int),(0:Int),(32:Int),(64:Int),(48:Int),(128:Int),(64:Int),(128:Int),(32:Int),(136:Int),(64:Int),(72:Int),(32:Int),(168:Int),(64:Int),(136:Int)].getD (a.toNat*2+1) 0)) (mh [b] c fun d=>uy d ([(0:Int),(0:Int),(32:Int),(64:Int),(48:Int),(128:Int),(64:Int),(128:Int),(32:Int),(136:Int),(64:Int),(72:Int),(32:Int),(168:Int),(64:Int),(136:Int)].getD (a.toNat*2+1) 0) 54 fun e=>uy d ([(0:Int),(0:Int),(32:Int),(64:Int),(48:Int),(128:Int),(64:Int),(128:Int),(32:Int),(136:Int),(64:Int),(72:Int),(32:Int),(168:Int),(64:Int),(136:Int)].getD (a.toNat*2+1) 0) 92 fun f=>k c f e) (uy b ([(0:Int),(0:Int),(32:Int),(64:Int),(48:Int),(128:Int),(64:Int),(128:Int),(32:Int),(136:Int),(64:Int),(72:Int),(32:Int),(168:Int),(64:Int),(136:Int)].getD (a.toNat*2+1) 0) 54 fun g=>uy b ([(0:Int),(0:Int),(32:Int),(64:Int),(48:Int),(128:Int),(64:Int),(128:Int),(32:Int),(136:Int),(64:Int),(72:Int),(32:Int),(168:Int),(64:Int),(136:Int)].getD (a.toNat*2+1) 0) 92 fun h=>k c h g)) none) none) none
def aen{ρ:Type}:=shut (anj (ρ:=ρ))
theorem auo{ρ:Type}(a:Int)(b:List Int)(k:Int→(List Int)→(List Int)→Option ρ):aen a b k=anj a b k:=by unfold aen;rw[bq]

def am7{ρ:Type}(a:Int)(b c:List Int)(k:(List Int)→Int→Option ρ):Option ρ:=aev a fun d=>br (!d) (k [] 9) (aen a b fun e f g=>aak [c] e f g fun h=>k h 0)
def ae3{ρ:Type}:=shut (am7 (ρ:=ρ))
theorem avu{ρ:Type}(a:Int)(b:List Int)(c:List Int)(k:(List Int)→Int→Option ρ):ae3 a b c k=am7 a b c k:=by unfold ae3;rw[bq]

def aft{ρ:Type}(d e f:List Int)(g a h i j l:Int)(b:Bool)(k:(List Int)→Option ρ):Option ρ:=dz [e,f] fun m=>ae3 g d m fun c n=>br (decide (0≤a)) (br (decide (a≤(↑c.length:Int))) (k (Ac (a-0).toNat (Ae 0 c))) none) none
def qc{ρ:Type}:=shut (aft (ρ:=ρ))
theorem al2{ρ:Type}(g:List Int)(h:List Int)(i:List Int)(j:Int)(b:Int)(c:Int)(d:Int)(e:Int)(f:Int)(a:Bool)(k:(List Int)→Option ρ):qc g h i j b c d e f a k=aft g h i j b c d e f a k:=by unfold qc;rw[bq]

abbrev b2l(ρ:Type):=(List Int)→Int→Int→Int→(List Int)→Option ρ
def apm{ρ:Type}(d:List Int)(e a b:Int)(c:List Int)(nx g:b2l ρ):Option ρ:=br (decide ((↑c.length:Int)<e)) (xg b 4 fun h=>mh [d,h] a fun f=>br (decide ((c.length+f.length)*1≤140737488355328)) (nx d e a (Ab.wrap (b+1)) (c++f)) none) (g d e a b c)
abbrev bse:=(List Int)×Int×Int×Int×(List Int)
abbrev bzo:=bse
def by6{ρ:Type}(f:bse→Option ρ):b2l ρ:=fun c d a b e=>f (c,d,a,b,e)
def bxj{ρ:Type}:ahn bse bzo ρ:=fun (c,d,a,b,e) next ex=>apm c d a b e (by6 next) (by6 ex)
def b2g{ρ:Type}:=shut (lp (bxj (ρ:=ρ)))
theorem b5b{ρ:Type}:b2g (ρ:=ρ)=lp bxj:=bq _
def bv9{ρ:Type}(f:ahp bse bzo ρ)(c:List Int)(d a b:Int)(e:List Int)(g:b2l ρ):Option ρ:=f (c,d,a,b,e) (fun (c,d,a,b,e)=>g c d a b e)
def au0{ρ:Type}:=bv9 (lp (bxj (ρ:=ρ)))
def avz{ρ:Type}:=bv9 (b2g (ρ:=ρ))
theorem aw8{ρ:Type}:avz (ρ:=ρ)=au0:=congrArg bv9 b5b
def am1{ρ:Type}(b:Int)(e:List Int)(c:Int)(k:(List Int)→Int→Option ρ):Option ρ:=br (decide (b<1)) (k [] 9) (br (decide (b>3)) (k [] 9) (br (decide (c<0)) (k [] 8) (br (decide (c>1048576)) (k [] 8) (zx b fun f=>avz e c f 0 [] fun g a h i d=>br (decide (0≤a)) (br (decide (a≤(↑d.length:Int))) (br (decide (a≤a)) (br (decide (a≤(↑d.length:Int))) (k (Ae 0 (Ac a.toNat d)) 0) none) none) none) none))))
def ae6{ρ:Type}:=shut (am1 (ρ:=ρ))
theorem awd{ρ:Type}(a:Int)(b:List Int)(c:Int)(k:(List Int)→Int→Option ρ):ae6 a b c k=am1 a b c k:=by unfold ae6;rw[bq]

def afr{ρ:Type}(f:Int)(d b g:List Int)(e a h i j l:Int)(c:Bool)(k:(List Int)→Option ρ):Option ρ:=dz [d,b,g] fun m=>y8 e m fun n q=>br (decide (0≤a)) (br (decide (a≤(↑b.length:Int))) (dz [d,Ae 0 (Ac a.toNat b),n] fun o=>ae6 e o f fun p r=>k p) none) none
def qb{ρ:Type}:=shut (afr (ρ:=ρ))
theorem al3{ρ:Type}(g:Int)(h:List Int)(i:List Int)(j:List Int)(l:Int)(b:Int)(c:Int)(d:Int)(e:Int)(f:Int)(a:Bool)(k:(List Int)→Option ρ):qb g h i j l b c d e f a k=afr g h i j l b c d e f a k:=by unfold qb;rw[bq]

def ajo{ρ:Type}(b c d e f:Int)(a:Bool)(k:Int→Int→Int→Int→Int→Bool→Int→Int→Int→Int→Int→Int→Bool→Int→Int→Int→Int→Int→Int→Bool→Option ρ):Option ρ:=br (b==16) (k b c d e f a 1 b c d e f a 1 b c d e f a) (k b c d e f a 3 b c d e f a 3 b c d e f a)
def aej{ρ:Type}:=shut (ajo (ρ:=ρ))
theorem aq7{ρ:Type}(b:Int)(c:Int)(d:Int)(e:Int)(f:Int)(a:Bool)(k:Int→Int→Int→Int→Int→Bool→Int→Int→Int→Int→Int→Int→Bool→Int→Int→Int→Int→Int→Int→Bool→Option ρ):aej b c d e f a k=ajo b c d e f a k:=by unfold aej;rw[bq]

def ahw{ρ:Type}(b c d e f:Int)(a:Bool)(k:Int→Int→Int→Int→Int→Bool→Nat→Int→Int→Int→Int→Int→Bool→Int→Int→Int→Int→Int→Int→Bool→Nat→Int→Int→Int→Int→Int→Int→Bool→Option ρ):Option ρ:=br a (aek b c d e f a fun G H I J M N O Q U W g h=>k G H I J M N 1 O Q U W g h 0 0 0 0 0 0 false 1 0 0 0 0 0 0 false) (aej b c d e f a fun i j l m n o p q r s t u v w y z A B C F=>k i j l m n o 2 0 0 0 0 0 false p q r s t u v 2 w y z A B C F)
def abh{ρ:Type}:=shut (ahw (ρ:=ρ))
theorem am5{ρ:Type}(b:Int)(c:Int)(d:Int)(e:Int)(f:Int)(a:Bool)(k:Int→Int→Int→Int→Int→Bool→Nat→Int→Int→Int→Int→Int→Bool→Int→Int→Int→Int→Int→Int→Bool→Nat→Int→Int→Int→Int→Int→Int→Bool→Option ρ):abh b c d e f a k=ahw b c d e f a k:=by unfold abh;rw[bq]

def ajq{ρ:Type}(b:List Int)(a:Int)(k:Int→(List Int)→Option ρ):Option ρ:=br (decide (0≤Aa.wrap ((Aa.wrap (a+7)).tdiv 8))) (br (decide (Aa.wrap ((Aa.wrap (a+7)).tdiv 8)≤(↑b.length:Int))) (u6 (Ae 0 (Ac (Aa.wrap ((Aa.wrap (a+7)).tdiv 8)).toNat b)) fun c=>br (decide (a<0)) none (br (decide (0≤Aa.wrap ((Aa.wrap (a+7)).tdiv 8))) (br (decide (Aa.wrap ((Aa.wrap (a+7)).tdiv 8)≤(↑b.length:Int))) (br (decide ((↑b.length:Int)≤(↑b.length:Int))) (k (bits BinOp.and Ab c (Ab.wrap (Ab.wrap (1*2^min a.toNat 64)-1))) (Ae (Aa.wrap ((Aa.wrap (a+7)).tdiv 8)).toNat (Ac (↑b.length:Int).toNat b))) none) none) none)) none) none
def zq{ρ:Type}:=shut (ajq (ρ:=ρ))
theorem aqu{ρ:Type}(a:List Int)(b:Int)(k:Int→(List Int)→Option ρ):zq a b k=ajq a b k:=by unfold zq;rw[bq]

def abp{ρ:Type}(n a b o p:Int)(l:Bool)(I:Nat)(u v w y z:Int)(q:Bool)(H A B C F G:Int)(r:Bool)(j:Nat)(m e f g h i:Int)(c:Bool)(J M N:List Int)(k:(List Int)→Int→Int→Option ρ):Option ρ:=jo n a b o p l fun q0 d=>br (decide (b=0)) none (br (decide (j=1)) (qd (Aa.wrap (Aa.wrap (d+Aa.wrap ((Aa.wrap (Aa.wrap (a-Aa.wrap (a.tdiv b))+7)).tdiv 8))+Aa.wrap ((Aa.wrap (Aa.wrap (a.tdiv b)+7)).tdiv 8))) J M N fun s=>br (decide (0≤d)) (br (decide (d≤(↑s.length:Int))) (br (decide (0≤d)) (br (decide (d≤(↑s.length:Int))) (br (decide ((↑s.length:Int)≤(↑s.length:Int))) (zq (Ac ((↑s.length:Int)-d).toNat (Ae d.toNat s)) (Aa.wrap (a-Aa.wrap (a.tdiv b))) fun Q U=>zq U (Aa.wrap (a.tdiv b)) fun W q6=>k (Ac (d-0).toNat (Ae 0 s)) Q W) none) none) none) none) none) (br (decide (j=2)) (qb (Aa.wrap (Aa.wrap (d+Aa.wrap ((Aa.wrap (Aa.wrap (a-Aa.wrap (a.tdiv b))+7)).tdiv 8))+Aa.wrap ((Aa.wrap (Aa.wrap (a.tdiv b)+7)).tdiv 8))) J M N m e f g h i c fun t=>br (decide (0≤d)) (br (decide (d≤(↑t.length:Int))) (br (decide (0≤d)) (br (decide (d≤(↑t.length:Int))) (br (decide ((↑t.length:Int)≤(↑t.length:Int))) (zq (Ae d.toNat (Ac (↑t.length:Int).toNat t)) (Aa.wrap (a-Aa.wrap (a.tdiv b))) fun Z q9=>zq q9 (Aa.wrap (a.tdiv b)) fun O aa=>k (Ae 0 (Ac d.toNat t)) Z O) none) none) none) none) none) none))
def qg{ρ:Type}:=shut (abp (ρ:=ρ))
theorem ae2{ρ:Type}(y:Int)(z:Int)(A:Int)(B:Int)(C:Int)(i:Bool)(F:Nat)(j:Int)(l:Int)(m:Int)(n:Int)(o:Int)(b:Bool)(v:Int)(p:Int)(q:Int)(r:Int)(s:Int)(t:Int)(c:Bool)(w:Nat)(u:Int)(d:Int)(e:Int)(f:Int)(g:Int)(h:Int)(a:Bool)(G:List Int)(H:List Int)(I:List Int)(k:(List Int)→Int→Int→Option ρ):qg y z A B C i F j l m n o b v p q r s t c w u d e f g h a G H I k=abp y z A B C i F j l m n o b v p q r s t c w u d e f g h a G H I k:=by unfold qg;rw[bq]

def ale{ρ:Type}(b a:List Int)(k:(List Int)→Option ρ):Option ρ:=dz [[0,Ag.wrap (↑a.length:Int)],a,b] fun c=>k c
def aby{ρ:Type}:=shut (ale (ρ:=ρ))
theorem as9{ρ:Type}(a:List Int)(b:List Int)(k:(List Int)→Option ρ):aby a b k=ale a b k:=by unfold aby;rw[bq]

def afd{ρ:Type}(e f:List Int)(b:Int)(a:List Int)(d:Int)(c:Bool)(g:Int)(k:(List Int)→Option ρ):Option ρ:=dz [Ac 32 (Ae 0 e),f] fun h=>ow b a d c h fun i j l m=>qo i j l m g fun o p q r n=>k n
def jh{ρ:Type}:=shut (afd (ρ:=ρ))
theorem akj{ρ:Type}(e:List Int)(f:List Int)(b:Int)(a:List Int)(d:Int)(c:Bool)(g:Int)(k:(List Int)→Option ρ):jh e f b a d c g k=afd e f b a d c g k:=by unfold jh;rw[bq]

def aiq{ρ:Type}(a:Int)(b:List Int)(k:Int→(List Int)→Int→Bool→Int→Option ρ):Option ρ:=abg 7 fun c d e f l=>ow c d e f b fun g h i j=>k g h i j a
def acy{ρ:Type}:=shut (aiq (ρ:=ρ))
theorem aow{ρ:Type}(a:Int)(b:List Int)(k:Int→(List Int)→Int→Bool→Int→Option ρ):acy a b k=aiq a b k:=by unfold acy;rw[bq]

def ah4{ρ:Type}(d b:Int)(a:List Int)(k:Int→(List Int)→(List Int)→Int→Option ρ):Option ρ:=ad8 d fun e f g h n=>dz [a] fun c=>br (decide (0≤Aa.wrap (b-(↑a.length:Int)))) (br (decide ((c.length+(Aa.wrap (b-(↑a.length:Int))).toNat)*1≤140737488355328)) (y9 e f g h (c++Af (Aa.wrap (b-(↑a.length:Int))).toNat (0:Int)) fun i j l m=>k i j l m) none) none
def y5{ρ:Type}:=shut (ah4 (ρ:=ρ))
theorem aot{ρ:Type}(a:Int)(b:Int)(c:List Int)(k:Int→(List Int)→(List Int)→Int→Option ρ):y5 a b c k=ah4 a b c k:=by unfold y5;rw[bq]

def ajk{ρ:Type}(a:List Int)(k:(List Int)→Option ρ):Option ρ:=dz [Ac 1 (Ae 3 a),Ac 8 (Ae 8 a),Ac 13 (Ae 19 a)] fun b=>k b
def y7{ρ:Type}:=shut (ajk (ρ:=ρ))
theorem aql{ρ:Type}(a:List Int)(k:(List Int)→Option ρ):y7 a k=ajk a k:=by unfold y7;rw[bq]

def aez{ρ:Type}(n j:List Int)(c:Int)(a d:List Int)(e b g:Int)(f h:List Int)(i:Int)(k:(List Int)→Option ρ):Option ρ:=br (decide (b>16)) (br (decide ((↑j.length:Int)>b)) (y7 n fun z=>dz [z,j] fun A=>y9 g f h i A fun B C F G=>ab2 B C F G fun o=>br (decide (0≤b)) (br (decide (b≤(↑o.length:Int))) (k (Ac (b-0).toNat (Ae 0 o))) none) none) (y7 n fun H=>dz [H,j] fun I=>y9 c a d e I fun J p q r=>ab2 J p q r fun l=>br (decide (0≤b)) (br (decide (b≤(↑l.length:Int))) (k (Ac (b-0).toNat (Ae 0 l))) none) none)) (y7 n fun s=>dz [s,j] fun t=>y9 c a d e t fun u v w y=>ab2 u v w y fun m=>br (decide (0≤b)) (br (decide (b≤(↑m.length:Int))) (k (Ac (b-0).toNat (Ae 0 m))) none) none)
def jf{ρ:Type}:=shut (aez (ρ:=ρ))
theorem akp{ρ:Type}(i:List Int)(j:List Int)(c:Int)(a:List Int)(d:List Int)(e:Int)(l:Int)(f:Int)(b:List Int)(g:List Int)(h:Int)(k:(List Int)→Option ρ):jf i j c a d e l f b g h k=aez i j c a d e l f b g h k:=by unfold jf;rw[bq]

def aix{ρ:Type}(b:Int)(a:List Int)(k:Int→(List Int)→(List Int)→Int→Int→Int→(List Int)→(List Int)→Int→Option ρ):Option ρ:=y5 1 64 a fun c d e f=>y5 3 128 a fun g h i j=>k c d e f b g h i j
def acp{ρ:Type}:=shut (aix (ρ:=ρ))
theorem aor{ρ:Type}(a:Int)(b:List Int)(k:Int→(List Int)→(List Int)→Int→Int→Int→(List Int)→(List Int)→Int→Option ρ):acp a b k=aix a b k:=by unfold acp;rw[bq]

def agj{ρ:Type}(b c d e f:Int)(a:Bool)(g:List Int)(k:Int→Int→Int→Int→Int→Bool→Nat→Int→(List Int)→Int→Bool→Int→Int→(List Int)→(List Int)→Int→Int→Int→(List Int)→(List Int)→Int→Bool→Option ρ):Option ρ:=ji b c d e f a fun n=>br (!n) (k 0 0 0 0 0 false 0 0 [] 0 false 0 0 [] [] 0 0 0 [] [] 0 false) (br ((↑g.length:Int) !=b) (k 0 0 0 0 0 false 0 0 [] 0 false 0 0 [] [] 0 0 0 [] [] 0 false) (br a (acy b g fun o p q r s=>k b c d e f a 1 o p q r s 0 [] [] 0 0 0 [] [] 0 true) (acp b g fun t u v w h i j l m=>k b c d e f a 2 0 [] 0 false 0 t u v w h i j l m true)))
def vo{ρ:Type}:=shut (agj (ρ:=ρ))
theorem ak7{ρ:Type}(b:Int)(c:Int)(d:Int)(e:Int)(f:Int)(a:Bool)(g:List Int)(k:Int→Int→Int→Int→Int→Bool→Nat→Int→(List Int)→Int→Bool→Int→Int→(List Int)→(List Int)→Int→Int→Int→(List Int)→(List Int)→Int→Bool→Option ρ):vo b c d e f a g k=agj b c d e f a g k:=by unfold vo;rw[bq]

def ano{ρ:Type}(b c d e f:Int)(a:Bool)(z g h:List Int)(k:(List Int)→Option ρ):Option ρ:=vo b c d e f a z fun F G H I J M i A B C j l m n o p q r s t u v=>br (!v) (k []) (br (decide (i=1)) (jh g h A B C j l fun w=>k w) (br (decide (i=2)) (jf g h m n o p q r s t u fun y=>k y) none))
def yc{ρ:Type}:=shut (ano (ρ:=ρ))
theorem au4{ρ:Type}(b:Int)(c:Int)(d:Int)(e:Int)(f:Int)(a:Bool)(g:List Int)(h:List Int)(i:List Int)(k:(List Int)→Option ρ):yc b c d e f a g h i k=ano b c d e f a g h i k:=by unfold yc;rw[bq]

def amu{ρ:Type}(b:List Int)(a c:Int)(k:(List Int)→Option ρ):Option ρ:=br (a==0) (xg c 4 fun d=>k ((Ac 4 d).append (Ae (0+min 4 d.length) b))) (br (a==1) (xg c 12 fun e=>k ((Ac 4 b).append (Ac 12 e++Ae (4+min 12 e.length) b))) (br (a==2) (xg c 4 fun j=>dz [j,Af 12 (0:Int)] fun f=>k ((Ac 16 b).append (Ac 16 f++Ae (16+min 16 f.length) b))) (br (a==3) (br (a==3) (br (decide (0≤Aa.wrap (8+Aa.wrap (4*a)))) (br (decide (Aa.wrap (8+Aa.wrap (4*a))≤(↑32:Int))) (xg c 4 fun g=>k ((Ac (Aa.wrap (8+Aa.wrap (4*a))).toNat b).append (Ac ((↑32:Int)-Aa.wrap (8+Aa.wrap (4*a))).toNat g++Ae ((Aa.wrap (8+Aa.wrap (4*a))).toNat+min ((↑32:Int)-Aa.wrap (8+Aa.wrap (4*a))).toNat g.length) b))) none) none) (k b)) (br (a==4) (br (a==4) (br (decide (0≤Aa.wrap (8+Aa.wrap (4*a)))) (br (decide (Aa.wrap (8+Aa.wrap (4*a))≤(↑32:Int))) (xg c 4 fun h=>k ((Ac (Aa.wrap (8+Aa.wrap (4*a))).toNat b).append (Ac ((↑32:Int)-Aa.wrap (8+Aa.wrap (4*a))).toNat h++Ae ((Aa.wrap (8+Aa.wrap (4*a))).toNat+min ((↑32:Int)-Aa.wrap (8+Aa.wrap (4*a))).toNat h.length) b))) none) none) (k b)) (br (a==5) (br (decide (0≤Aa.wrap (8+Aa.wrap (4*a)))) (br (decide (Aa.wrap (8+Aa.wrap (4*a))≤(↑32:Int))) (xg c 4 fun i=>k ((Ac (Aa.wrap (8+Aa.wrap (4*a))).toNat b).append (Ac ((↑32:Int)-Aa.wrap (8+Aa.wrap (4*a))).toNat i++Ae ((Aa.wrap (8+Aa.wrap (4*a))).toNat+min ((↑32:Int)-Aa.wrap (8+Aa.wrap (4*a))).toNat i.length) b))) none) none) (k b))))))
def dh{ρ:Type}:=shut (amu (ρ:=ρ))
theorem aw0{ρ:Type}(a:List Int)(b:Int)(c:Int)(k:(List Int)→Option ρ):dh a b c k=amu a b c k:=by unfold dh;rw[bq]

def afw{ρ:Type}(d e f g h:Int)(b:Bool)(c i a:List Int)(j:Int)(k:(List Int)→Option ρ):Option ρ:=dh a 2 j fun l=>u6 (Ac 4 (Ae 20 a)) fun m=>dh l 3 m fun n=>k n
def mg{ρ:Type}:=shut (afw (ρ:=ρ))
theorem al8{ρ:Type}(c:Int)(d:Int)(e:Int)(f:Int)(g:Int)(a:Bool)(b:List Int)(h:List Int)(i:List Int)(j:Int)(k:(List Int)→Option ρ):mg c d e f g a b h i j k=afw c d e f g a b h i j k:=by unfold mg;rw[bq]

def acu{ρ:Type}(c d e f g:Int)(a:Bool)(b h i:List Int)(j l:Int)(k:(List Int)→Option ρ):Option ρ:=mg c d e f g a b h i 3 fun m=>dh m 4 (Ab.wrap j) fun n=>dh n 5 l fun o=>k o
def u7{ρ:Type}:=shut (acu (ρ:=ρ))
theorem ahi{ρ:Type}(c:Int)(d:Int)(e:Int)(f:Int)(g:Int)(a:Bool)(b:List Int)(h:List Int)(i:List Int)(j:Int)(l:Int)(k:(List Int)→Option ρ):u7 c d e f g a b h i j l k=acu c d e f g a b h i j l k:=by unfold u7;rw[bq]

def aef{ρ:Type}(b c d e f:Int)(a:Bool)(g h i:List Int)(j l:Int)(m:List (List Int))(k:(List Int)→Option ρ):Option ρ:=u7 b c d e f a g h i j l fun n=>dz m fun o=>yc b c d e f a h n o fun p=>k p
def jr{ρ:Type}:=shut (aef (ρ:=ρ))
theorem ajb{ρ:Type}(c:Int)(d:Int)(e:Int)(f:Int)(g:Int)(a:Bool)(b:List Int)(h:List Int)(i:List Int)(j:Int)(l:Int)(m:List (List Int))(k:(List Int)→Option ρ):jr c d e f g a b h i j l m k=aef c d e f g a b h i j l m k:=by unfold jr;rw[bq]

abbrev bzf(ρ:Type):=Int→(List Int)→(List Int)→Int→Int→Int→Int→Int→Int→Int→Bool→(List Int)→(List Int)→(List Int)→Option ρ
def ag1{ρ:Type}(m:Int)(c n:List Int)(l b a d e f g:Int)(h:Bool)(i j k:List Int)(nx o:bzf ρ):Option ρ:=br (decide (b<l)) (br (decide ((0:Int)≤a)) (br (decide (a≤(↑c.length:Int))) (br (decide ((↑c.length:Int)≤(↑c.length:Int))) (br (decide ((0:Int)≤a)) (br (decide (a≤(↑(Ae a.toNat (Ac (↑c.length:Int).toNat c)).length:Int))) (br (decide (b<(0:Int))) none (br (bits BinOp.and Ab (m.fdiv ((2:Int)^min b.toNat 64)) (1:Int)==(1:Int)) (br (decide (Aa.wrap (b+(1:Int))<(0:Int))) none (jr a d e f g h i j k (Aa.wrap (b+(1:Int))) (m.fdiv ((2:Int)^min (Aa.wrap (b+(1:Int))).toNat 64)) [Ae 0 (Ac a.toNat (Ae a.toNat (Ac (↑c.length:Int).toNat c))),n] fun p=>nx m (Ae a.toNat (Ac (↑c.length:Int).toNat c)) p l (Aa.wrap (b+(1:Int))) a d e f g h i j k)) (br (decide (Aa.wrap (b+(1:Int))<(0:Int))) none (jr a d e f g h i j k (Aa.wrap (b+(1:Int))) (m.fdiv ((2:Int)^min (Aa.wrap (b+(1:Int))).toNat 64)) [n,Ae 0 (Ac a.toNat (Ae a.toNat (Ac (↑c.length:Int).toNat c)))] fun q=>nx m (Ae a.toNat (Ac (↑c.length:Int).toNat c)) q l (Aa.wrap (b+(1:Int))) a d e f g h i j k)))) none) none) none) none) none) (o m c n l b a d e f g h i j k)
abbrev bt0:=Int×(List Int)×(List Int)×Int×Int×Int×Int×Int×Int×Int×Bool×(List Int)×(List Int)×(List Int)
abbrev b3j:=bt0
def bx7{ρ:Type}(f:bt0→Option ρ):bzf ρ:=fun m n o k l a b c d e g h i j=>f (m,n,o,k,l,a,b,c,d,e,g,h,i,j)
def bxk{ρ:Type}:ahn bt0 b3j ρ:=fun (l,m,n,j,k,a,b,c,d,e,f,g,h,i) next ex=>ag1 l m n j k a b c d e f g h i (bx7 next) (bx7 ex)
def byt{ρ:Type}:=shut (lp (bxk (ρ:=ρ)))
theorem b4v{ρ:Type}:byt (ρ:=ρ)=lp bxk:=bq _
def bxr{ρ:Type}(f:ahp bt0 b3j ρ)(m:Int)(n o:List Int)(k l a b c d e:Int)(g:Bool)(h i j:List Int)(p:bzf ρ):Option ρ:=f (m,n,o,k,l,a,b,c,d,e,g,h,i,j) (fun (m,n,o,k,l,a,b,c,d,e,g,h,i,j)=>p m n o k l a b c d e g h i j)
def al6{ρ:Type}:=bxr (lp (bxk (ρ:=ρ)))
def alz{ρ:Type}:=bxr (byt (ρ:=ρ))
theorem apu{ρ:Type}:alz (ρ:=ρ)=al6:=congrArg bxr b4v
def afq{ρ:Type}(a e f c g:Int)(b:Bool)(d h i:List Int)(l:Int)(j:List Int)(k:(List Int)→Option ρ):Option ρ:=br (decide (0≤a)) (br (decide (a≤(↑j.length:Int))) (jr a e f c g b d h i 0 l [Ae 0 (Ac a.toNat j)] fun m=>alz l j m c 0 a e f c g b d h i fun t u n v w y z A B o p q r s=>k n) none) none
def su{ρ:Type}:=shut (afq (ρ:=ρ))
theorem al4{ρ:Type}(c:Int)(d:Int)(e:Int)(f:Int)(g:Int)(a:Bool)(b:List Int)(h:List Int)(i:List Int)(j:Int)(l:List Int)(k:(List Int)→Option ρ):su c d e f g a b h i j l k=afq c d e f g a b h i j l k:=by unfold su;rw[bq]

def ae5{ρ:Type}(b c d e f:Int)(a:Bool)(g h i j:List Int)(k:(List Int)→Option ρ):Option ρ:=mg b c d e f a g h i 4 fun l=>yc b c d e f a h l j fun m=>k m
def qm{ρ:Type}:=shut (ae5 (ρ:=ρ))
theorem akm{ρ:Type}(c:Int)(d:Int)(e:Int)(f:Int)(g:Int)(a:Bool)(b:List Int)(h:List Int)(i:List Int)(j:List Int)(k:(List Int)→Option ρ):qm c d e f g a b h i j k=ae5 c d e f g a b h i j k:=by unfold qm;rw[bq]

def aqn{ρ:Type}(c:List Int)(a b:Int)(k:Bool→Option ρ):Option ρ:=br (decide (a≥1)) (br (decide (a≤24)) (br (decide (b≥0)) (br (decide (a=0)) none (k (decide (b≤Aa.wrap ((Aa.wrap ((↑c.length:Int)*8)).tdiv a))))) (k false)) (k false)) (k false)
def acs{ρ:Type}:=shut (aqn (ρ:=ρ))
theorem atm{ρ:Type}(a:List Int)(b:Int)(c:Int)(k:Bool→Option ρ):acs a b c k=aqn a b c k:=by unfold acs;rw[bq]

abbrev b3f(ρ:Type):=(List Int)→Int→Int→Int→Int→Int→Int→(List Int)→Option ρ
def ajz{ρ:Type}(a:List Int)(e g f b c d:Int)(h:List Int)(nx i:b3f ρ):Option ρ:=br (decide (f<e)) (br (decide (0<(↑a.length:Int))) (br (decide (1≤(↑a.length:Int))) (br (decide ((↑a.length:Int)≤(↑a.length:Int))) (nx (Ae 1 (Ac (↑a.length:Int).toNat a)) e (bits BinOp.or Ab (Ab.wrap (g*2^8)) (Ab.wrap (a.getD 0 0))) (Aa.wrap (f+8)) b c d h) none) none) none) (i a e g f b c d h)
abbrev bt5:=(List Int)×Int×Int×Int×Int×Int×Int×(List Int)
abbrev b1z:=bt5
def b2z{ρ:Type}(f:bt5→Option ρ):b3f ρ:=fun d e g h a b c i=>f (d,e,g,h,a,b,c,i)
def bv7{ρ:Type}:ahn bt5 b1z ρ:=fun (d,e,f,g,a,b,c,h) next ex=>ajz d e f g a b c h (b2z next) (b2z ex)
def b1a{ρ:Type}:=shut (lp (bv7 (ρ:=ρ)))
theorem b4u{ρ:Type}:b1a (ρ:=ρ)=lp bv7:=bq _
def bxw{ρ:Type}(f:ahp bt5 b1z ρ)(d:List Int)(e g h a b c:Int)(i:List Int)(j:b3f ρ):Option ρ:=f (d,e,g,h,a,b,c,i) (fun (d,e,g,h,a,b,c,i)=>j d e g h a b c i)
def aoh{ρ:Type}:=bxw (lp (bv7 (ρ:=ρ)))
def aox{ρ:Type}:=bxw (b1a (ρ:=ρ))
theorem ar3{ρ:Type}:aox (ρ:=ρ)=aoh:=congrArg bxw b4u
abbrev b2d(ρ:Type):=(List Int)→Int→Int→Int→Int→Int→(List Int)→Option ρ
def aj0{ρ:Type}(f:List Int)(g h i c a:Int)(j:List Int)(nx m:b2d ρ):Option ρ:=br (decide (a<c)) (aox f g h i a c a j fun n b k d e o p l=>br (decide (Aa.wrap (d-b)<0)) none (br (decide (b<0)) none (br (decide (0≤e)) (br (decide (e<(↑l.length:Int))) (nx n b k (Aa.wrap (d-b)) o (Aa.wrap (p+1)) (l.set e.toNat (Ad.wrap (bits BinOp.and Ab (k.fdiv (2^min (Aa.wrap (d-b)).toNat 64)) (Ab.wrap (Ab.wrap (1*2^min b.toNat 64)-1)))))) none) none))) (m f g h i c a j)
abbrev bu9:=(List Int)×Int×Int×Int×Int×Int×(List Int)
abbrev bzk:=bu9
def bx9{ρ:Type}(f:bu9→Option ρ):b2d ρ:=fun c d e g a b h=>f (c,d,e,g,a,b,h)
def bxm{ρ:Type}:ahn bu9 bzk ρ:=fun (c,d,e,f,a,b,g) next ex=>aj0 c d e f a b g (bx9 next) (bx9 ex)
def b21{ρ:Type}:=shut (lp (bxm (ρ:=ρ)))
theorem b4k{ρ:Type}:b21 (ρ:=ρ)=lp bxm:=bq _
def bwc{ρ:Type}(f:ahp bu9 bzk ρ)(c:List Int)(d e g a b:Int)(h:List Int)(i:b2d ρ):Option ρ:=f (c,d,e,g,a,b,h) (fun (c,d,e,g,a,b,h)=>i c d e g a b h)
def ao3{ρ:Type}:=bwc (lp (bxm (ρ:=ρ)))
def ao6{ρ:Type}:=bwc (b21 (ρ:=ρ))
theorem aro{ρ:Type}:ao6 (ρ:=ρ)=ao3:=congrArg bwc b4k
def ai1{ρ:Type}(b:List Int)(c a:Int)(k:(List Int)→Option ρ):Option ρ:=acs b c a fun d=>br (!d) (k []) (br (decide (0≤a)) (br (decide (a≤a)) (br (decide (a*(↑4:Int)≤(↑140737488355328:Int))) (ao6 b c 0 0 (↑(Af a.toNat (0:Int)).length:Int) 0 (Af a.toNat (0:Int)) fun f g h i j l e=>k e) none) none) none)
def jl{ρ:Type}:=shut (ai1 (ρ:=ρ))
theorem ao0{ρ:Type}(a:List Int)(b:Int)(c:Int)(k:(List Int)→Option ρ):jl a b c k=ai1 a b c k:=by unfold jl;rw[bq]

end P
end
