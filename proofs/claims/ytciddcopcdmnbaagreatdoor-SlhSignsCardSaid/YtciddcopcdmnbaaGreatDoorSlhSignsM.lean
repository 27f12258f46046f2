/-
  SlhSigns, part 13: lemmas for the law.
-/

import Derived.Test.YtciddcopcdmnbaaGreatDoorSlhSignsH
import Derived.Test.YtciddcopcdmnbaaGreatDoorSlhSignsL
import Derived.Test.YtciddcopcdmnbaaGreatDoorSlhSignsI
import Derived.Test.YtciddcopcdmnbaaGreatDoorSlhSignsK
open Go.IntKind renaming i64 → Aa, u64 → Ab, u8 → Ae, u32 → Ag
open List renaming take → Ac, drop → Ad, replicate → Af

noncomputable section
open Go Go.Abs
set_option linter.unusedVariables false
namespace P

abbrev cgk(ρ:Type):=Bool→Int→Int→Int→(List Int)→(List Int)→(List Int)→(List Int)→(List Int)→(List Int)→Option ρ
def ahi{ρ:Type}(i:Bool)(j c b:Int)(g h d e f a:List Int)(nx m:cgk ρ):Option ρ:=br (decide (b<j)) (abe (a.getD 0 0) 2 13 22 false false fun n=>abe (a.getD 4 0) 6 11 25 false false fun k=>br i (abe (a.getD 0 0) 28 34 39 false true fun o=>abe (a.getD 4 0) 14 18 41 false true fun l=>br (decide (0≤b)) (br (decide (b<(↑80:Int))) (br (decide (0≤b)) (br (decide (b<(↑f.length:Int))) (nx i j c (Aa.wrap (b+1)) g h d e f [bits BinOp.and Ab (Ab.wrap (Ab.wrap (Ab.wrap (Ab.wrap (Ab.wrap (a.getD 7 0+l)+bits BinOp.xor Ab (bits BinOp.and Ab (a.getD 4 0) (a.getD 5 0)) (bits BinOp.and Ab (bits BinOp.xor Ab c (a.getD 4 0)) (a.getD 6 0)))+e.getD b.toNat 0)+f.getD b.toNat 0)+Ab.wrap (o+bits BinOp.xor Ab (bits BinOp.xor Ab (bits BinOp.and Ab (a.getD 0 0) (a.getD 1 0)) (bits BinOp.and Ab (a.getD 0 0) (a.getD 2 0))) (bits BinOp.and Ab (a.getD 1 0) (a.getD 2 0))))) c,a.getD 0 0,a.getD 1 0,a.getD 2 0,bits BinOp.and Ab (Ab.wrap (a.getD 3 0+Ab.wrap (Ab.wrap (Ab.wrap (Ab.wrap (a.getD 7 0+l)+bits BinOp.xor Ab (bits BinOp.and Ab (a.getD 4 0) (a.getD 5 0)) (bits BinOp.and Ab (bits BinOp.xor Ab c (a.getD 4 0)) (a.getD 6 0)))+e.getD b.toNat 0)+f.getD b.toNat 0))) c,a.getD 4 0,a.getD 5 0,a.getD 6 0]) none) none) none) none) (br (decide (0≤b)) (br (decide (b<(↑64:Int))) (br (decide (0≤b)) (br (decide (b<(↑f.length:Int))) (nx i j c (Aa.wrap (b+1)) g h d e f [bits BinOp.and Ab (Ab.wrap (Ab.wrap (Ab.wrap (Ab.wrap (Ab.wrap (a.getD 7 0+k)+bits BinOp.xor Ab (bits BinOp.and Ab (a.getD 4 0) (a.getD 5 0)) (bits BinOp.and Ab (bits BinOp.xor Ab c (a.getD 4 0)) (a.getD 6 0)))+d.getD b.toNat 0)+f.getD b.toNat 0)+Ab.wrap (n+bits BinOp.xor Ab (bits BinOp.xor Ab (bits BinOp.and Ab (a.getD 0 0) (a.getD 1 0)) (bits BinOp.and Ab (a.getD 0 0) (a.getD 2 0))) (bits BinOp.and Ab (a.getD 1 0) (a.getD 2 0))))) c,a.getD 0 0,a.getD 1 0,a.getD 2 0,bits BinOp.and Ab (Ab.wrap (a.getD 3 0+Ab.wrap (Ab.wrap (Ab.wrap (Ab.wrap (a.getD 7 0+k)+bits BinOp.xor Ab (bits BinOp.and Ab (a.getD 4 0) (a.getD 5 0)) (bits BinOp.and Ab (bits BinOp.xor Ab c (a.getD 4 0)) (a.getD 6 0)))+d.getD b.toNat 0)+f.getD b.toNat 0))) c,a.getD 4 0,a.getD 5 0,a.getD 6 0]) none) none) none) none)) (m i j c b g h d e f a)
abbrev b5u:=Bool×Int×Int×Int×(List Int)×(List Int)×(List Int)×(List Int)×(List Int)×(List Int)
abbrev cll:=b5u
def cb1{ρ:Type}(f:b5u→Option ρ):cgk ρ:=fun h i j g a b c d k e=>f (h,i,j,g,a,b,c,d,k,e)
def b8s{ρ:Type}:ab5 b5u cll ρ:=fun (g,h,i,f,a,b,c,d,j,e) next ex=>ahi g h i f a b c d j e (cb1 next) (cb1 ex)
def coi{ρ:Type}:=shut (lp (b8s (ρ:=ρ)))
theorem csf{ρ:Type}:coi (ρ:=ρ)=lp b8s:=bg _
def b72{ρ:Type}(f:ab6 b5u cll ρ)(h:Bool)(i j g:Int)(a b c d k e:List Int)(l:cgk ρ):Option ρ:=f (h,i,j,g,a,b,c,d,k,e) (fun (h,i,j,g,a,b,c,d,k,e)=>l h i j g a b c d k e)
def apf{ρ:Type}:=b72 (lp (b8s (ρ:=ρ)))
def ag2{ρ:Type}:=b72 (coi (ρ:=ρ))
theorem ard{ρ:Type}:ag2 (ρ:=ρ)=apf:=congrArg b72 csf
abbrev cju(ρ:Type):=Int→Int→(List Int)→(List Int)→(List Int)→Option ρ
def agv{ρ:Type}(e a:Int)(b d c:List Int)(nx f:cju ρ):Option ρ:=br (decide (a<8)) (br (decide (0≤a)) (br (decide (a<(↑8:Int))) (br (decide (0≤a)) (br (decide (a<(↑8:Int))) (br (decide (0≤a)) (br (decide (a<(↑8:Int))) (nx e (Aa.wrap (a+1)) b d (c.set a.toNat (bits BinOp.and Ab (Ab.wrap (c.getD a.toNat 0+b.getD a.toNat 0)) e))) none) none) none) none) none) none) (f e a b d c)
abbrev b8l:=Int×Int×(List Int)×(List Int)×(List Int)
abbrev cln:=b8l
def ca9{ρ:Type}(f:b8l→Option ρ):cju ρ:=fun e d a b c=>f (e,d,a,b,c)
def b6j{ρ:Type}:ab5 b8l cln ρ:=fun (e,d,a,b,c) next ex=>agv e d a b c (ca9 next) (ca9 ex)
def cm5{ρ:Type}:=shut (lp (b6j (ρ:=ρ)))
theorem cr6{ρ:Type}:cm5 (ρ:=ρ)=lp b6j:=bg _
def b6w{ρ:Type}(f:ab6 b8l cln ρ)(e d:Int)(a b c:List Int)(g:cju ρ):Option ρ:=f (e,d,a,b,c) (fun (e,d,a,b,c)=>g e d a b c)
def ao7{ρ:Type}:=b6w (lp (b6j (ρ:=ρ)))
def ahn{ρ:Type}:=b6w (cm5 (ρ:=ρ))
theorem arb{ρ:Type}:ahn (ρ:=ρ)=ao7:=congrArg b6w cr6
def ako{ρ:Type}(b c:List Int)(a:Bool)(k:(List Int)→Option ρ):Option ρ:=aa0 fun d=>aaz fun e=>br a (aek c a 80 18446744073709551615 fun o=>ag2 a 80 18446744073709551615 0 b [0,0,0,0,0,0,0,0] d e o b fun N O p Q q r U s t f=>ahn p 0 q r f fun u v w y g=>k g) (aek c a 64 4294967295 fun h=>ag2 a 64 4294967295 0 b [0,0,0,0,0,0,0,0] d e h b fun z A i B j l C F G m=>ahn i 0 j l m fun H I J M n=>k n)
def afu{ρ:Type}:=shut (ako (ρ:=ρ))
theorem atn{ρ:Type}(a:List Int)(b:List Int)(c:Bool)(k:(List Int)→Option ρ):afu a b c k=ako a b c k:=by unfold afu;rw[bg]

abbrev ckf(ρ:Type):=Int→(List Int)→Int→(List Int)→(List Int)→Int→Int→(List Int)→Int→Option ρ
def aow{ρ:Type}(a:Int)(b:List Int)(c:Int)(d e:List Int)(f g:Int)(h:List Int)(i:Int)(nx j:ckf ρ):Option ρ:=br (decide ((↑b.length:Int)≥a)) (br (decide (0≤a)) (br (decide (a≤(↑b.length:Int))) (afu d (Ad 0 (Ac a.toNat b)) (a==128) fun k=>br (decide (0≤a)) (br (decide (a≤(↑b.length:Int))) (br (decide ((↑b.length:Int)≤(↑b.length:Int))) (nx a (Ad a.toNat (Ac (↑b.length:Int).toNat b)) c k e f g h i) none) none) none) none) none) (j a b c d e f g h i)
abbrev b77:=Int×(List Int)×Int×(List Int)×(List Int)×Int×Int×(List Int)×Int
abbrev ckz:=b77
def cdn{ρ:Type}(f:b77→Option ρ):ckf ρ:=fun i j a b c d e g h=>f (i,j,a,b,c,d,e,g,h)
def b7x{ρ:Type}:ab5 b77 ckz ρ:=fun (h,i,a,b,c,d,e,f,g) next ex=>aow h i a b c d e f g (cdn next) (cdn ex)
def coo{ρ:Type}:=shut (lp (b7x (ρ:=ρ)))
theorem cqv{ρ:Type}:coo (ρ:=ρ)=lp b7x:=bg _
def b9y{ρ:Type}(f:ab6 b77 ckz ρ)(i:Int)(j:List Int)(a:Int)(b c:List Int)(d e:Int)(g:List Int)(h:Int)(k:ckf ρ):Option ρ:=f (i,j,a,b,c,d,e,g,h) (fun (i,j,a,b,c,d,e,g,h)=>k i j a b c d e g h)
def bas{ρ:Type}:=b9y (lp (b7x (ρ:=ρ)))
def aul{ρ:Type}:=b9y (coo (ρ:=ρ))
theorem ayc{ρ:Type}:aul (ρ:=ρ)=bas:=congrArg b9y cqv
def av6{ρ:Type}(a:Int)(c b:List Int)(d:Int)(e:List Int)(k:Int→(List Int)→(List Int)→Int→Option ρ):Option ρ:=zf a fun f=>iy [b,e] fun g=>aul f g a c b (Ab.wrap (d+Ab.wrap (↑e.length:Int))) 0 [0,0,0,0,0,0,0,0] 0 fun n h i j o l p q m=>k i j h l
def aeu{ρ:Type}:=shut (av6 (ρ:=ρ))
theorem bi8{ρ:Type}(b:Int)(a:List Int)(c:List Int)(d:Int)(e:List Int)(k:Int→(List Int)→(List Int)→Int→Option ρ):aeu b a c d e k=av6 b a c d e k:=by unfold aeu;rw[bg]

abbrev b3a(ρ:Type):=Int→Int→(List Int)→Int→(List Int)→(List Int)→Int→Option ρ
def az4{ρ:Type}(c g:Int)(b:List Int)(d:Int)(e a:List Int)(f:Int)(nx h:b3a ρ):Option ρ:=br (decide (c=0)) none (br ((Aa.wrap ((↑a.length:Int)+(↑b.length:Int))).tmod c !=Aa.wrap (c-8)) (br (decide ((b.length+1)*1≤140737488355328)) (nx c g (b++[0]) d e a f) none) (h c g b d e a f))
abbrev b55:=Int×Int×(List Int)×Int×(List Int)×(List Int)×Int
abbrev cm1:=b55
def cou{ρ:Type}(f:b55→Option ρ):b3a ρ:=fun g h e a b c d=>f (g,h,e,a,b,c,d)
def cdh{ρ:Type}:ab5 b55 cm1 ρ:=fun (f,g,e,a,b,c,d) next ex=>az4 f g e a b c d (cou next) (cou ex)
def cgn{ρ:Type}:=shut (lp (cdh (ρ:=ρ)))
theorem cp7{ρ:Type}:cgn (ρ:=ρ)=lp cdh:=bg _
def ccl{ρ:Type}(f:ab6 b55 cm1 ρ)(g h:Int)(e:List Int)(a:Int)(b c:List Int)(d:Int)(i:b3a ρ):Option ρ:=f (g,h,e,a,b,c,d) (fun (g,h,e,a,b,c,d)=>i g h e a b c d)
def bjq{ρ:Type}:=ccl (lp (cdh (ρ:=ρ)))
def az2{ρ:Type}:=ccl (cgn (ρ:=ρ))
theorem bmy{ρ:Type}:az2 (ρ:=ρ)=bjq:=congrArg ccl cp7
abbrev zc67(ρ:Type):=Int→Int→(List Int)→Int→(List Int)→(List Int)→Int→Option ρ
def ba5{ρ:Type}(c g:Int)(b:List Int)(d:Int)(e a:List Int)(f:Int)(nx h:b3a ρ):Option ρ:=br (decide (c=0)) none (br ((Aa.wrap ((↑a.length:Int)+(↑b.length:Int))).tmod c !=Aa.wrap (c-16)) (br (decide ((b.length+1)*1≤140737488355328)) (nx c g (b++[0]) d e a f) none) (h c g b d e a f))
abbrev b7k:=Int×Int×(List Int)×Int×(List Int)×(List Int)×Int
abbrev cj4:=b7k
def cfv{ρ:Type}(f:b7k→Option ρ):zc67 ρ:=fun g h e a b c d=>f (g,h,e,a,b,c,d)
def cdb{ρ:Type}:ab5 b7k cj4 ρ:=fun (f,g,e,a,b,c,d) next ex=>ba5 f g e a b c d (cfv next) (cfv ex)
def ck0{ρ:Type}:=shut (lp (cdb (ρ:=ρ)))
theorem cq7{ρ:Type}:ck0 (ρ:=ρ)=lp cdb:=bg _
def cbg{ρ:Type}(f:ab6 b7k cj4 ρ)(g h:Int)(e:List Int)(a:Int)(b c:List Int)(d:Int)(i:b3a ρ):Option ρ:=f (g,h,e,a,b,c,d) (fun (g,h,e,a,b,c,d)=>i g h e a b c d)
def bkv{ρ:Type}:=cbg (lp (cdb (ρ:=ρ)))
def ba1{ρ:Type}:=cbg (ck0 (ρ:=ρ))
theorem blv{ρ:Type}:ba1 (ρ:=ρ)=bkv:=congrArg cbg cq7
abbrev zc68(ρ:Type):=Int→Int→(List Int)→Int→(List Int)→(List Int)→Int→Option ρ
def awh{ρ:Type}(g c:Int)(a:List Int)(d:Int)(b e:List Int)(f:Int)(nx i:b3a ρ):Option ρ:=br (decide (c<8)) (br (decide (0≤c)) (br (decide (c<(↑8:Int))) (yx (b.getD c.toNat 0) (Aa.wrap (g.tdiv 16)) fun h=>br (decide ((a.length+h.length)*1≤140737488355328)) (nx g (Aa.wrap (c+1)) (a++h) d b e f) none) none) none) (i g c a d b e f)
abbrev b8b:=Int×Int×(List Int)×Int×(List Int)×(List Int)×Int
abbrev chw:=b8b
def chp{ρ:Type}(f:b8b→Option ρ):zc68 ρ:=fun g h a b c d e=>f (g,h,a,b,c,d,e)
def ccv{ρ:Type}:ab5 b8b chw ρ:=fun (f,g,a,b,c,d,e) next ex=>awh f g a b c d e (chp next) (chp ex)
def chv{ρ:Type}:=shut (lp (ccv (ρ:=ρ)))
theorem crz{ρ:Type}:chv (ρ:=ρ)=lp ccv:=bg _
def cdu{ρ:Type}(f:ab6 b8b chw ρ)(g h:Int)(a:List Int)(b:Int)(c d:List Int)(e:Int)(i:b3a ρ):Option ρ:=f (g,h,a,b,c,d,e) (fun (g,h,a,b,c,d,e)=>i g h a b c d e)
def bf7{ρ:Type}:=cdu (lp (ccv (ρ:=ρ)))
def aqf{ρ:Type}:=cdu (chv (ρ:=ρ))
theorem biq{ρ:Type}:aqf (ρ:=ρ)=bf7:=congrArg cdu crz
def axz{ρ:Type}(a:Int)(c d:List Int)(b:Int)(k:(List Int)→Option ρ):Option ρ:=zf a fun J=>az2 J (Ab.wrap (b*8)) [128] a c d b fun m n o p q r s=>br (m==128) (ba1 m n [128] p q r s fun M N e t u v i=>yx (i.fdiv (2^61)) 8 fun f=>br (decide ((e.length+f.length)*1≤140737488355328)) (yx N 8 fun j=>br (decide (((e++f).length+j.length)*1≤140737488355328)) (aeu t u v i (e++f++j) fun w y z A=>aqf M 0 [] w y z A fun O Q g B U W Z=>br (B==2) (br (decide (48≤(↑g.length:Int))) (k (Ac ((48:Int)-(0:Int)).toNat g)) none) (k g)) none) none) (yx n 8 fun l=>br (decide ((o.length+l.length)*1≤140737488355328)) (aeu p q r s (o++l) fun C F G H=>aqf m 0 [] C F G H fun aa ab h I ac ad ae=>br (I==2) (br (decide (48≤(↑h.length:Int))) (k (Ac ((48:Int)-(0:Int)).toNat h)) none) (k h)) none)
def al4{ρ:Type}:=shut (axz (ρ:=ρ))
theorem bj5{ρ:Type}(b:Int)(a:List Int)(c:List Int)(d:Int)(k:(List Int)→Option ρ):al4 b a c d k=axz b a c d k:=by unfold al4;rw[bg]

def awg{ρ:Type}(b:Int)(c:List Int)(k:(List Int)→Int→Option ρ):Option ρ:=alf b fun d e f g a=>br (a !=0) (k [] a) (aeu d e f g c fun h i j l=>al4 h i j l fun m=>k m 0)
def abr{ρ:Type}:=shut (awg (ρ:=ρ))
theorem bk6{ρ:Type}(a:Int)(b:List Int)(k:(List Int)→Int→Option ρ):abr a b k=awg a b k:=by unfold abr;rw[bg]

def atf{ρ:Type}(a c d e f:Int)(b:Bool)(k:Int→Option ρ):Option ρ:=br (a==16) (k 1) (k 3)
def afb{ρ:Type}:=shut (atf (ρ:=ρ))
theorem bf6{ρ:Type}(b:Int)(c:Int)(d:Int)(e:Int)(f:Int)(a:Bool)(k:Int→Option ρ):afb b c d e f a k=atf b c d e f a k:=by unfold afb;rw[bg]

def ate{ρ:Type}(a:Int)(k:Int→Option ρ):Option ρ:=br (decide (a<0)) (k 0) (br (decide (a>7)) (k 0) (br (decide (0≤a)) (br (decide (a<(↑8:Int))) (k ([(0:Int),(32:Int),(48:Int),(64:Int),(32:Int),(64:Int),(32:Int),(64:Int)].getD a.toNat 0)) none) none))
def ae9{ρ:Type}:=shut (ate (ρ:=ρ))
theorem bf2{ρ:Type}(a:Int)(k:Int→Option ρ):ae9 a k=ate a k:=by unfold ae9;rw[bg]

def anz{ρ:Type}(a:Int)(b:List Int)(k:(List Int)→Int→Option ρ):Option ρ:=ae9 a fun c=>br (c==0) (k [] 9) (br (decide (a≤3)) (abr a b fun d e=>k d e) (ae9 a fun f=>abk a b f fun g h=>k g h))
def sw{ρ:Type}:=shut (anz (ρ:=ρ))
theorem ax5{ρ:Type}(a:Int)(b:List Int)(k:(List Int)→Int→Option ρ):sw a b k=anz a b k:=by unfold sw;rw[bg]

abbrev cir(ρ:Type):=Int→(List Int)→Int→Int→(List Int)→Option ρ
def axc{ρ:Type}(b:Int)(c:List Int)(d e:Int)(a:List Int)(nx g:cir ρ):Option ρ:=br (decide ((↑a.length:Int)<d)) (yx e 4 fun h=>iy [c,h] fun i=>sw b i fun f j=>br (decide ((a.length+f.length)*1≤140737488355328)) (nx b c d (Ab.wrap (e+1)) (a++f)) none) (g b c d e a)
abbrev b62:=Int×(List Int)×Int×Int×(List Int)
abbrev cj9:=b62
def cjz{ρ:Type}(f:b62→Option ρ):cir ρ:=fun a b c d e=>f (a,b,c,d,e)
def cbh{ρ:Type}:ab5 b62 cj9 ρ:=fun (a,b,c,d,e) next ex=>axc a b c d e (cjz next) (cjz ex)
def cga{ρ:Type}:=shut (lp (cbh (ρ:=ρ)))
theorem cqe{ρ:Type}:cga (ρ:=ρ)=lp cbh:=bg _
def cek{ρ:Type}(f:ab6 b62 cj9 ρ)(a:Int)(b:List Int)(c d:Int)(e:List Int)(g:cir ρ):Option ρ:=f (a,b,c,d,e) (fun (a,b,c,d,e)=>g a b c d e)
def bhg{ρ:Type}:=cek (lp (cbh (ρ:=ρ)))
def bhx{ρ:Type}:=cek (cga (ρ:=ρ))
theorem bir{ρ:Type}:bhx (ρ:=ρ)=bhg:=congrArg cek cqe
def asi{ρ:Type}(a:Int)(e:List Int)(b:Int)(k:(List Int)→Int→Option ρ):Option ρ:=br (decide (a<1)) (k [] 9) (br (decide (a>3)) (k [] 9) (br (decide (b<0)) (k [] 8) (br (decide (b>1048576)) (k [] 8) (bhx a e b 0 [] fun f g c h d=>br (decide (0≤c)) (br (decide (c≤(↑d.length:Int))) (k (Ac (c-0).toNat (Ad 0 d)) 0) none) none))))
def agl{ρ:Type}:=shut (asi (ρ:=ρ))
theorem bet{ρ:Type}(a:Int)(b:List Int)(c:Int)(k:(List Int)→Int→Option ρ):agl a b c k=asi a b c k:=by unfold agl;rw[bg]

def anv{ρ:Type}(h a b i j:Int)(f:Bool)(n l o:List Int)(k:(List Int)→Int→Int→Option ρ):Option ρ:=br (decide (b=0)) none (aax h a b i j f fun G c=>ab9 (Aa.wrap (a-Aa.wrap (a.tdiv b))) fun e=>ab9 (Aa.wrap (a.tdiv b)) fun p=>br f (iy [n,l,o] fun z=>abk 7 z (Aa.wrap (Aa.wrap (c+e)+p)) fun g H=>br (decide (0≤c)) (br (decide (c≤Aa.wrap (c+e))) (br (decide (Aa.wrap (c+e)≤(↑g.length:Int))) (wm (Ac (Aa.wrap (c+e)-c).toNat (Ad c.toNat g)) fun q=>br (decide (Aa.wrap (a-Aa.wrap (a.tdiv b))<64)) (br (decide (Aa.wrap (a-Aa.wrap (a.tdiv b))<0)) none (br (decide (Ab.wrap (1*2^min (Aa.wrap (a-Aa.wrap (a.tdiv b))).toNat 64)=0)) none (br (decide (0≤c)) (br (decide (c≤(↑g.length:Int))) (br (decide (0≤Aa.wrap (c+e))) (br (decide (Aa.wrap (c+e)≤(↑g.length:Int))) (br (decide ((↑g.length:Int)≤(↑g.length:Int))) (wm (Ac ((↑g.length:Int)-Aa.wrap (c+e)).toNat (Ad (Aa.wrap (c+e)).toNat g)) fun A=>br (decide (Aa.wrap (a.tdiv b)<0)) none (br (decide (Ab.wrap (1*2^min (Aa.wrap (a.tdiv b)).toNat 64)=0)) none (k (Ac (c-0).toNat (Ad 0 g)) (q.tmod (Ab.wrap (1*2^min (Aa.wrap (a-Aa.wrap (a.tdiv b))).toNat 64))) (A.tmod (Ab.wrap (1*2^min (Aa.wrap (a.tdiv b)).toNat 64)))))) none) none) none) none) none))) (br (decide (0≤c)) (br (decide (c≤(↑g.length:Int))) (br (decide (0≤Aa.wrap (c+e))) (br (decide (Aa.wrap (c+e)≤(↑g.length:Int))) (br (decide ((↑g.length:Int)≤(↑g.length:Int))) (wm (Ac ((↑g.length:Int)-Aa.wrap (c+e)).toNat (Ad (Aa.wrap (c+e)).toNat g)) fun B=>br (decide (Aa.wrap (a.tdiv b)<0)) none (br (decide (Ab.wrap (1*2^min (Aa.wrap (a.tdiv b)).toNat 64)=0)) none (k (Ac (c-0).toNat (Ad 0 g)) q (B.tmod (Ab.wrap (1*2^min (Aa.wrap (a.tdiv b)).toNat 64)))))) none) none) none) none) none)) none) none) none) (afb h a b i j f fun r=>iy [n,l,o] fun s=>abr r s fun t C=>afb h a b i j f fun u=>br (decide (0≤h)) (br (decide (h≤(↑l.length:Int))) (iy [n,Ad 0 (Ac h.toNat l),t] fun v=>agl u v (Aa.wrap (Aa.wrap (c+e)+p)) fun d F=>br (decide (0≤c)) (br (decide (c≤Aa.wrap (c+e))) (br (decide (Aa.wrap (c+e)≤(↑d.length:Int))) (wm (Ad c.toNat (Ac (Aa.wrap (c+e)).toNat d)) fun m=>br (decide (Aa.wrap (a-Aa.wrap (a.tdiv b))<64)) (br (decide (Aa.wrap (a-Aa.wrap (a.tdiv b))<0)) none (br (decide (Ab.wrap (1*2^min (Aa.wrap (a-Aa.wrap (a.tdiv b))).toNat 64)=0)) none (br (decide (0≤c)) (br (decide (c≤(↑d.length:Int))) (br (decide (0≤Aa.wrap (c+e))) (br (decide (Aa.wrap (c+e)≤(↑d.length:Int))) (br (decide ((↑d.length:Int)≤(↑d.length:Int))) (wm (Ad (Aa.wrap (c+e)).toNat (Ac (↑d.length:Int).toNat d)) fun w=>br (decide (Aa.wrap (a.tdiv b)<0)) none (br (decide (Ab.wrap (1*2^min (Aa.wrap (a.tdiv b)).toNat 64)=0)) none (k (Ad 0 (Ac c.toNat d)) (m.tmod (Ab.wrap (1*2^min (Aa.wrap (a-Aa.wrap (a.tdiv b))).toNat 64))) (w.tmod (Ab.wrap (1*2^min (Aa.wrap (a.tdiv b)).toNat 64)))))) none) none) none) none) none))) (br (decide (0≤c)) (br (decide (c≤(↑d.length:Int))) (br (decide (0≤Aa.wrap (c+e))) (br (decide (Aa.wrap (c+e)≤(↑d.length:Int))) (br (decide ((↑d.length:Int)≤(↑d.length:Int))) (wm (Ad (Aa.wrap (c+e)).toNat (Ac (↑d.length:Int).toNat d)) fun y=>br (decide (Aa.wrap (a.tdiv b)<0)) none (br (decide (Ab.wrap (1*2^min (Aa.wrap (a.tdiv b)).toNat 64)=0)) none (k (Ad 0 (Ac c.toNat d)) m (y.tmod (Ab.wrap (1*2^min (Aa.wrap (a.tdiv b)).toNat 64)))))) none) none) none) none) none)) none) none) none) none) none))
def ae6{ρ:Type}:=shut (anv (ρ:=ρ))
theorem ayk{ρ:Type}(b:Int)(c:Int)(d:Int)(e:Int)(f:Int)(a:Bool)(g:List Int)(h:List Int)(i:List Int)(k:(List Int)→Int→Int→Option ρ):ae6 b c d e f a g h i k=anv b c d e f a g h i k:=by unfold ae6;rw[bg]

def ao8{ρ:Type}(b a:List Int)(k:(List Int)→Option ρ):Option ρ:=iy [[0,Ae.wrap (↑a.length:Int)],a,b] fun c=>k c
def aht{ρ:Type}:=shut (ao8 (ρ:=ρ))
theorem bcb{ρ:Type}(a:List Int)(b:List Int)(k:(List Int)→Option ρ):aht a b k=ao8 a b k:=by unfold aht;rw[bg]

def bbj{ρ:Type}(c:List Int)(a b:Int)(k:Bool→Option ρ):Option ρ:=br (decide (a≥1)) (br (decide (a≤24)) (br (decide (b≥0)) (br (decide (a=0)) none (k (decide (b≤Aa.wrap ((Aa.wrap ((↑c.length:Int)*8)).tdiv a))))) (k false)) (k false)) (k false)
def ahc{ρ:Type}:=shut (bbj (ρ:=ρ))
theorem bf9{ρ:Type}(a:List Int)(b:Int)(c:Int)(k:Bool→Option ρ):ahc a b c k=bbj a b c k:=by unfold ahc;rw[bg]

abbrev cfu(ρ:Type):=(List Int)→Int→Int→Int→Int→Int→(List Int)→Option ρ
def ao6{ρ:Type}(d:List Int)(b e c f a:Int)(g:List Int)(nx h:cfu ρ):Option ρ:=br (decide (a<b)) (br (decide (0≤Aa.wrap ((Aa.wrap (Aa.wrap (c*b)+a)).tdiv 8))) (br (decide (Aa.wrap ((Aa.wrap (Aa.wrap (c*b)+a)).tdiv 8)<(↑d.length:Int))) (br (decide (Aa.wrap (7-(Aa.wrap (Aa.wrap (c*b)+a)).tmod 8)<0)) none (nx d b e c (Ag.wrap (Ag.wrap (f*2)+Ag.wrap (bits BinOp.and Ae ((d.getD (Aa.wrap ((Aa.wrap (Aa.wrap (c*b)+a)).tdiv 8)).toNat 0).fdiv (2^min (Aa.wrap (7-(Aa.wrap (Aa.wrap (c*b)+a)).tmod 8)).toNat 8)) 1))) (Aa.wrap (a+1)) g)) none) none) (h d b e c f a g)
abbrev b56:=(List Int)×Int×Int×Int×Int×Int×(List Int)
abbrev cnk:=b56
def cid{ρ:Type}(f:b56→Option ρ):cfu ρ:=fun b c d e g a h=>f (b,c,d,e,g,a,h)
def ccg{ρ:Type}:ab5 b56 cnk ρ:=fun (b,c,d,e,f,a,g) next ex=>ao6 b c d e f a g (cid next) (cid ex)
def cjk{ρ:Type}:=shut (lp (ccg (ρ:=ρ)))
theorem crp{ρ:Type}:cjk (ρ:=ρ)=lp ccg:=bg _
def cbp{ρ:Type}(f:ab6 b56 cnk ρ)(b:List Int)(c d e g a:Int)(h:List Int)(i:cfu ρ):Option ρ:=f (b,c,d,e,g,a,h) (fun (b,c,d,e,g,a,h)=>i b c d e g a h)
def ays{ρ:Type}:=cbp (lp (ccg (ρ:=ρ)))
def ayi{ρ:Type}:=cbp (cjk (ρ:=ρ))
theorem bdn{ρ:Type}:ayi (ρ:=ρ)=ays:=congrArg cbp crp
abbrev chi(ρ:Type):=(List Int)→Int→Int→Int→(List Int)→Option ρ
def apu{ρ:Type}(c:List Int)(d a b:Int)(e:List Int)(nx g:chi ρ):Option ρ:=br (decide (b<a)) (ayi c d a b 0 0 e fun h i j k l m f=>br (decide ((f.length+1)*4≤140737488355328)) (nx h i j (Aa.wrap (k+1)) (f++[l])) none) (g c d a b e)
abbrev b6v:=(List Int)×Int×Int×Int×(List Int)
abbrev cie:=b6v
def clg{ρ:Type}(f:b6v→Option ρ):chi ρ:=fun a b c d e=>f (a,b,c,d,e)
def cdz{ρ:Type}:ab5 b6v cie ρ:=fun (a,b,c,d,e) next ex=>apu a b c d e (clg next) (clg ex)
def cjx{ρ:Type}:=shut (lp (cdz (ρ:=ρ)))
theorem csa{ρ:Type}:cjx (ρ:=ρ)=lp cdz:=bg _
def ca6{ρ:Type}(f:ab6 b6v cie ρ)(a:List Int)(b c d:Int)(e:List Int)(g:chi ρ):Option ρ:=f (a,b,c,d,e) (fun (a,b,c,d,e)=>g a b c d e)
def azp{ρ:Type}:=ca6 (lp (cdz (ρ:=ρ)))
def ayq{ρ:Type}:=ca6 (cjx (ρ:=ρ))
theorem bdp{ρ:Type}:ayq (ρ:=ρ)=azp:=congrArg ca6 csa
def anm{ρ:Type}(a:List Int)(b c:Int)(k:(List Int)→Option ρ):Option ρ:=ahc a b c fun d=>br (!d) (k []) (ayq a b c 0 [] fun f g h i e=>k e)
def pq{ρ:Type}:=shut (anm (ρ:=ρ))
theorem ax4{ρ:Type}(a:List Int)(b:Int)(c:Int)(k:(List Int)→Option ρ):pq a b c k=anm a b c k:=by unfold pq;rw[bg]

def apl{ρ:Type}(a:List Int)(k:(List Int)→Option ρ):Option ρ:=iy [Ac 1 (Ad 3 a),Ac 8 (Ad 8 a),Ac 1 (Ad 19 a),Ac 12 (Ad 20 a)] fun b=>k b
def ab0{ρ:Type}:=shut (apl (ρ:=ρ))
theorem bct{ρ:Type}(a:List Int)(k:(List Int)→Option ρ):ab0 a k=apl a k:=by unfold ab0;rw[bg]

def awz{ρ:Type}(a h i j l:Int)(b:Bool)(c e d:List Int)(k:(List Int)→Option ρ):Option ρ:=br ((↑c.length:Int) !=a) (k []) (kg a h i j l b fun p=>br (!p) (k []) (br b (iy [c,Ac 32 (Ad 0 e),d] fun q=>abk 7 q a fun r z=>k r) (br (decide (a>16)) (br (decide ((↑d.length:Int)>a)) (br (decide (0≤Aa.wrap (128-a))) (br (decide (Aa.wrap (128-a)≤Aa.wrap (128-a))) (br (decide (Aa.wrap (128-a)*(↑1:Int)≤(↑140737488355328:Int))) (ab0 e fun s=>iy [c,Af (Aa.wrap (128-a)).toNat (0:Int),s,d] fun t=>abr 3 t fun m A=>br (decide (0≤a)) (br (decide (a≤(↑m.length:Int))) (k (Ac (a-0).toNat (Ad 0 m))) none) none) none) none) none) (br (decide (0≤Aa.wrap (64-a))) (br (decide (Aa.wrap (64-a)≤Aa.wrap (64-a))) (br (decide (Aa.wrap (64-a)*(↑1:Int)≤(↑140737488355328:Int))) (ab0 e fun u=>iy [c,Af (Aa.wrap (64-a)).toNat (0:Int),u,d] fun v=>abr 1 v fun f w=>br (decide (0≤a)) (br (decide (a≤(↑f.length:Int))) (k (Ac (a-0).toNat (Ad 0 f))) none) none) none) none) none)) (br (decide (0≤Aa.wrap (64-a))) (br (decide (Aa.wrap (64-a)≤Aa.wrap (64-a))) (br (decide (Aa.wrap (64-a)*(↑1:Int)≤(↑140737488355328:Int))) (ab0 e fun n=>iy [c,Af (Aa.wrap (64-a)).toNat (0:Int),n,d] fun o=>abr 1 o fun g y=>br (decide (0≤a)) (br (decide (a≤(↑g.length:Int))) (k (Ac (a-0).toNat (Ad 0 g))) none) none) none) none) none))))
def su{ρ:Type}:=shut (awz (ρ:=ρ))
theorem bja{ρ:Type}(b:Int)(c:Int)(d:Int)(e:Int)(f:Int)(a:Bool)(g:List Int)(h:List Int)(i:List Int)(k:(List Int)→Option ρ):su b c d e f a g h i k=awz b c d e f a g h i k:=by unfold su;rw[bg]

abbrev cg2(ρ:Type):=Int→(List Int)→Int→(List Int)→(List Int)→Option ρ
def bag{ρ:Type}(b:Int)(c:List Int)(a:Int)(d e:List Int)(nx f:cg2 ρ):Option ρ:=br (decide (a<(↑c.length:Int))) (br (decide (0≤a)) (br (decide (a<(↑c.length:Int))) (br (decide (0≤Aa.wrap (b+a))) (br (decide (Aa.wrap (b+a)<(↑32:Int))) (nx b c (Aa.wrap (a+1)) (d.set (Aa.wrap (b+a)).toNat (c.getD a.toNat 0)) e) none) none) none) none) (f b c a d e)
abbrev b71:=Int×(List Int)×Int×(List Int)×(List Int)
abbrev cij:=b71
def clw{ρ:Type}(f:b71→Option ρ):cg2 ρ:=fun c d e a b=>f (c,d,e,a,b)
def cb4{ρ:Type}:ab5 b71 cij ρ:=fun (c,d,e,a,b) next ex=>bag c d e a b (clw next) (clw ex)
def cov{ρ:Type}:=shut (lp (cb4 (ρ:=ρ)))
theorem crm{ρ:Type}:cov (ρ:=ρ)=lp cb4:=bg _
def cd6{ρ:Type}(f:ab6 b71 cij ρ)(c:Int)(d:List Int)(e:Int)(a b:List Int)(g:cg2 ρ):Option ρ:=f (c,d,e,a,b) (fun (c,d,e,a,b)=>g c d e a b)
def bk5{ρ:Type}:=cd6 (lp (cb4 (ρ:=ρ)))
def bkl{ρ:Type}:=cd6 (cov (ρ:=ρ))
theorem bmp{ρ:Type}:bkl (ρ:=ρ)=bk5:=congrArg cd6 crm
def av8{ρ:Type}(a:List Int)(b:Int)(c:List Int)(k:(List Int)→Option ρ):Option ρ:=bkl b c 0 a [0,0,0,0,0,0,0,0,0,0,0,0,0,0,0,0,0,0,0,0,0,0,0,0,0,0,0,0,0,0,0,0] fun e f g d h=>k d
def abq{ρ:Type}:=shut (av8 (ρ:=ρ))
theorem bkp{ρ:Type}(a:List Int)(b:Int)(c:List Int)(k:(List Int)→Option ρ):abq a b c k=av8 a b c k:=by unfold abq;rw[bg]

def axm{ρ:Type}(b:List Int)(a c:Int)(k:(List Int)→Option ρ):Option ρ:=br (a==0) (yx c 4 fun g=>abq b 0 g fun h=>k h) (br (a==1) (yx c 12 fun i=>abq b 4 i fun j=>k j) (br (a==2) (yx c 4 fun l=>abq b 16 l fun m=>abq m 20 (Af 12 (0:Int)) fun n=>k n) (br (a==3) (br (a==3) (yx c 4 fun o=>abq b (Aa.wrap (8+Aa.wrap (4*a))) o fun p=>k p) (k b)) (br (a==4) (br (a==4) (yx c 4 fun q=>abq b (Aa.wrap (8+Aa.wrap (4*a))) q fun d=>k d) (k b)) (br (a==5) (yx c 4 fun e=>abq b (Aa.wrap (8+Aa.wrap (4*a))) e fun f=>k f) (k b))))))
def jf{ρ:Type}:=shut (axm (ρ:=ρ))
theorem blb{ρ:Type}(a:List Int)(b:Int)(c:Int)(k:(List Int)→Option ρ):jf a b c k=axm a b c k:=by unfold jf;rw[bg]

def at5{ρ:Type}(a:List Int)(k:Int→Option ρ):Option ρ:=wm (Ac 4 (Ad 20 a)) fun b=>k b
def ac9{ρ:Type}:=shut (at5 (ρ:=ρ))
theorem bgr{ρ:Type}(a:List Int)(k:Int→Option ρ):ac9 a k=at5 a k:=by unfold ac9;rw[bg]

def bab{ρ:Type}(a:List Int)(b c d:Int)(k:(List Int)→Option ρ):Option ρ:=jf a 2 b fun e=>ac9 a fun f=>jf e 3 f fun g=>jf g 4 (Ab.wrap c) fun h=>jf h 5 d fun i=>k i
def aac{ρ:Type}:=shut (bab (ρ:=ρ))
theorem boe{ρ:Type}(a:List Int)(b:Int)(c:Int)(d:Int)(k:(List Int)→Option ρ):aac a b c d k=bab a b c d k:=by unfold aac;rw[bg]

def awv{ρ:Type}(b c d e f:Int)(a:Bool)(h:List (List Int))(i g:List Int)(k:(List Int)→Option ρ):Option ρ:=jf g 2 4 fun j=>ac9 g fun l=>jf j 3 l fun m=>iy h fun n=>su b c d e f a i m n fun o=>k o
def ak8{ρ:Type}:=shut (awv (ρ:=ρ))
theorem bjz{ρ:Type}(b:Int)(c:Int)(d:Int)(e:Int)(f:Int)(a:Bool)(g:List (List Int))(h:List Int)(i:List Int)(k:(List Int)→Option ρ):ak8 b c d e f a g h i k=awv b c d e f a g h i k:=by unfold ak8;rw[bg]

abbrev cfh(ρ:Type):=(List Int)→(List Int)→Int→Int→(List Int)→(List Int)→Int→(List Int)→(List Int)→Int→Int→Int→Int→Int→Bool→(List (List Int))→Option ρ
def aii{ρ:Type}(n k:List Int)(l i:Int)(j m:List Int)(a:Int)(o d:List Int)(b e f c g:Int)(h:Bool)(p:List (List Int))(nx q:cfh ρ):Option ρ:=br (decide (a<c)) (br (decide ((0:Int)≤Aa.wrap (b*Aa.wrap (a+(1:Int))))) (br (decide (Aa.wrap (b*Aa.wrap (a+(1:Int)))≤Aa.wrap (b*Aa.wrap (a+(2:Int))))) (br (decide (Aa.wrap (b*Aa.wrap (a+(2:Int)))≤(↑j.length:Int))) (iy [m,Ad (Aa.wrap (b*Aa.wrap (a+(1:Int)))).toNat (Ac (Aa.wrap (b*Aa.wrap (a+(2:Int)))).toNat j)] fun r=>br (decide (a<(0:Int))) none (br ((i.fdiv ((2:Int)^min a.toNat 64)).tmod (2:Int)==(1:Int)) (iy [Ad (Aa.wrap (b*Aa.wrap (a+(1:Int)))).toNat (Ac (Aa.wrap (b*Aa.wrap (a+(2:Int)))).toNat j),m] fun s=>br (decide (Aa.wrap (a+(1:Int))<(0:Int))) none (aac d (3:Int) (Aa.wrap (a+(1:Int))) (i.fdiv ((2:Int)^min (Aa.wrap (a+(1:Int))).toNat 64)) fun t=>su b e f c g h k t s fun u=>nx n k l i j u (Aa.wrap (a+(1:Int))) o d b e f c g h p)) (br (decide (Aa.wrap (a+(1:Int))<(0:Int))) none (aac d (3:Int) (Aa.wrap (a+(1:Int))) (i.fdiv ((2:Int)^min (Aa.wrap (a+(1:Int))).toNat 64)) fun v=>su b e f c g h k v r fun w=>nx n k l i j w (Aa.wrap (a+(1:Int))) o d b e f c g h p)))) none) none) none) (q n k l i j m a o d b e f c g h p)
abbrev cad:=(List Int)×(List Int)×Int×Int×(List Int)×(List Int)×Int×(List Int)×(List Int)×Int×Int×Int×Int×Int×Bool×(List (List Int))
abbrev ck3:=cad
def ci8{ρ:Type}(f:cad→Option ρ):cfh ρ:=fun n o i j k l m p a b c d e g h q=>f (n,o,i,j,k,l,m,p,a,b,c,d,e,g,h,q)
def cbn{ρ:Type}:ab5 cad ck3 ρ:=fun (m,n,h,i,j,k,l,o,a,b,c,d,e,f,g,p) next ex=>aii m n h i j k l o a b c d e f g p (ci8 next) (ci8 ex)
def cj6{ρ:Type}:=shut (lp (cbn (ρ:=ρ)))
theorem cpn{ρ:Type}:cj6 (ρ:=ρ)=lp cbn:=bg _
def cei{ρ:Type}(f:ab6 cad ck3 ρ)(n o:List Int)(i j:Int)(k l:List Int)(m:Int)(p a:List Int)(b c d e g:Int)(h:Bool)(q:List (List Int))(r:cfh ρ):Option ρ:=f (n,o,i,j,k,l,m,p,a,b,c,d,e,g,h,q) (fun (n,o,i,j,k,l,m,p,a,b,c,d,e,g,h,q)=>r n o i j k l m p a b c d e g h q)
def aoe{ρ:Type}:=cei (lp (cbn (ρ:=ρ)))
def aoq{ρ:Type}:=cei (cj6 (ρ:=ρ))
theorem auy{ρ:Type}:aoq (ρ:=ρ)=aoe:=congrArg cei cpn
abbrev ch6(ρ:Type):=(List Int)→(List Int)→Int→(List (List Int))→Int→Int→Int→Int→Int→Bool→(List Int)→(List Int)→Option ρ
def aj2{ρ:Type}(d l:List Int)(c:Int)(m:List (List Int))(a f g b e:Int)(h:Bool)(i j:List Int)(nx u:ch6 ρ):Option ρ:=br (decide (c<e)) (br (decide (b<0)) none (br (decide (0≤c)) (br (decide (c<(↑j.length:Int))) (br (decide (0≤Aa.wrap (Aa.wrap (c*a)*Aa.wrap (b+1)))) (br (decide (Aa.wrap (Aa.wrap (c*a)*Aa.wrap (b+1))≤(↑d.length:Int))) (br (decide ((↑d.length:Int)≤(↑d.length:Int))) (aac i 3 0 (Ab.wrap (Ab.wrap (Ab.wrap c*2^min b.toNat 64)+Ab.wrap (j.getD c.toNat 0))) fun v=>br (decide (0≤a)) (br (decide (a≤(↑(Ad (Aa.wrap (Aa.wrap (c*a)*Aa.wrap (b+1))).toNat (Ac (↑d.length:Int).toNat d)).length:Int))) (su a f g b e h l v (Ad 0 (Ac a.toNat (Ad (Aa.wrap (Aa.wrap (c*a)*Aa.wrap (b+1))).toNat (Ac (↑d.length:Int).toNat d)))) fun w=>aoq d l c (Ab.wrap (Ab.wrap (Ab.wrap c*2^min b.toNat 64)+Ab.wrap (j.getD c.toNat 0))) (Ad (Aa.wrap (Aa.wrap (c*a)*Aa.wrap (b+1))).toNat (Ac (↑d.length:Int).toNat d)) w 0 j i a f g b e h m fun y z A F G B H C n o p q r s t k=>br (decide ((k.length+1)*24≤140737488355328)) (nx y z (Aa.wrap (A+1)) (k++[B]) o p q r s t n C) none) none) none) none) none) none) none) none)) (u d l c m a f g b e h i j)
abbrev b7r:=(List Int)×(List Int)×Int×(List (List Int))×Int×Int×Int×Int×Int×Bool×(List Int)×(List Int)
abbrev cix:=b7r
def cfi{ρ:Type}(f:b7r→Option ρ):ch6 ρ:=fun j k i l a b c d e g h m=>f (j,k,i,l,a,b,c,d,e,g,h,m)
def cbm{ρ:Type}:ab5 b7r cix ρ:=fun (i,j,h,k,a,b,c,d,e,f,g,l) next ex=>aj2 i j h k a b c d e f g l (cfi next) (cfi ex)
def cl6{ρ:Type}:=shut (lp (cbm (ρ:=ρ)))
theorem cp8{ρ:Type}:cl6 (ρ:=ρ)=lp cbm:=bg _
def cc0{ρ:Type}(f:ab6 b7r cix ρ)(j k:List Int)(i:Int)(l:List (List Int))(a b c d e:Int)(g:Bool)(h m:List Int)(n:ch6 ρ):Option ρ:=f (j,k,i,l,a,b,c,d,e,g,h,m) (fun (j,k,i,l,a,b,c,d,e,g,h,m)=>n j k i l a b c d e g h m)
def ark{ρ:Type}:=cc0 (lp (cbm (ρ:=ρ)))
def aq5{ρ:Type}:=cc0 (cl6 (ρ:=ρ))
theorem awp{ρ:Type}:aq5 (ρ:=ρ)=ark:=congrArg cc0 cp8
def ai0{ρ:Type}(b e f c d:Int)(a:Bool)(g h i q:List Int)(k:(List Int)→Option ρ):Option ρ:=aax b e f c d a fun r s=>kg b e f c d a fun t=>br (!t) (k []) (br ((↑i.length:Int) !=b) (k []) (br ((↑h.length:Int) !=s) (k []) (br ((↑g.length:Int) !=r) (k []) (pq h c d fun u=>aq5 g i 0 [] b e f c d a q u fun B v C w y z j l m n o A=>ak8 y z j l m n w v o fun p=>k p))))
def yj{ρ:Type}:=shut (ai0 (ρ:=ρ))
theorem aq3{ρ:Type}(b:Int)(c:Int)(d:Int)(e:Int)(f:Int)(a:Bool)(g:List Int)(h:List Int)(i:List Int)(j:List Int)(k:(List Int)→Option ρ):yj b c d e f a g h i j k=ai0 b c d e f a g h i j k:=by unfold yj;rw[bg]

def ap9{ρ:Type}(a b:Int)(k:(List Int)→Option ρ):Option ρ:=jf [0,0,0,0,0,0,0,0,0,0,0,0,0,0,0,0,0,0,0,0,0,0,0,0,0,0,0,0,0,0,0,0] 1 a fun c=>jf c 2 3 fun d=>jf d 3 b fun e=>k e
def afv{ρ:Type}:=shut (ap9 (ρ:=ρ))
theorem bcy{ρ:Type}(a:Int)(b:Int)(k:(List Int)→Option ρ):afv a b k=ap9 a b k:=by unfold afv;rw[bg]

def ap6{ρ:Type}(a:Int)(k:Int→Option ρ):Option ρ:=br (decide (a≤3)) (zf a fun b=>k b) (abn a fun c=>k c)
def aez{ρ:Type}:=shut (ap6 (ρ:=ρ))
theorem bcl{ρ:Type}(a:Int)(k:Int→Option ρ):aez a k=ap6 a k:=by unfold aez;rw[bg]

abbrev cfw(ρ:Type):=Int→(List Int)→Int→(List Int)→Int→(List Int)→(List Int)→Option ρ
def asl{ρ:Type}(f:Int)(g:List Int)(e:Int)(d:List Int)(a:Int)(b c:List Int)(nx h:cfw ρ):Option ρ:=br (decide (a<e)) (br (decide (a<(↑d.length:Int))) (br (decide (0≤a)) (br (decide (a<(↑d.length:Int))) (br (decide ((b.length+1)*1≤140737488355328)) (br (decide ((c.length+1)*1≤140737488355328)) (nx f g e d (Aa.wrap (a+1)) (b++[bits BinOp.xor Ae (d.getD a.toNat 0) 54]) (c++[bits BinOp.xor Ae (d.getD a.toNat 0) 92])) none) none) none) none) (br (decide ((b.length+1)*1≤140737488355328)) (br (decide ((c.length+1)*1≤140737488355328)) (nx f g e d (Aa.wrap (a+1)) (b++[bits BinOp.xor Ae 0 54]) (c++[bits BinOp.xor Ae 0 92])) none) none)) (h f g e d a b c)
abbrev b9w:=Int×(List Int)×Int×(List Int)×Int×(List Int)×(List Int)
abbrev co1:=b9w
def cf8{ρ:Type}(f:b9w→Option ρ):cfw ρ:=fun d e g h a b c=>f (d,e,g,h,a,b,c)
def cb2{ρ:Type}:ab5 b9w co1 ρ:=fun (d,e,f,g,a,b,c) next ex=>asl d e f g a b c (cf8 next) (cf8 ex)
def ci7{ρ:Type}:=shut (lp (cb2 (ρ:=ρ)))
theorem cqw{ρ:Type}:ci7 (ρ:=ρ)=lp cb2:=bg _
def cev{ρ:Type}(f:ab6 b9w co1 ρ)(d:Int)(e:List Int)(g:Int)(h:List Int)(a:Int)(b c:List Int)(i:cfw ρ):Option ρ:=f (d,e,g,h,a,b,c) (fun (d,e,g,h,a,b,c)=>i d e g h a b c)
def bdd{ρ:Type}:=cev (lp (cb2 (ρ:=ρ)))
def amf{ρ:Type}:=cev (ci7 (ρ:=ρ))
theorem beb{ρ:Type}:amf (ρ:=ρ)=bdd:=congrArg cev cqw
def aua{ρ:Type}(a:Int)(h j:List Int)(k:(List Int)→Int→Option ρ):Option ρ:=br (decide (a<1)) (k [] 9) (br (decide (a>5)) (k [] 9) (aez a fun i=>br (decide ((↑h.length:Int)>i)) (sw a h fun t A=>amf a j i t 0 [] [] fun l m B C F n o=>br (decide ((n.length+m.length)*1≤140737488355328)) (sw l (n++m) fun b u=>br (decide ((o.length+b.length)*1≤140737488355328)) (sw l (o++b) fun p q=>k p q) none) none) (amf a j i h 0 [] [] fun c d v w y e f=>br (decide ((e.length+d.length)*1≤140737488355328)) (sw c (e++d) fun g z=>br (decide ((f.length+g.length)*1≤140737488355328)) (sw c (f++g) fun r s=>k r s) none) none)))
def ahr{ρ:Type}:=shut (aua (ρ:=ρ))
theorem be6{ρ:Type}(a:Int)(b:List Int)(c:List Int)(k:(List Int)→Int→Option ρ):ahr a b c k=aua a b c k:=by unfold ahr;rw[bg]

def aue{ρ:Type}(a c d e f:Int)(b:Bool)(g h i:List Int)(k:(List Int)→Option ρ):Option ρ:=br b (iy [g,h,i] fun l=>abk 7 l a fun m p=>k m) (afb a c d e f b fun n=>iy [h,i] fun o=>ahr n g o fun j q=>br (decide (0≤a)) (br (decide (a≤(↑j.length:Int))) (k (Ac (a-0).toNat (Ad 0 j))) none) none)
def akq{ρ:Type}:=shut (aue (ρ:=ρ))
theorem bgn{ρ:Type}(b:Int)(c:Int)(d:Int)(e:Int)(f:Int)(a:Bool)(g:List Int)(h:List Int)(i:List Int)(k:(List Int)→Option ρ):akq b c d e f a g h i k=aue b c d e f a g h i k:=by unfold akq;rw[bg]

def ao3{ρ:Type}(a c d e f:Int)(b:Bool)(g h:List Int)(k:Bool→Option ρ):Option ρ:=kg a c d e f b fun i=>br (!i) (k true) (br ((↑g.length:Int) !=a) (k true) (k ((↑h.length:Int) !=a)))
def aav{ρ:Type}:=shut (ao3 (ρ:=ρ))
theorem bbt{ρ:Type}(b:Int)(c:Int)(d:Int)(e:Int)(f:Int)(a:Bool)(g:List Int)(h:List Int)(k:Bool→Option ρ):aav b c d e f a g h k=ao3 b c d e f a g h k:=by unfold aav;rw[bg]

def ami{ρ:Type}(b c d e f:Int)(a:Bool)(h g i:List Int)(k:(List Int)→Option ρ):Option ρ:=br ((↑g.length:Int) !=b) (k []) (su b c d e f a h i g fun j=>k j)
def agp{ρ:Type}:=shut (ami (ρ:=ρ))
theorem awu{ρ:Type}(b:Int)(c:Int)(d:Int)(e:Int)(f:Int)(a:Bool)(g:List Int)(h:List Int)(i:List Int)(k:(List Int)→Option ρ):agp b c d e f a g h i k=ami b c d e f a g h i k:=by unfold agp;rw[bg]

def atg{ρ:Type}(b c d e f:Int)(a:Bool)(g h i:List Int)(j:Int)(k:(List Int)→Option ρ):Option ρ:=aac i 6 0 j fun l=>agp b c d e f a h g l fun m=>k m
def ada{ρ:Type}:=shut (atg (ρ:=ρ))
theorem bh0{ρ:Type}(b:Int)(c:Int)(d:Int)(e:Int)(f:Int)(a:Bool)(g:List Int)(h:List Int)(i:List Int)(j:Int)(k:(List Int)→Option ρ):ada b c d e f a g h i j k=atg b c d e f a g h i j k:=by unfold ada;rw[bg]

def amq{ρ:Type}(rc:Int→Int→Int→Int→Int→Bool→(List Int)→(List Int)→(List Int)→Int→Int→((List Int)→Option ρ)→Option ρ)(d e f b c:Int)(a:Bool)(l h j:List Int)(g i:Int)(k:(List Int)→Option ρ):Option ρ:=aav d e f b c a l h fun m=>br m (k []) (br (decide (g<0)) (k []) (br (decide (g>b)) (k []) (br (decide (Aa.wrap (b-g)<0)) none (br (decide (i≥Ab.wrap (Ab.wrap c*2^min (Aa.wrap (b-g)).toNat 64))) (k []) (br (g==0) (aac j 3 0 i fun n=>ada d e f b c a l h j i fun o=>su d e f b c a h n o fun p=>k p) (rc d e f b c a l h j (Aa.wrap (g-1)) (Ab.wrap (2*i)) fun q=>rc d e f b c a l h j (Aa.wrap (g-1)) (Ab.wrap (Ab.wrap (2*i)+1)) fun r=>aac j 3 g i fun s=>iy [q,r] fun t=>su d e f b c a h s t fun u=>k u))))))
def ac8{ρ:Type}(n:Nat):Int→Int→Int→Int→Int→Bool→(List Int)→(List Int)→(List Int)→Int→Int→((List Int)→Option ρ)→Option ρ:=Nat.rec (fun _ _ _ _ _ _ _ _ _ _ _ _=>none) (fun _ rc=>shut (amq (ρ:=ρ) rc)) n
theorem aw7{ρ:Type}(n:Nat):ac8 (ρ:=ρ) (n+1)=amq (ac8 n):=bg _

abbrev clm(ρ:Type):=(List Int)→(List Int)→Int→Int→Int→(List (List Int))→Int→Int→Int→Int→Int→Bool→(List Int)→(List Int)→Option ρ
def auh{ρ:Type}(l m:List Int)(k i a:Int)(j:List (List Int))(c d e b f:Int)(g:Bool)(h n:List Int)(nx o:clm ρ):Option ρ:=br (decide (a<b)) (br (decide (a<0)) none (ac8 (a.toNat+1) c d e b f g l m h a (bits BinOp.xor Ab (i.fdiv (2^min a.toNat 64)) 1) fun p=>br (decide ((j.length+1)*24≤140737488355328)) (nx l m k i (Aa.wrap (a+1)) (j++[p]) c d e b f g h n) none)) (o l m k i a j c d e b f g h n)
abbrev b76:=(List Int)×(List Int)×Int×Int×Int×(List (List Int))×Int×Int×Int×Int×Int×Bool×(List Int)×(List Int)
abbrev co8:=b76
def co3{ρ:Type}(f:b76→Option ρ):clm ρ:=fun m n i j k l a b c d e g h o=>f (m,n,i,j,k,l,a,b,c,d,e,g,h,o)
def cd2{ρ:Type}:ab5 b76 co8 ρ:=fun (l,m,h,i,j,k,a,b,c,d,e,f,g,n) next ex=>auh l m h i j k a b c d e f g n (co3 next) (co3 ex)
def ch2{ρ:Type}:=shut (lp (cd2 (ρ:=ρ)))
theorem cqp{ρ:Type}:ch2 (ρ:=ρ)=lp cd2:=bg _
def cd8{ρ:Type}(f:ab6 b76 co8 ρ)(m n:List Int)(i j k:Int)(l:List (List Int))(a b c d e:Int)(g:Bool)(h o:List Int)(p:clm ρ):Option ρ:=f (m,n,i,j,k,l,a,b,c,d,e,g,h,o) (fun (m,n,i,j,k,l,a,b,c,d,e,g,h,o)=>p m n i j k l a b c d e g h o)
def bcs{ρ:Type}:=cd8 (lp (cd2 (ρ:=ρ)))
def bco{ρ:Type}:=cd8 (ch2 (ρ:=ρ))
theorem bg4{ρ:Type}:bco (ρ:=ρ)=bcs:=congrArg cd8 cqp
abbrev cgp(ρ:Type):=(List Int)→(List Int)→Int→(List (List Int))→Int→Int→Int→Int→Int→Bool→(List Int)→(List Int)→Option ρ
def axh{ρ:Type}(j k:List Int)(a:Int)(l:List (List Int))(d e f b c:Int)(g:Bool)(h i:List Int)(nx r:cgp ρ):Option ρ:=br (decide (a<c)) (br (decide (b<0)) none (br (decide (0≤a)) (br (decide (a<(↑i.length:Int))) (ada d e f b c g j k h (Ab.wrap (Ab.wrap (Ab.wrap a*2^min b.toNat 64)+Ab.wrap (i.getD a.toNat 0))) fun s=>br (decide ((l.length+1)*24≤140737488355328)) (bco j k a (Ab.wrap (Ab.wrap (Ab.wrap a*2^min b.toNat 64)+Ab.wrap (i.getD a.toNat 0))) 0 (l++[s]) d e f b c g h i fun t u v B C w y z A m n o p q=>nx t u (Aa.wrap (v+1)) w y z A m n o p q) none) none) none)) (r j k a l d e f b c g h i)
abbrev b9s:=(List Int)×(List Int)×Int×(List (List Int))×Int×Int×Int×Int×Int×Bool×(List Int)×(List Int)
abbrev ckx:=b9s
def cgq{ρ:Type}(f:b9s→Option ρ):cgp ρ:=fun j k i l a b c d e g h m=>f (j,k,i,l,a,b,c,d,e,g,h,m)
def cc3{ρ:Type}:ab5 b9s ckx ρ:=fun (i,j,h,k,a,b,c,d,e,f,g,l) next ex=>axh i j h k a b c d e f g l (cgq next) (cgq ex)
def ciz{ρ:Type}:=shut (lp (cc3 (ρ:=ρ)))
theorem cqr{ρ:Type}:ciz (ρ:=ρ)=lp cc3:=bg _
def cbe{ρ:Type}(f:ab6 b9s ckx ρ)(j k:List Int)(i:Int)(l:List (List Int))(a b c d e:Int)(g:Bool)(h m:List Int)(n:cgp ρ):Option ρ:=f (j,k,i,l,a,b,c,d,e,g,h,m) (fun (j,k,i,l,a,b,c,d,e,g,h,m)=>n j k i l a b c d e g h m)
def bfc{ρ:Type}:=cbe (lp (cc3 (ρ:=ρ)))
def bg5{ρ:Type}:=cbe (ciz (ρ:=ρ))
theorem bip{ρ:Type}:bg5 (ρ:=ρ)=bfc:=congrArg cbe cqr
def atr{ρ:Type}(d e f b c:Int)(a:Bool)(g h i l:List Int)(k:(List Int)→Option ρ):Option ρ:=aax d e f b c a fun w m=>aav d e f b c a h i fun n=>br n (k []) (br ((↑g.length:Int) !=m) (k []) (pq g b c fun o=>bg5 h i 0 [] d e f b c a l o fun y z A p B C q r s t u v=>iy p fun j=>k j))
def afz{ρ:Type}:=shut (atr (ρ:=ρ))
theorem bge{ρ:Type}(b:Int)(c:Int)(d:Int)(e:Int)(f:Int)(a:Bool)(g:List Int)(h:List Int)(i:List Int)(j:List Int)(k:(List Int)→Option ρ):afz b c d e f a g h i j k=atr b c d e f a g h i j k:=by unfold afz;rw[bg]

def as6{ρ:Type}(d a b e f:Int)(c:Bool)(g h:Int)(k:Bool→Option ρ):Option ρ:=kg d a b e f c fun i=>br i (br (decide (b=0)) none (br (decide (Aa.wrap (a.tdiv b)<0)) none (br (decide (h<Ab.wrap (1*2^min (Aa.wrap (a.tdiv b)).toNat 64))) (br (decide (b=0)) none (br (decide (Aa.wrap (a-Aa.wrap (a.tdiv b))≥64)) (k true) (br (decide (b=0)) none (br (decide (Aa.wrap (a-Aa.wrap (a.tdiv b))<0)) none (k (decide (g<Ab.wrap (1*2^min (Aa.wrap (a-Aa.wrap (a.tdiv b))).toNat 64)))))))) (k false)))) (k false)
def aha{ρ:Type}:=shut (as6 (ρ:=ρ))
theorem be7{ρ:Type}(b:Int)(c:Int)(d:Int)(e:Int)(f:Int)(a:Bool)(g:Int)(h:Int)(k:Bool→Option ρ):aha b c d e f a g h k=as6 b c d e f a g h k:=by unfold aha;rw[bg]

def as7{ρ:Type}(a d b e f:Int)(c:Bool)(k:Int→Option ρ):Option ρ:=kg a d b e f c fun g=>br (!g) (k 0) (br (decide (b=0)) none (k (Aa.wrap (a*Aa.wrap (Aa.wrap (Aa.wrap (2*a)+3)+Aa.wrap (d.tdiv b))))))
def ahl{ρ:Type}:=shut (as7 (ρ:=ρ))
theorem bhd{ρ:Type}(b:Int)(c:Int)(d:Int)(e:Int)(f:Int)(a:Bool)(k:Int→Option ρ):ahl b c d e f a k=as7 b c d e f a k:=by unfold ahl;rw[bg]

def at7{ρ:Type}(a:List Int)(b:Int)(k:(List Int)→Option ρ):Option ρ:=jf a 2 0 fun c=>jf c 3 b fun d=>k d
def aay{ρ:Type}:=shut (at7 (ρ:=ρ))
theorem bhf{ρ:Type}(a:List Int)(b:Int)(k:(List Int)→Option ρ):aay a b k=at7 a b k:=by unfold aay;rw[bg]

def asa{ρ:Type}(b c d e f:Int)(a:Bool)(g h:List Int)(i j:Int)(l m:List Int)(k:(List Int)→Option ρ):Option ρ:=jf h 2 2 fun n=>jf n 4 (Ab.wrap i) fun o=>jf o 5 j fun p=>iy [l,m] fun q=>su b c d e f a g p q fun r=>k r
def ab2{ρ:Type}:=shut (asa (ρ:=ρ))
theorem bf8{ρ:Type}(b:Int)(c:Int)(d:Int)(e:Int)(f:Int)(a:Bool)(g:List Int)(h:List Int)(i:Int)(j:Int)(l:List Int)(m:List Int)(k:(List Int)→Option ρ):ab2 b c d e f a g h i j l m k=asa b c d e f a g h i j l m k:=by unfold ab2;rw[bg]

def aqk{ρ:Type}(a c d e f:Int)(b:Bool)(g h:List Int)(k:Bool→Option ρ):Option ρ:=kg a c d e f b fun i=>br (!i) (k true) (br ((↑g.length:Int) !=a) (k true) (k ((↑h.length:Int) !=a)))
def zi{ρ:Type}:=shut (aqk (ρ:=ρ))
theorem bcn{ρ:Type}(b:Int)(c:Int)(d:Int)(e:Int)(f:Int)(a:Bool)(g:List Int)(h:List Int)(k:Bool→Option ρ):zi b c d e f a g h k=aqk b c d e f a g h k:=by unfold zi;rw[bg]

abbrev cke(ρ:Type):=(List Int)→Int→(List Int)→Int→Int→Int→Int→Int→Int→Bool→(List Int)→Option ρ
def asb{ρ:Type}(k:List Int)(i:Int)(j:List Int)(h a b c d e:Int)(f:Bool)(g:List Int)(nx l:cke ρ):Option ρ:=br (decide (h<i)) (jf g 5 (Ab.wrap h) fun m=>su a b c d e f j m k fun n=>nx n i j (Ag.wrap (h+1)) a b c d e f g) (l k i j h a b c d e f g)
abbrev b8w:=(List Int)×Int×(List Int)×Int×Int×Int×Int×Int×Int×Bool×(List Int)
abbrev cfc:=b8w
def coy{ρ:Type}(f:b8w→Option ρ):cke ρ:=fun j k l i a b c d e g h=>f (j,k,l,i,a,b,c,d,e,g,h)
def cen{ρ:Type}:ab5 b8w cfc ρ:=fun (i,j,k,h,a,b,c,d,e,f,g) next ex=>asb i j k h a b c d e f g (coy next) (coy ex)
def cgv{ρ:Type}:=shut (lp (cen (ρ:=ρ)))
theorem csd{ρ:Type}:cgv (ρ:=ρ)=lp cen:=bg _
def ceg{ρ:Type}(f:ab6 b8w cfc ρ)(j:List Int)(k:Int)(l:List Int)(i a b c d e:Int)(g:Bool)(h:List Int)(m:cke ρ):Option ρ:=f (j,k,l,i,a,b,c,d,e,g,h) (fun (j,k,l,i,a,b,c,d,e,g,h)=>m j k l i a b c d e g h)
def bbn{ρ:Type}:=ceg (lp (cen (ρ:=ρ)))
def bci{ρ:Type}:=ceg (cgv (ρ:=ρ))
theorem bfd{ρ:Type}:bci (ρ:=ρ)=bbn:=congrArg ceg csd
def aql{ρ:Type}(b c d e f:Int)(a:Bool)(g:List Int)(h i:Int)(j l:List Int)(k:(List Int)→Option ρ):Option ρ:=bci g i j h b c d e f a l fun m o p q r s t u v w n=>k m
def yc{ρ:Type}:=shut (aql (ρ:=ρ))
theorem bcf{ρ:Type}(b:Int)(c:Int)(d:Int)(e:Int)(f:Int)(a:Bool)(g:List Int)(h:Int)(i:Int)(j:List Int)(l:List Int)(k:(List Int)→Option ρ):yc b c d e f a g h i j l k=aql b c d e f a g h i j l k:=by unfold yc;rw[bg]

def ar5{ρ:Type}(a:List Int)(k:Int→Option ρ):Option ρ:=wm (Ac 4 (Ad 20 a)) fun b=>k b
def ac4{ρ:Type}:=shut (ar5 (ρ:=ρ))
theorem bg1{ρ:Type}(a:List Int)(k:Int→Option ρ):ac4 a k=ar5 a k:=by unfold ac4;rw[bg]

def aww{ρ:Type}(b c d e f:Int)(a:Bool)(h:List (List Int))(i g:List Int)(k:(List Int)→Option ρ):Option ρ:=jf g 2 1 fun j=>ac4 g fun l=>jf j 3 l fun m=>iy h fun n=>su b c d e f a i m n fun o=>k o
def af0{ρ:Type}:=shut (aww (ρ:=ρ))
theorem bkx{ρ:Type}(b:Int)(c:Int)(d:Int)(e:Int)(f:Int)(a:Bool)(g:List (List Int))(h:List Int)(i:List Int)(k:(List Int)→Option ρ):af0 b c d e f a g h i k=aww b c d e f a g h i k:=by unfold af0;rw[bg]

abbrev cgt(ρ:Type):=Int→Int→(List Int)→Option ρ
def apb{ρ:Type}(c a:Int)(b:List Int)(nx d:cgt ρ):Option ρ:=br (decide (a<(↑b.length:Int))) (br (decide (0≤a)) (br (decide (a<(↑b.length:Int))) (nx (Ab.wrap (Ab.wrap (c+15)-Ab.wrap (b.getD a.toNat 0))) (Aa.wrap (a+1)) b) none) none) (d c a b)
abbrev b9z:=Int×Int×(List Int)
abbrev cgc:=b9z
def cme{ρ:Type}(f:b9z→Option ρ):cgt ρ:=fun a b c=>f (a,b,c)
def cdd{ρ:Type}:ab5 b9z cgc ρ:=fun (a,b,c) next ex=>apb a b c (cme next) (cme ex)
def cky{ρ:Type}:=shut (lp (cdd (ρ:=ρ)))
theorem cql{ρ:Type}:cky (ρ:=ρ)=lp cdd:=bg _
def cd0{ρ:Type}(f:ab6 b9z cgc ρ)(a b:Int)(c:List Int)(d:cgt ρ):Option ρ:=f (a,b,c) (fun (a,b,c)=>d a b c)
def ayz{ρ:Type}:=cd0 (lp (cdd (ρ:=ρ)))
def afh{ρ:Type}:=cd0 (cky (ρ:=ρ))
theorem bds{ρ:Type}:afh (ρ:=ρ)=ayz:=congrArg cd0 cql
def anu{ρ:Type}(a:Int)(b:List Int)(k:(List Int)→Option ρ):Option ρ:=br (a !=16) (br (a !=24) (br (a !=32) (k []) (br ((↑b.length:Int) !=a) (k []) (pq b 4 (Aa.wrap (2*a)) fun n=>afh 0 0 n fun o t f=>yx (Ab.wrap (16*o)) 2 fun p=>pq p 4 3 fun g=>br (decide ((f.length+g.length)*4≤140737488355328)) (k (f++g)) none))) (br ((↑b.length:Int) !=a) (k []) (pq b 4 (Aa.wrap (2*a)) fun q=>afh 0 0 q fun r u h=>yx (Ab.wrap (16*r)) 2 fun i=>pq i 4 3 fun c=>br (decide ((h.length+c.length)*4≤140737488355328)) (k (h++c)) none))) (br ((↑b.length:Int) !=a) (k []) (pq b 4 (Aa.wrap (2*a)) fun j=>afh 0 0 j fun l s d=>yx (Ab.wrap (16*l)) 2 fun m=>pq m 4 3 fun e=>br (decide ((d.length+e.length)*4≤140737488355328)) (k (d++e)) none))
def aag{ρ:Type}:=shut (anu (ρ:=ρ))
theorem azi{ρ:Type}(a:Int)(b:List Int)(k:(List Int)→Option ρ):aag a b k=anu a b k:=by unfold aag;rw[bg]

abbrev cnw(ρ:Type):=(List Int)→(List Int)→Int→(List (List Int))→Int→Int→Int→Int→Int→Bool→(List Int)→(List Int)→Option ρ
def aj4{ρ:Type}(j k:List Int)(b:Int)(l:List (List Int))(a c d e f:Int)(g:Bool)(h i:List Int)(nx m:cnw ρ):Option ρ:=br (decide (b<(↑i.length:Int))) (br (decide (0≤Aa.wrap (a*b))) (br (decide (Aa.wrap (a*b)≤Aa.wrap (Aa.wrap (a*b)+a))) (br (decide (Aa.wrap (Aa.wrap (a*b)+a)≤(↑j.length:Int))) (br (decide (0≤b)) (br (decide (b<(↑i.length:Int))) (jf h 4 (Ab.wrap b) fun n=>yc a c d e f g (Ad (Aa.wrap (a*b)).toNat (Ac (Aa.wrap (Aa.wrap (a*b)+a)).toNat j)) (i.getD b.toNat 0) 15 k n fun o=>br (decide ((l.length+1)*24≤140737488355328)) (nx j k (Aa.wrap (b+1)) (l++[o]) a c d e f g h i) none) none) none) none) none) none) (m j k b l a c d e f g h i)
abbrev b9p:=(List Int)×(List Int)×Int×(List (List Int))×Int×Int×Int×Int×Int×Bool×(List Int)×(List Int)
abbrev cns:=b9p
def chm{ρ:Type}(f:b9p→Option ρ):cnw ρ:=fun j k i l a b c d e g h m=>f (j,k,i,l,a,b,c,d,e,g,h,m)
def ceu{ρ:Type}:ab5 b9p cns ρ:=fun (i,j,h,k,a,b,c,d,e,f,g,l) next ex=>aj4 i j h k a b c d e f g l (chm next) (chm ex)
def ciq{ρ:Type}:=shut (lp (ceu (ρ:=ρ)))
theorem cqx{ρ:Type}:ciq (ρ:=ρ)=lp ceu:=bg _
def cav{ρ:Type}(f:ab6 b9p cns ρ)(j k:List Int)(i:Int)(l:List (List Int))(a b c d e:Int)(g:Bool)(h m:List Int)(n:cnw ρ):Option ρ:=f (j,k,i,l,a,b,c,d,e,g,h,m) (fun (j,k,i,l,a,b,c,d,e,g,h,m)=>n j k i l a b c d e g h m)
def ari{ρ:Type}:=cav (lp (ceu (ρ:=ρ)))
def arj{ρ:Type}:=cav (ciq (ρ:=ρ))
theorem awl{ρ:Type}:arj (ρ:=ρ)=ari:=congrArg cav cqx
def aiw{ρ:Type}(a c d e f:Int)(b:Bool)(g h i o:List Int)(k:(List Int)→Option ρ):Option ρ:=zi a c d e f b h i fun p=>br p (k []) (br ((↑g.length:Int) !=Aa.wrap (a*Aa.wrap (Aa.wrap (2*a)+3))) (k []) (aag a h fun q=>arj g i 0 [] a c d e f b o q fun z r A s t u v w j l m y=>af0 t u v w j l s r m fun n=>k n))
def zh{ρ:Type}:=shut (aiw (ρ:=ρ))
theorem aqw{ρ:Type}(b:Int)(c:Int)(d:Int)(e:Int)(f:Int)(a:Bool)(g:List Int)(h:List Int)(i:List Int)(j:List Int)(k:(List Int)→Option ρ):zh b c d e f a g h i j k=aiw b c d e f a g h i j k:=by unfold zh;rw[bg]

abbrev cmv(ρ:Type):=(List Int)→(List Int)→Int→Int→(List Int)→Int→Int→Int→Int→Int→Int→Bool→(List Int)→Option ρ
def ajv{ρ:Type}(j l:List Int)(k c:Int)(m:List Int)(b a e d f g:Int)(h:Bool)(i:List Int)(nx n:cmv ρ):Option ρ:=br (decide (d=(0:Int))) none (br (decide (b<Aa.wrap (e.tdiv d))) (br (decide ((0:Int)≤Aa.wrap (c+Aa.wrap (a*b)))) (br (decide (Aa.wrap (c+Aa.wrap (a*b))≤Aa.wrap (Aa.wrap (c+Aa.wrap (a*b))+a))) (br (decide (Aa.wrap (Aa.wrap (c+Aa.wrap (a*b))+a)≤(↑j.length:Int))) (br (decide (b<(0:Int))) none (br ((k.fdiv ((2:Int)^min b.toNat 64)).tmod (2:Int)==(0:Int)) (br (decide (Aa.wrap (b+(1:Int))<(0:Int))) none (ab2 a e d f g h l i (Aa.wrap (b+(1:Int))) (k.fdiv ((2:Int)^min (Aa.wrap (b+(1:Int))).toNat 64)) m (Ad (Aa.wrap (c+Aa.wrap (a*b))).toNat (Ac (Aa.wrap (Aa.wrap (c+Aa.wrap (a*b))+a)).toNat j)) fun o=>nx j l k c o (Aa.wrap (b+(1:Int))) a e d f g h i)) (br (decide (Aa.wrap (b+(1:Int))<(0:Int))) none (ab2 a e d f g h l i (Aa.wrap (b+(1:Int))) (k.fdiv ((2:Int)^min (Aa.wrap (b+(1:Int))).toNat 64)) (Ad (Aa.wrap (c+Aa.wrap (a*b))).toNat (Ac (Aa.wrap (Aa.wrap (c+Aa.wrap (a*b))+a)).toNat j)) m fun p=>nx j l k c p (Aa.wrap (b+(1:Int))) a e d f g h i)))) none) none) none) (n j l k c m b a e d f g h i))
abbrev b65:=(List Int)×(List Int)×Int×Int×(List Int)×Int×Int×Int×Int×Int×Int×Bool×(List Int)
abbrev chl:=b65
def cje{ρ:Type}(f:b65→Option ρ):cmv ρ:=fun l m n i j k a b c d e g h=>f (l,m,n,i,j,k,a,b,c,d,e,g,h)
def cby{ρ:Type}:ab5 b65 chl ρ:=fun (k,l,m,h,i,j,a,b,c,d,e,f,g) next ex=>ajv k l m h i j a b c d e f g (cje next) (cje ex)
def cg0{ρ:Type}:=shut (lp (cby (ρ:=ρ)))
theorem cp4{ρ:Type}:cg0 (ρ:=ρ)=lp cby:=bg _
def ccu{ρ:Type}(f:ab6 b65 chl ρ)(l m:List Int)(n i:Int)(j:List Int)(k a b c d e:Int)(g:Bool)(h:List Int)(o:cmv ρ):Option ρ:=f (l,m,n,i,j,k,a,b,c,d,e,g,h) (fun (l,m,n,i,j,k,a,b,c,d,e,g,h)=>o l m n i j k a b c d e g h)
def aqy{ρ:Type}:=ccu (lp (cby (ρ:=ρ)))
def aro{ρ:Type}:=ccu (cg0 (ρ:=ρ))
theorem axw{ρ:Type}:aro (ρ:=ρ)=aqy:=congrArg ccu cp4
def air{ρ:Type}(a d c e f:Int)(b:Bool)(g j h l:List Int)(i:Int)(k:(List Int)→Option ρ):Option ρ:=kg a d c e f b fun m=>br (!m) (k []) (br ((↑h.length:Int) !=a) (k []) (br ((↑j.length:Int) !=a) (k []) (ahl a d c e f b fun n=>br ((↑g.length:Int) !=n) (k []) (br (decide (c=0)) none (br (decide (Aa.wrap (d.tdiv c)<0)) none (br (decide (i≥Ab.wrap (1*2^min (Aa.wrap (d.tdiv c)).toNat 64))) (k []) (br (decide (0≤Aa.wrap (a*Aa.wrap (Aa.wrap (2*a)+3)))) (br (decide (Aa.wrap (a*Aa.wrap (Aa.wrap (2*a)+3))≤(↑g.length:Int))) (aay l i fun o=>zh a d c e f b (Ad 0 (Ac (Aa.wrap (a*Aa.wrap (Aa.wrap (2*a)+3))).toNat g)) j h o fun p=>aro g h i (Aa.wrap (a*Aa.wrap (Aa.wrap (2*a)+3))) p 0 a d c e f b l fun z A B C q F r s t u v w y=>k q) none) none)))))))
def zu{ρ:Type}:=shut (air (ρ:=ρ))
theorem aq2{ρ:Type}(b:Int)(c:Int)(d:Int)(e:Int)(f:Int)(a:Bool)(g:List Int)(h:List Int)(i:List Int)(j:List Int)(l:Int)(k:(List Int)→Option ρ):zu b c d e f a g h i j l k=air b c d e f a g h i j l k:=by unfold zu;rw[bg]

def apt{ρ:Type}(a b:Int)(k:(List Int)→Option ρ):Option ρ:=jf [0,0,0,0,0,0,0,0,0,0,0,0,0,0,0,0,0,0,0,0,0,0,0,0,0,0,0,0,0,0,0,0] 0 (Ab.wrap a) fun c=>jf c 1 b fun d=>k d
def aex{ρ:Type}:=shut (apt (ρ:=ρ))
theorem bcd{ρ:Type}(a:Int)(b:Int)(k:(List Int)→Option ρ):aex a b k=apt a b k:=by unfold aex;rw[bg]

def aqe{ρ:Type}(b c d e f:Int)(a:Bool)(h i g:List Int)(j:Int)(k:(List Int)→Option ρ):Option ρ:=jf g 2 5 fun l=>ac4 g fun m=>jf l 3 m fun n=>jf n 4 (Ab.wrap j) fun o=>agp b c d e f a i h o fun p=>k p
def abd{ρ:Type}:=shut (aqe (ρ:=ρ))
theorem bbx{ρ:Type}(b:Int)(c:Int)(d:Int)(e:Int)(f:Int)(a:Bool)(g:List Int)(h:List Int)(i:List Int)(j:Int)(k:(List Int)→Option ρ):abd b c d e f a g h i j k=aqe b c d e f a g h i j k:=by unfold abd;rw[bg]

abbrev clo(ρ:Type):=(List Int)→(List Int)→Int→(List (List Int))→Int→Int→Int→Int→Int→Bool→(List Int)→Option ρ
def apz{ρ:Type}(j i:List Int)(h:Int)(k:List (List Int))(a b c d e:Int)(f:Bool)(g:List Int)(nx l:clo ρ):Option ρ:=br (decide (h<Aa.wrap (Aa.wrap (2*a)+3))) (abd a b c d e f j i g h fun m=>jf g 4 (Ab.wrap h) fun n=>yc a b c d e f m 0 15 i n fun o=>br (decide ((k.length+1)*24≤140737488355328)) (nx j i (Aa.wrap (h+1)) (k++[o]) a b c d e f g) none) (l j i h k a b c d e f g)
abbrev b5r:=(List Int)×(List Int)×Int×(List (List Int))×Int×Int×Int×Int×Int×Bool×(List Int)
abbrev ci0:=b5r
def cnv{ρ:Type}(f:b5r→Option ρ):clo ρ:=fun j k i l a b c d e g h=>f (j,k,i,l,a,b,c,d,e,g,h)
def cbw{ρ:Type}:ab5 b5r ci0 ρ:=fun (i,j,h,k,a,b,c,d,e,f,g) next ex=>apz i j h k a b c d e f g (cnv next) (cnv ex)
def coa{ρ:Type}:=shut (lp (cbw (ρ:=ρ)))
theorem cp0{ρ:Type}:coa (ρ:=ρ)=lp cbw:=bg _
def cbk{ρ:Type}(f:ab6 b5r ci0 ρ)(j k:List Int)(i:Int)(l:List (List Int))(a b c d e:Int)(g:Bool)(h:List Int)(m:clo ρ):Option ρ:=f (j,k,i,l,a,b,c,d,e,g,h) (fun (j,k,i,l,a,b,c,d,e,g,h)=>m j k i l a b c d e g h)
def azn{ρ:Type}:=cbk (lp (cbw (ρ:=ρ)))
def ayt{ρ:Type}:=cbk (coa (ρ:=ρ))
theorem bdk{ρ:Type}:ayt (ρ:=ρ)=azn:=congrArg cbk cp0
def am1{ρ:Type}(b c d e f:Int)(a:Bool)(g h m:List Int)(k:(List Int)→Option ρ):Option ρ:=zi b c d e f a g h fun n=>br n (k []) (ayt g h 0 [] b c d e f a m fun v o w p q r s t u i j=>af0 q r s t u i p o j fun l=>k l)
def acn{ρ:Type}:=shut (am1 (ρ:=ρ))
theorem ay6{ρ:Type}(b:Int)(c:Int)(d:Int)(e:Int)(f:Int)(a:Bool)(g:List Int)(h:List Int)(i:List Int)(k:(List Int)→Option ρ):acn b c d e f a g h i k=am1 b c d e f a g h i k:=by unfold acn;rw[bg]

abbrev cok(ρ:Type):=(List Int)→(List Int)→Int→Int→Int→(List (List Int))→Int→Int→Int→Int→Int→Bool→(List Int)→Option ρ
def ax0{ρ:Type}(j k:List Int)(i l h:Int)(m:List (List Int))(a b c d e:Int)(f:Bool)(g:List Int)(nx n:cok ρ):Option ρ:=br (decide (i<0)) none (br (decide (h<Ab.wrap (Ab.wrap (l+1)*2^min i.toNat 64))) (aay g h fun o=>acn a b c d e f j k o fun p=>br (decide ((m.length+1)*24≤140737488355328)) (nx j k i l (Ab.wrap (h+1)) (m++[p]) a b c d e f g) none) (n j k i l h m a b c d e f g))
abbrev b7d:=(List Int)×(List Int)×Int×Int×Int×(List (List Int))×Int×Int×Int×Int×Int×Bool×(List Int)
abbrev cg7:=b7d
def cf1{ρ:Type}(f:b7d→Option ρ):cok ρ:=fun j k l m i n a b c d e g h=>f (j,k,l,m,i,n,a,b,c,d,e,g,h)
def cb6{ρ:Type}:ab5 b7d cg7 ρ:=fun (i,j,k,l,h,m,a,b,c,d,e,f,g) next ex=>ax0 i j k l h m a b c d e f g (cf1 next) (cf1 ex)
def co9{ρ:Type}:=shut (lp (cb6 (ρ:=ρ)))
theorem cq8{ρ:Type}:co9 (ρ:=ρ)=lp cb6:=bg _
def cah{ρ:Type}(f:ab6 b7d cg7 ρ)(j k:List Int)(l m i:Int)(n:List (List Int))(a b c d e:Int)(g:Bool)(h:List Int)(o:cok ρ):Option ρ:=f (j,k,l,m,i,n,a,b,c,d,e,g,h) (fun (j,k,l,m,i,n,a,b,c,d,e,g,h)=>o j k l m i n a b c d e g h)
def bfl{ρ:Type}:=cah (lp (cb6 (ρ:=ρ)))
def bhs{ρ:Type}:=cah (co9 (ρ:=ρ))
theorem bim{ρ:Type}:bhs (ρ:=ρ)=bfl:=congrArg cah cq8
abbrev cg1(ρ:Type):=(List Int)→Int→Int→(List (List Int))→Int→Int→(List (List Int))→(List Int)→Int→Int→Int→Int→Int→Bool→Option ρ
def ar2{ρ:Type}(m:List Int)(l n:Int)(b:List (List Int))(c a:Int)(k:List (List Int))(d:List Int)(e f g h i:Int)(j:Bool)(nx o:cg1 ρ):Option ρ:=br (decide (Aa.wrap (a+1)<(↑b.length:Int))) (br (decide (Aa.wrap (l-c)<0)) none (br (decide (0≤a)) (br (decide (a<(↑b.length:Int))) (br (decide (0≤Aa.wrap (a+1))) (br (decide (Aa.wrap (a+1)<(↑b.length:Int))) (ab2 e f g h i j m d c (Ab.wrap (Ab.wrap (n*2^min (Aa.wrap (l-c)).toNat 64)+Ab.wrap (Aa.wrap (a.tdiv 2)))) (b.getD a.toNat []) (b.getD (Aa.wrap (a+1)).toNat []) fun p=>br (decide ((k.length+1)*24≤140737488355328)) (nx m l n b c (Aa.wrap (a+2)) (k++[p]) d e f g h i j) none) none) none) none) none)) (o m l n b c a k d e f g h i j)
abbrev b70:=(List Int)×Int×Int×(List (List Int))×Int×Int×(List (List Int))×(List Int)×Int×Int×Int×Int×Int×Bool
abbrev cmw:=b70
def cnb{ρ:Type}(f:b70→Option ρ):cg1 ρ:=fun m n o i j k l a b c d e g h=>f (m,n,o,i,j,k,l,a,b,c,d,e,g,h)
def cb8{ρ:Type}:ab5 b70 cmw ρ:=fun (l,m,n,h,i,j,k,a,b,c,d,e,f,g) next ex=>ar2 l m n h i j k a b c d e f g (cnb next) (cnb ex)
def clb{ρ:Type}:=shut (lp (cb8 (ρ:=ρ)))
theorem cqo{ρ:Type}:clb (ρ:=ρ)=lp cb8:=bg _
def ccj{ρ:Type}(f:ab6 b70 cmw ρ)(m:List Int)(n o:Int)(i:List (List Int))(j k:Int)(l:List (List Int))(a:List Int)(b c d e g:Int)(h:Bool)(p:cg1 ρ):Option ρ:=f (m,n,o,i,j,k,l,a,b,c,d,e,g,h) (fun (m,n,o,i,j,k,l,a,b,c,d,e,g,h)=>p m n o i j k l a b c d e g h)
def bby{ρ:Type}:=ccj (lp (cb8 (ρ:=ρ)))
def asu{ρ:Type}:=ccj (clb (ρ:=ρ))
theorem bh2{ρ:Type}:asu (ρ:=ρ)=bby:=congrArg ccj cqo
abbrev ck7(ρ:Type):=(List Int)→Int→Int→(List (List Int))→Int→Int→Int→Int→Int→Int→Bool→(List Int)→Option ρ
def awo{ρ:Type}(k:List Int)(j l:Int)(i:List (List Int))(a b c d e f:Int)(g:Bool)(h:List Int)(nx q:ck7 ρ):Option ρ:=br (decide (a≤j)) (asu k j l i a 0 [] h b c d e f g fun r s t A u B v w y z m n o p=>nx r s t v (Aa.wrap (u+1)) y z m n o p w) (q k j l i a b c d e f g h)
abbrev b6g:=(List Int)×Int×Int×(List (List Int))×Int×Int×Int×Int×Int×Int×Bool×(List Int)
abbrev cmf:=b6g
def ckj{ρ:Type}(f:b6g→Option ρ):ck7 ρ:=fun k l m i j a b c d e g h=>f (k,l,m,i,j,a,b,c,d,e,g,h)
def cd1{ρ:Type}:ab5 b6g cmf ρ:=fun (j,k,l,h,i,a,b,c,d,e,f,g) next ex=>awo j k l h i a b c d e f g (ckj next) (ckj ex)
def cpi{ρ:Type}:=shut (lp (cd1 (ρ:=ρ)))
theorem cqc{ρ:Type}:cpi (ρ:=ρ)=lp cd1:=bg _
def ceh{ρ:Type}(f:ab6 b6g cmf ρ)(k:List Int)(l m:Int)(i:List (List Int))(j a b c d e:Int)(g:Bool)(h:List Int)(n:ck7 ρ):Option ρ:=f (k,l,m,i,j,a,b,c,d,e,g,h) (fun (k,l,m,i,j,a,b,c,d,e,g,h)=>n k l m i j a b c d e g h)
def bhi{ρ:Type}:=ceh (lp (cd1 (ρ:=ρ)))
def bhl{ρ:Type}:=ceh (cpi (ρ:=ρ))
theorem bio{ρ:Type}:bhl (ρ:=ρ)=bhi:=congrArg ceh cqc
def arz{ρ:Type}(d b a f g:Int)(c:Bool)(j l q:List Int)(e i:Int)(k:(List Int)→Option ρ):Option ρ:=kg d b a f g c fun r=>br (!r) (k []) (br ((↑j.length:Int) !=d) (k []) (br ((↑l.length:Int) !=d) (k []) (br (decide (e<0)) (k []) (br (decide (a=0)) none (br (decide (e>Aa.wrap (b.tdiv a))) (k []) (br (decide (a=0)) none (br (decide (Aa.wrap (Aa.wrap (b.tdiv a)-e)<0)) none (br (decide (i≥Ab.wrap (1*2^min (Aa.wrap (Aa.wrap (b.tdiv a)-e)).toNat 64))) (k []) (br (decide (e<0)) none (bhs j l e i (Ab.wrap (i*2^min e.toNat 64)) [] d b a f g c q fun Q s t u U v w y z m n o p=>bhl s t u v 1 w y z m n o p fun A B C h F G H I J M N O=>br (decide (0<(↑h.length:Int))) (k (h.getD 0 [])) none))))))))))
def agn{ρ:Type}:=shut (arz (ρ:=ρ))
theorem bgc{ρ:Type}(b:Int)(c:Int)(d:Int)(e:Int)(f:Int)(a:Bool)(g:List Int)(h:List Int)(i:List Int)(j:Int)(l:Int)(k:(List Int)→Option ρ):agn b c d e f a g h i j l k=arz b c d e f a g h i j l k:=by unfold agn;rw[bg]

abbrev cl2(ρ:Type):=(List Int)→(List Int)→Int→(List (List Int))→Int→Int→Int→Int→Int→Bool→(List Int)→(List Int)→Option ρ
def awq{ρ:Type}(k j:List Int)(a:Int)(l:List (List Int))(b c d e f:Int)(g:Bool)(h i:List Int)(nx m:cl2 ρ):Option ρ:=br (decide (a<(↑i.length:Int))) (abd b c d e f g k j h a fun n=>br (decide (0≤a)) (br (decide (a<(↑i.length:Int))) (jf h 4 (Ab.wrap a) fun o=>yc b c d e f g n 0 (i.getD a.toNat 0) j o fun p=>br (decide ((l.length+1)*24≤140737488355328)) (nx k j (Aa.wrap (a+1)) (l++[p]) b c d e f g h i) none) none) none) (m k j a l b c d e f g h i)
abbrev b9v:=(List Int)×(List Int)×Int×(List (List Int))×Int×Int×Int×Int×Int×Bool×(List Int)×(List Int)
abbrev cnp:=b9v
def cob{ρ:Type}(f:b9v→Option ρ):cl2 ρ:=fun j k i l a b c d e g h m=>f (j,k,i,l,a,b,c,d,e,g,h,m)
def ce1{ρ:Type}:ab5 b9v cnp ρ:=fun (i,j,h,k,a,b,c,d,e,f,g,l) next ex=>awq i j h k a b c d e f g l (cob next) (cob ex)
def cha{ρ:Type}:=shut (lp (ce1 (ρ:=ρ)))
theorem crh{ρ:Type}:cha (ρ:=ρ)=lp ce1:=bg _
def cbq{ρ:Type}(f:ab6 b9v cnp ρ)(j k:List Int)(i:Int)(l:List (List Int))(a b c d e:Int)(g:Bool)(h m:List Int)(n:cl2 ρ):Option ρ:=f (j,k,i,l,a,b,c,d,e,g,h,m) (fun (j,k,i,l,a,b,c,d,e,g,h,m)=>n j k i l a b c d e g h m)
def bgg{ρ:Type}:=cbq (lp (ce1 (ρ:=ρ)))
def bfv{ρ:Type}:=cbq (cha (ρ:=ρ))
theorem bil{ρ:Type}:bfv (ρ:=ρ)=bgg:=congrArg cbq crh
def atl{ρ:Type}(b c d e f:Int)(a:Bool)(g h i l:List Int)(k:(List Int)→Option ρ):Option ρ:=zi b c d e f a h i fun m=>br m (k []) (br ((↑g.length:Int) !=b) (k []) (aag b g fun n=>bfv h i 0 [] b c d e f a l n fun t u v o w y z A p q r s=>iy o fun j=>k j))
def ag1{ρ:Type}:=shut (atl (ρ:=ρ))
theorem bgh{ρ:Type}(b:Int)(c:Int)(d:Int)(e:Int)(f:Int)(a:Bool)(g:List Int)(h:List Int)(i:List Int)(j:List Int)(k:(List Int)→Option ρ):ag1 b c d e f a g h i j k=atl b c d e f a g h i j k:=by unfold ag1;rw[bg]

abbrev cio(ρ:Type):=(List Int)→(List Int)→Int→Int→(List (List Int))→Int→Int→Int→Int→Int→Bool→(List Int)→Option ρ
def awf{ρ:Type}(j k:List Int)(l b:Int)(i:List (List Int))(d c a e f:Int)(g:Bool)(h:List Int)(nx m:cio ρ):Option ρ:=br (decide (a=0)) none (br (decide (b<Aa.wrap (c.tdiv a))) (br (decide (b<0)) none (agn d c a e f g j k h b (bits BinOp.xor Ab (l.fdiv (2^min b.toNat 64)) 1) fun n=>br (decide ((i.length+1)*24≤140737488355328)) (nx j k l (Aa.wrap (b+1)) (i++[n]) d c a e f g h) none)) (m j k l b i d c a e f g h))
abbrev b87:=(List Int)×(List Int)×Int×Int×(List (List Int))×Int×Int×Int×Int×Int×Bool×(List Int)
abbrev ckw:=b87
def cld{ρ:Type}(f:b87→Option ρ):cio ρ:=fun k l m i j a b c d e g h=>f (k,l,m,i,j,a,b,c,d,e,g,h)
def cej{ρ:Type}:ab5 b87 ckw ρ:=fun (j,k,l,h,i,a,b,c,d,e,f,g) next ex=>awf j k l h i a b c d e f g (cld next) (cld ex)
def cle{ρ:Type}:=shut (lp (cej (ρ:=ρ)))
theorem crg{ρ:Type}:cle (ρ:=ρ)=lp cej:=bg _
def cbo{ρ:Type}(f:ab6 b87 ckw ρ)(k l:List Int)(m i:Int)(j:List (List Int))(a b c d e:Int)(g:Bool)(h:List Int)(n:cio ρ):Option ρ:=f (k,l,m,i,j,a,b,c,d,e,g,h) (fun (k,l,m,i,j,a,b,c,d,e,g,h)=>n k l m i j a b c d e g h)
def bfh{ρ:Type}:=cbo (lp (cej (ρ:=ρ)))
def be1{ρ:Type}:=cbo (cle (ρ:=ρ))
theorem bi2{ρ:Type}:be1 (ρ:=ρ)=bfh:=congrArg cbo crg
def asr{ρ:Type}(b d c e f:Int)(a:Bool)(j g h l:List Int)(i:Int)(k:(List Int)→Option ρ):Option ρ:=kg b d c e f a fun n=>br (!n) (k []) (br ((↑g.length:Int) !=b) (k []) (br ((↑h.length:Int) !=b) (k []) (br ((↑j.length:Int) !=b) (k []) (br (decide (c=0)) none (br (decide (Aa.wrap (d.tdiv c)<0)) none (br (decide (i≥Ab.wrap (1*2^min (Aa.wrap (d.tdiv c)).toNat 64))) (k []) (aay l i fun o=>ag1 b d c e f a j g h o fun p=>be1 g h i 0 [p] b d c e f a l fun w y z A q B C r s t u v=>iy q fun m=>k m)))))))
def ag8{ρ:Type}:=shut (asr (ρ:=ρ))
theorem bfr{ρ:Type}(b:Int)(c:Int)(d:Int)(e:Int)(f:Int)(a:Bool)(g:List Int)(h:List Int)(i:List Int)(j:List Int)(l:Int)(k:(List Int)→Option ρ):ag8 b c d e f a g h i j l k=asr b c d e f a g h i j l k:=by unfold ag8;rw[bg]

abbrev cfl(ρ:Type):=(List Int)→(List Int)→(List Int)→Int→Int→Int→(List (List Int))→Int→Int→Int→Int→Int→Bool→Option ρ
def asn{ρ:Type}(j k h:List Int)(i l g:Int)(m:List (List Int))(c b a d e:Int)(f:Bool)(nx p:cfl ρ):Option ρ:=br (decide (g<a)) (aex g i fun n=>ag8 c b a d e f j k h n l fun o=>br (decide ((m.length+1)*24≤140737488355328)) (zu c b a d e f o j h n l fun q=>br (decide (a=0)) none (br (decide (Aa.wrap (b.tdiv a)<0)) none (br (decide (Ab.wrap (1*2^min (Aa.wrap (b.tdiv a)).toNat 64)=0)) none (br (decide (a=0)) none (br (decide (Aa.wrap (b.tdiv a)<0)) none (nx q k h (i.fdiv (2^min (Aa.wrap (b.tdiv a)).toNat 64)) (i.tmod (Ab.wrap (1*2^min (Aa.wrap (b.tdiv a)).toNat 64))) (Aa.wrap (g+1)) (m++[o]) c b a d e f)))))) none) (p j k h i l g m c b a d e f)
abbrev b8n:=(List Int)×(List Int)×(List Int)×Int×Int×Int×(List (List Int))×Int×Int×Int×Int×Int×Bool
abbrev cla:=b8n
def ci6{ρ:Type}(f:b8n→Option ρ):cfl ρ:=fun i j k l m h n a b c d e g=>f (i,j,k,l,m,h,n,a,b,c,d,e,g)
def cc4{ρ:Type}:ab5 b8n cla ρ:=fun (h,i,j,k,l,g,m,a,b,c,d,e,f) next ex=>asn h i j k l g m a b c d e f (ci6 next) (ci6 ex)
def cl8{ρ:Type}:=shut (lp (cc4 (ρ:=ρ)))
theorem crj{ρ:Type}:cl8 (ρ:=ρ)=lp cc4:=bg _
def cb3{ρ:Type}(f:ab6 b8n cla ρ)(i j k:List Int)(l m h:Int)(n:List (List Int))(a b c d e:Int)(g:Bool)(o:cfl ρ):Option ρ:=f (i,j,k,l,m,h,n,a,b,c,d,e,g) (fun (i,j,k,l,m,h,n,a,b,c,d,e,g)=>o i j k l m h n a b c d e g)
def bc7{ρ:Type}:=cb3 (lp (cc4 (ρ:=ρ)))
def bca{ρ:Type}:=cb3 (cl8 (ρ:=ρ))
theorem bfw{ρ:Type}:bca (ρ:=ρ)=bc7:=congrArg cb3 crj
def aqb{ρ:Type}(a c d e f:Int)(b:Bool)(g h i:List Int)(j l:Int)(k:(List Int)→Option ρ):Option ρ:=aha a c d e f b j l fun n=>br (!n) (k []) (br ((↑h.length:Int) !=a) (k []) (br ((↑i.length:Int) !=a) (k []) (br ((↑g.length:Int) !=a) (k []) (bca g h i j l 0 [] a c d e f b fun t u v w y z o A B p q r s=>iy o fun m=>k m))))
def adk{ρ:Type}:=shut (aqb (ρ:=ρ))
theorem bcw{ρ:Type}(b:Int)(c:Int)(d:Int)(e:Int)(f:Int)(a:Bool)(g:List Int)(h:List Int)(i:List Int)(j:Int)(l:Int)(k:(List Int)→Option ρ):adk b c d e f a g h i j l k=aqb b c d e f a g h i j l k:=by unfold adk;rw[bg]

def aef{ρ:Type}(a d e f g:Int)(b:Bool)(c s h i:List Int)(k:(List Int)→Int→Option ρ):Option ρ:=kg a d e f g b fun t=>br (!t) (k [] 9) (br ((↑c.length:Int) !=Aa.wrap (4*a)) (k [] 10) (br ((↑i.length:Int) !=a) (k [] 14) (br (decide ((↑h.length:Int)>255)) (k [] 2) (aht s h fun j=>br (decide (0≤a)) (br (decide (a≤Aa.wrap (2*a))) (br (decide (Aa.wrap (2*a)≤(↑c.length:Int))) (akq a d e f g b (Ad a.toNat (Ac (Aa.wrap (2*a)).toNat c)) i j fun l=>br (decide (0≤Aa.wrap (2*a))) (br (decide (Aa.wrap (2*a)≤(↑c.length:Int))) (br (decide ((↑c.length:Int)≤(↑c.length:Int))) (ae6 a d e f g b l (Ad (Aa.wrap (2*a)).toNat (Ac (↑c.length:Int).toNat c)) j fun m n o=>br (decide (0≤a)) (br (decide (a≤(↑c.length:Int))) (br (decide (0≤Aa.wrap (2*a))) (br (decide (Aa.wrap (2*a)≤Aa.wrap (3*a))) (br (decide (Aa.wrap (3*a)≤(↑c.length:Int))) (afv n o fun p=>afz a d e f g b m (Ad 0 (Ac a.toNat c)) (Ad (Aa.wrap (2*a)).toNat (Ac (Aa.wrap (3*a)).toNat c)) p fun q=>yj a d e f g b q m (Ad (Aa.wrap (2*a)).toNat (Ac (Aa.wrap (3*a)).toNat c)) p fun u=>adk a d e f g b u (Ad 0 (Ac a.toNat c)) (Ad (Aa.wrap (2*a)).toNat (Ac (Aa.wrap (3*a)).toNat c)) n o fun v=>iy [l,q,v] fun r=>k r 0) none) none) none) none) none) none) none) none) none) none) none))))
def ai2{ρ:Type}:=shut (aef (ρ:=ρ))
theorem aiu{ρ:Type}(b:Int)(c:Int)(d:Int)(e:Int)(f:Int)(a:Bool)(g:List Int)(h:List Int)(i:List Int)(j:List Int)(k:(List Int)→Int→Option ρ):ai2 b c d e f a g h i j k=aef b c d e f a g h i j k:=by unfold ai2;rw[bg]

def aj0{ρ:Type}(b c d e f:Int)(a:Bool)(g h i j:List Int)(k:Bool→Option ρ):Option ρ:=ahs b c d e f a fun l=>br (!l) (aa7 fun m=>k m) (ajx [g,h,i,j] fun n=>br (!n) (aa7 fun o=>k o) (ai5 b c d e f a g h i j fun p q=>ai2 b c d e f a g h i j fun r s=>ag5 p r fun t=>br t (br (q==s) (aa7 fun u=>k u) (k false)) (k false)))
def ab4{ρ:Type}:=shut (aj0 (ρ:=ρ))
theorem ase{ρ:Type}(b:Int)(c:Int)(d:Int)(e:Int)(f:Int)(a:Bool)(g:List Int)(h:List Int)(i:List Int)(j:List Int)(k:Bool→Option ρ):ab4 b c d e f a g h i j k=aj0 b c d e f a g h i j k:=by unfold ab4;rw[bg]

























































































end P
end
