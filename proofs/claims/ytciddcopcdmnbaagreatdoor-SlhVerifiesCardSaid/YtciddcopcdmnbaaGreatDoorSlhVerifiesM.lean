/-
  SlhVerifies, part 13: an interpreter of my own over abstract values, the pure functions, the walks and the plain law.
-/

import Derived.Test.YtciddcopcdmnbaaGreatDoorSlhVerifiesH
import Derived.Test.YtciddcopcdmnbaaGreatDoorSlhVerifiesL
import Derived.Test.YtciddcopcdmnbaaGreatDoorSlhVerifiesI
import Derived.Test.YtciddcopcdmnbaaGreatDoorSlhVerifiesK
open Go.IntKind renaming i64 → Aa, u64 → Ab
open List renaming take → Ac, drop → Ad

noncomputable section
open Go Go.Abs
set_option linter.unusedVariables false
namespace P

def aro{ρ:Type}(a:List Int)(k:Int→Option ρ):Option ρ:=uj (Ac 4 (Ad 20 a)) fun b=>k b
def acn{ρ:Type}:=shut (aro (ρ:=ρ))
theorem bct{ρ:Type}(a:List Int)(k:Int→Option ρ):acn a k=aro a k:=by unfold acn;rw[cu]

def axu{ρ:Type}(a:List Int)(b c d:Int)(k:(List Int)→Option ρ):Option ρ:=jg a 2 b fun e=>acn a fun f=>jg e 3 f fun g=>jg g 4 (Ab.wrap c) fun h=>jg h 5 d fun i=>k i
def ae9{ρ:Type}:=shut (axu (ρ:=ρ))
theorem bk4{ρ:Type}(a:List Int)(b:Int)(c:Int)(d:Int)(k:(List Int)→Option ρ):ae9 a b c d k=axu a b c d k:=by unfold ae9;rw[cu]

def at0{ρ:Type}(b c d e f:Int)(a:Bool)(h:List (List Int))(i g:List Int)(k:(List Int)→Option ρ):Option ρ:=jg g 2 4 fun j=>acn g fun l=>jg j 3 l fun m=>ji h fun n=>wu b c d e f a i m n fun o=>k o
def akw{ρ:Type}:=shut (at0 (ρ:=ρ))
theorem bee{ρ:Type}(b:Int)(c:Int)(d:Int)(e:Int)(f:Int)(a:Bool)(g:List (List Int))(h:List Int)(i:List Int)(k:(List Int)→Option ρ):akw b c d e f a g h i k=at0 b c d e f a g h i k:=by unfold akw;rw[cu]

abbrev cdw(ρ:Type):=(List Int)→(List Int)→Int→Int→(List Int)→(List Int)→Int→(List Int)→(List Int)→Int→Int→Int→Int→Int→Bool→(List (List Int))→Option ρ
def ahj{ρ:Type}(n k:List Int)(l i:Int)(j m:List Int)(a:Int)(o d:List Int)(b e f c g:Int)(h:Bool)(p:List (List Int))(nx q:cdw ρ):Option ρ:=br (decide (a<c)) (br (decide ((0:Int)≤Aa.wrap (b*Aa.wrap (a+(1:Int))))) (br (decide (Aa.wrap (b*Aa.wrap (a+(1:Int)))≤Aa.wrap (b*Aa.wrap (a+(2:Int))))) (br (decide (Aa.wrap (b*Aa.wrap (a+(2:Int)))≤(↑j.length:Int))) (ji [m,Ad (Aa.wrap (b*Aa.wrap (a+(1:Int)))).toNat (Ac (Aa.wrap (b*Aa.wrap (a+(2:Int)))).toNat j)] fun r=>br (decide (a<(0:Int))) none (br ((i.fdiv ((2:Int)^min a.toNat 64)).tmod (2:Int)==(1:Int)) (ji [Ad (Aa.wrap (b*Aa.wrap (a+(1:Int)))).toNat (Ac (Aa.wrap (b*Aa.wrap (a+(2:Int)))).toNat j),m] fun s=>br (decide (Aa.wrap (a+(1:Int))<(0:Int))) none (ae9 d (3:Int) (Aa.wrap (a+(1:Int))) (i.fdiv ((2:Int)^min (Aa.wrap (a+(1:Int))).toNat 64)) fun t=>wu b e f c g h k t s fun u=>nx n k l i j u (Aa.wrap (a+(1:Int))) o d b e f c g h p)) (br (decide (Aa.wrap (a+(1:Int))<(0:Int))) none (ae9 d (3:Int) (Aa.wrap (a+(1:Int))) (i.fdiv ((2:Int)^min (Aa.wrap (a+(1:Int))).toNat 64)) fun v=>wu b e f c g h k v r fun w=>nx n k l i j w (Aa.wrap (a+(1:Int))) o d b e f c g h p)))) none) none) none) (q n k l i j m a o d b e f c g h p)
abbrev b08:=(List Int)×(List Int)×Int×Int×(List Int)×(List Int)×Int×(List Int)×(List Int)×Int×Int×Int×Int×Int×Bool×(List (List Int))
abbrev cf4:=b08
def cde{ρ:Type}(f:b08→Option ρ):cdw ρ:=fun n o i j k l m p a b c d e g h q=>f (n,o,i,j,k,l,m,p,a,b,c,d,e,g,h,q)
def b1t{ρ:Type}:aed b08 cf4 ρ:=fun (m,n,h,i,j,k,l,o,a,b,c,d,e,f,g,p) next ex=>ahj m n h i j k l o a b c d e f g p (cde next) (cde ex)
def ccf{ρ:Type}:=shut (lp (b1t (ρ:=ρ)))
theorem ch6{ρ:Type}:ccf (ρ:=ρ)=lp b1t:=cu _
def b7t{ρ:Type}(f:ad4 b08 cf4 ρ)(n o:List Int)(i j:Int)(k l:List Int)(m:Int)(p a:List Int)(b c d e g:Int)(h:Bool)(q:List (List Int))(r:cdw ρ):Option ρ:=f (n,o,i,j,k,l,m,p,a,b,c,d,e,g,h,q) (fun (n,o,i,j,k,l,m,p,a,b,c,d,e,g,h,q)=>r n o i j k l m p a b c d e g h q)
def am3{ρ:Type}:=b7t (lp (b1t (ρ:=ρ)))
def anj{ρ:Type}:=b7t (ccf (ρ:=ρ))
theorem asf{ρ:Type}:anj (ρ:=ρ)=am3:=congrArg b7t ch6
abbrev cdp(ρ:Type):=(List Int)→(List Int)→Int→(List (List Int))→Int→Int→Int→Int→Int→Bool→(List Int)→(List Int)→Option ρ
def ai6{ρ:Type}(d l:List Int)(c:Int)(m:List (List Int))(a f g b e:Int)(h:Bool)(i j:List Int)(nx u:cdp ρ):Option ρ:=br (decide (c<e)) (br (decide (b<0)) none (br (decide (0≤c)) (br (decide (c<(↑j.length:Int))) (br (decide (0≤Aa.wrap (Aa.wrap (c*a)*Aa.wrap (b+1)))) (br (decide (Aa.wrap (Aa.wrap (c*a)*Aa.wrap (b+1))≤(↑d.length:Int))) (br (decide ((↑d.length:Int)≤(↑d.length:Int))) (ae9 i 3 0 (Ab.wrap (Ab.wrap (Ab.wrap c*2^min b.toNat 64)+Ab.wrap (j.getD c.toNat 0))) fun v=>br (decide (0≤a)) (br (decide (a≤(↑(Ad (Aa.wrap (Aa.wrap (c*a)*Aa.wrap (b+1))).toNat (Ac (↑d.length:Int).toNat d)).length:Int))) (wu a f g b e h l v (Ad 0 (Ac a.toNat (Ad (Aa.wrap (Aa.wrap (c*a)*Aa.wrap (b+1))).toNat (Ac (↑d.length:Int).toNat d)))) fun w=>anj d l c (Ab.wrap (Ab.wrap (Ab.wrap c*2^min b.toNat 64)+Ab.wrap (j.getD c.toNat 0))) (Ad (Aa.wrap (Aa.wrap (c*a)*Aa.wrap (b+1))).toNat (Ac (↑d.length:Int).toNat d)) w 0 j i a f g b e h m fun y z A F G B H C n o p q r s t k=>br (decide ((k.length+1)*24≤140737488355328)) (nx y z (Aa.wrap (A+1)) (k++[B]) o p q r s t n C) none) none) none) none) none) none) none) none)) (u d l c m a f g b e h i j)
abbrev b4b:=(List Int)×(List Int)×Int×(List (List Int))×Int×Int×Int×Int×Int×Bool×(List Int)×(List Int)
abbrev b9c:=b4b
def cee{ρ:Type}(f:b4b→Option ρ):cdp ρ:=fun j k i l a b c d e g h m=>f (j,k,i,l,a,b,c,d,e,g,h,m)
def b2g{ρ:Type}:aed b4b b9c ρ:=fun (i,j,h,k,a,b,c,d,e,f,g,l) next ex=>ai6 i j h k a b c d e f g l (cee next) (cee ex)
def b9p{ρ:Type}:=shut (lp (b2g (ρ:=ρ)))
theorem cg7{ρ:Type}:b9p (ρ:=ρ)=lp b2g:=cu _
def b6y{ρ:Type}(f:ad4 b4b b9c ρ)(j k:List Int)(i:Int)(l:List (List Int))(a b c d e:Int)(g:Bool)(h m:List Int)(n:cdp ρ):Option ρ:=f (j,k,i,l,a,b,c,d,e,g,h,m) (fun (j,k,i,l,a,b,c,d,e,g,h,m)=>n j k i l a b c d e g h m)
def ao9{ρ:Type}:=b6y (lp (b2g (ρ:=ρ)))
def apm{ρ:Type}:=b6y (b9p (ρ:=ρ))
theorem atz{ρ:Type}:apm (ρ:=ρ)=ao9:=congrArg b6y cg7
def ahr{ρ:Type}(b e f c d:Int)(a:Bool)(g h i q:List Int)(k:(List Int)→Option ρ):Option ρ:=xg b e f c d a fun r s=>lg b e f c d a fun t=>br (!t) (k []) (br ((↑i.length:Int) !=b) (k []) (br ((↑h.length:Int) !=s) (k []) (br ((↑g.length:Int) !=r) (k []) (qd h c d fun u=>apm g i 0 [] b e f c d a q u fun B v C w y z j l m n o A=>akw y z j l m n w v o fun p=>k p))))
def yg{ρ:Type}:=shut (ahr (ρ:=ρ))
theorem ao3{ρ:Type}(b:Int)(c:Int)(d:Int)(e:Int)(f:Int)(a:Bool)(g:List Int)(h:List Int)(i:List Int)(j:List Int)(k:(List Int)→Option ρ):yg b c d e f a g h i j k=ahr b c d e f a g h i j k:=by unfold yg;rw[cu]

def aop{ρ:Type}(a b:Int)(k:(List Int)→Option ρ):Option ρ:=jg [0,0,0,0,0,0,0,0,0,0,0,0,0,0,0,0,0,0,0,0,0,0,0,0,0,0,0,0,0,0,0,0] 1 a fun c=>jg c 2 3 fun d=>jg d 3 b fun e=>k e
def agn{ρ:Type}:=shut (aop (ρ:=ρ))
theorem ayo{ρ:Type}(a:Int)(b:Int)(k:(List Int)→Option ρ):agn a b k=aop a b k:=by unfold agn;rw[cu]

abbrev b9n(ρ:Type):=(List Int)→(List Int)→Int→Option ρ
def auf{ρ:Type}(b c:List Int)(a:Int)(nx d:b9n ρ)(e:Bool→Option ρ):Option ρ:=br (decide (a<(↑b.length:Int))) (br (decide (0≤a)) (br (decide (a<(↑b.length:Int))) (br (decide (0≤a)) (br (decide (a<(↑c.length:Int))) (br (b.getD a.toNat 0 !=c.getD a.toNat 0) (e false) (nx b c (Aa.wrap (a+1)))) none) none) none) none) (d b c a)
abbrev b7m:=(List Int)×(List Int)×Int
abbrev cds:=((List Int)×(List Int)×Int) ⊕ (Bool)
def cho{ρ:Type}(f:b7m→Option ρ):b9n ρ:=fun a b c=>f (a,b,c)
def b2k{ρ:Type}:aed b7m cds ρ:=fun (a,b,c) next ex=>auf a b c (cho next) (fun a b c=>ex (.inl (a,b,c))) (fun d=>ex (.inr d))
def cb0{ρ:Type}:=shut (lp (b2k (ρ:=ρ)))
theorem chs{ρ:Type}:cb0 (ρ:=ρ)=lp b2k:=cu _
def b7z{ρ:Type}(f:ad4 b7m cds ρ)(a b:List Int)(c:Int)(d:b9n ρ)(e:Bool→Option ρ):Option ρ:=f (a,b,c) (Sum.elim (fun (a,b,c)=>d a b c) (fun x=>e x))
def bdl{ρ:Type}:=b7z (lp (b2k (ρ:=ρ)))
def bbr{ρ:Type}:=b7z (cb0 (ρ:=ρ))
theorem bdq{ρ:Type}:bbr (ρ:=ρ)=bdl:=congrArg b7z chs
def aq5{ρ:Type}(a b:List Int)(k:Bool→Option ρ):Option ρ:=br ((↑a.length:Int) !=(↑b.length:Int)) (k false) (bbr a b 0 (fun d e f=>k true) fun c=>k c)
def agt{ρ:Type}:=shut (aq5 (ρ:=ρ))
theorem bck{ρ:Type}(a:List Int)(b:List Int)(k:Bool→Option ρ):agt a b k=aq5 a b k:=by unfold agt;rw[cu]

def ap7{ρ:Type}(d a b e f:Int)(c:Bool)(g h:Int)(k:Bool→Option ρ):Option ρ:=lg d a b e f c fun i=>br i (br (decide (b=0)) none (br (decide (Aa.wrap (a.tdiv b)<0)) none (br (decide (h<Ab.wrap (1*2^min (Aa.wrap (a.tdiv b)).toNat 64))) (br (decide (b=0)) none (br (decide (Aa.wrap (a-Aa.wrap (a.tdiv b))≥64)) (k true) (br (decide (b=0)) none (br (decide (Aa.wrap (a-Aa.wrap (a.tdiv b))<0)) none (k (decide (g<Ab.wrap (1*2^min (Aa.wrap (a-Aa.wrap (a.tdiv b))).toNat 64)))))))) (k false)))) (k false)
def afw{ρ:Type}:=shut (ap7 (ρ:=ρ))
theorem bbd{ρ:Type}(b:Int)(c:Int)(d:Int)(e:Int)(f:Int)(a:Bool)(g:Int)(h:Int)(k:Bool→Option ρ):afw b c d e f a g h k=ap7 b c d e f a g h k:=by unfold afw;rw[cu]

def aq9{ρ:Type}(a:List Int)(b:Int)(k:(List Int)→Option ρ):Option ρ:=jg a 2 0 fun c=>jg c 3 b fun d=>k d
def agv{ρ:Type}:=shut (aq9 (ρ:=ρ))
theorem bb5{ρ:Type}(a:List Int)(b:Int)(k:(List Int)→Option ρ):agv a b k=aq9 a b k:=by unfold agv;rw[cu]

def aq8{ρ:Type}(b c d e f:Int)(a:Bool)(g h:List Int)(i j:Int)(l m:List Int)(k:(List Int)→Option ρ):Option ρ:=jg h 2 2 fun n=>jg n 4 (Ab.wrap i) fun o=>jg o 5 j fun p=>ji [l,m] fun q=>wu b c d e f a g p q fun r=>k r
def aeo{ρ:Type}:=shut (aq8 (ρ:=ρ))
theorem bda{ρ:Type}(b:Int)(c:Int)(d:Int)(e:Int)(f:Int)(a:Bool)(g:List Int)(h:List Int)(i:Int)(j:Int)(l:List Int)(m:List Int)(k:(List Int)→Option ρ):aeo b c d e f a g h i j l m k=aq8 b c d e f a g h i j l m k:=by unfold aeo;rw[cu]

def aos{ρ:Type}(a c d e f:Int)(b:Bool)(g h:List Int)(k:Bool→Option ρ):Option ρ:=lg a c d e f b fun i=>br (!i) (k true) (br ((↑g.length:Int) !=a) (k true) (k ((↑h.length:Int) !=a)))
def adp{ρ:Type}:=shut (aos (ρ:=ρ))
theorem ayu{ρ:Type}(b:Int)(c:Int)(d:Int)(e:Int)(f:Int)(a:Bool)(g:List Int)(h:List Int)(k:Bool→Option ρ):adp b c d e f a g h k=aos b c d e f a g h k:=by unfold adp;rw[cu]

abbrev cej(ρ:Type):=(List Int)→Int→(List Int)→Int→Int→Int→Int→Int→Int→Bool→(List Int)→Option ρ
def aqg{ρ:Type}(k:List Int)(i:Int)(j:List Int)(h a b c d e:Int)(f:Bool)(g:List Int)(nx l:cej ρ):Option ρ:=br (decide (h<i)) (jg g 5 (Ab.wrap h) fun m=>wu a b c d e f j m k fun n=>nx n i j (IntKind.u32.wrap (h+1)) a b c d e f g) (l k i j h a b c d e f g)
abbrev b4v:=(List Int)×Int×(List Int)×Int×Int×Int×Int×Int×Int×Bool×(List Int)
abbrev b9b:=b4v
def ce8{ρ:Type}(f:b4v→Option ρ):cej ρ:=fun j k l i a b c d e g h=>f (j,k,l,i,a,b,c,d,e,g,h)
def b4k{ρ:Type}:aed b4v b9b ρ:=fun (i,j,k,h,a,b,c,d,e,f,g) next ex=>aqg i j k h a b c d e f g (ce8 next) (ce8 ex)
def b9z{ρ:Type}:=shut (lp (b4k (ρ:=ρ)))
theorem cgt{ρ:Type}:b9z (ρ:=ρ)=lp b4k:=cu _
def b6v{ρ:Type}(f:ad4 b4v b9b ρ)(j:List Int)(k:Int)(l:List Int)(i a b c d e:Int)(g:Bool)(h:List Int)(m:cej ρ):Option ρ:=f (j,k,l,i,a,b,c,d,e,g,h) (fun (j,k,l,i,a,b,c,d,e,g,h)=>m j k l i a b c d e g h)
def ayx{ρ:Type}:=b6v (lp (b4k (ρ:=ρ)))
def ayg{ρ:Type}:=b6v (b9z (ρ:=ρ))
theorem bcv{ρ:Type}:ayg (ρ:=ρ)=ayx:=congrArg b6v cgt
def aox{ρ:Type}(b c d e f:Int)(a:Bool)(g:List Int)(h i:Int)(j l:List Int)(k:(List Int)→Option ρ):Option ρ:=ayg g i j h b c d e f a l fun m o p q r s t u v w n=>k m
def adu{ρ:Type}:=shut (aox (ρ:=ρ))
theorem azc{ρ:Type}(b:Int)(c:Int)(d:Int)(e:Int)(f:Int)(a:Bool)(g:List Int)(h:Int)(i:Int)(j:List Int)(l:List Int)(k:(List Int)→Option ρ):adu b c d e f a g h i j l k=aox b c d e f a g h i j l k:=by unfold adu;rw[cu]

def aqy{ρ:Type}(a:List Int)(k:Int→Option ρ):Option ρ:=uj (Ac 4 (Ad 20 a)) fun b=>k b
def agz{ρ:Type}:=shut (aqy (ρ:=ρ))
theorem bc8{ρ:Type}(a:List Int)(k:Int→Option ρ):agz a k=aqy a k:=by unfold agz;rw[cu]

def auz{ρ:Type}(b c d e f:Int)(a:Bool)(h:List (List Int))(i g:List Int)(k:(List Int)→Option ρ):Option ρ:=jg g 2 1 fun j=>agz g fun l=>jg j 3 l fun m=>ji h fun n=>wu b c d e f a i m n fun o=>k o
def akt{ρ:Type}:=shut (auz (ρ:=ρ))
theorem bei{ρ:Type}(b:Int)(c:Int)(d:Int)(e:Int)(f:Int)(a:Bool)(g:List (List Int))(h:List Int)(i:List Int)(k:(List Int)→Option ρ):akt b c d e f a g h i k=auz b c d e f a g h i k:=by unfold akt;rw[cu]

abbrev b8n(ρ:Type):=Int→Int→(List Int)→Option ρ
def aoh{ρ:Type}(c a:Int)(b:List Int)(nx d:b8n ρ):Option ρ:=br (decide (a<(↑b.length:Int))) (br (decide (0≤a)) (br (decide (a<(↑b.length:Int))) (nx (Ab.wrap (Ab.wrap (c+15)-Ab.wrap (b.getD a.toNat 0))) (Aa.wrap (a+1)) b) none) none) (d c a b)
abbrev b5r:=Int×Int×(List Int)
abbrev b8z:=b5r
def b8d{ρ:Type}(f:b5r→Option ρ):b8n ρ:=fun a b c=>f (a,b,c)
def b3b{ρ:Type}:aed b5r b8z ρ:=fun (a,b,c) next ex=>aoh a b c (b8d next) (b8d ex)
def cdd{ρ:Type}:=shut (lp (b3b (ρ:=ρ)))
theorem ch9{ρ:Type}:cdd (ρ:=ρ)=lp b3b:=cu _
def b7w{ρ:Type}(f:ad4 b5r b8z ρ)(a b:Int)(c:List Int)(d:b8n ρ):Option ρ:=f (a,b,c) (fun (a,b,c)=>d a b c)
def awk{ρ:Type}:=b7w (lp (b3b (ρ:=ρ)))
def ael{ρ:Type}:=b7w (cdd (ρ:=ρ))
theorem azn{ρ:Type}:ael (ρ:=ρ)=awk:=congrArg b7w ch9
def al4{ρ:Type}(a:Int)(b:List Int)(k:(List Int)→Option ρ):Option ρ:=br (a !=16) (br (a !=24) (br (a !=32) (k []) (br ((↑b.length:Int) !=a) (k []) (qd b 4 (Aa.wrap (2*a)) fun n=>ael 0 0 n fun o t f=>wz (Ab.wrap (16*o)) 2 fun p=>qd p 4 3 fun g=>br (decide ((f.length+g.length)*4≤140737488355328)) (k (f++g)) none))) (br ((↑b.length:Int) !=a) (k []) (qd b 4 (Aa.wrap (2*a)) fun q=>ael 0 0 q fun r u h=>wz (Ab.wrap (16*r)) 2 fun i=>qd i 4 3 fun c=>br (decide ((h.length+c.length)*4≤140737488355328)) (k (h++c)) none))) (br ((↑b.length:Int) !=a) (k []) (qd b 4 (Aa.wrap (2*a)) fun j=>ael 0 0 j fun l s d=>wz (Ab.wrap (16*l)) 2 fun m=>qd m 4 3 fun e=>br (decide ((d.length+e.length)*4≤140737488355328)) (k (d++e)) none))
def ab0{ρ:Type}:=shut (al4 (ρ:=ρ))
theorem aww{ρ:Type}(a:Int)(b:List Int)(k:(List Int)→Option ρ):ab0 a b k=al4 a b k:=by unfold ab0;rw[cu]

abbrev cah(ρ:Type):=(List Int)→(List Int)→Int→(List (List Int))→Int→Int→Int→Int→Int→Bool→(List Int)→(List Int)→Option ρ
def ai7{ρ:Type}(j k:List Int)(b:Int)(l:List (List Int))(a c d e f:Int)(g:Bool)(h i:List Int)(nx m:cah ρ):Option ρ:=br (decide (b<(↑i.length:Int))) (br (decide (0≤Aa.wrap (a*b))) (br (decide (Aa.wrap (a*b)≤Aa.wrap (Aa.wrap (a*b)+a))) (br (decide (Aa.wrap (Aa.wrap (a*b)+a)≤(↑j.length:Int))) (br (decide (0≤b)) (br (decide (b<(↑i.length:Int))) (jg h 4 (Ab.wrap b) fun n=>adu a c d e f g (Ad (Aa.wrap (a*b)).toNat (Ac (Aa.wrap (Aa.wrap (a*b)+a)).toNat j)) (i.getD b.toNat 0) 15 k n fun o=>br (decide ((l.length+1)*24≤140737488355328)) (nx j k (Aa.wrap (b+1)) (l++[o]) a c d e f g h i) none) none) none) none) none) none) (m j k b l a c d e f g h i)
abbrev b4s:=(List Int)×(List Int)×Int×(List (List Int))×Int×Int×Int×Int×Int×Bool×(List Int)×(List Int)
abbrev b78:=b4s
def ced{ρ:Type}(f:b4s→Option ρ):cah ρ:=fun j k i l a b c d e g h m=>f (j,k,i,l,a,b,c,d,e,g,h,m)
def b2j{ρ:Type}:aed b4s b78 ρ:=fun (i,j,h,k,a,b,c,d,e,f,g,l) next ex=>ai7 i j h k a b c d e f g l (ced next) (ced ex)
def cez{ρ:Type}:=shut (lp (b2j (ρ:=ρ)))
theorem ciq{ρ:Type}:cez (ρ:=ρ)=lp b2j:=cu _
def b6g{ρ:Type}(f:ad4 b4s b78 ρ)(j k:List Int)(i:Int)(l:List (List Int))(a b c d e:Int)(g:Bool)(h m:List Int)(n:cah ρ):Option ρ:=f (j,k,i,l,a,b,c,d,e,g,h,m) (fun (j,k,i,l,a,b,c,d,e,g,h,m)=>n j k i l a b c d e g h m)
def apl{ρ:Type}:=b6g (lp (b2j (ρ:=ρ)))
def apq{ρ:Type}:=b6g (cez (ρ:=ρ))
theorem au5{ρ:Type}:apq (ρ:=ρ)=apl:=congrArg b6g ciq
def ahc{ρ:Type}(a c d e f:Int)(b:Bool)(g h i o:List Int)(k:(List Int)→Option ρ):Option ρ:=adp a c d e f b h i fun p=>br p (k []) (br ((↑g.length:Int) !=Aa.wrap (a*Aa.wrap (Aa.wrap (2*a)+3))) (k []) (ab0 a h fun q=>apq g i 0 [] a c d e f b o q fun z r A s t u v w j l m y=>akt t u v w j l s r m fun n=>k n))
def yx{ρ:Type}:=shut (ahc (ρ:=ρ))
theorem aps{ρ:Type}(b:Int)(c:Int)(d:Int)(e:Int)(f:Int)(a:Bool)(g:List Int)(h:List Int)(i:List Int)(j:List Int)(k:(List Int)→Option ρ):yx b c d e f a g h i j k=ahc b c d e f a g h i j k:=by unfold yx;rw[cu]

abbrev ceu(ρ:Type):=(List Int)→(List Int)→Int→Int→(List Int)→Int→Int→Int→Int→Int→Int→Bool→(List Int)→Option ρ
def ai1{ρ:Type}(j l:List Int)(k c:Int)(m:List Int)(b a e d f g:Int)(h:Bool)(i:List Int)(nx n:ceu ρ):Option ρ:=br (decide (d=(0:Int))) none (br (decide (b<Aa.wrap (e.tdiv d))) (br (decide ((0:Int)≤Aa.wrap (c+Aa.wrap (a*b)))) (br (decide (Aa.wrap (c+Aa.wrap (a*b))≤Aa.wrap (Aa.wrap (c+Aa.wrap (a*b))+a))) (br (decide (Aa.wrap (Aa.wrap (c+Aa.wrap (a*b))+a)≤(↑j.length:Int))) (br (decide (b<(0:Int))) none (br ((k.fdiv ((2:Int)^min b.toNat 64)).tmod (2:Int)==(0:Int)) (br (decide (Aa.wrap (b+(1:Int))<(0:Int))) none (aeo a e d f g h l i (Aa.wrap (b+(1:Int))) (k.fdiv ((2:Int)^min (Aa.wrap (b+(1:Int))).toNat 64)) m (Ad (Aa.wrap (c+Aa.wrap (a*b))).toNat (Ac (Aa.wrap (Aa.wrap (c+Aa.wrap (a*b))+a)).toNat j)) fun o=>nx j l k c o (Aa.wrap (b+(1:Int))) a e d f g h i)) (br (decide (Aa.wrap (b+(1:Int))<(0:Int))) none (aeo a e d f g h l i (Aa.wrap (b+(1:Int))) (k.fdiv ((2:Int)^min (Aa.wrap (b+(1:Int))).toNat 64)) (Ad (Aa.wrap (c+Aa.wrap (a*b))).toNat (Ac (Aa.wrap (Aa.wrap (c+Aa.wrap (a*b))+a)).toNat j)) m fun p=>nx j l k c p (Aa.wrap (b+(1:Int))) a e d f g h i)))) none) none) none) (n j l k c m b a e d f g h i))
abbrev b3w:=(List Int)×(List Int)×Int×Int×(List Int)×Int×Int×Int×Int×Int×Int×Bool×(List Int)
abbrev cfy:=b3w
def cff{ρ:Type}(f:b3w→Option ρ):ceu ρ:=fun l m n i j k a b c d e g h=>f (l,m,n,i,j,k,a,b,c,d,e,g,h)
def b4w{ρ:Type}:aed b3w cfy ρ:=fun (k,l,m,h,i,j,a,b,c,d,e,f,g) next ex=>ai1 k l m h i j a b c d e f g (cff next) (cff ex)
def cd5{ρ:Type}:=shut (lp (b4w (ρ:=ρ)))
theorem cg5{ρ:Type}:cd5 (ρ:=ρ)=lp b4w:=cu _
def b6u{ρ:Type}(f:ad4 b3w cfy ρ)(l m:List Int)(n i:Int)(j:List Int)(k a b c d e:Int)(g:Bool)(h:List Int)(o:ceu ρ):Option ρ:=f (l,m,n,i,j,k,a,b,c,d,e,g,h) (fun (l,m,n,i,j,k,a,b,c,d,e,g,h)=>o l m n i j k a b c d e g h)
def ape{ρ:Type}:=b6u (lp (b4w (ρ:=ρ)))
def ao7{ρ:Type}:=b6u (cd5 (ρ:=ρ))
theorem at5{ρ:Type}:ao7 (ρ:=ρ)=ape:=congrArg b6u cg5
def aho{ρ:Type}(a d c e f:Int)(b:Bool)(g j h l:List Int)(i:Int)(k:(List Int)→Option ρ):Option ρ:=lg a d c e f b fun m=>br (!m) (k []) (br ((↑h.length:Int) !=a) (k []) (br ((↑j.length:Int) !=a) (k []) (zi a d c e f b fun n=>br ((↑g.length:Int) !=n) (k []) (br (decide (c=0)) none (br (decide (Aa.wrap (d.tdiv c)<0)) none (br (decide (i≥Ab.wrap (1*2^min (Aa.wrap (d.tdiv c)).toNat 64))) (k []) (br (decide (0≤Aa.wrap (a*Aa.wrap (Aa.wrap (2*a)+3)))) (br (decide (Aa.wrap (a*Aa.wrap (Aa.wrap (2*a)+3))≤(↑g.length:Int))) (agv l i fun o=>yx a d c e f b (Ad 0 (Ac (Aa.wrap (a*Aa.wrap (Aa.wrap (2*a)+3))).toNat g)) j h o fun p=>ao7 g h i (Aa.wrap (a*Aa.wrap (Aa.wrap (2*a)+3))) p 0 a d c e f b l fun z A B C q F r s t u v w y=>k q) none) none)))))))
def y9{ρ:Type}:=shut (aho (ρ:=ρ))
theorem aoz{ρ:Type}(b:Int)(c:Int)(d:Int)(e:Int)(f:Int)(a:Bool)(g:List Int)(h:List Int)(i:List Int)(j:List Int)(l:Int)(k:(List Int)→Option ρ):y9 b c d e f a g h i j l k=aho b c d e f a g h i j l k:=by unfold y9;rw[cu]

def an2{ρ:Type}(a b:Int)(k:(List Int)→Option ρ):Option ρ:=jg [0,0,0,0,0,0,0,0,0,0,0,0,0,0,0,0,0,0,0,0,0,0,0,0,0,0,0,0,0,0,0,0] 0 (Ab.wrap a) fun c=>jg c 1 b fun d=>k d
def ad9{ρ:Type}:=shut (an2 (ρ:=ρ))
theorem ay8{ρ:Type}(a:Int)(b:Int)(k:(List Int)→Option ρ):ad9 a b k=an2 a b k:=by unfold ad9;rw[cu]

abbrev cf1(ρ:Type):=(List Int)→(List Int)→(List Int)→(List Int)→Int→Int→Int→Int→Int→Int→Int→Int→Int→Bool→Option ρ
def aoj{ρ:Type}(l i k m:List Int)(j n b d e c a f g:Int)(h:Bool)(nx o:cf1 ρ):Option ρ:=br (decide (d<a)) (br (decide (0≤Aa.wrap (b*d))) (br (decide (Aa.wrap (b*d)≤Aa.wrap (Aa.wrap (b*d)+b))) (br (decide (Aa.wrap (Aa.wrap (b*d)+b)≤(↑i.length:Int))) (ad9 d j fun p=>y9 e c a f g h (Ad (Aa.wrap (b*d)).toNat (Ac (Aa.wrap (Aa.wrap (b*d)+b)).toNat i)) l k p n fun q=>br (decide (a=0)) none (br (decide (Aa.wrap (c.tdiv a)<0)) none (br (decide (Ab.wrap (1*2^min (Aa.wrap (c.tdiv a)).toNat 64)=0)) none (br (decide (a=0)) none (br (decide (Aa.wrap (c.tdiv a)<0)) none (nx q i k m (j.fdiv (2^min (Aa.wrap (c.tdiv a)).toNat 64)) (j.tmod (Ab.wrap (1*2^min (Aa.wrap (c.tdiv a)).toNat 64))) b (Aa.wrap (d+1)) e c a f g h)))))) none) none) none) (o l i k m j n b d e c a f g h)
abbrev b2s:=(List Int)×(List Int)×(List Int)×(List Int)×Int×Int×Int×Int×Int×Int×Int×Int×Int×Bool
abbrev b8t:=b2s
def cb5{ρ:Type}(f:b2s→Option ρ):cf1 ρ:=fun j k l m n o h i a b c d e g=>f (j,k,l,m,n,o,h,i,a,b,c,d,e,g)
def b4o{ρ:Type}:aed b2s b8t ρ:=fun (i,j,k,l,m,n,g,h,a,b,c,d,e,f) next ex=>aoj i j k l m n g h a b c d e f (cb5 next) (cb5 ex)
def cea{ρ:Type}:=shut (lp (b4o (ρ:=ρ)))
theorem cib{ρ:Type}:cea (ρ:=ρ)=lp b4o:=cu _
def b6o{ρ:Type}(f:ad4 b2s b8t ρ)(j k l m:List Int)(n o h i a b c d e:Int)(g:Bool)(p:cf1 ρ):Option ρ:=f (j,k,l,m,n,o,h,i,a,b,c,d,e,g) (fun (j,k,l,m,n,o,h,i,a,b,c,d,e,g)=>p j k l m n o h i a b c d e g)
def avd{ρ:Type}:=b6o (lp (b4o (ρ:=ρ)))
def av0{ρ:Type}:=b6o (cea (ρ:=ρ))
theorem azp{ρ:Type}:av0 (ρ:=ρ)=avd:=congrArg b6o cib
def al6{ρ:Type}(b d c e f:Int)(a:Bool)(g h i j:List Int)(l m:Int)(k:Bool→Option ρ):Option ρ:=afw b d c e f a l m fun o=>br (!o) (k false) (br ((↑i.length:Int) !=b) (k false) (br ((↑g.length:Int) !=b) (k false) (br ((↑j.length:Int) !=b) (k false) (zi b d c e f a fun p=>br ((↑h.length:Int) !=Aa.wrap (c*p)) (k false) (zi b d c e f a fun q=>av0 g h i j l m q 0 b d c e f a fun r B C s F G H t u v w y z A=>agt r s fun n=>k n)))))
def ab6{ρ:Type}:=shut (al6 (ρ:=ρ))
theorem awn{ρ:Type}(b:Int)(c:Int)(d:Int)(e:Int)(f:Int)(a:Bool)(g:List Int)(h:List Int)(i:List Int)(j:List Int)(l:Int)(m:Int)(k:Bool→Option ρ):ab6 b c d e f a g h i j l m k=al6 b c d e f a g h i j l m k:=by unfold ab6;rw[cu]

def abr{ρ:Type}(a c d e f:Int)(b:Bool)(g q j h:List Int)(k:Int→Option ρ):Option ρ:=lg a c d e f b fun r=>br (!r) (k 9) (br ((↑g.length:Int) !=Aa.wrap (2*a)) (k 10) (br (decide ((↑j.length:Int)>255)) (k 2) (ae8 a c d e f b fun v w s=>br ((↑h.length:Int) !=s) (k 1) (xg a c d e f b fun i y=>br (decide (0≤a)) (br (decide (a≤(↑h.length:Int))) (agd q j fun t=>aes a c d e f b (Ad 0 (Ac a.toNat h)) g t fun u l m=>br (decide (0≤a)) (br (decide (a≤Aa.wrap (a+i))) (br (decide (Aa.wrap (a+i)≤(↑h.length:Int))) (br (decide (0≤a)) (br (decide (a≤(↑g.length:Int))) (agn l m fun n=>yg a c d e f b (Ad a.toNat (Ac (Aa.wrap (a+i)).toNat h)) u (Ad 0 (Ac a.toNat g)) n fun o=>br (decide (0≤Aa.wrap (a+i))) (br (decide (Aa.wrap (a+i)≤(↑h.length:Int))) (br (decide ((↑h.length:Int)≤(↑h.length:Int))) (br (decide (0≤a)) (br (decide (a≤(↑g.length:Int))) (br (decide (0≤a)) (br (decide (a≤(↑g.length:Int))) (br (decide ((↑g.length:Int)≤(↑g.length:Int))) (ab6 a c d e f b o (Ad (Aa.wrap (a+i)).toNat (Ac (↑h.length:Int).toNat h)) (Ad 0 (Ac a.toNat g)) (Ad a.toNat (Ac (↑g.length:Int).toNat g)) l m fun p=>br (!p) (k 11) (k 0)) none) none) none) none) none) none) none) none) none) none) none) none) none) none) none))))
def abj{ρ:Type}:=shut (abr (ρ:=ρ))
theorem aej{ρ:Type}(b:Int)(c:Int)(d:Int)(e:Int)(f:Int)(a:Bool)(g:List Int)(h:List Int)(i:List Int)(j:List Int)(k:Int→Option ρ):abj b c d e f a g h i j k=abr b c d e f a g h i j k:=by unfold abj;rw[cu]

def aff{ρ:Type}(F b c d e f:Int)(a:Bool)(g h i j:List Int)(k:Bool→Option ρ):Option ρ:=ak4 F fun l m n o p q G=>br G (af6 [g,h,i] fun H=>br (!H) (tu fun I=>k I) (br (decide ((↑j.length:Int)>60000)) (tu fun J=>k J) (ze l m n o p q g h i j fun r=>abj l m n o p q g h i j fun s=>br (r==s) (tu fun t=>k t) (k false)))) (agl b c d e f a fun u=>br (!u) (tu fun v=>k v) (af6 [g,h,i] fun w=>br (!w) (tu fun y=>k y) (br (decide ((↑j.length:Int)>60000)) (tu fun z=>k z) (ze b c d e f a g h i j fun A=>abj b c d e f a g h i j fun B=>br (A==B) (tu fun C=>k C) (k false)))))
def za{ρ:Type}:=shut (aff (ρ:=ρ))
theorem alm{ρ:Type}(g:Int)(b:Int)(c:Int)(d:Int)(e:Int)(f:Int)(a:Bool)(h:List Int)(i:List Int)(j:List Int)(l:List Int)(k:Bool→Option ρ):za g b c d e f a h i j l k=aff g b c d e f a h i j l k:=by unfold za;rw[cu]



























































def aee{ρ:Type}(r s t u v:Int)(q:Bool)(n:Nat)(d:Int)(a:List Int)(m:Int)(l:Bool)(o e:Int)(b f:List Int)(g p h:Int)(c i:List Int)(j:Int)(w y:List Int)(A:Int)(k:(List Int)→Option ρ):Option ρ:=jc y 2 5 fun B=>zy y 3 fun C=>jc B 3 C fun F=>jc F 4 (Ab.wrap A) fun z=>br (decide (n=1)) (jo z w d a m l o fun G=>k G) (br (decide (n=2)) (jq z w e b f g p h c i j fun H=>k H) none)
def aha{ρ:Type}:=shut (aee (ρ:=ρ))
theorem asc{ρ:Type}(q:Int)(r:Int)(s:Int)(t:Int)(u:Int)(m:Bool)(v:Nat)(d:Int)(a:List Int)(n:Int)(l:Bool)(o:Int)(e:Int)(b:List Int)(f:List Int)(g:Int)(p:Int)(h:Int)(c:List Int)(i:List Int)(j:Int)(w:List Int)(y:List Int)(z:Int)(k:(List Int)→Option ρ):aha q r s t u m v d a n l o e b f g p h c i j w y z k=aee q r s t u m v d a n l o e b f g p h c i j w y z k:=by unfold aha;rw[cu]











































































end P
end
