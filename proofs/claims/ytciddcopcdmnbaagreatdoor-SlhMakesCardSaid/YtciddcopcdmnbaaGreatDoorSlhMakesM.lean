/-
  SlhMakes, part 13: an interpreter of my own over abstract values, the pure functions, the walks and the plain law.
-/

import Derived.Test.YtciddcopcdmnbaaGreatDoorSlhMakesH
import Derived.Test.YtciddcopcdmnbaaGreatDoorSlhMakesL
import Derived.Test.YtciddcopcdmnbaaGreatDoorSlhMakesI
import Derived.Test.YtciddcopcdmnbaaGreatDoorSlhMakesK
open Go.IntKind renaming i64 → Aa, u64 → Ab

noncomputable section
open Go Go.Abs
set_option linter.unusedVariables false
namespace P

abbrev b9u(ρ:Type):=(List Int)→(List Int)→Int→(List (List Int))→Int→Int→Int→Int→Int→Bool→(List Int)→Option ρ
def anm{ρ:Type}(j i:List Int)(h:Int)(k:List (List Int))(a b c d e:Int)(f:Bool)(g:List Int)(nx l:b9u ρ):Option ρ:=br (decide (h<Aa.wrap (Aa.wrap (2*a)+3))) (acy a b c d e f j i g h fun m=>j5 g 4 (Ab.wrap h) fun n=>adl a b c d e f m 0 15 i n fun o=>br (decide ((k.length+1)*24≤140737488355328)) (nx j i (Aa.wrap (h+1)) (k++[o]) a b c d e f g) none) (l j i h k a b c d e f g)
abbrev by3:=(List Int)×(List Int)×Int×(List (List Int))×Int×Int×Int×Int×Int×Bool×(List Int)
abbrev b8v:=by3
def b89{ρ:Type}(f:by3→Option ρ):b9u ρ:=fun j k i l a b c d e g h=>f (j,k,i,l,a,b,c,d,e,g,h)
def by4{ρ:Type}:aej by3 b8v ρ:=fun (i,j,h,k,a,b,c,d,e,f,g) next ex=>anm i j h k a b c d e f g (b89 next) (b89 ex)
def b74{ρ:Type}:=shut (lp (by4 (ρ:=ρ)))
theorem cd9{ρ:Type}:b74 (ρ:=ρ)=lp by4:=cu _
def b3d{ρ:Type}(f:aei by3 b8v ρ)(j k:List Int)(i:Int)(l:List (List Int))(a b c d e:Int)(g:Bool)(h:List Int)(m:b9u ρ):Option ρ:=f (j,k,i,l,a,b,c,d,e,g,h) (fun (j,k,i,l,a,b,c,d,e,g,h)=>m j k i l a b c d e g h)
def auj{ρ:Type}:=b3d (lp (by4 (ρ:=ρ)))
def atu{ρ:Type}:=b3d (b74 (ρ:=ρ))
theorem axr{ρ:Type}:atu (ρ:=ρ)=auj:=congrArg b3d cd9
def ak2{ρ:Type}(b c d e f:Int)(a:Bool)(g h m:List Int)(k:(List Int)→Option ρ):Option ρ:=adu b c d e f a g h fun n=>br n (k []) (atu g h 0 [] b c d e f a m fun v o w p q r s t u i j=>aj7 q r s t u i p o j fun l=>k l)
def abu{ρ:Type}:=shut (ak2 (ρ:=ρ))
theorem aur{ρ:Type}(b:Int)(c:Int)(d:Int)(e:Int)(f:Int)(a:Bool)(g:List Int)(h:List Int)(i:List Int)(k:(List Int)→Option ρ):abu b c d e f a g h i k=ak2 b c d e f a g h i k:=by unfold abu;rw[cu]

def aop{ρ:Type}(a:List Int)(b:Int)(k:(List Int)→Option ρ):Option ρ:=j5 a 2 0 fun c=>j5 c 3 b fun d=>k d
def afj{ρ:Type}:=shut (aop (ρ:=ρ))
theorem az9{ρ:Type}(a:List Int)(b:Int)(k:(List Int)→Option ρ):afj a b k=aop a b k:=by unfold afj;rw[cu]

def ao9{ρ:Type}(b c d e f:Int)(a:Bool)(g h:List Int)(i j:Int)(l m:List Int)(k:(List Int)→Option ρ):Option ρ:=j5 h 2 2 fun n=>j5 n 4 (Ab.wrap i) fun o=>j5 o 5 j fun p=>oh [l,m] fun q=>aai b c d e f a g p q fun r=>k r
def afb{ρ:Type}:=shut (ao9 (ρ:=ρ))
theorem ayj{ρ:Type}(b:Int)(c:Int)(d:Int)(e:Int)(f:Int)(a:Bool)(g:List Int)(h:List Int)(i:Int)(j:Int)(l:List Int)(m:List Int)(k:(List Int)→Option ρ):afb b c d e f a g h i j l m k=ao9 b c d e f a g h i j l m k:=by unfold afb;rw[cu]

abbrev b9c(ρ:Type):=(List Int)→(List Int)→Int→Int→Int→(List (List Int))→Int→Int→Int→Int→Int→Bool→(List Int)→Option ρ
def ase{ρ:Type}(j k:List Int)(i l h:Int)(m:List (List Int))(a b c d e:Int)(f:Bool)(g:List Int)(nx n:b9c ρ):Option ρ:=br (decide (i<0)) none (br (decide (h<Ab.wrap (Ab.wrap (l+1)*2^min i.toNat 64))) (afj g h fun o=>abu a b c d e f j k o fun p=>br (decide ((m.length+1)*24≤140737488355328)) (nx j k i l (Ab.wrap (h+1)) (m++[p]) a b c d e f g) none) (n j k i l h m a b c d e f g))
abbrev b1d:=(List Int)×(List Int)×Int×Int×Int×(List (List Int))×Int×Int×Int×Int×Int×Bool×(List Int)
abbrev b61:=b1d
def b60{ρ:Type}(f:b1d→Option ρ):b9c ρ:=fun j k l m i n a b c d e g h=>f (j,k,l,m,i,n,a,b,c,d,e,g,h)
def by8{ρ:Type}:aej b1d b61 ρ:=fun (i,j,k,l,h,m,a,b,c,d,e,f,g) next ex=>ase i j k l h m a b c d e f g (b60 next) (b60 ex)
def b9z{ρ:Type}:=shut (lp (by8 (ρ:=ρ)))
theorem cdj{ρ:Type}:b9z (ρ:=ρ)=lp by8:=cu _
def b3j{ρ:Type}(f:aei b1d b61 ρ)(j k:List Int)(l m i:Int)(n:List (List Int))(a b c d e:Int)(g:Bool)(h:List Int)(o:b9c ρ):Option ρ:=f (j,k,l,m,i,n,a,b,c,d,e,g,h) (fun (j,k,l,m,i,n,a,b,c,d,e,g,h)=>o j k l m i n a b c d e g h)
def azz{ρ:Type}:=b3j (lp (by8 (ρ:=ρ)))
def ayk{ρ:Type}:=b3j (b9z (ρ:=ρ))
theorem bbm{ρ:Type}:ayk (ρ:=ρ)=azz:=congrArg b3j cdj
abbrev cb3(ρ:Type):=(List Int)→Int→Int→(List (List Int))→Int→Int→(List (List Int))→(List Int)→Int→Int→Int→Int→Int→Bool→Option ρ
def apk{ρ:Type}(m:List Int)(l n:Int)(b:List (List Int))(c a:Int)(k:List (List Int))(d:List Int)(e f g h i:Int)(j:Bool)(nx o:cb3 ρ):Option ρ:=br (decide (Aa.wrap (a+1)<(↑b.length:Int))) (br (decide (Aa.wrap (l-c)<0)) none (br (decide (0≤a)) (br (decide (a<(↑b.length:Int))) (br (decide (0≤Aa.wrap (a+1))) (br (decide (Aa.wrap (a+1)<(↑b.length:Int))) (afb e f g h i j m d c (Ab.wrap (Ab.wrap (n*2^min (Aa.wrap (l-c)).toNat 64)+Ab.wrap (Aa.wrap (a.tdiv 2)))) (b.getD a.toNat []) (b.getD (Aa.wrap (a+1)).toNat []) fun p=>br (decide ((k.length+1)*24≤140737488355328)) (nx m l n b c (Aa.wrap (a+2)) (k++[p]) d e f g h i j) none) none) none) none) none)) (o m l n b c a k d e f g h i j)
abbrev b0s:=(List Int)×Int×Int×(List (List Int))×Int×Int×(List (List Int))×(List Int)×Int×Int×Int×Int×Int×Bool
abbrev b5w:=b0s
def b46{ρ:Type}(f:b0s→Option ρ):cb3 ρ:=fun m n o i j k l a b c d e g h=>f (m,n,o,i,j,k,l,a,b,c,d,e,g,h)
def b24{ρ:Type}:aej b0s b5w ρ:=fun (l,m,n,h,i,j,k,a,b,c,d,e,f,g) next ex=>apk l m n h i j k a b c d e f g (b46 next) (b46 ex)
def b66{ρ:Type}:=shut (lp (b24 (ρ:=ρ)))
theorem cdg{ρ:Type}:b66 (ρ:=ρ)=lp b24:=cu _
def b3o{ρ:Type}(f:aei b0s b5w ρ)(m:List Int)(n o:Int)(i:List (List Int))(j k:Int)(l:List (List Int))(a:List Int)(b c d e g:Int)(h:Bool)(p:cb3 ρ):Option ρ:=f (m,n,o,i,j,k,l,a,b,c,d,e,g,h) (fun (m,n,o,i,j,k,l,a,b,c,d,e,g,h)=>p m n o i j k l a b c d e g h)
def awi{ρ:Type}:=b3o (lp (b24 (ρ:=ρ)))
def ap1{ρ:Type}:=b3o (b66 (ρ:=ρ))
theorem ayi{ρ:Type}:ap1 (ρ:=ρ)=awi:=congrArg b3o cdg
abbrev b48(ρ:Type):=(List Int)→Int→Int→(List (List Int))→Int→Int→Int→Int→Int→Int→Bool→(List Int)→Option ρ
def asl{ρ:Type}(k:List Int)(j l:Int)(i:List (List Int))(a b c d e f:Int)(g:Bool)(h:List Int)(nx q:b48 ρ):Option ρ:=br (decide (a≤j)) (ap1 k j l i a 0 [] h b c d e f g fun r s t A u B v w y z m n o p=>nx r s t v (Aa.wrap (u+1)) y z m n o p w) (q k j l i a b c d e f g h)
abbrev b2l:=(List Int)×Int×Int×(List (List Int))×Int×Int×Int×Int×Int×Int×Bool×(List Int)
abbrev b7l:=b2l
def b8p{ρ:Type}(f:b2l→Option ρ):b48 ρ:=fun k l m i j a b c d e g h=>f (k,l,m,i,j,a,b,c,d,e,g,h)
def by1{ρ:Type}:aej b2l b7l ρ:=fun (j,k,l,h,i,a,b,c,d,e,f,g) next ex=>asl j k l h i a b c d e f g (b8p next) (b8p ex)
def b8j{ρ:Type}:=shut (lp (by1 (ρ:=ρ)))
theorem cd6{ρ:Type}:b8j (ρ:=ρ)=lp by1:=cu _
def b4o{ρ:Type}(f:aei b2l b7l ρ)(k:List Int)(l m:Int)(i:List (List Int))(j a b c d e:Int)(g:Bool)(h:List Int)(n:b48 ρ):Option ρ:=f (k,l,m,i,j,a,b,c,d,e,g,h) (fun (k,l,m,i,j,a,b,c,d,e,g,h)=>n k l m i j a b c d e g h)
def bae{ρ:Type}:=b4o (lp (by1 (ρ:=ρ)))
def ayr{ρ:Type}:=b4o (b8j (ρ:=ρ))
theorem bbk{ρ:Type}:ayr (ρ:=ρ)=bae:=congrArg b4o cd6
def aoi{ρ:Type}(d b a f g:Int)(c:Bool)(j l q:List Int)(e i:Int)(k:(List Int)→Option ρ):Option ρ:=om d b a f g c fun r=>br (!r) (k []) (br ((↑j.length:Int) !=d) (k []) (br ((↑l.length:Int) !=d) (k []) (br (decide (e<0)) (k []) (br (decide (a=0)) none (br (decide (e>Aa.wrap (b.tdiv a))) (k []) (br (decide (a=0)) none (br (decide (Aa.wrap (Aa.wrap (b.tdiv a)-e)<0)) none (br (decide (i≥Ab.wrap (1*2^min (Aa.wrap (Aa.wrap (b.tdiv a)-e)).toNat 64))) (k []) (br (decide (e<0)) none (ayk j l e i (Ab.wrap (i*2^min e.toNat 64)) [] d b a f g c q fun Q s t u U v w y z m n o p=>ayr s t u v 1 w y z m n o p fun A B C h F G H I J M N O=>br (decide (0<(↑h.length:Int))) (k (h.getD 0 [])) none))))))))))
def ad6{ρ:Type}:=shut (aoi (ρ:=ρ))
theorem aye{ρ:Type}(b:Int)(c:Int)(d:Int)(e:Int)(f:Int)(a:Bool)(g:List Int)(h:List Int)(i:List Int)(j:Int)(l:Int)(k:(List Int)→Option ρ):ad6 b c d e f a g h i j l k=aoi b c d e f a g h i j l k:=by unfold ad6;rw[cu]

def adx{ρ:Type}(a d b e f:Int)(c:Bool)(h i g:List Int)(k:(List Int)→(List Int)→Int→Option ρ):Option ρ:=om a d b e f c fun l=>br (!l) (k [] [] 9) (br ((↑h.length:Int) !=a) (k [] [] 14) (br ((↑i.length:Int) !=a) (k [] [] 14) (br ((↑g.length:Int) !=a) (k [] [] 14) (j5 [0,0,0,0,0,0,0,0,0,0,0,0,0,0,0,0,0,0,0,0,0,0,0,0,0,0,0,0,0,0,0,0] 0 (Ab.wrap (Aa.wrap (b-1))) fun m=>br (decide (b=0)) none (ad6 a d b e f c h g m (Aa.wrap (d.tdiv b)) 0 fun j=>oh [g,j] fun n=>oh [h,i,g,j] fun o=>k n o 0)))))
def afo{ρ:Type}:=shut (adx (ρ:=ρ))
theorem agt{ρ:Type}(b:Int)(c:Int)(d:Int)(e:Int)(f:Int)(a:Bool)(g:List Int)(h:List Int)(i:List Int)(k:(List Int)→(List Int)→Int→Option ρ):afo b c d e f a g h i k=adx b c d e f a g h i k:=by unfold afo;rw[cu]

abbrev cb8(ρ:Type):=(List Int)→(List Int)→Int→Option ρ
def as6{ρ:Type}(b c:List Int)(a:Int)(nx d:cb8 ρ)(e:Bool→Option ρ):Option ρ:=br (decide (a<(↑b.length:Int))) (br (decide (0≤a)) (br (decide (a<(↑b.length:Int))) (br (decide (0≤a)) (br (decide (a<(↑c.length:Int))) (br (b.getD a.toNat 0 !=c.getD a.toNat 0) (e false) (nx b c (Aa.wrap (a+1)))) none) none) none) none) (d b c a)
abbrev b4d:=(List Int)×(List Int)×Int
abbrev b4y:=((List Int)×(List Int)×Int) ⊕ (Bool)
def ccz{ρ:Type}(f:b4d→Option ρ):cb8 ρ:=fun a b c=>f (a,b,c)
def b2w{ρ:Type}:aej b4d b4y ρ:=fun (a,b,c) next ex=>as6 a b c (ccz next) (fun a b c=>ex (.inl (a,b,c))) (fun d=>ex (.inr d))
def cbc{ρ:Type}:=shut (lp (b2w (ρ:=ρ)))
theorem cdn{ρ:Type}:cbc (ρ:=ρ)=lp b2w:=cu _
def b4b{ρ:Type}(f:aei b4d b4y ρ)(a b:List Int)(c:Int)(d:cb8 ρ)(e:Bool→Option ρ):Option ρ:=f (a,b,c) (Sum.elim (fun (a,b,c)=>d a b c) (fun x=>e x))
def azv{ρ:Type}:=b4b (lp (b2w (ρ:=ρ)))
def baf{ρ:Type}:=b4b (cbc (ρ:=ρ))
theorem bbl{ρ:Type}:baf (ρ:=ρ)=azv:=congrArg b4b cdn
def ap3{ρ:Type}(a b:List Int)(k:Bool→Option ρ):Option ρ:=br ((↑a.length:Int) !=(↑b.length:Int)) (k false) (baf a b 0 (fun d e f=>k true) fun c=>k c)
def ab4{ρ:Type}:=shut (ap3 (ρ:=ρ))
theorem ayu{ρ:Type}(a:List Int)(b:List Int)(k:Bool→Option ρ):ab4 a b k=ap3 a b k:=by unfold ab4;rw[cu]

def ah8{ρ:Type}(j b c d e f:Int)(a:Bool)(g h i:List Int)(k:Bool→Option ρ):Option ρ:=ae2 j fun N O Q U W Z q6=>ajb j fun q7 q8 q9 l m n o=>zx b c d e f a fun p q r=>af8 b c d e f a fun s t u=>br (!(N==q7&&(O==q8&&(Q==q9&&(U==l&&(W==m&&(Z==n&&true))))))) (k false) (br (!q6==o) (k false) (br (p !=s) (k false) (br (q !=t) (k false) (br (r !=u) (k false) (aeo b c d e f a fun v=>br (!v) (yw fun w=>k w) (agk [g,h,i] fun y=>br (!y) (yw fun z=>k z) (afx b c d e f a g h i fun A B C=>afo b c d e f a g h i fun F G H=>ab4 A F fun I=>br I (ab4 B G fun J=>br J (br (C==H) (yw fun M=>k M) (k false)) (k false)) (k false))))))))
def aa5{ρ:Type}:=shut (ah8 (ρ:=ρ))
theorem apo{ρ:Type}(g:Int)(b:Int)(c:Int)(d:Int)(e:Int)(f:Int)(a:Bool)(h:List Int)(i:List Int)(j:List Int)(k:Bool→Option ρ):aa5 g b c d e f a h i j k=ah8 g b c d e f a h i j k:=by unfold aa5;rw[cu]





























































































































































end P
end
