/-
  SlhRight, part 22: lemmas for the law.
-/

import Derived.Test.YtciddcopcdmnbaaGreatDoorSlhRightU
import Derived.Test.YtciddcopcdmnbaaGreatDoorSlhRightL
import Derived.Test.YtciddcopcdmnbaaGreatDoorSlhRightK
import Derived.Test.YtciddcopcdmnbaaGreatDoorSlhRightI
open Go.IntKind renaming i64 → Aa, u64 → Ba, u32 → Bl
open Nat renaming mul_le_mul → Ab, pow_le_pow_right → Ad, le_refl → Af, succ_mul → Ah, pow_succ → Al, div_le_self → Am, mul_comm → Aw, two_pow_pos → A8, le_mul_of_pos_right → A9, div_div_eq_div_mul → Bb, mul_assoc → Bc, and_two_pow_sub_one_eq_mod → Bh, sub_add_cancel → Bn, mul_div_cancel → Bo, sub_self → Bq, pow_zero → Br, pow_le_pow_iff_right → Bt, pow_add → Bu, div_one → Bv, zero_add → Bz, mul_succ → Ca
open List renaming length_append → Ac, getD_eq_getElem?_getD → Ae, drop_zero → Ag, length_take → Ai, length_drop → Aj, take_of_length_le → Ak, replicate → Ap, nil_append → Aq, drop_eq_nil_of_le → Ar, take_append_of_le_length → Au, length_replicate → Av, take → Ay, getElem?_append_right → Az, drop_append → Bd, take_length → Bf, drop → Bg, drop_append_of_le_length → Bj, append_assoc → Bp, drop_drop → Bw
open Int renaming natCast_mul → Ao
set_option linter.unusedVariables false
set_option linter.unusedSimpArgs false

section
/- SHA-2: which sums can be, which are the same; the examples. -/
namespace Q
open Go Go.Abs
theorem first(p:Nat→Bool):∀n,∃m,m≤n∧(∀i,i<m→p i=true)∧(m=n∨(m<n∧p m=false))
 | 0=>⟨0,by omega,by omega,.inl rfl⟩
 | n+1=>by
  obtain ⟨m,h1,h2,h3⟩:=first p n
  rcases h3 with h3 | ⟨h3,h4⟩
  ·subst h3
   cases hp:p m with
   | true=>exact ⟨m+1,by omega,fun i hi=>by
       by_cases e:i=m
       ·rw[e];exact hp
       ·exact h2 i (by omega),.inl rfl⟩
   | false=>exact ⟨m,by omega,h2,.inr ⟨by omega,hp⟩⟩
  ·exact ⟨m,by omega,h2,.inr ⟨by omega,h4⟩⟩
end Q
end

section
/- mac: digests, with keys and without. -/
namespace Q
open QK
open Go Go.Abs
def K7(kd:Int):Prop:=kd=1∨kd=2∨kd=3∨kd=4∨kd=5∨kd=6∨kd=7
theorem K7.of{kd:Int}(h:1≤kd∧kd≤7):K7 kd:=by unfold K7;omega
def dl(kd:Int):Nat:=if kd=1∨kd=4∨kd=6 then 32 else if kd=2 then 48 else if kd=3∨kd=5∨kd=7 then 64 else 0
theorem ayi{kd:Int}(h:K7 kd):32≤dl kd∧dl kd≤64:=by
 rcases h with rfl | rfl | rfl | rfl | rfl | rfl | rfl<;>decide
theorem buk{kd:Int}(h:¬K7 kd):dl kd=0:=by
 unfold K7 at h
 unfold dl
 rw[if_neg (by omega),if_neg (by omega),if_neg (by omega)]
theorem adp(kd:Int){ρ:Type}(k:Int→Option ρ):P.adp kd k=k ((dl kd:Nat):Int):=by
 rw[P.auw];unfold P.ane
 by_cases h0:kd<0
 ·rw[bf h0,buk (by unfold K7;omega)];rfl
 by_cases h8:kd≥8
 ·rw[fq h0,bf h8,buk (by unfold K7;omega)];rfl
 have:kd=0∨kd=1∨kd=2∨kd=3∨kd=4∨kd=5∨kd=6∨kd=7:=by omega
 rcases this with rfl | rfl | rfl | rfl | rfl | rfl | rfl | rfl<;>simp[dl]
def dig(kd:Int)(b:List Int):List Int:=if kd≤3 then bmj kd b else bo2 kd b (dl kd)
theorem bga(kd:Int)(b:List Int):In 256 (dig kd b):=by
 unfold dig;split
 ·exact bj2 _ _
 ·exact ayz _ _ _
theorem am0{kd:Int}(h:K7 kd)(b:List Int):(dig kd b).length=dl kd:=by
 unfold dig
 rcases h with rfl | rfl | rfl | rfl | rfl | rfl | rfl
 ·rw[if_pos (by omega),auc];rfl
 ·rw[if_pos (by omega),auc];rfl
 ·rw[if_pos (by omega),auc];rfl
 all_goals rw[if_neg (by omega),at7]
theorem y8{kd:Int}(h:K7 kd)(b:List Int)(hb:In 256 b)(hn:b.length≤1000000){ρ:Type}(k:List Int→Int→Option ρ):P.y8 kd b k=k (dig kd b) 0:=by
 have hd:=ayi h
 rw[P.aqz];unfold P.ajp
 rw[adp,jk (by omega)]
 unfold dig
 by_cases h3:kd≤3
 ·rw[bf h3,if_pos h3,ah7 (by unfold K7 at h;unfold K3;omega) b hb hn]
 ·rw[fq h3,if_neg h3,adp,yt (by unfold K7 at h;omega) b (by omega) _ (by omega)]
theorem arn{kd:Int}(h:K7 kd)(l:List (List Int))(hl:l.length≤1000)(hb:In 256 l.flatten)(hn:l.flatten.length≤1000000){ρ:Type}(k:List Int→Option ρ):P.mh l kd k=k (dig kd l.flatten):=by
 rw[P.akw];unfold P.ae8
 rw[dz l (by omega) (by omega),y8 h _ hb hn]
theorem axy(kd:Int){ρ:Type}(k:Int→Option ρ):P.zx kd k=k kd:=by
 rw[P.ao4];rfl
def ba6(key:List Int)(n:Nat)(c:Int):List Int:=(List.range n).map fun i=>bits .xor .u8 (key.getD i 0) c
theorem ay5(key:List Int)(n:Nat)(c:Int):(ba6 key n c).length=n:=by simp[ba6]
theorem bpy(x c:Int):0≤bits .xor .u8 x c∧bits .xor .u8 x c<256:=by
 have e:bits .xor .u8 x c=IntKind.u8.wrap ((BitVec.ofInt 8 x ^^^ BitVec.ofInt 8 c).toNat:Int):=rfl
 rw[e,u8m]
 exact ⟨Int.emod_nonneg _ (by omega),Int.emod_lt_of_pos _ (by omega)⟩
theorem bjk(key:List Int)(n:Nat)(c:Int):In 256 (ba6 key n c):=fun x hx=>by
 simp only[ba6,List.mem_map] at hx
 obtain ⟨i,_,rfl⟩:=hx
 exact bpy _ _
theorem bj1(key:List Int)(i:Nat)(c:Int):ba6 key i c++[bits .xor .u8 (key.getD i 0) c]=ba6 key (i+1) c:=aw7 (fun i=>bits .xor .u8 (key.getD i 0) c) i
theorem bvf{α:Type}(a b:List α)(x y:α)(i:Nat)(h:a.length=i):(a++x::b).set i y=a++y::b:=by
 subst h
 rw[List.set_append_right _ _ (Af _),Bq]
 rfl
theorem uy(key:List Int)(n:Nat)(c:Int)(hk:key.length≤n)(hn:n≤1000){ρ:Type}(k:List Int→Option ρ):P.uy key (n:Int) c k=k (ba6 key n c):=by
 rw[P.aon];unfold P.aif
 rw[bf (by omega),bf (by omega),bf (by omega),toNat_cast,Av]
 have e0:(Ay n key).append (Bg (0+min n key.length) (Ap n 0))=key++Ap (n-key.length) 0:=by
  show Ay n key++_=_
  rw[Ak hk,Bz,Nat.min_eq_right hk,List.drop_replicate]
 rw[e0]
 generalize hl0:key++Ap (n-key.length) 0=l0
 have hlen:l0.length=n:=by rw[←hl0];simp;omega
 have hget:∀i,l0.getD i 0=key.getD i 0:=by
  intro i
  rw[←hl0]
  by_cases hi:i<key.length
  ·rw[getD_lt (by simp;omega),getD_lt hi,List.getElem_append_left hi]
  ·rw[bev (l:=key) (by omega),Ae,Az (by omega),List.getElem?_replicate]
   split<;>rfl
 rw[P.arx,hlen];unfold P.aoi P.bxu P.bxt P.b0m
 refine abk (fun i=>(c,(n:Int),(i:Int),ba6 key i c++l0.drop i)) n (by simp[ba6]) (fun i hi next hnx=>?_) (fun next=>?_) (by omega)
 ·have hsl:=ay5 key i c
  have hd:=bbv l0 0 i (by omega)
  have hL:(ba6 key i c++l0.drop i).length=n:=by simp[hsl];omega
  have hG:(ba6 key i c++l0.drop i).getD i 0=key.getD i 0:=by
   rw[Ae,Az (by omega),hsl,Bq,hd,hget]
   rfl
  have hS:(ba6 key i c++l0.drop i).set i (bits .xor .u8 (key.getD i 0) c)=ba6 key (i+1) c++l0.drop (i+1):=by
   rw[hd,bvf _ _ _ _ i hsl,←bj1,Bp]
   rfl
  simp only[P.ajt,toNat_cast]
  rw[hL,hG,hS]
  simp (disch:=omega) only[bf,fq,mo,dx,jc,jk,uh,yx,aem,wz]
  exact hnx
 ·simp only[P.ajt]
  rw[fq (by omega),List.drop_of_length_le (by omega),List.append_nil]
def bk(kd:Int):Nat:=if kd≤3 then bsz kd else rOf kd
theorem btf{kd:Int}(h:K7 kd):64≤bk kd∧bk kd≤168:=by
 rcases h with rfl | rfl | rfl | rfl | rfl | rfl | rfl<;>decide
def buy(kd:Int)(key:List Int):List Int:=if bk kd<key.length then dig kd key else key
def hmc(kd:Int)(key b:List Int):List Int:=dig kd (ba6 (buy kd key) (bk kd) 92++dig kd (ba6 (buy kd key) (bk kd) 54++b))
theorem btd(kd:Int)(key b:List Int):In 256 (hmc kd key b):=bga _ _
theorem bk0{kd:Int}(h:K7 kd)(key b:List Int):(hmc kd key b).length=dl kd:=am0 h _
theorem bqp{kd:Int}(h:K7 kd)(l:List (List Int))(hl:l.length≤1000)(hb:In 256 l.flatten)(hn:l.flatten.length≤900000)(i o:List Int)(hi:In 256 i)(ho:In 256 o)(ni:i.length≤1000)(no:o.length≤1000){ρ:Type}(k:List Int→Option ρ) :
    P.aak l kd o i k=k (dig kd (o++dig kd (i++l.flatten))):=by
 have hd:=ayi h
 have hdl:=am0 h (i++l.flatten)
 have two:∀(x y:List Int),In 256 x→In 256 y→x.length+y.length≤1000000→∀(k:List Int→Option ρ),P.mh [x,y] kd k=k (dig kd (x++y)):=by
  intro x y hx hy hl k
  have e:[x,y].flatten=x++y:=by simp
  rw[arn h [x,y] (by simp) (by rw[e];exact hx.app hy) (by rw[e,Ac];exact hl),e]
 rw[P.aos];unfold P.ah9
 rw[dz l (by omega) (by omega),two _ _ hi hb (by omega),two _ _ ho (bga _ _) (by omega)]
end Q
end

section
/- mac: bytes of keys and of seeds. -/
namespace Q
open QK
open Go Go.Abs
def cat(T:Nat→List Int):Nat→List Int
 | 0=>[]
 | j+1=>cat T j++T j
theorem ac3{T:Nat→List Int}{d:Nat}(h:∀i,(T i).length=d):∀j,(cat T j).length=j*d
 | 0=>by simp[cat]
 | j+1=>by rw[cat,Ac,ac3 h j,h,Ah]
theorem aok{T:Nat→List Int}(h:∀i,In 256 (T i)):∀j,In 256 (cat T j)
 | 0=>In.nil
 | j+1=>(aok h j).app (h j)
def cnt(d n:Nat):Nat:=(n+d-1)/d
theorem cnt_lt{d n i:Nat}(hd:0<d):i<cnt d n↔i*d<n:=by
 unfold cnt
 have:=Nat.le_div_iff_mul_le (x:=i+1) (y:=n+d-1) hd
 rw[Ah] at this
 omega
theorem bi3{d n:Nat}(hd:0<d):n≤cnt d n*d:=by
 have:=cnt_lt (i:=cnt d n) (n:=n) hd
 omega
theorem bst{d n m:Nat}(h:n≤m*d)(hd:0<d):cnt d n≤m:=by
 have:=cnt_lt (i:=m) (n:=n) hd
 omega
def grow(T:Nat→List Int)(d n:Nat):List Int:=(cat T (cnt d n)).take n
theorem bmp{T:Nat→List Int}{d:Nat}(h:∀i,(T i).length=d)(hd:0<d)(n:Nat):(grow T d n).length=n:=by
 unfold grow
 have:=bi3 (n:=n) hd
 rw[Ai,ac3 h]
 omega
def maT(kd:Int)(seed:List Int)(i:Nat):List Int:=dig kd (seed++(bsw 8 4 i).reverse)
theorem ae6{kd:Int}(h:1≤kd∧kd≤3)(seed:List Int)(hs:In 256 seed)(ns:seed.length≤100000)(n:Nat)(hn:n≤10000){ρ:Type}(k:List Int→Int→Option ρ) :
    P.ae6 kd seed (n:Int) k=k (grow (maT kd seed) (dl kd) n) 0:=by
 have hK:K7 kd:=K7.of (by omega)
 have hd:=ayi hK
 have hc:cnt (dl kd) n≤n:=bst (A9 n (by omega)) (by omega)
 have hcm:=bi3 (n:=n) (d:=dl kd) (by omega)
 have hl:=ac3 (T:=maT kd seed) (fun i=>am0 hK _)
 rw[P.awd];unfold P.am1
 rw[fq (by omega),fq (by omega),fq (by omega),fq (by omega),axy,P.aw8]
 unfold P.au0 P.bv9 P.bxj P.by6
 refine abk (fun i=>(seed,(n:Int),kd,(i:Int),cat (maT kd seed) i)) (cnt (dl kd) n) rfl (fun i hi' next hnx=>?_) (fun next=>?_) (by omega)
 ·have hlt:=(cnt_lt (n:=n) (d:=dl kd) (i:=i) (by omega)).1 hi'
  have hli:=hl i
  have hlen:([seed,(bsw 8 4 i).reverse]:List (List Int)).flatten=seed++(bsw 8 4 i).reverse:=by simp
  simp only[P.apm]
  rw[bf (by omega),show (4:Int)=((4:Nat):Int) from rfl,xg i 4 (by omega) (by omega),arn hK _ (by simp) (by rw[hlen];exact hs.app (bfy 8 4 i).rev) (by rw[hlen];simp;omega),hlen,bf (by rw[am0 hK];omega),boz,Int.emod_eq_of_lt (by omega) (by omega)]
  exact hnx
 ·have hlc:=hl (cnt (dl kd) n)
  simp only[P.apm]
  rw[fq (by omega),bf (by omega),bf (by omega),bf (by omega),bf (by omega),Ag,toNat_cast]
  rfl
end Q
end

section
/- SHA-2: bytes that are added one behind the other. -/
namespace Q
open Go Go.Abs
theorem ayw{w:Nat}(p:Par w)(v:List (BitVec w))(a b:List Int)(m:Nat)(hm:(2*w)*m=a.length):∀i,thr p v (a++b) (m+i)=thr p (thr p v a m) b i∧thr p v (a++b) m=thr p v a m:=by
 have key:∀i,i≤m→thr p v (a++b) i=thr p v a i:=by
  intro i
  induction i with
  | zero=>intro _;rfl
  | succ i ih =>
   intro hi
   have h1:(2*w)*i+2*w≤a.length:=by
    rw[←hm,←Ca]
    exact Ab (Af _) hi
   simp only[thr]
   rw[ih (by omega),Bj (by omega),Au (by rw[Aj];omega)]
 intro i
 refine ⟨?_,key m (Af _)⟩
 induction i with
 | zero=>exact key m (Af _)
 | succ i ih =>
  rw[←Nat.add_assoc]
  simp only[thr]
  rw[ih,Nat.mul_add,hm,Bd,Ar (by omega),Aq,Nat.add_sub_cancel_left]
end Q
end

section
/- lmots: the digits as the program and as the document count them. -/
namespace Q
open Go Go.Abs
theorem bjr{w:Nat}{b:List Int}(hb:In (2^w) b)(t:Nat):∃x:Nat,b.getD t 0=(x:Int)∧x<2^w:=by
 have hp:((2:Int)^w)=((2^w:Nat):Int):=by simp
 have:=hb.getD t (by rw[hp];have:=p2 w;omega)
 rw[hp] at this
 exact ⟨(b.getD t 0).toNat,by omega,by omega⟩
end Q
end

section
/- wots: the digits of a text. -/
namespace Q
open Go Go.Abs
def N3(n:Nat):Prop:=n=16∨n=24∨n=32
def wl(n:Nat)(x:List Int):Nat:=15*(2*n)-sumTo (aao x 4 ((2*n:Nat):Int)) (2*n)
def wd(n:Nat)(x:List Int):List Int:=aao x 4 ((2*n:Nat):Int)++[((wl n x/2^8:Nat):Int),((wl n x/2^4%2^4:Nat):Int),((wl n x%2^4:Nat):Int)]
theorem asc(n:Nat)(x:List Int)(hl:x.length=n):(aao x 4 ((2*n:Nat):Int)).length=2*n:=by
 rw[show (4:Int)=((4:Nat):Int) from rfl,axo x 4 (2*n) (by omega) (by omega) (by omega)];simp
theorem bq7(n:Nat)(x:List Int):In (2^4) (aao x 4 ((2*n:Nat):Int)):=blb x 4 _
theorem bow(n:Nat)(x:List Int)(hl:x.length=n):(wd n x).length=2*n+3:=by
 unfold wd;rw[Ac,asc n x hl];rfl
theorem bsy{n:Nat}(h:N3 n)(x:List Int):wl n x<961:=by
 unfold wl;rcases h with rfl | rfl | rfl<;>omega
theorem bp1{n:Nat}(hn:N3 n)(x:List Int)(hl:x.length=n){ρ:Type}(k0:Int→Int→Int→List Int→Option ρ) :
    P.ab0 ((15*(2*n):Nat):Int) ((2*n:Nat):Int) 0 (aao x 4 ((2*n:Nat):Int)) k0=k0 ((wl n x:Nat):Int) ((2*n:Nat):Int) ((2*n:Nat):Int) (aao x 4 ((2*n:Nat):Int)):=by
 have hn2:n≤32:=by rcases hn with rfl | rfl | rfl<;>omega
 have hlen:=asc n x hl
 rw[P.ars]
 unfold P.ao2 P.bvq P.bw0 P.b3h
 refine abk (fun i=>(((15*(2*n)-sumTo (aao x 4 ((2*n:Nat):Int)) i:Nat):Int),((2*n:Nat):Int),(i:Int),aao x 4 ((2*n:Nat):Int))) (2*n) (by simp[sumTo]) (fun i hi next hn'=>?_) (fun next=>?_) (by omega)
 ·obtain ⟨d,hd,hd2⟩:=bjr (w:=4) (bq7 n x) i
  have hle:=sumTo_le (aao x 4 ((2*n:Nat):Int)) 4 (bq7 n x) (i+1)
  simp only[sumTo,hd,Int.toNat_natCast] at hn' hle
  simp only[P.ajv,toNat_cast]
  rw[hd,show ((15*(2*n)-sumTo (aao x 4 ((2*n:Nat):Int)) i:Nat):Int)-(d:Int)=((15*(2*n)-(sumTo (aao x 4 ((2*n:Nat):Int)) i+d):Nat):Int) by omega,bpx _ (by omega)]
  simp (disch:=omega) only[bf,fq,mo,dx,jc,jk,uh,yx,aem,wz,hlen]
  exact hn'
 ·simp only[P.ajv]
  rw[fq (by omega)]
  rfl
theorem bsl(a:Nat)(h:a<4294967296):bits .and .u32 (a:Int) 15=((a%2^4:Nat):Int):=by
 rw[show (15:Int)=((2^4-1:Nat):Int) from rfl,bp5 _ _ h (by omega),Bh]
theorem bip{n:Nat}(hn:N3 n)(x:List Int)(hx:In 256 x)(hl:x.length=n){ρ:Type}(k:List Int→Option ρ) :
    (P.jl x (4:Int) (Aa.wrap ((2:Int)*((n:Nat):Int))) fun (q0:List Int) =>
            P.ab0 (Bl.wrap (Aa.wrap ((15:Int)*(↑q0.length:Int)))) (↑q0.length:Int)
             (0:Int) q0 fun (q1 q2 q3:Int) (q4:List Int) =>
             br
              (decide
               ((q4.length +
                     ([bits BinOp.and Bl (q1.fdiv ((2:Int)^4)) (15:Int),
                               bits BinOp.and Bl q1 (15:Int)].length.add
                         0).succ) *
                   4 ≤
                140737488355328))
              (k
               (q4 ++
                [q1.fdiv ((2:Int)^8),
                 bits BinOp.and Bl (q1.fdiv ((2:Int)^4)) (15:Int),
                 bits BinOp.and Bl q1 (15:Int)]))
              none)=k (wd n x):=by
 have hn2:n≤32:=by rcases hn with rfl | rfl | rfl<;>omega
 have hlen:=asc n x hl
 have hlt:=bsy hn x
 rw[wz (by omega) (by omega),show (2:Int)*(n:Int)=((2*n:Nat):Int) by omega,jl _ _ _ hx (by omega),hlen,wz (x:=(15:Int)*((2*n:Nat):Int)) (by omega) (by omega),show (15:Int)*((2*n:Nat):Int)=((15*(2*n):Nat):Int) by omega,bpx _ (by omega),bp1 hn x hl,hlen]
 have e8:((wl n x:Nat):Int).fdiv ((2:Int)^8)=((wl n x/2^8:Nat):Int):=fdiv_pow _ 8 8 (by omega)
 have e4:((wl n x:Nat):Int).fdiv ((2:Int)^4)=((wl n x/2^4:Nat):Int):=fdiv_pow _ 4 4 (by omega)
 have hd:=Am (wl n x) (2^4)
 rw[e8,e4,bsl _ (by omega),bsl _ (by omega),bf (by show (2*n+3)*4≤_;omega)]
 rfl
theorem wu{n:Nat}(hn:N3 n)(x:List Int)(hx:In 256 x)(hl:x.length=n){ρ:Type}(k:List Int→Option ρ):P.wu (n:Int) x k=k (wd n x):=by
 rw[P.aoj]
 unfold P.ah5
 have ht:=bip hn x hx hl k
 rcases hn with rfl | rfl | rfl
 ·rw[dx (by rfl),dx (by rw[hl])]
  exact ht
 ·rw[mo (by decide),dx (by rfl),dx (by rw[hl])]
  exact ht
 ·rw[mo (by decide),mo (by decide),dx (by rfl),dx (by rw[hl])]
  exact ht
end Q
end

section
/- wots: kinds, places, digits, by the program and by the document. -/
namespace Q
open QK
open Go Go.Abs
def afl(N H D A K:Int):Prop:=(N=16∨N=24∨N=32)∧1≤D∧H≤68∧D≤H∧H.tmod D=0∧Aa.wrap (H.tdiv D)≤9∧1≤A∧A≤14∧1≤K∧K≤40
instance (N H D A K:Int):Decidable (afl N H D A K):=by unfold afl;infer_instance
theorem ay0(N H D A K:Int)(hN:N=16∨N=24∨N=32){ρ:Type}(k:Bool→Option ρ) :
    (br (decide (D<(1:Int))) (k false) (br (decide (H<D)) (k false) (br (decide (H>(68:Int))) (k false)
     (br (decide (D=(0:Int))) none (br (H.tmod D !=(0:Int)) (k false) (br (decide (D=(0:Int))) none
      (br (decide (Aa.wrap (H.tdiv D)>(9:Int))) (k false) (br (decide (A≥(1:Int)))
       (br (decide (A≤(14:Int))) (br (decide (K≥(1:Int))) (k (decide (K≤(40:Int)))) (k false)) (k false)) (k false)))))))))=k (decide (afl N H D A K)):=by
 by_cases h1:D<1
 ·rw[bf h1,decide_eq_false (by unfold afl;omega)]
 rw[fq h1]
 by_cases h2:H<D
 ·rw[bf h2,decide_eq_false (by unfold afl;omega)]
 rw[fq h2]
 by_cases h3:H>68
 ·rw[bf h3,decide_eq_false (by unfold afl;omega)]
 rw[fq h3,fq (by omega)]
 by_cases h4:H.tmod D=0
 ·rw[dx h4,fq (by omega)]
  by_cases h5:Aa.wrap (H.tdiv D)>9
  ·rw[bf h5,decide_eq_false (by unfold afl;omega)]
  rw[fq h5]
  by_cases h6:A≥1
  ·rw[bf h6]
   by_cases h7:A≤14
   ·rw[bf h7]
    by_cases h8:K≥1
    ·rw[bf h8]
     congr 1
     apply decide_eq_decide.2
     unfold afl
     omega
    ·rw[fq h8,decide_eq_false (by unfold afl;omega)]
   ·rw[fq h7,decide_eq_false (by unfold afl;omega)]
  ·rw[fq h6,decide_eq_false (by unfold afl;omega)]
 ·rw[mo h4,decide_eq_false (by unfold afl;omega)]
theorem ji(N H D A K:Int)(z:Bool){ρ:Type}(k:Bool→Option ρ):P.ji N H D A K z k=k (decide (afl N H D A K)):=by
 rw[P.aun];unfold P.amn
 by_cases h1:N=16
 ·rw[dx h1];exact ay0 N H D A K (.inl h1) k
 rw[mo h1]
 by_cases h2:N=24
 ·rw[dx h2];exact ay0 N H D A K (.inr (.inl h2)) k
 rw[mo h2]
 by_cases h3:N=32
 ·rw[dx h3];exact ay0 N H D A K (.inr (.inr h3)) k
 rw[mo h3,decide_eq_false (by unfold afl;omega)]
def bn1(a:List Int)(i:Nat)(b:List Int):List Int:=a.take i++b++a.drop (i+b.length)
theorem at5(a:List Int)(i:Nat)(b:List Int)(h:i+b.length≤a.length):(bn1 a i b).length=a.length:=by
 unfold bn1;simp;omega
theorem az6{a:List Int}{i:Nat}{b:List Int}(ha:In 256 a)(hb:In 256 b):In 256 (bn1 a i b):=((ha.take i).app hb).app (ha.drop _)
def be4(n v:Nat):List Int:=(bsw 8 n v).reverse
theorem ap5(n v:Nat):(be4 n v).length=n:=by simp[be4]
theorem bfe(n v:Nat):In 256 (be4 n v):=(bfy 8 n v).rev
def ahq(a:List Int)(part:Int)(v:Nat):List Int :=
 if part=0 then bn1 a 0 (be4 4 v) else if part=1 then bn1 a 4 (be4 12 v) else if part=2 then bn1 a 16 (be4 4 v++Ap 12 0)
 else if part=3∨part=4∨part=5 then bn1 a (8+4*part.toNat) (be4 4 v) else a
theorem om{a:List Int}(h:a.length=32)(part:Int)(v:Nat):(ahq a part v).length=32:=by
 unfold ahq
 have h4:=ap5 4 v
 have h12:=ap5 12 v
 split
 ·rw[at5 _ _ _ (by omega),h]
 split
 ·rw[at5 _ _ _ (by omega),h]
 split
 ·rw[at5 _ _ _ (by rw[Ac,Av];omega),h]
 split
 ·rw[at5 _ _ _ (by omega),h]
 exact h
theorem aac{a:List Int}(h:In 256 a)(part:Int)(v:Nat):In 256 (ahq a part v):=by
 unfold ahq
 split
 ·exact az6 h (bfe _ _)
 split
 ·exact az6 h (bfe _ _)
 split
 ·exact az6 h ((bfe _ _).app (fun x hx=>by rw[List.mem_replicate] at hx;omega))
 split
 ·exact az6 h (bfe _ _)
 exact h
theorem cpy(a:List Int)(i m:Nat)(b:List Int)(hb:b.length≤m):(a.take i).append (b.take m++a.drop (i+min m b.length))=bn1 a i b:=by
 rw[Ak hb,Nat.min_eq_right hb]
 show a.take i++(b++_)=_
 rw[←Bp]
 rfl
theorem dh{a:List Int}(h:a.length=32)(part:Int)(v:Nat)(hv:v<18446744073709551616){ρ:Type}(k:List Int→Option ρ):P.dh a part (v:Int) k=k (ahq a part v):=by
 rw[P.aw0];unfold P.amu ahq
 have h4:(bsw 8 4 v).reverse.length=4:=by simp
 have h12:(bsw 8 12 v).reverse.length=12:=by simp
 have be:∀(k':List Int→Option ρ),P.xg (v:Int) 4 k'=k' (be4 4 v):=fun k'=>xg v 4 hv (by omega) k'
 have be':∀(k':List Int→Option ρ),P.xg (v:Int) 12 k'=k' (be4 12 v):=fun k'=>xg v 12 hv (by omega) k'
 by_cases h0:part=0
 ·rw[jc h0,if_pos h0,be]
  exact congrArg k (by rw[←cpy a 0 4 (be4 4 v) (by rw[ap5];omega)];rfl)
 rw[jk h0,if_neg h0]
 by_cases h1:part=1
 ·rw[jc h1,if_pos h1,be']
  exact congrArg k (cpy a 4 12 _ (by rw[ap5];omega))
 rw[jk h1,if_neg h1]
 by_cases h2:part=2
 ·have e:[be4 4 v,Ap 12 (0:Int)].flatten=be4 4 v++Ap 12 0:=by simp
  rw[jc h2,if_pos h2,be,dz _ (by simp) (by rw[e];simp[ap5]),e]
  exact congrArg k (cpy a 16 16 _ (by rw[Ac,ap5,Av];omega))
 rw[jk h2,if_neg h2]
 have fin:∀(p:Nat),part=(p:Int)→3≤p→p≤5→(br (decide ((0:Int)≤Aa.wrap ((8:Int)+Aa.wrap ((4:Int)*part))))
     (br (decide (Aa.wrap ((8:Int)+Aa.wrap ((4:Int)*part))≤((32:Nat):Int)))
      (P.xg (v:Int) (4:Int) fun (q4:List Int) =>
       k ((Ay (Aa.wrap ((8:Int)+Aa.wrap ((4:Int)*part))).toNat a).append
        (Ay (((32:Nat):Int)-Aa.wrap ((8:Int)+Aa.wrap ((4:Int)*part))).toNat q4 ++
         Bg ((Aa.wrap ((8:Int)+Aa.wrap ((4:Int)*part))).toNat +
          min (((32:Nat):Int)-Aa.wrap ((8:Int)+Aa.wrap ((4:Int)*part))).toNat q4.length) a))) none) none)=k (bn1 a (8+4*part.toNat) (be4 4 v)):=by
  intro p hp h3 h5
  subst hp
  have e:Aa.wrap ((8:Int)+Aa.wrap ((4:Int)*(p:Int)))=((8+4*p:Nat):Int):=by
   rw[wz (x:=4*(p:Int)) (by omega) (by omega),wz (by omega) (by omega)];omega
  rw[e,bf (by omega),bf (by omega),be,show (((32:Nat):Int)-((8+4*p:Nat):Int)).toNat=24-4*p by omega,toNat_cast,toNat_cast]
  exact congrArg k (cpy a _ _ _ (by rw[ap5];omega))
 by_cases h3:part=3
 ·rw[jc h3,jc h3,if_pos (.inl h3)]
  exact fin 3 h3 (by omega) (by omega)
 rw[jk h3]
 by_cases h4':part=4
 ·rw[jc h4',jc h4',if_pos (.inr (.inl h4'))]
  exact fin 4 h4' (by omega) (by omega)
 rw[jk h4']
 by_cases h5:part=5
 ·rw[jc h5,if_pos (.inr (.inr h5))]
  exact fin 5 h5 (by omega) (by omega)
 rw[jk h5,if_neg (by omega)]
end Q
end

section
/- wots: sums at places. -/
namespace Q
open QK
open Go Go.Abs
theorem bnx{kind:Int}(w blk b:List Int)(hl:blk.length=bsz kind):awm kind (awm kind w blk) b=awm kind w (blk++b):=by
 unfold awm
 rcases aof kind with ⟨h,e⟩ | ⟨h,e⟩
 ·rw[e] at hl
  have:=(ayw p32 (toV 32 w) blk b 1 (by omega) (b.length/64)).1
  simp only[if_pos h]
  rw[bpa _ (apk _ _ (apc _ _) _ _),Ac,hl,show (64+b.length)/64=1+b.length/64 by omega,Nat.div_self (by omega),this]
 ·rw[e] at hl
  have:=(ayw p64 (toV 64 w) blk b 1 (by omega) (b.length/128)).1
  simp only[if_neg h]
  rw[bpa _ (apk _ _ (apc _ _) _ _),Ac,hl,show (128+b.length)/128=1+b.length/128 by omega,Nat.div_self (by omega),this]
theorem bob{n:Nat}(hn:0<n)(blk b:List Int)(hl:blk.length=n):rest n (blk++b)=rest n b:=by
 unfold rest
 rw[Ac,hl,Nat.add_comm n,Nat.add_div_right _ hn,Ca,Bd,Ar (by omega),Aq,hl,Nat.add_sub_cancel]
def blk(kind:Int)(pub:List Int):List Int:=pub++Ap (bsz kind-pub.length) 0
theorem biv(kind:Int)(pub:List Int)(h:pub.length≤64):(blk kind pub).length=bsz kind:=by
 unfold blk
 rcases aof kind with ⟨_,e⟩ | ⟨_,e⟩<;>rw[Ac,Av,e]<;>omega
theorem bs8{kind:Int}{pub:List Int}(h:In 256 pub):In 256 (blk kind pub):=h.app (fun x hx=>by rw[List.mem_replicate] at hx;omega)
theorem y5{kind:Int}(h:K3 kind)(pub:List Int)(hp:In 256 pub)(hn:pub.length≤64)(B:Int)(hB:B=((bsz kind:Nat):Int)){ρ:Type}(k:Int→List Int→List Int→Int→Option ρ) :
    P.y5 kind B pub k=k kind (awm kind (be3 kind) (blk kind pub)) [] B:=by
 have hb:bsz kind=64∨bsz kind=128:=by rcases aof kind with ⟨_,e⟩ | ⟨_,e⟩<;>omega
 have hw:=bh4 kind
 have e1:[pub].flatten=pub:=by simp
 have e2:Aa.wrap (B-(pub.length:Int))=((bsz kind-pub.length:Nat):Int):=by rw[wz (by omega) (by omega)];omega
 have hl:=biv kind pub hn
 have er:rest (bsz kind) (blk kind pub)=[]:=List.eq_nil_of_length_eq_zero (by rw[azn _ (aru kind),hl,Nat.mod_self])
 have e3:=bgd (blk kind pub) (by omega)
 rw[P.aot];unfold P.ah4
 rw[ad8 h,dz _ (by simp) (by rw[e1];omega),e1,e2,toNat_cast,bf (by omega),bf (by omega)]
 show P.y9 kind (be3 kind) [] 0 (blk kind pub) _=_
 rw[y9 kind _ [] _ _ hw.1 hw.2.1 In.nil (bs8 hp) (by rw[List.length_nil];omega),Aq,er,e3,hl,hB]
def sho(a:List Int):List Int:=(a.drop 3).take 1++((a.drop 8).take 8++(a.drop 19).take 13)
theorem bj9(a:List Int):(sho a).length≤22:=by unfold sho;simp;omega
theorem bto{a:List Int}(h:In 256 a):In 256 (sho a):=((h.drop _).take _).app (((h.drop _).take _).app ((h.drop _).take _))
theorem y7(a:List Int){ρ:Type}(k:List Int→Option ρ):P.y7 a k=k (sho a):=by
 have e:[Ay 1 (Bg 3 a),Ay 8 (Bg 8 a),Ay 13 (Bg 19 a)].flatten=sho a:=by unfold sho;simp
 have:=bj9 a
 rw[P.aql];unfold P.ajk
 rw[dz _ (by simp) (by rw[e];omega),e]
def hk(n:Nat)(t:List Int):Int:=if 16<n∧n<t.length then 3 else 1
def axr(n:Nat)(sh:Bool)(pub a t:List Int):List Int:=if sh then bo2 7 (pub++(a++t)) n else (bmj (hk n t) (blk (hk n t) pub++(sho a++t))).take n
theorem blo{kd:Int}(h:kd=1∨kd=3)(b:List Int):32≤(bmj kd b).length:=by
 rw[auc];rcases h with rfl | rfl<;>simp
theorem hk13(n:Nat)(t:List Int):hk n t=1∨hk n t=3:=by unfold hk;split;exact .inr rfl;exact .inl rfl
theorem abo{n:Nat}(hn:n≤32)(sh:Bool)(pub a t:List Int):(axr n sh pub a t).length=n:=by
 unfold axr
 split
 ·exact at7 _ _ _
 ·have:=blo (hk13 n t) (blk (hk n t) pub++(sho a++t))
  rw[Ai];omega
theorem aea(n:Nat)(sh:Bool)(pub a t:List Int):In 256 (axr n sh pub a t):=by
 unfold axr
 split
 ·exact ayz _ _ _
 ·exact (bj2 _ _).take _
theorem awr{kind:Int}(h:kind=1∨kind=3){n:Nat}(hn:n≤32)(pub:List Int)(hp:In 256 pub)(np:pub.length≤64)(q:List Int)(hq:In 256 q)(nq:q.length≤100000)(B:Int)(hB:B=((bsz kind:Nat):Int)){ρ:Type}(k:List Int→Option ρ) :
    (P.y9 kind (awm kind (be3 kind) (blk kind pub)) [] B q fun (q2:Int) (q3 q4:List Int) (q5:Int)=>P.ab2 q2 q3 q4 q5 fun (q6:List Int) =>
     br (decide ((0:Int)≤(n:Int))) (br (decide ((n:Int)≤(q6.length:Int))) (k (Ay ((n:Int)-(0:Int)).toNat (Bg 0 q6))) none) none)=k ((bmj kind (blk kind pub++q)).take n):=by
 have hb:bsz kind=64∨bsz kind=128:=by rcases aof kind with ⟨_,e⟩ | ⟨_,e⟩<;>omega
 have hw:=azf kind (be3 kind) (blk kind pub)
 have hl:=biv kind pub np
 have hw2:=azf kind (awm kind (be3 kind) (blk kind pub)) ([]++q)
 have hr:=azn (bsz kind) (aru kind) ([]++q)
 have hm:=Nat.mod_lt ([]++q).length (aru kind)
 have e3:Ba.wrap (B+Ba.wrap (q.length:Int))=(((blk kind pub++q).length:Nat):Int):=by
  rw[an6 _ (by omega),hB,←Int.natCast_add,an6 _ (by omega),Ac,hl]
 have hs:=blo h (blk kind pub++q)
 rw[y9 kind _ [] _ q hw.1 hw.2.1 In.nil hq (by rw[List.length_nil];omega),e3,ab2 _ _ _ _ hw2.1 hw2.2.1 (bli (In.nil.app hq)) (by omega)]
 have e4:bph kind (awm kind (awm kind (be3 kind) (blk kind pub)) ([]++q)) (rest (bsz kind) ([]++q)) (blk kind pub++q).length=bmj kind (blk kind pub++q):=by
  unfold bmj
  rw[Aq,bnx _ _ _ hl,bob (aru kind) _ _ hl]
 rw[e4,bf (by omega),bf (by omega),Ag,Int.sub_zero,toNat_cast]
theorem blf{n:Nat}(hn:n≤32)(pub a t:List Int)(hp:In 256 pub)(np:pub.length≤64)(ha:In 256 a)(ht:In 256 t)(nt:t.length≤90000){ρ:Type}(k:List Int→Option ρ) :
    P.jf a t 1 (awm 1 (be3 1) (blk 1 pub)) [] 64 (n:Int) 3 (awm 3 (be3 3) (blk 3 pub)) [] 128 k=k (axr n false pub a t):=by
 have e:[sho a,t].flatten=sho a++t:=by simp
 have hs:=bj9 a
 have hl:(sho a++t).length≤100000:=by rw[Ac];omega
 have hq:In 256 (sho a++t):=(bto ha).app ht
 rw[P.akp];unfold P.aez axr hk
 by_cases h1:16<n
 ·rw[bf (by omega)]
  by_cases h2:n<t.length
  ·rw[bf (by omega),if_neg (by simp),if_pos ⟨h1,h2⟩,y7,dz _ (by simp) (by rw[e];omega),e]
   exact awr (.inr rfl) hn pub hp np _ hq hl 128 rfl k
  ·rw[fq (by omega),if_neg (by simp),if_neg (by omega),y7,dz _ (by simp) (by rw[e];omega),e]
   exact awr (.inl rfl) hn pub hp np _ hq hl 64 rfl k
 ·rw[fq (by omega),if_neg (by simp),if_neg (by omega),y7,dz _ (by simp) (by rw[e];omega),e]
  exact awr (.inl rfl) hn pub hp np _ hq hl 64 rfl k
theorem R7t:Rt 7 136:=.inr (.inr (.inr ⟨rfl,rfl⟩))
theorem g0:Good 136 (Z25,0):=⟨bs1,by decide⟩
theorem bje{n:Nat}(hn:n≤32)(pub a t:List Int)(la:a.length=32)(nt:t.length≤90000){ρ:Type}(k:List Int→Option ρ) :
    P.jh a t 7 (aw5 136 (Z25,0) pub).1 ((aw5 136 (Z25,0) pub).2:Int) false (n:Int) k=k (axr n true pub a t):=by
 have e:[Ay 32 (Bg 0 a),t].flatten=a++t:=by rw[Ag,Ak (by omega)];simp
 have hl:(a++t).length≤100000:=by rw[Ac];omega
 rw[P.akj];unfold P.afd axr
 rw[dz _ (by simp) (by rw[e];omega),e,if_pos rfl]
 refine (ow R7t _ _ (ako pub g0) (a++t) (by omega) _).trans ?_
 refine (qo R7t _ (ako (a++t) (ako pub g0)) n (by omega) _).trans ?_
 unfold bo2
 show k (sqO 136 (trn 7 136 (aw5 136 (aw5 136 (Z25,0) pub) (a++t)),0) n)=k (sqO 136 (trn 7 136 (aw5 136 (Z25,0) (pub++(a++t))),0) n)
 simp only[bnb]
def Sg(n:Nat)(sh:Bool)(pub:List Int)(tg:Nat)(cK:Int)(cW:List Int)(cA:Int)(cO:Bool)(c1 dK:Int)(dW dT:List Int)(dS d1 eK:Int)(eW eT:List Int)(eS:Int):Prop :=
 (sh=true∧tg=1∧cK=7∧cW=(aw5 136 (Z25,0) pub).1∧cA=((aw5 136 (Z25,0) pub).2:Int)∧cO=false∧c1=(n:Int)) ∨
 (sh=false∧tg=2∧dK=1∧dW=awm 1 (be3 1) (blk 1 pub)∧dT=[]∧dS=64∧d1=(n:Int)∧eK=3∧eW=awm 3 (be3 3) (blk 3 pub)∧eT=[]∧eS=128)
theorem call{n:Nat}{sh:Bool}{pub:List Int}{tg:Nat}{cK:Int}{cW:List Int}{cA:Int}{cO:Bool}{c1 dK:Int}{dW dT:List Int}{dS d1 eK:Int}{eW eT:List Int}{eS:Int}(h:Sg n sh pub tg cK cW cA cO c1 dK dW dT dS d1 eK eW eT eS)
    (hn:n≤32) (hp:In 256 pub) (np:pub.length≤64) {a t:List Int} (la:a.length=32) (ha:In 256 a) (ht:In 256 t) (nt:t.length≤90000) {ρ:Type} (k:List Int→Option ρ) :
    br (decide (tg=1)) (P.jh a t cK cW cA cO c1 fun (q:List Int)=>k q) (br (decide (tg=2)) (P.jf a t dK dW dT dS d1 eK eW eT eS fun (q:List Int)=>k q) none)=k (axr n sh pub a t):=by
 rcases h with ⟨rfl,rfl,rfl,rfl,rfl,rfl,rfl⟩ | ⟨rfl,rfl,rfl,rfl,rfl,rfl,rfl,rfl,rfl,rfl,rfl⟩
 ·rw[bf rfl]
  exact bje hn pub a t la nt k
 ·rw[fq (by omega),bf rfl]
  exact blf hn pub a t hp np ha ht nt k
theorem aua{n:Nat}{H D A K:Int}(hf:afl n H D A K)(sh:Bool)(pub:List Int)(hp:In 256 pub)(np:pub.length=n) :
    ∃tg cK cW cA cO c1 dK dW dT dS d1 eK eW eT eS,Sg n sh pub tg cK cW cA cO c1 dK dW dT dS d1 eK eW eT eS ∧
     ∀{ρ:Type} (k:Int→Int→Int→Int→Int→Bool→Nat→Int→(List Int)→Int→Bool→Int→Int→(List Int)→(List Int)→Int→Int→Int→(List Int)→(List Int)→Int→Bool→Option ρ),
      P.vo n H D A K sh pub k=k n H D A K sh tg cK cW cA cO c1 dK dW dT dS d1 eK eW eT eS true:=by
 have hn:n≤32:=by unfold afl at hf;omega
 cases sh with
 | true =>
  refine ⟨1,7,_,_,false,(n:Int),0,[],[],0,0,0,[],[],0,.inl ⟨rfl,rfl,rfl,rfl,rfl,rfl,rfl⟩,fun k=>?_⟩
  rw[P.ak7];unfold P.agj
  rw[ji,decide_eq_true hf,uh,yx,dx (by omega),yx,P.aow];unfold P.aiq
  rw[P.alp];unfold P.agk
  rw[ayc R7t,jk (by omega)]
  exact ow R7t Z25 0 g0 pub (by omega) _
 | false =>
  refine ⟨2,0,[],0,false,0,1,_,_,64,(n:Int),3,_,_,128,.inr ⟨rfl,rfl,rfl,rfl,rfl,rfl,rfl,rfl,rfl,rfl,rfl⟩,fun k=>?_⟩
  rw[P.ak7];unfold P.agj
  rw[ji,decide_eq_true hf,uh,yx,dx (by omega),aem,P.aor];unfold P.aix
  rw[y5 (.inl rfl) pub hp (by omega) 64 rfl,y5 (.inr (.inr rfl)) pub hp (by omega) 128 rfl]
theorem yc{n:Nat}{H D A K:Int}(hf:afl n H D A K)(sh:Bool)(pub:List Int)(hp:In 256 pub)(np:pub.length=n)(a t:List Int)(la:a.length=32)(ha:In 256 a)(ht:In 256 t)(nt:t.length≤90000){ρ:Type}(k:List Int→Option ρ) :
    P.yc n H D A K sh pub a t k=k (axr n sh pub a t):=by
 have hn:n≤32:=by unfold afl at hf;omega
 obtain ⟨tg,cK,cW,cA,cO,c1,dK,dW,dT,dS,d1,eK,eW,eT,eS,hs,hb⟩:=aua hf sh pub hp np
 rw[P.au4];unfold P.ano
 rw[hb,uh,yx]
 exact call hs hn hp (by omega) la ha ht nt k
end Q
end

section
/- wots: chains, keys, signatures, by the program. -/
namespace Q
open QK
open Go Go.Abs
def chn(n:Nat)(sh:Bool)(pub a:List Int)(f:Nat):Nat→List Int→List Int
 | 0,y=>y
 | m+1,y=>axr n sh pub (ahq a 5 (f+m)) (chn n sh pub a f m y)
theorem azt{n:Nat}(hn:n≤32)(sh:Bool)(pub a:List Int)(f:Nat)(y:List Int)(hy:y.length=n):∀m,(chn n sh pub a f m y).length=n
 | 0=>hy
 | m+1=>abo hn sh pub _ _
theorem bgt(n:Nat)(sh:Bool)(pub a:List Int)(f:Nat)(y:List Int)(hy:In 256 y):∀m,In 256 (chn n sh pub a f m y)
 | 0=>hy
 | m+1=>aea n sh pub _ _
theorem bjq(n:Nat)(sh:Bool)(pub a:List Int)(f x:Nat)(y:List Int):∀m,chn n sh pub a (f+x) m (chn n sh pub a f x y)=chn n sh pub a f (x+m) y
 | 0=>rfl
 | m+1=>by
  show axr n sh pub (ahq a 5 (f+x+m)) (chn n sh pub a (f+x) m _)=axr n sh pub (ahq a 5 (f+(x+m))) (chn n sh pub a f (x+m) y)
  rw[bjq n sh pub a f x y m,Nat.add_assoc]
theorem along{n:Nat}{sh:Bool}{pub:List Int}{tg:Nat}{cK:Int}{cW:List Int}{cA:Int}{cO:Bool}{c1 dK:Int}{dW dT:List Int}{dS d1 eK:Int}{eW eT:List Int}{eS:Int}(hs:Sg n sh pub tg cK cW cA cO c1 dK dW dT dS d1 eK eW eT eS)(hn:n≤32)(hp:In 256 pub)(np:pub.length≤64){a y:List Int}(la:a.length=32)(ha:In 256 a)(hy:In 256 y)(ly:y.length=n)(H D A K:Int)(f m:Nat)(hm:f+m<4294967295){ρ:Type}(k:List Int→Option ρ) :
    P.ku (n:Int) H D A K sh tg cK cW cA cO c1 dK dW dT dS d1 eK eW eT eS a y (f:Int) ((f+m:Nat):Int) k=k (chn n sh pub a f m y):=by
 rw[P.ahc];unfold P.ac1
 rw[P.ali];unfold P.ahh P.bxo P.bww P.b3c
 refine abk (fun i=>(chn n sh pub a f i y,((f+m:Nat):Int),((f+i:Nat):Int),(n:Int),H,D,A,K,sh,tg,cK,cW,cA,cO,c1,dK,dW,dT,dS,d1,eK,eW,eT,eS,a)) m rfl (fun i hi next hnx=>?_) (fun next=>?_) (by omega)
 ·have hl:=azt hn sh pub a f y ly i
  simp only[P.adx]
  rw[bf (by omega),an6 _ (by omega),dh la 5 _ (by omega),show ((f+i:Nat):Int)+1=((f+(i+1):Nat):Int) by omega,bpx _ (by omega)]
  exact (call hs hn hp np (om la 5 (f+i)) (aac ha 5 (f+i)) (bgt n sh pub a f y hy i) (by omega) _).trans hnx
 ·simp only[P.adx]
  rw[fq (by omega)]
def prn(a:List Int):Nat:=T 8 ((a.drop 20).take 4).reverse%2^64
theorem bjz(a:List Int):prn a<18446744073709551616:=Nat.mod_lt _ (by decide)
theorem wo{a:List Int}(ha:In 256 a){ρ:Type}(k:Int→Option ρ):P.wo a 3 k=k (prn a:Int):=by
 rw[P.aov];unfold P.aiy
 rw[show Aa.wrap ((8:Int)+Aa.wrap ((4:Int)*3))=20 from rfl,show Aa.wrap ((12:Int)+Aa.wrap ((4:Int)*3))=24 from rfl,bf (by omega),bf (by omega),bf (by omega)]
 exact u6 _ ((ha.drop 20).take 4) (by simp;omega) k
def fsW(n:Nat)(sh:Bool)(pub sec a:List Int)(i:Nat):List Int:=axr n sh pub (ahq (ahq (ahq a 2 5) 3 (prn a)) 4 i) sec
theorem bj3{n:Nat}(hn:n≤32)(sh:Bool)(pub sec a:List Int)(i:Nat):(fsW n sh pub sec a i).length=n:=abo hn sh pub _ _
theorem bo3(n:Nat)(sh:Bool)(pub sec a:List Int)(i:Nat):In 256 (fsW n sh pub sec a i):=aea n sh pub _ _
theorem first'{n:Nat}{sh:Bool}{pub:List Int}{tg:Nat}{cK:Int}{cW:List Int}{cA:Int}{cO:Bool}{c1 dK:Int}{dW dT:List Int}{dS d1 eK:Int}{eW eT:List Int}{eS:Int}(hs:Sg n sh pub tg cK cW cA cO c1 dK dW dT dS d1 eK eW eT eS)(hn:n≤32)(hp:In 256 pub)(np:pub.length≤64){a y:List Int}(la:a.length=32)(ha:In 256 a)(hy:In 256 y)(ly:y.length≤1000)(H D A K:Int)(i:Nat)(hi:i<1000){ρ:Type}(k:List Int→Option ρ) :
    P.p9 (n:Int) H D A K sh tg cK cW cA cO c1 dK dW dT dS d1 eK eW eT eS y a (i:Int) k=k (fsW n sh pub y a i):=by
 rw[P.ahe];unfold P.ac2
 rw[show (5:Int)=((5:Nat):Int) from rfl,dh la 2 5 (by omega),wo ha,dh (om la _ _) 3 _ (bjz a),an6 _ (by omega),dh (om (om la _ _) _ _) 4 _ (by omega)]
 exact call hs hn hp np (om (om (om la _ _) _ _) _ _) (aac (aac (aac ha _ _) _ _) _ _) hy (by omega) k
def kyW(n:Nat)(sh:Bool)(pub a ends:List Int):List Int:=axr n sh pub (ahq (ahq a 2 1) 3 (prn a)) ends
theorem key'{n:Nat}{sh:Bool}{pub:List Int}{tg:Nat}{cK:Int}{cW:List Int}{cA:Int}{cO:Bool}{c1 dK:Int}{dW dT:List Int}{dS d1 eK:Int}{eW eT:List Int}{eS:Int}(hs:Sg n sh pub tg cK cW cA cO c1 dK dW dT dS d1 eK eW eT eS)(hn:n≤32)(hp:In 256 pub)(np:pub.length≤64){a y:List Int}(la:a.length=32)(ha:In 256 a)(hy:In 256 y)(ly:y.length≤90000)(H D A K:Int){ρ:Type}(k:List Int→Option ρ) :
    P.tq (n:Int) H D A K sh tg cK cW cA cO c1 dK dW dT dS d1 eK eW eT eS y a k=k (kyW n sh pub a y):=by
 rw[P.aje];unfold P.aec
 rw[show P.dh (ρ:=ρ) a 2 1=P.dh a 2 ((1:Nat):Int) from rfl,dh la 2 1 (by omega),wo ha,dh (om la _ _) 3 _ (bjz a)]
 exact call hs hn hp np (om (om la _ _) _ _) (aac (aac ha _ _) _ _) hy (by omega) k
theorem count'{n:Nat}(hn:n≤32)(H D A K:Int)(sh:Bool)(tg:Nat)(cK:Int)(cW:List Int)(cA:Int)(cO:Bool)(c1 dK:Int)(dW dT:List Int)(dS d1 eK:Int)(eW eT:List Int)(eS:Int){ρ:Type}(k:Int→Option ρ) :
    P.pz (n:Int) H D A K sh tg cK cW cA cO c1 dK dW dT dS d1 eK eW eT eS k=k ((2*n+3:Nat):Int):=by
 rw[P.ahk];unfold P.ac4
 rw[wz (x:=(2:Int)*(n:Int)) (by omega) (by omega),wz (by omega) (by omega)]
 congr 1
def bov(n:Nat)(sh:Bool)(pub sec a:List Int)(i:Nat):List Int:=chn n sh pub (ahq a 4 i) 0 15 (fsW n sh pub sec a i)
theorem bns{n:Nat}(hn:n≤32)(sh:Bool)(pub sec a:List Int)(i:Nat):(bov n sh pub sec a i).length=n:=azt hn sh pub _ 0 _ (abo hn sh pub _ _) 15
theorem bra(n:Nat)(sh:Bool)(pub sec a:List Int)(i:Nat):In 256 (bov n sh pub sec a i):=bgt n sh pub _ 0 _ (aea n sh pub _ _) 15
theorem bic{n:Nat}(hn:n≤32)(T:Nat→List Int)(hT:∀i,(T i).length=n)(j:Nat)(hj:j≤2*n+3):(cat T j).length≤2200:=by
 rw[ac3 hT]
 have:=Ab (show j≤67 by omega) hn
 omega
theorem aan{n:Nat}{H D A K:Int}(hf:afl n H D A K)(sh:Bool)(sec pub a:List Int)(hsec:In 256 sec)(lsec:sec.length=n)(hp:In 256 pub)(np:pub.length=n)(la:a.length=32)(ha:In 256 a){ρ:Type}(k:List Int→Option ρ) :
    P.aan n H D A K sh sec pub a k=k (kyW n sh pub a (cat (bov n sh pub sec a) (2*n+3))):=by
 have hn:n≤32:=by unfold afl at hf;omega
 obtain ⟨tg,cK,cW,cA,cO,c1,dK,dW,dT,dS,d1,eK,eW,eT,eS,hs,hb⟩:=aua hf sh pub hp np
 have hT:=bns hn sh pub sec a
 rw[P.aog];unfold P.aie
 rw[hb,uh,yx,dx (by omega),count' hn,P.ar0];unfold P.ao5 P.bv0 P.bv2 P.bzw
 refine abk (fun i=>(sec,((2*n+3:Nat):Int),(i:Int),cat (bov n sh pub sec a) i,a,(n:Int),H,D,A,K,sh,tg,cK,cW,cA,cO,c1,dK,dW,dT,dS,d1,eK,eW,eT,eS)) (2*n+3) rfl (fun i hi next hnx=>?_) (fun next=>?_) (by omega)
 ·have hb1:=bic hn _ hT i (by omega)
  simp only[P.aj1]
  rw[bf (by omega),an6 _ (by omega),dh la 4 _ (by omega),first' hs hn hp (by omega) la ha hsec (by omega) H D A K i (by omega),show (15:Int)=((0+15:Nat):Int) from rfl,show (0:Int)=((0:Nat):Int) from rfl,
   along hs hn hp (by omega) (om la 4 i) (aac ha 4 i) (bo3 n sh pub sec a i) (bj3 hn sh pub sec a i) H D A K 0 15 (by omega)]
  have e:=hT i
  unfold bov at e
  rw[bf (by omega),wz (by omega) (by omega)]
  exact hnx
 ·simp only[P.aj1]
  rw[fq (by omega),key' hs hn hp (by omega) la ha (aok (bra n sh pub sec a) _) (by have:=bic hn _ hT (2*n+3) (by omega);omega)]
theorem gd_l{l r:List Int}{d:Int}{i:Nat}(h:i<l.length):(l++r).getD i d=l.getD i d:=by
 rw[Ae,Ae,List.getElem?_append_left h]
theorem gd_r{l r:List Int}{d:Int}{i:Nat}(h:l.length≤i):(l++r).getD i d=r.getD (i-l.length) d:=by
 rw[Ae,Ae,Az h]
theorem wdn{n:Nat}(hn:N3 n)(x:List Int)(hl:x.length=n)(i:Nat):∃d:Nat,(wd n x).getD i 0=(d:Int)∧d≤15:=by
 by_cases h:i<2*n
 ·obtain ⟨d,hd,hd2⟩:=bjr (w:=4) (bq7 n x) i
  refine ⟨d,?_,by omega⟩
  unfold wd
  rw[gd_l (by rw[asc n x hl];omega),hd]
 ·have h9:=bsy hn x
  have hr:(wd n x).getD i 0=[((wl n x/2^8:Nat):Int),((wl n x/2^4%2^4:Nat):Int),((wl n x%2^4:Nat):Int)].getD (i-2*n) 0:=by
   unfold wd
   rw[gd_r (by rw[asc n x hl];omega),asc n x hl]
  rw[hr]
  match i-2*n with
  | 0=>exact ⟨_,rfl,by omega⟩
  | 1=>exact ⟨_,rfl,by omega⟩
  | 2=>exact ⟨_,rfl,by omega⟩
  | q+3=>exact ⟨0,rfl,by omega⟩
def dgt(n:Nat)(x:List Int)(i:Nat):Nat:=((wd n x).getD i 0).toNat
theorem bjg{n:Nat}(hn:N3 n)(x:List Int)(hl:x.length=n)(i:Nat):(wd n x).getD i 0=((dgt n x i:Nat):Int)∧dgt n x i≤15:=by
 obtain ⟨d,h1,h2⟩:=wdn hn x hl i
 unfold dgt
 rw[h1]
 exact ⟨rfl,h2⟩
def bn9(n:Nat)(sh:Bool)(pub sec a t:List Int)(i:Nat):List Int:=chn n sh pub (ahq a 4 i) 0 (dgt n t i) (fsW n sh pub sec a i)
theorem aq6{n:Nat}(hn:n≤32)(sh:Bool)(pub sec a t:List Int)(i:Nat):(bn9 n sh pub sec a t i).length=n:=azt hn sh pub _ 0 _ (abo hn sh pub _ _) _
theorem bqb(n:Nat)(sh:Bool)(pub sec a t:List Int)(i:Nat):In 256 (bn9 n sh pub sec a t i):=bgt n sh pub _ 0 _ (aea n sh pub _ _) _
theorem bpq{n:Nat}{H D A K:Int}(hf:afl n H D A K):N3 n:=by unfold afl at hf;unfold N3;omega
theorem ac6{n:Nat}{H D A K:Int}(hf:afl n H D A K)(sh:Bool)(t sec pub a:List Int)(ht:In 256 t)(lt:t.length=n)(hsec:In 256 sec)(lsec:sec.length=n)(hp:In 256 pub)(np:pub.length=n)(la:a.length=32)(ha:In 256 a){ρ:Type}(k:List Int→Option ρ) :
    P.ac6 n H D A K sh t sec pub a k=k (cat (bn9 n sh pub sec a t) (2*n+3)):=by
 have hn:n≤32:=by unfold afl at hf;omega
 have hn3:=bpq hf
 have hdl:=bow n t lt
 obtain ⟨tg,cK,cW,cA,cO,c1,dK,dW,dT,dS,d1,eK,eW,eT,eS,hs,hb⟩:=aua hf sh pub hp np
 have hT:=aq6 hn sh pub sec a t
 rw[P.aso];unfold P.ak2
 rw[hb,uh,yx,dx (by omega),dx (by omega),wu hn3 t ht lt,hdl,P.auv];unfold P.atl P.bx3 P.bvp P.b3k
 refine abk (fun i=>(sec,((2*n+3:Nat):Int),(i:Int),cat (bn9 n sh pub sec a t) i,a,(n:Int),H,D,A,K,sh,tg,cK,cW,cA,cO,c1,dK,dW,dT,dS,d1,eK,eW,eT,eS,wd n t)) (2*n+3) rfl (fun i hi next hnx=>?_) (fun next=>?_) (by omega)
 ·have hb1:=bic hn _ hT i (by omega)
  obtain ⟨e1,e2⟩:=bjg hn3 t lt i
  simp only[P.amw,toNat_cast]
  rw[bf (by omega),bf (by omega),bf (by omega),an6 _ (by omega),dh la 4 _ (by omega),first' hs hn hp (by omega) la ha hsec (by omega) H D A K i (by omega),e1,show ((dgt n t i:Nat):Int)=((0+dgt n t i:Nat):Int) by omega,show (0:Int)=((0:Nat):Int) from rfl,
   along hs hn hp (by omega) (om la 4 i) (aac ha 4 i) (bo3 n sh pub sec a i) (bj3 hn sh pub sec a i) H D A K 0 _ (by omega)]
  have e:=hT i
  unfold bn9 at e
  rw[bf (by omega),wz (by omega) (by omega)]
  exact hnx
 ·simp only[P.amw]
  rw[fq (by omega)]
def bg6(n:Nat)(sh:Bool)(sig pub a t:List Int)(i:Nat):List Int:=chn n sh pub (ahq a 4 i) (dgt n t i) (15-dgt n t i) ((sig.drop (i*n)).take n)
theorem wh{n:Nat}{H D A K:Int}(hf:afl n H D A K)(sh:Bool)(sig t pub a:List Int)(hsig:In 256 sig)(lsig:sig.length=(2*n+3)*n)(ht:In 256 t)(lt:t.length=n)(hp:In 256 pub)(np:pub.length=n)(la:a.length=32)(ha:In 256 a){ρ:Type}(k:List Int→Option ρ) :
    P.wh n H D A K sh sig t pub a k=k (kyW n sh pub a (cat (bg6 n sh sig pub a t) (2*n+3))):=by
 have hn:n≤32:=by unfold afl at hf;omega
 have hn3:=bpq hf
 have hdl:=bow n t lt
 obtain ⟨tg,cK,cW,cA,cO,c1,dK,dW,dT,dS,d1,eK,eW,eT,eS,hs,hb⟩:=aua hf sh pub hp np
 have hlen:∀i,i<2*n+3→i*n+n≤sig.length:=fun i hi=>by
  rw[lsig,←Ah]
  exact Ab (by omega) (Af _)
 have hT:∀i,i<2*n+3→(bg6 n sh sig pub a t i).length=n:=fun i hi=>azt hn sh pub _ _ _ (by have:=hlen i hi;rw[Ai,Aj];omega) _
 have hTi:∀i,In 256 (bg6 n sh sig pub a t i):=fun i=>bgt n sh pub _ _ _ ((hsig.drop _).take _) _
 have hcl:∀i,i≤2*n+3→(cat (bg6 n sh sig pub a t) i).length=i*n:=by
  intro i
  induction i with
  | zero=>intro _;simp[cat]
  | succ i ih=>intro hi;rw[cat,Ac,ih (by omega),hT i (by omega),Ah]
 have hbd:∀i,i≤2*n+3→(cat (bg6 n sh sig pub a t) i).length≤2200:=fun i hi=>by
  rw[hcl i hi]
  have:=Ab (show i≤67 by omega) hn
  omega
 have hmul:(2*n+3)*n≤67*32:=Ab (by omega) hn
 have hc:(n:Int)*((2*n+3:Nat):Int)=(((2*n+3)*n:Nat):Int):=by rw[Ao,Int.mul_comm]
 rw[P.akl];unfold P.ae7
 rw[hb,uh,yx,dx (by omega),count' hn,hc,wz (by omega) (by omega),dx (by rw[lsig]),wu hn3 t ht lt,hdl,P.an7];unfold P.aj6 P.bwb P.bwf P.b3t
 refine abk (fun i=>(sig.drop (i*n),((2*n+3:Nat):Int),(i:Int),cat (bg6 n sh sig pub a t) i,(n:Int),H,D,A,K,sh,a,(n:Int),H,D,A,K,sh,tg,cK,cW,cA,cO,c1,dK,dW,dT,dS,d1,eK,eW,eT,eS,wd n t)) (2*n+3) (by simp[cat]) (fun i hi next hnx=>?_) (fun next=>?_) (by omega)
 ·have hb1:=hbd i (by omega)
  have hl1:=hlen i hi
  obtain ⟨e1,e2⟩:=bjg hn3 t lt i
  have ld:(sig.drop (i*n)).length=sig.length-i*n:=Aj
  simp only[P.afm,toNat_cast]
  rw[bf (by omega),bf (by omega),bf (by omega),an6 _ (by omega),dh la 4 _ (by omega),bf (by omega),bf (by omega),Ag,e1,show (15:Int)=((dgt n t i+(15-dgt n t i):Nat):Int) by omega,
   along hs hn hp (by omega) (om la 4 i) (aac ha 4 i) ((hsig.drop _).take _) (by rw[Ai];omega) H D A K _ _ (by omega)]
  have e:=hT i hi
  unfold bg6 at e
  rw[bf (by omega),bf (by omega),bf (by omega),bf (by omega),wz (by omega) (by omega),Bf,Bw]
  rw[Ah] at hnx
  exact hnx
 ·simp only[P.afm]
  rw[fq (by omega),key' hs hn hp (by omega) la ha (aok hTi _) (by have:=hbd (2*n+3) (by omega);omega)]
theorem ba0{T U:Nat→List Int}:∀m,(∀i,i<m→T i=U i)→cat T m=cat U m
 | 0,_=>rfl
 | m+1,h=>by rw[cat,cat,ba0 m (fun i hi=>h i (by omega)),h m (by omega)]
theorem aud{T:Nat→List Int}{d:Nat}(h:∀i,(T i).length=d)(i:Nat):∀m,i<m→((cat T m).drop (i*d)).take d=T i
 | 0,hi=>by omega
 | m+1,hi=>by
  have hl:=ac3 h m
  rw[cat]
  by_cases e:i=m
  ·subst e
   rw[Bd,Ar (by omega),hl,Bq,Ag,Aq,Ak (by rw[h];omega)]
  ·have:i*d+d≤m*d:=by rw[←Ah];exact Ab (by omega) (Af _)
   rw[Bj (by omega),Au (by rw[Aj];omega),aud h i m (by omega)]
theorem brn{n:Nat}(hn:N3 n)(sh:Bool)(pub sec a t:List Int)(lt:t.length=n):cat (bg6 n sh (cat (bn9 n sh pub sec a t) (2*n+3)) pub a t) (2*n+3)=cat (bov n sh pub sec a) (2*n+3):=by
 have hn2:n≤32:=by rcases hn with rfl | rfl | rfl<;>omega
 refine ba0 _ (fun i hi=>?_)
 have hd:=(bjg hn t lt i).2
 unfold bg6 bov
 rw[aud (aq6 hn2 sh pub sec a t) i _ hi]
 unfold bn9
 have:=bjq n sh pub (ahq a 4 i) 0 (dgt n t i) (fsW n sh pub sec a i) (15-dgt n t i)
 rw[Bz,show dgt n t i+(15-dgt n t i)=15 by omega] at this
 exact this
end Q
end

section
/- wots: keys, signatures, candidates, by the document. -/
namespace Q
open QK
open Go Go.Abs
end Q
end

section
/- xmss: knots, signatures, tops, by the program. -/
namespace Q
open QK
open Go Go.Abs
def Kd(n:Nat)(H D A K:Int)(h:Nat):Prop:=afl n H D A K∧Aa.wrap (H.tdiv D)=(h:Int)
theorem Kd.n{n:Nat}{H D A K:Int}{h:Nat}(k:Kd n H D A K h):n≤32:=by have:=k.1;unfold afl at this;omega
theorem Kd.h{n:Nat}{H D A K:Int}{h:Nat}(k:Kd n H D A K h):h≤9:=by have:=k.1;have e:=k.2;unfold afl at this;omega
theorem ig{n:Nat}{H D A K:Int}{h:Nat}(kd:Kd n H D A K h)(sh:Bool){ρ:Type}(k:Int→Option ρ):P.ig n H D A K sh k=k (h:Int):=by
 have hf:=kd.1
 unfold afl at hf
 rw[P.asq];unfold P.aly
 rw[fq (by omega),kd.2]
theorem awj{n:Nat}{H D A K:Int}{h:Nat}(kd:Kd n H D A K h)(sh:Bool)(l:List (List Int))(hl:l.length≤100)(hn:∀i,i<l.length→(l.getD i []).length=n){ρ:Type}(k:Bool→Option ρ):P.oo n H D A K sh l k=k true:=by
 rw[P.atd];unfold P.alc
 rw[P.awf];unfold P.atj P.bx2 P.bwz P.b5o
 refine abk (fun i=>(l,(l.length:Int),(i:Int),(n:Int),H,D,A,K,sh)) l.length rfl (fun i hi next hnx=>?_) (fun next=>?_) (by omega)
 ·have:=hn i hi
  simp only[P.ank,toNat_cast,Sum.elim_inl,Sum.elim_inr]
  rw[bf (by omega),bf (by omega),bf (by omega),dx (by omega),wz (by omega) (by omega)]
  exact hnx
 ·simp only[P.ank,toNat_cast,Sum.elim_inl,Sum.elim_inr]
  rw[fq (by omega),ji,decide_eq_true kd.1]
theorem mulN(n m:Nat)(hn:n≤32)(hm:m≤1000):Aa.wrap ((n:Int)*(m:Int))=((n*m:Nat):Int):=by
 have:n*m≤32*1000:=Ab hn hm
 rw[show (n:Int)*(m:Int)=((n*m:Nat):Int) by rw[Ao],wz (by omega) (by omega)]
theorem qj{n:Nat}{H D A K:Int}{h:Nat}(kd:Kd n H D A K h)(sh:Bool){ρ:Type}(k:Int→Option ρ):P.qj n H D A K sh k=k ((n*(2*n+3+h):Nat):Int):=by
 have h1:=kd.n
 have h2:=kd.h
 rw[P.asn];unfold P.alj
 rw[ji,decide_eq_true kd.1,uh,yx,ig kd,wz (x:=(2:Int)*(n:Int)) (by omega) (by omega),wz (x:=(2:Int)*(n:Int)+3) (by omega) (by omega),wz (x:=(2:Int)*(n:Int)+3+(h:Int)) (by omega) (by omega),show (2:Int)*(n:Int)+3+(h:Int)=((2*n+3+h:Nat):Int) by omega,mulN _ _ h1 (by omega)]
def lfA(at':List Int)(i:Nat):List Int:=ahq (ahq at' 2 0) 3 i
theorem beh{a:List Int}(la:a.length=32)(i:Nat):(lfA a i).length=32:=om (om la _ _) _ _
theorem bj5{a:List Int}(ha:In 256 a)(i:Nat):In 256 (lfA a i):=aac (aac ha _ _) _ _
theorem au7{a:List Int}(la:a.length=32)(N H D A K:Int)(sh:Bool)(sec pub:List Int)(i:Nat)(hi:i<18446744073709551616){ρ:Type}(k:List Int→Option ρ) :
    P.qw N H D A K sh sec pub a (i:Int) k=k (lfA a i):=by
 rw[P.akz];unfold P.aey
 rw[show P.dh (ρ:=ρ) a 2 0=P.dh a 2 ((0:Nat):Int) from rfl,dh la 2 0 (by omega),dh (om la _ _) 3 i hi]
 rfl
def ovW(n:Nat)(sh:Bool)(pub at':List Int)(z i:Nat)(l r:List Int):List Int:=axr n sh pub (ahq (ahq (ahq at' 2 2) 4 z) 5 i) (l++r)
theorem awt{n:Nat}{H D A K:Int}(hf:afl n H D A K)(sh:Bool)(sec pub a l r:List Int)(hp:In 256 pub)(np:pub.length=n)(la:a.length=32)(ha:In 256 a)(hl:In 256 l)(hr:In 256 r)(nl:l.length≤1000)(nr:r.length≤1000)(z i:Nat)(hz:z<1000)(hi:i<18446744073709551616){ρ:Type}(k:List Int→Option ρ) :
    P.ug n H D A K sh sec pub a (z:Int) (i:Int) l r k=k (ovW n sh pub a z i l r):=by
 have e:[l,r].flatten=l++r:=by simp
 have hlr:(l++r).length≤2000:=by rw[Ac];omega
 rw[P.akk];unfold P.aeo
 rw[show P.dh (ρ:=ρ) a 2 2=P.dh a 2 ((2:Nat):Int) from rfl,dh la 2 2 (by omega),an6 _ (by omega),dh (om la _ _) 4 z (by omega),dh (om (om la _ _) _ _) 5 i hi,dz _ (by simp) (by rw[e];omega),e,
  yc hf sh pub hp np _ _ (om (om (om la _ _) _ _) _ _) (aac (aac (aac ha _ _) _ _) _ _) (hl.app hr) (by omega)]
 rfl
def pbW(n:Nat)(sh:Bool)(pub sec a:List Int):List Int:=kyW n sh pub a (cat (bov n sh pub sec a) (2*n+3))
def knW(n:Nat)(sh:Bool)(pub sec at':List Int):Nat→Nat→List Int
 | 0,i=>pbW n sh pub sec (lfA at' i)
 | z+1,i=>ovW n sh pub at' (z+1) i (knW n sh pub sec at' z (2*i)) (knW n sh pub sec at' z (2*i+1))
theorem ajj{n:Nat}(hn:n≤32)(sh:Bool)(pub sec at':List Int):∀z i,(knW n sh pub sec at' z i).length=n
 | 0,i=>abo hn _ _ _ _
 | z+1,i=>abo hn _ _ _ _
theorem axm(n:Nat)(sh:Bool)(pub sec at':List Int):∀z i,In 256 (knW n sh pub sec at' z i)
 | 0,i=>aea _ _ _ _ _
 | z+1,i=>aea _ _ _ _ _
theorem aqo{n:Nat}{H D A K:Int}(hf:afl n H D A K)(sh:Bool)(sec pub a:List Int)(hsec:In 256 sec)(lsec:sec.length=n)(hp:In 256 pub)(np:pub.length=n)(la:a.length=32)(ha:In 256 a) :
    ∀(z i m:Nat),z<m→z<1000→(i+1)*2^z≤9223372036854775808→∀{ρ:Type} (k:List Int→Option ρ),P.qy m n H D A K sh sec pub a (z:Int) (i:Int) k=k (knW n sh pub sec a z i)
 | z,i,0,hm,hz,hi,ρ,k=>by omega
 | 0,i,m+1,hm,hz,hi,ρ,k=>by
  rw[P.af2];unfold P.acf
  rw[jc (show ((0:Nat):Int)=0 from rfl),au7 la _ _ _ _ _ _ _ _ i (by omega),aan hf sh sec pub _ hsec lsec hp np (beh la i) (bj5 ha i)]
  rfl
 | z+1,i,m+1,hm,hz,hi,ρ,k=>by
  have hn:n≤32:=by unfold afl at hf;omega
  have hpow:(i+1)*2^(z+1)=(2*i+2)*2^z:=by rw[Al,Aw (2^z) 2,←Bc];congr 1;omega
  have h1:(2*i+2)≤(2*i+2)*2^z:=A9 _ (A8 z)
  have h2:(2*i+1)*2^z≤(2*i+2)*2^z:=Ab (by omega) (Af _)
  have h3:(2*i+1+1)*2^z=(2*i+2)*2^z:=rfl
  rw[P.af2];unfold P.acf
  rw[jk (by omega),wz (by omega) (by omega),show ((z+1:Nat):Int)-1=(z:Int) by omega,show (2:Int)*(i:Int)=((2*i:Nat):Int) by omega,an6 _ (by omega),show ((2*i:Nat):Int)+1=((2*i+1:Nat):Int) by omega,an6 _ (by omega),
   aqo hf sh sec pub a hsec lsec hp np la ha z (2*i) m (by omega) (by omega) (by omega),aqo hf sh sec pub a hsec lsec hp np la ha z (2*i+1) m (by omega) (by omega) (by omega),
   awt hf sh sec pub a _ _ hp np la ha (axm _ _ _ _ _ _ _) (axm _ _ _ _ _ _ _) (by rw[ajj hn];omega) (by rw[ajj hn];omega) (z+1) i hz (by omega)]
  rfl
theorem sh0(i h:Nat)(hh:h≤64)(hi:i<2^h):(i:Int).fdiv ((2:Int)^min h 64)=0:=by
 rw[fdiv_pow _ _ _ hh,Nat.div_eq_of_lt hi]
 rfl
theorem aa8{n:Nat}{H D A K:Int}{h:Nat}(kd:Kd n H D A K h)(sh:Bool)(sec pub a:List Int)(hsec:In 256 sec)(lsec:sec.length=n)(hp:In 256 pub)(np:pub.length=n)(la:a.length=32)(ha:In 256 a)(z i:Nat)(hz:z≤h)(hi:i<2^(h-z)){ρ:Type}(k:List Int→Option ρ) :
    P.aa8 n H D A K sh sec pub a (z:Int) (i:Int) k=k (knW n sh pub sec a z i):=by
 have h2:=kd.h
 have hb:(i+1)*2^z≤2^h:=by
  have:(i+1)*2^z≤2^(h-z)*2^z:=Ab hi (Af _)
  rw[←Bu,Bn hz] at this
  exact this
 have h9:2^h≤2^9:=Ad (by omega) h2
 rw[P.atf];unfold P.ald
 rw[awj kd sh _ (by simp) (fun j hj=>by
  match j with
  | 0=>exact lsec
  | 1=>exact np
  | j+2=>simp at hj;omega),uh,yx,fq (by omega),ig kd,fq (by omega),ig kd,wz (by omega) (by omega),fq (by omega),show ((h:Int)-(z:Int)).toNat=h-z by omega,sh0 i (h-z) (by omega) hi,dx rfl,toNat_cast,
  aqo kd.1 sh sec pub a hsec lsec hp np la ha z i (z+1) (by omega) (by omega) (by omega)]
theorem b41(x:Nat):x ^^^ 1=if x%2=0 then x+1 else x-1:=by
 have h1:(x ^^^ 1)/2=x/2:=by rw[Nat.xor_div_two];simp
 have h2:(x ^^^ 1)%2=(x+1)%2:=by
  have:=Nat.xor_mod_two_pow (a:=x) (b:=1) (n:=1)
  rw[Nat.pow_one] at this
  rw[this]
  rcases Nat.mod_two_eq_zero_or_one x with e | e<;>rw[e]
  ·show 0 ^^^ 1=_
   simp;omega
  ·show 1 ^^^ 1=_
   simp;omega
 split<;>omega
def auT(n:Nat)(sh:Bool)(pub sec a:List Int)(leaf z:Nat):List Int:=knW n sh pub sec a z ((leaf/2^z) ^^^ 1)
def sgW(n:Nat)(sh:Bool)(pub sec a t:List Int)(leaf h:Nat):List Int:=cat (bn9 n sh pub sec (lfA a leaf) t) (2*n+3)++cat (auT n sh pub sec a leaf) h
theorem b3e{leaf h z:Nat}(hl:leaf<2^h)(hz:z<h)(hh:h≤9):((leaf/2^z) ^^^ 1)+1≤2^h∧(((leaf/2^z) ^^^ 1)+1)*2^z≤9223372036854775808:=by
 have h9:2^h≤2^9:=Ad (by omega) hh
 have hz9:2^z≤2^9:=Ad (by omega) (by omega)
 have hd:=Am leaf (2^z)
 have hx:((leaf/2^z) ^^^ 1)<2^h:=Nat.xor_lt_two_pow (by omega) (Nat.one_lt_two_pow (by omega))
 refine ⟨hx,?_⟩
 have:=Ab (show ((leaf/2^z) ^^^ 1)+1≤2^9 by omega) hz9
 omega
theorem bkk{n:Nat}(hn:n≤32)(sh:Bool)(pub sec a t:List Int)(leaf h:Nat):(sgW n sh pub sec a t leaf h).length=n*(2*n+3+h):=by
 unfold sgW
 rw[Ac,ac3 (aq6 hn _ _ _ _ _),ac3 (T:=auT n sh pub sec a leaf) (fun z=>ajj hn _ _ _ _ _ _),←Nat.add_mul,Aw]
theorem bpr(n:Nat)(sh:Bool)(pub sec a t:List Int)(leaf h:Nat):In 256 (sgW n sh pub sec a t leaf h):=(aok (bqb n sh _ _ _ _) _).app (aok (fun z=>axm _ _ _ _ _ _ _) _)
theorem zl{n:Nat}{H D A K:Int}{h:Nat}(kd:Kd n H D A K h)(sh:Bool)(t sec pub a:List Int)(ht:In 256 t)(lt:t.length=n)(hsec:In 256 sec)(lsec:sec.length=n)(hp:In 256 pub)(np:pub.length=n)(la:a.length=32)(ha:In 256 a)(leaf:Nat)(hleaf:leaf<2^h){ρ:Type}(k:List Int→Option ρ) :
    P.zl n H D A K sh t sec pub a (leaf:Int) k=k (sgW n sh pub sec a t leaf h):=by
 have hn:=kd.n
 have h2:=kd.h
 have h9:2^h≤2^9:=Ad (by omega) h2
 have l1:=ac3 (aq6 hn sh pub sec (lfA a leaf) t) (2*n+3)
 have hmul:(2*n+3)*n≤67*32:=Ab (by omega) hn
 rw[P.atb];unfold P.aln
 rw[awj kd sh _ (by simp) (fun j hj=>by
  match j with
  | 0=>exact lsec
  | 1=>exact np
  | 2=>exact lt
  | j+3=>simp at hj;omega),uh,yx,ig kd,fq (by omega),toNat_cast,sh0 leaf h (by omega) hleaf,dx rfl,au7 la _ _ _ _ _ _ _ _ leaf (by omega),
  ac6 kd.1 sh t sec pub _ ht lt hsec lsec hp np (beh la _) (bj5 ha _),ig kd,P.av2]
 unfold P.asy P.bwe P.bx4 P.b2h
 refine abk (fun z=>((leaf:Int),(h:Int),(z:Int),cat (bn9 n sh pub sec (lfA a leaf) t) (2*n+3)++cat (auT n sh pub sec a leaf) z,(n:Int),H,D,A,K,sh,sec,pub,a)) h (by simp[cat]) (fun z hz next hnx=>?_) (fun next=>?_) (by omega)
 ·have l2:=ac3 (T:=auT n sh pub sec a leaf) (fun z=>ajj hn _ _ _ _ _ _) z
  have hb:=b3e hleaf hz h2
  have hd:=Am leaf (2^z)
  have hm2:z*n≤9*32:=Ab (by omega) hn
  simp only[P.am6,toNat_cast]
  rw[bf (by omega),fq (by omega),fdiv_pow _ _ _ (by omega),show (1:Int)=((1:Nat):Int) from rfl,bi1 _ _ (by omega) (by omega),
   aqo kd.1 sh sec pub a hsec lsec hp np la ha z _ (z+1) (by omega) (by omega) hb.2,bf (by rw[ajj hn,Ac];omega),wz (by omega) (by omega),Bp]
  exact hnx
 ·simp only[P.am6]
  rw[fq (by omega)]
  rfl
def cnW(n:Nat)(sh:Bool)(pub a k0 path:List Int)(leaf:Nat):Nat→List Int
 | 0=>k0
 | z+1=>if leaf/2^z%2=1 then ovW n sh pub a (z+1) (leaf/2^(z+1)) ((path.drop (z*n)).take n) (cnW n sh pub a k0 path leaf z)
  else ovW n sh pub a (z+1) (leaf/2^(z+1)) (cnW n sh pub a k0 path leaf z) ((path.drop (z*n)).take n)
theorem bkg{n:Nat}(hn:n≤32)(sh:Bool)(pub a k0 path:List Int)(hk:k0.length=n)(leaf:Nat):∀z,(cnW n sh pub a k0 path leaf z).length=n
 | 0=>hk
 | z+1=>by rw[cnW];split<;>exact abo hn _ _ _ _
theorem bo8(n:Nat)(sh:Bool)(pub a k0 path:List Int)(hk:In 256 k0)(leaf:Nat):∀z,In 256 (cnW n sh pub a k0 path leaf z)
 | 0=>hk
 | z+1=>by rw[cnW];split<;>exact aea _ _ _ _ _
def tpW(n:Nat)(sh:Bool)(pub a sig t:List Int)(leaf h:Nat):List Int :=
 cnW n sh pub a (kyW n sh pub (lfA a leaf) (cat (bg6 n sh (sig.take ((2*n+3)*n)) pub (lfA a leaf) t) (2*n+3))) (sig.drop ((2*n+3)*n)) leaf h
theorem bjc{n:Nat}(hn:n≤32)(sh:Bool)(pub a sig t:List Int)(leaf h:Nat):(tpW n sh pub a sig t leaf h).length=n:=bkg hn _ _ _ _ _ (abo hn _ _ _ _) _ _
theorem bpi(n:Nat)(sh:Bool)(pub a sig t:List Int)(leaf h:Nat):In 256 (tpW n sh pub a sig t leaf h):=bo8 _ _ _ _ _ _ (aea _ _ _ _ _) _ _
theorem iw{n:Nat}{H D A K:Int}{h:Nat}(kd:Kd n H D A K h)(sh:Bool)(sig t pub a:List Int)(hsig:In 256 sig)(lsig:sig.length=n*(2*n+3+h))(ht:In 256 t)(lt:t.length=n)(hp:In 256 pub)(np:pub.length=n)(la:a.length=32)(ha:In 256 a)(leaf:Nat)(hleaf:leaf<2^h){ρ:Type}(k:List Int→Option ρ) :
    P.iw n H D A K sh sig t pub a (leaf:Int) k=k (tpW n sh pub a sig t leaf h):=by
 have hn:=kd.n
 have h2:=kd.h
 have h9:2^h≤2^9:=Ad (by omega) h2
 have hmul:(2*n+3)*n≤67*32:=Ab (by omega) hn
 have hm2:n*h≤32*9:=Ab hn h2
 have hsz:n*(2*n+3+h)=(2*n+3)*n+n*h:=by rw[Nat.mul_add,Aw n (2*n+3)]
 have e1:Aa.wrap ((sig.length:Int)-((n*h:Nat):Int))=(((2*n+3)*n:Nat):Int):=by
  rw[wz (by omega) (by omega)];omega
 have lt1:(sig.take ((2*n+3)*n)).length=(2*n+3)*n:=by rw[Ai];omega
 have ld:(sig.drop ((2*n+3)*n)).length=n*h:=by rw[Aj];omega
 have hpath:In 256 (sig.drop ((2*n+3)*n)):=hsig.drop _
 have hk0:=abo hn sh pub (ahq (ahq (lfA a leaf) 2 1) 3 (prn (lfA a leaf))) (cat (bg6 n sh (sig.take ((2*n+3)*n)) pub (lfA a leaf) t) (2*n+3))
 rw[P.aky];unfold P.aes
 rw[awj kd sh _ (by simp) (fun j hj=>by
  match j with
  | 0=>exact np
  | 1=>exact lt
  | j+2=>simp at hj;omega),uh,yx,qj kd,dx (by rw[lsig]),ig kd,fq (by omega),toNat_cast,sh0 leaf h (by omega) hleaf,dx rfl,ig kd,mulN _ _ hn (by omega),e1,bf (by omega),bf (by omega),au7 la _ _ _ _ _ _ _ _ leaf (by omega),Ag,toNat_cast,
  wh kd.1 sh _ t pub _ (hsig.take _) lt1 ht lt hp np (beh la _) (bj5 ha _),bf (by omega),bf (by omega),bf (by omega),ig kd,toNat_cast,Bf,P.an5]
 unfold P.akv P.bxn P.bwn P.byb tpW
 have hk1:=aea n sh pub (ahq (ahq (lfA a leaf) 2 1) 3 (prn (lfA a leaf))) (cat (bg6 n sh (sig.take ((2*n+3)*n)) pub (lfA a leaf) t) (2*n+3))
 generalize sig.drop ((2*n+3)*n)=path at ld hpath
 unfold kyW
 generalize axr n sh pub (ahq (ahq (lfA a leaf) 2 1) 3 (prn (lfA a leaf))) (cat (bg6 n sh (sig.take ((2*n+3)*n)) pub (lfA a leaf) t) (2*n+3))=k0 at hk0 hk1
 refine abk (fun z=>((leaf:Int),cnW n sh pub a k0 path leaf z,path.drop (z*n),(h:Int),(z:Int),(n:Int),H,D,A,K,sh,(n:Int),H,D,A,K,sh,pub,a)) h (by simp[cnW]) (fun z hz next hnx=>?_) (fun next=>?_) (by omega)
 ·have hd:=Am leaf (2^z)
  have hd1:=Am leaf (2^(z+1))
  have hzn:z*n+n≤n*h:=by rw[←Ah,Aw n h];exact Ab hz (Af _)
  have lp2:(path.drop (z*n)).length=n*h-z*n:=by rw[Aj];omega
  have lc:=bkg hn sh pub a k0 path hk0 leaf z
  have ic:=bo8 n sh pub a k0 path hk1 leaf z
  have lq:((path.drop (z*n)).take n).length=n:=by rw[Ai];omega
  have iq:In 256 ((path.drop (z*n)).take n):=(hpath.drop _).take _
  rw[Ah,←Bw] at hnx
  simp only[P.af4,toNat_cast]
  rw[bf (by omega),bf (by omega),bf (by omega),fq (by omega),fdiv_pow _ _ _ (by omega),show bits BinOp.and Ba ((leaf/2^z:Nat):Int) 1=((leaf/2^z%2:Nat):Int) by
   rw[show (1:Int)=((1:Nat):Int) from rfl,awx _ _ (by omega) (by omega),Nat.and_one_is_mod]]
  have ez:Aa.wrap ((z:Int)+1)=((z+1:Nat):Int):=by rw[wz (by omega) (by omega)];omega
  rw[ez,toNat_cast,fdiv_pow _ _ _ (by omega),Ag,Bf]
  by_cases hb:leaf/2^z%2=1
  ·rw[cnW,if_pos hb] at hnx
   rw[jc (by omega),fq (by omega),awt kd.1 sh _ pub a _ _ hp np la ha iq ic (by omega) (by omega) (z+1) _ (by omega) (by omega),bf (by omega),bf (by omega),bf (by omega)]
   exact hnx
  ·rw[cnW,if_neg hb] at hnx
   rw[jk (by omega),fq (by omega),awt kd.1 sh _ pub a _ _ hp np la ha ic iq (by omega) (by omega) (z+1) _ (by omega) (by omega),bf (by omega),bf (by omega),bf (by omega)]
   exact hnx
 ·simp only[P.af4]
  rw[fq (by omega)]
theorem bt3{n:Nat}(hn:n≤32)(sh:Bool)(pub sec a:List Int)(leaf h:Nat):∀z,z≤h→cnW n sh pub a (knW n sh pub sec a 0 leaf) (cat (auT n sh pub sec a leaf) h) leaf z=knW n sh pub sec a z (leaf/2^z)
 | 0,_=>by rw[Br,Bv];rfl
 | z+1,hz=>by
  have hx:=b41 (leaf/2^z)
  rw[cnW,bt3 hn sh pub sec a leaf h z (by omega),aud (T:=auT n sh pub sec a leaf) (fun z=>ajj hn _ _ _ _ _ _) z h (by omega)]
  have hp:leaf/2^(z+1)=leaf/2^z/2:=by rw[Al,Bb]
  unfold auT
  rw[hx,hp]
  generalize leaf/2^z=m
  split
  ·rw[if_neg (by omega),show m-1=2*(m/2) by omega]
   conv=>lhs;rw[show m=2*(m/2)+1 by omega]
   rw[show (2*(m/2)+1)/2=m/2 by omega]
   rfl
  ·rw[if_pos (by omega),show m+1=2*(m/2)+1 by omega]
   conv=>lhs;rw[show m=2*(m/2) by omega]
   rw[show (2*(m/2))/2=m/2 by omega]
   rfl
theorem bzi{n:Nat}(hn3:N3 n)(sh:Bool)(pub sec a t:List Int)(lt:t.length=n)(leaf h:Nat)(hl:leaf<2^h):tpW n sh pub a (sgW n sh pub sec a t leaf h) t leaf h=knW n sh pub sec a h 0:=by
 have hn:n≤32:=by rcases hn3 with rfl | rfl | rfl<;>omega
 have l1:=ac3 (aq6 hn sh pub sec (lfA a leaf) t) (2*n+3)
 unfold tpW sgW
 rw[Au (by omega),Ak (by omega),Bd,Ar (by omega),l1,Bq,Ag,Aq,brn hn3 sh pub sec (lfA a leaf) t lt]
 have:=bt3 hn sh pub sec a leaf h h (Af _)
 rw[Nat.div_eq_of_lt hl] at this
 exact this
end Q
end

section
/- xmss: knots, signatures, tops, by the document; and where there are none. -/
namespace Q
open QK
open Go Go.Abs
theorem bm1(h:Nat):(2:Int)^h=((2^h:Nat):Int):=by rw[Int.natCast_pow];rfl
theorem bff(a z:Nat)(hz:z≤64)(hb:a*2^z<18446744073709551616):Ba.wrap ((a:Int)*(2:Int)^min z 64)=((a*2^z:Nat):Int):=by
 rw[Nat.min_eq_left hz,bm1,←Ao,an6 _ hb]
theorem Kd.d{n:Nat}{H D A K:Int}{h:Nat}(k:Kd n H D A K h):¬D=0:=by have:=k.1;unfold afl at this;omega
end Q
end

section
/- xmss: trees in trees, by the program. -/
namespace Q
open QK
open Go Go.Abs
abbrev Z32:List Int:=[0,0,0,0,0,0,0,0,0,0,0,0,0,0,0,0,0,0,0,0,0,0,0,0,0,0,0,0,0,0,0,0]
theorem bjn:In 256 Z32:=fun x hx=>by
 have:x=0:=by simpa [Z32] using hx
 omega
def plA(d num:Nat):List Int:=ahq (ahq Z32 0 d) 1 num
theorem bd9(d num:Nat):(plA d num).length=32:=om (om rfl _ _) _ _
theorem bi2(d num:Nat):In 256 (plA d num):=aac (aac bjn _ _) _ _
def nmb(h num d:Nat):Nat:=num/2^(h*d)
theorem bpt(h num d:Nat):nmb h num d≤num:=Am _ _
theorem bfc(h num d:Nat):nmb h num (d+1)=nmb h num d/2^h:=by
 unfold nmb
 rw[Bb,←Bu,Ca]
def lfN(h num leaf:Nat):Nat→Nat
 | 0=>leaf
 | d+1=>nmb h num d%2^h
theorem blz{h leaf:Nat}(num:Nat)(hl:leaf<2^h):∀d,lfN h num leaf d<2^h
 | 0=>hl
 | d+1=>Nat.mod_lt _ (A8 h)
def vrT(n:Nat)(sh:Bool)(pub sig t:List Int)(num leaf h sz:Nat):Nat→List Int
 | 0=>t
 | d+1=>tpW n sh pub (plA d (nmb h num d)) ((sig.drop (d*sz)).take sz) (vrT n sh pub sig t num leaf h sz d) (lfN h num leaf d) h
theorem blx{n:Nat}(hn:n≤32)(sh:Bool)(pub sig t:List Int)(lt:t.length=n)(num leaf h sz:Nat):∀d,(vrT n sh pub sig t num leaf h sz d).length=n
 | 0=>lt
 | d+1=>bjc hn _ _ _ _ _ _ _
theorem bpk(n:Nat)(sh:Bool)(pub sig t:List Int)(ht:In 256 t)(num leaf h sz:Nat):∀d,In 256 (vrT n sh pub sig t num leaf h sz d)
 | 0=>ht
 | d+1=>bpi _ _ _ _ _ _ _ _
theorem bgh(num h:Nat)(hn:num<18446744073709551616)(hh:h≤9):(num:Int).fdiv ((2:Int)^min h 64)=((num/2^h:Nat):Int) ∧
    bits .and .u64 (num:Int) (Ba.wrap (Ba.wrap ((1:Int)*(2:Int)^min h 64)-(1:Int)))=((num%2^h:Nat):Int):=by
 have h9:2^h≤2^9:=Ad (by omega) hh
 refine ⟨fdiv_pow _ _ _ (by omega),?_⟩
 rw[bo1 h (by omega),awx _ _ hn (by omega),Bh]
theorem kr{n:Nat}{H D A K:Int}{h:Nat}(kd:Kd n H D A K h)(sh:Bool)(r:Nat)(hr:H-(h:Int)=(r:Int))(r64:r≤64)(num leaf:Nat)(hnum:num<2^r)(hleaf:leaf<2^h){ρ:Type}(k:Bool→Option ρ) :
    P.kr n H D A K sh (num:Int) (leaf:Int) k=k true:=by
 have h2:=kd.h
 rw[P.aoy];unfold P.ah3
 rw[ig kd,hr,wz (by omega) (by omega),fq (by omega),toNat_cast,sh0 num r r64 hnum,jc rfl,ig kd,fq (by omega),toNat_cast,sh0 leaf h (by omega) hleaf]
 rfl
theorem zy{n:Nat}{H A K:Int}{h D:Nat}(kd:Kd n H D A K h)(hD:D≤68)(sh:Bool)(t sig pub top:List Int)(ht:In 256 t)(lt:t.length=n)(hsig:In 256 sig)(lsig:sig.length=D*(n*(2*n+3+h)))(hp:In 256 pub)(np:pub.length=n)(ltop:top.length=n)(itop:In 256 top)(r:Nat)(hr:H-(h:Int)=(r:Int))(r64:r≤64)(num leaf:Nat)(hnum:num<2^r)(hleaf:leaf<2^h){ρ:Type}(k:Bool→Option ρ) :
    P.zy n H D A K sh t sig pub top (num:Int) (leaf:Int) k=k (decide (vrT n sh pub sig t num leaf h (n*(2*n+3+h)) D=top)):=by
 have hn:=kd.n
 have h2:=kd.h
 have hsz:n*(2*n+3+h)≤32*76:=Ab hn (by omega)
 have hDs:D*(n*(2*n+3+h))≤68*(32*76):=Ab hD hsz
 have h64:num<18446744073709551616:=Nat.lt_of_lt_of_le hnum (Ad (n:=2) (by omega) r64)
 generalize hz:n*(2*n+3+h)=sz at lsig hsz hDs
 have eD:Aa.wrap ((D:Int)*(sz:Int))=((D*sz:Nat):Int):=by
  rw[show (D:Int)*(sz:Int)=((D*sz:Nat):Int) by rw[Ao],wz (by omega) (by omega)]
 rw[P.aom];unfold P.ahz
 rw[awj kd sh _ (by simp) (fun j hj=>by
  match j with
  | 0=>exact lt
  | 1=>exact np
  | 2=>exact ltop
  | j+3=>simp at hj;omega),uh,yx,qj kd,hz,eD,dx (by rw[lsig]),kr kd sh r hr r64 num leaf hnum hleaf,uh,yx,P.apg]
 unfold P.al1 P.bxl P.bwg P.b3o
 refine abk (fun d=>(top,(D:Int),(d:Int),(n:Int),H,(D:Int),A,K,sh,vrT n sh pub sig t num leaf h sz d,sig.drop (d*sz),pub,(n:Int),H,(D:Int),A,K,sh,((nmb h num d:Nat):Int),((lfN h num leaf d:Nat):Int))) D (by simp[nmb,lfN,vrT]) (fun d hd next hnx=>?_) (fun next=>?_) (by omega)
 ·have hle:=bpt h num d
  have hs:=bgh (nmb h num d) h (by omega) h2
  have hds:d*sz+sz≤D*sz:=by rw[←Ah];exact Ab hd (Af _)
  have ld:(sig.drop (d*sz)).length=D*sz-d*sz:=by rw[Aj];omega
  have lq:((sig.drop (d*sz)).take sz).length=sz:=by rw[Ai];omega
  rw[Ah,←Bw,bfc] at hnx
  simp only[P.ag7,toNat_cast]
  rw[bf (by omega),show P.dh (ρ:=ρ) [0,0,0,0,0,0,0,0,0,0,0,0,0,0,0,0,0,0,0,0,0,0,0,0,0,0,0,0,0,0,0,0]=P.dh Z32 from rfl,an6 _ (by omega),dh rfl 0 d (by omega),dh (om rfl _ _) 1 _ (by omega),qj kd,hz,bf (by omega),bf (by omega),Ag,toNat_cast]
  rw[show P.iw (ρ:=ρ) (n:Int) H (D:Int) A K sh ((sig.drop (d*sz)).take sz) (vrT n sh pub sig t num leaf h sz d) pub (ahq (ahq Z32 0 d) 1 (nmb h num d))=P.iw (n:Int) H (D:Int) A K sh ((sig.drop (d*sz)).take sz) (vrT n sh pub sig t num leaf h sz d) pub (plA d (nmb h num d)) from rfl,
   iw kd sh _ _ pub _ ((hsig.drop _).take _) (by rw[hz,lq]) (bpk n sh pub sig t ht _ _ _ _ _) (blx hn sh pub sig t lt _ _ _ _ _) hp np (bd9 _ _) (bi2 _ _) _ (blz num hleaf d),qj kd,hz,bf (by omega),bf (by omega),bf (by omega),ig kd,fq (by omega),ig kd,fq (by omega),toNat_cast,toNat_cast,Bf,hs.1,hs.2,wz (by omega) (by omega)]
  exact hnx
 ·simp only[P.ag7]
  rw[fq (by omega),zk _ _ (bpk n sh pub sig t ht _ _ _ _ _) itop (by rw[blx hn sh pub sig t lt];omega)]
end Q
end

section
/- xmss: what trees in trees sign leads to the top of all. -/
namespace Q
open QK
open Go Go.Abs
def hyT(n:Nat)(sh:Bool)(pub sec t:List Int)(num leaf h:Nat):Nat→List Int
 | 0=>t
 | d+1=>tpW n sh pub (plA d (nmb h num d)) (sgW n sh pub sec (plA d (nmb h num d)) (hyT n sh pub sec t num leaf h d) (lfN h num leaf d) h) (hyT n sh pub sec t num leaf h d) (lfN h num leaf d) h
def hyS(n:Nat)(sh:Bool)(pub sec t:List Int)(num leaf h:Nat)(d:Nat):List Int:=sgW n sh pub sec (plA d (nmb h num d)) (hyT n sh pub sec t num leaf h d) (lfN h num leaf d) h
theorem bjv{n:Nat}(hn:n≤32)(sh:Bool)(pub sec t:List Int)(lt:t.length=n)(num leaf h:Nat):∀d,(hyT n sh pub sec t num leaf h d).length=n
 | 0=>lt
 | d+1=>bjc hn _ _ _ _ _ _ _
theorem bsf(n:Nat)(sh:Bool)(pub sec t:List Int)(ht:In 256 t)(num leaf h:Nat):∀d,In 256 (hyT n sh pub sec t num leaf h d)
 | 0=>ht
 | d+1=>bpi _ _ _ _ _ _ _ _
theorem ber{n:Nat}(hn:n≤32)(sh:Bool)(pub sec t:List Int)(num leaf h d:Nat):(hyS n sh pub sec t num leaf h d).length=n*(2*n+3+h):=bkk hn _ _ _ _ _ _ _
theorem bs5(n:Nat)(sh:Bool)(pub sec t:List Int)(num leaf h d:Nat):In 256 (hyS n sh pub sec t num leaf h d):=bpr _ _ _ _ _ _ _ _
theorem bu0{n:Nat}(hn:n≤32)(sh:Bool)(pub sec t:List Int)(num leaf h D:Nat):∀d,d≤D→vrT n sh pub (cat (hyS n sh pub sec t num leaf h) D) t num leaf h (n*(2*n+3+h)) d=hyT n sh pub sec t num leaf h d
 | 0,_=>rfl
 | d+1,hd=>by
  rw[vrT,bu0 hn sh pub sec t num leaf h D d (by omega),aud (ber hn sh pub sec t num leaf h) d D (by omega)]
  rfl
theorem bsm{n:Nat}(hn3:N3 n)(sh:Bool)(pub sec t:List Int)(lt:t.length=n)(num leaf h d:Nat)(hl:leaf<2^h):hyT n sh pub sec t num leaf h (d+1)=knW n sh pub sec (plA d (nmb h num d)) h 0:=by
 have hn:n≤32:=by rcases hn3 with rfl | rfl | rfl<;>omega
 exact bzi hn3 sh pub sec _ _ (bjv hn sh pub sec t lt num leaf h d) _ h (blz num hl d)
end Q
end

section
/- xmss: the chapter's examples. -/
namespace Q
open QK
open Go Go.Abs
end Q
end

section
/- xmss: what the program and the document say of any boh, signature and top. -/
namespace Q
open QK
open Go Go.Abs
end Q
end

section
/- xmss: trees in trees sign, by the program. -/
namespace Q
open QK
open Go Go.Abs
theorem aag{n:Nat}{H A K:Int}{h D:Nat}(kd:Kd n H D A K h)(hD:D≤68)(sh:Bool)(t sec pub:List Int)(ht:In 256 t)(lt:t.length=n)(hsec:In 256 sec)(lsec:sec.length=n)(hp:In 256 pub)(np:pub.length=n)(r:Nat)(hr:H-(h:Int)=(r:Int))(r64:r≤64)(num leaf:Nat)(hnum:num<2^r)(hleaf:leaf<2^h){ρ:Type}(k:List Int→Option ρ) :
    P.aag n H D A K sh t sec pub (num:Int) (leaf:Int) k=k (cat (hyS n sh pub sec t num leaf h) D):=by
 have hn:=kd.n
 have h2:=kd.h
 have hsz:n*(2*n+3+h)≤32*76:=Ab hn (by omega)
 have hDs:D*(n*(2*n+3+h))≤68*(32*76):=Ab hD hsz
 have h64:num<18446744073709551616:=Nat.lt_of_lt_of_le hnum (Ad (n:=2) (by omega) r64)
 have hl:=ac3 (ber hn sh pub sec t num leaf h)
 rw[P.aq1];unfold P.ajm
 rw[awj kd sh _ (by simp) (fun j hj=>by
  match j with
  | 0=>exact lt
  | 1=>exact lsec
  | 2=>exact np
  | j+3=>simp at hj;omega),uh,yx,kr kd sh r hr r64 num leaf hnum hleaf,uh,yx,P.aqv]
 unfold P.amm P.bwh P.bvl P.bz3
 refine abk (fun d=>((D:Int),(d:Int),cat (hyS n sh pub sec t num leaf h) d,(n:Int),H,(D:Int),A,K,sh,hyT n sh pub sec t num leaf h d,sec,pub,(n:Int),H,(D:Int),A,K,sh,((nmb h num d:Nat):Int),((lfN h num leaf d:Nat):Int))) D (by simp[nmb,lfN,hyT,cat]) (fun d hd next hnx=>?_) (fun next=>?_) (by omega)
 ·have hle:=bpt h num d
  have hs:=bgh (nmb h num d) h (by omega) h2
  have hlt:=blz num hleaf d
  have hd1:d*(n*(2*n+3+h))≤68*(32*76):=Ab (by omega) hsz
  have hT:=bjv hn sh pub sec t lt num leaf h d
  have hTi:=bsf n sh pub sec t ht num leaf h d
  have hc:=hl d
  have hsl:=bkk hn sh pub sec (plA d (nmb h num d)) (hyT n sh pub sec t num leaf h d) (lfN h num leaf d) h
  rw[bfc] at hnx
  simp only[P.ah8]
  rw[bf (by omega),show P.dh (ρ:=ρ) [0,0,0,0,0,0,0,0,0,0,0,0,0,0,0,0,0,0,0,0,0,0,0,0,0,0,0,0,0,0,0,0]=P.dh Z32 from rfl,an6 _ (by omega),dh rfl 0 d (by omega),dh (om rfl _ _) 1 _ (by omega),show ahq (ahq Z32 0 d) 1 (nmb h num d)=plA d (nmb h num d) from rfl,
   zl kd sh _ sec pub _ hTi hT hsec lsec hp np (bd9 _ _) (bi2 _ _) _ hlt,bf (by omega),
   iw kd sh _ _ pub _ (bpr _ _ _ _ _ _ _ _) hsl hTi hT hp np (bd9 _ _) (bi2 _ _) _ hlt,ig kd,fq (by omega),ig kd,fq (by omega),toNat_cast,hs.1,hs.2,wz (by omega) (by omega)]
  exact hnx
 ·simp only[P.ah8]
  rw[fq (by omega)]
end Q
end

section
/- xmss: trees in trees, by the document; and where there are none. -/
namespace Q
open QK
open Go Go.Abs
end Q
end

section
/- fors: places, leaves, knots, by the program and by the document. -/
namespace Q
open QK
open Go Go.Abs
def ofA(a:List Int)(kind:Nat):List Int:=ahq (ahq a 2 kind) 3 (prn a)
theorem ar5{a:List Int}(la:a.length=32)(kind:Nat):(ofA a kind).length=32:=om (om la _ _) _ _
theorem bl0{a:List Int}(ha:In 256 a)(kind:Nat):In 256 (ofA a kind):=aac (aac ha _ _) _ _
def ktA(a:List Int)(z i:Nat):List Int:=ahq (ahq (ofA a 3) 4 z) 5 i
theorem br5{a:List Int}(la:a.length=32)(z i:Nat):(ktA a z i).length=32:=om (om (ar5 la _) _ _) _ _
theorem bsj{a:List Int}(ha:In 256 a)(z i:Nat):In 256 (ktA a z i):=aac (aac (bl0 ha _) _ _) _ _
def lfF(n:Nat)(sh:Bool)(pub sec a:List Int)(i:Nat):List Int:=axr n sh pub (ahq (ofA a 6) 5 i) sec
def ovF(n:Nat)(sh:Bool)(pub a:List Int)(z i:Nat)(t:List Int):List Int:=axr n sh pub (ktA a z i) t
def kyF(n:Nat)(sh:Bool)(pub a tops:List Int):List Int:=axr n sh pub (ofA a 4) tops
theorem ay4{n:Nat}(hn:n≤32)(sh:Bool)(pub sec a:List Int)(i:Nat):(lfF n sh pub sec a i).length=n:=abo hn _ _ _ _
theorem bpl(n:Nat)(sh:Bool)(pub sec a:List Int)(i:Nat):In 256 (lfF n sh pub sec a i):=aea _ _ _ _ _
theorem bqq{n:Nat}(hn:n≤32)(sh:Bool)(pub a t:List Int):(kyF n sh pub a t).length=n:=abo hn _ _ _ _
def fkW(n:Nat)(sh:Bool)(pub sec a:List Int):Nat→Nat→List Int
 | 0,i=>ovF n sh pub a 0 i (lfF n sh pub sec a i)
 | z+1,i=>ovF n sh pub a (z+1) i (fkW n sh pub sec a z (2*i)++fkW n sh pub sec a z (2*i+1))
theorem azp{n:Nat}(hn:n≤32)(sh:Bool)(pub sec a:List Int):∀z i,(fkW n sh pub sec a z i).length=n
 | 0,i=>abo hn _ _ _ _
 | z+1,i=>abo hn _ _ _ _
theorem blp(n:Nat)(sh:Bool)(pub sec a:List Int):∀z i,In 256 (fkW n sh pub sec a z i)
 | 0,i=>aea _ _ _ _ _
 | z+1,i=>aea _ _ _ _ _
theorem be2{n:Nat}{H D A K:Int}(hf:afl n H D A K)(sh:Bool){sec pub a:List Int}(hp:In 256 pub)(np:pub.length=n)(la:a.length=32)(ha:In 256 a)(kind:Nat)(hk:kind<100){ρ:Type}(k:List Int→Option ρ):P.mg (n:Int) H D A K sh sec pub a (kind:Int) k=k (ofA a kind):=by
 rw[P.al8];unfold P.afw
 rw[dh la 2 kind (by omega),u6 _ ((ha.drop 20).take 4) (by simp;omega)]
 exact dh (om la _ _) 3 _ (bjz a) k
theorem be0{n:Nat}{H D A K:Int}(hf:afl n H D A K)(sh:Bool){sec pub a:List Int}(hp:In 256 pub)(np:pub.length=n)(la:a.length=32)(ha:In 256 a)(z i:Nat)(hz:z<1000)(hi:i<18446744073709551616){ρ:Type}(k:List Int→Option ρ):P.u7 (n:Int) H D A K sh sec pub a (z:Int) (i:Int) k=k (ktA a z i):=by
 rw[P.ahi];unfold P.acu
 rw[show P.mg (ρ:=ρ) (n:Int) H D A K sh sec pub a 3=P.mg (n:Int) H D A K sh sec pub a ((3:Nat):Int) from rfl,be2 hf sh hp np la ha 3 (by omega),an6 _ (by omega),dh (ar5 la _) 4 z (by omega),dh (om (ar5 la _) _ _) 5 i hi]
 rfl
theorem bck{n:Nat}{H D A K:Int}(hf:afl n H D A K)(sh:Bool){sec pub a:List Int}(hp:In 256 pub)(np:pub.length=n)(la:a.length=32)(ha:In 256 a)(hsec:In 256 sec)(lsec:sec.length=n)(i:Nat)(hi:i<18446744073709551616){ρ:Type}(k:List Int→Option ρ):P.j6 (n:Int) H D A K sh sec pub a (i:Int) k=k (lfF n sh pub sec a i):=by
 have hn:n≤32:=by unfold afl at hf;omega
 rw[P.ai6];unfold P.aed
 rw[show P.mg (ρ:=ρ) (n:Int) H D A K sh sec pub a 6=P.mg (n:Int) H D A K sh sec pub a ((6:Nat):Int) from rfl,be2 hf sh hp np la ha 6 (by omega),dh (ar5 la _) 5 i hi,P.ath]
 unfold P.ak5
 rw[dx (by omega),yc hf sh pub hp np _ _ (om (ar5 la _) _ _) (aac (bl0 ha _) _ _) hsec (by omega)]
 rfl
theorem anc{n:Nat}{H D A K:Int}(hf:afl n H D A K)(sh:Bool){sec pub a:List Int}(hp:In 256 pub)(np:pub.length=n)(la:a.length=32)(ha:In 256 a)(z i:Nat)(hz:z<1000)(hi:i<18446744073709551616)(l:List (List Int))(hl:l.length≤1000)(li:In 256 l.flatten)(lb:l.flatten.length≤90000){ρ:Type}(k:List Int→Option ρ):P.jr (n:Int) H D A K sh sec pub a (z:Int) (i:Int) l k=k (ovF n sh pub a z i l.flatten):=by
 rw[P.ajb];unfold P.aef
 rw[be0 hf sh hp np la ha z i hz hi,dz l (by omega) (by omega),yc hf sh pub hp np _ _ (br5 la _ _) (bsj ha _ _) li (by omega)]
 rfl
theorem bm3{n:Nat}{H D A K:Int}(hf:afl n H D A K)(sh:Bool){sec pub a:List Int}(hp:In 256 pub)(np:pub.length=n)(la:a.length=32)(ha:In 256 a)(t:List Int)(ht:In 256 t)(lt:t.length≤90000){ρ:Type}(k:List Int→Option ρ):P.qm (n:Int) H D A K sh sec pub a t k=k (kyF n sh pub a t):=by
 rw[P.akm];unfold P.ae5
 rw[show P.mg (ρ:=ρ) (n:Int) H D A K sh sec pub a 4=P.mg (n:Int) H D A K sh sec pub a ((4:Nat):Int) from rfl,be2 hf sh hp np la ha 4 (by omega),yc hf sh pub hp np _ _ (ar5 la _) (bl0 ha _) ht lt]
 rfl
end Q
end

section
/- A stack of what is joined two by two: as many entries as a number has ones. -/
namespace Q
open Go Go.Abs
def stk(N:Nat→Nat→List Int)(B:Nat):Nat→Nat→Nat→List (Nat×List Int)
 | 0,_,_=>[]
 | f+1,b,q=>if q=0 then [] else stk N B f (b+1) (q/2)++(if q%2=1 then [(b,N b (B/2^b+(q-1)))] else [])
theorem bnf(N:Nat→Nat→List Int)(B f b:Nat):stk N B f b 0=[]:=by cases f<;>simp[stk]
theorem bae(N:Nat→Nat→List Int)(B f b q:Nat)(h:q%2=0):stk N B (f+1) b q=stk N B f (b+1) (q/2):=by
 by_cases h0:q=0
 ·subst h0
  rw[bnf,bnf]
 ·rw[stk,if_neg h0,if_neg (by omega),List.append_nil]
theorem bep(N:Nat→Nat→List Int)(B f b q:Nat)(h:q%2=1):stk N B (f+1) b q=stk N B f (b+1) (q/2)++[(b,N b (B/2^b+(q-1)))]:=by
 rw[stk,if_neg (by omega),if_pos h]
theorem bpj(N:Nat→Nat→List Int)(B:Nat):∀f b q x,x∈stk N B f b q→b≤x.1
 | 0,b,q,x,h=>by simp[stk] at h
 | f+1,b,q,x,h=>by
  rw[stk] at h
  split at h
  ·cases h
  ·rcases List.mem_append.1 h with h | h
   ·have:=bpj N B f (b+1) _ x h;omega
   ·split at h
    ·simp at h;subst h;exact Af _
    ·cases h
theorem azy(N:Nat→Nat→List Int)(B:Nat):∀f b q,(stk N B f b q).length≤f
 | 0,b,q=>by simp[stk]
 | f+1,b,q=>by
  rw[stk]
  have:=azy N B f (b+1) (q/2)
  split
  ·simp
  ·split<;>simp<;>omega
theorem bfv(N:Nat→Nat→List Int)(B:Nat):∀m f b,m<f→stk N B f b (2^m)=[(b+m,N (b+m) (B/2^(b+m)))]
 | 0,f+1,b,h=>by rw[Br,bep _ _ _ _ _ rfl,bnf];simp
 | m+1,f+1,b,h=>by
  rw[bae _ _ _ _ _ (by rw[Al];omega),show 2^(m+1)/2=2^m by rw[Al];omega,bfv N B m f (b+1) (by omega),show b+1+m=b+(m+1) by omega]
 | m,0,b,h=>by omega
theorem bti(N:Nat→Nat→List Int)(B f b q:Nat)(h:q%2=1):stk N B (f+1) b (q+1)=stk N B f (b+1) (q/2+1):=by
 rw[bae _ _ _ _ _ (by omega),show (q+1)/2=q/2+1 by omega]
theorem brh(N:Nat→Nat→List Int)(B f b q:Nat)(h:q%2=0):stk N B (f+1) b (q+1)=stk N B f (b+1) (q/2)++[(b,N b (B/2^b+q))]:=by
 rw[bep _ _ _ _ _ (by omega),show (q+1)/2=q/2 by omega,Nat.add_sub_cancel]
end Q
end

section
/- fors: a boh by a stack. -/
namespace Q
open QK
open Go Go.Abs
def hs(T:List (Nat×List Int)):List Int:=T.map fun x=>(x.1:Int)
def ns(T:List (Nat×List Int)):List (List Int):=T.map fun x=>x.2
theorem bgp(T:List (Nat×List Int)):(hs T).length=T.length:=by simp[hs]
theorem bjm(T:List (Nat×List Int)):(ns T).length=T.length:=by simp[ns]
theorem bki(T U:List (Nat×List Int)):hs (T++U)=hs T++hs U:=by simp[hs]
theorem bo9(T U:List (Nat×List Int)):ns (T++U)=ns T++ns U:=by simp[ns]
theorem bjj{α:Type}(l:List α)(d:α){m:Nat}(h:l.length=m):bhy m l d=l:=by
 subst h
 simp[bhy]
theorem avv{α:Type}(l:List α)(x d:α){m:Nat}(h:l.length=m):(l++[x]).getD m d=x:=by
 subst h
 simp[Ae]
theorem bq5{n:Nat}{H D A K:Int}(hf:afl n H D A K)(sh:Bool){sec pub a:List Int}(hsec:In 256 sec)(lsec:sec.length=n)(hp:In 256 pub)(np:pub.length=n)(la:a.length=32)(ha:In 256 a)(z i m:Nat)(hz:z≤14)(hb:(i+1)*2^z≤9223372036854775808)(hm:m<2^z){ρ:Type}(r:Option ρ)
    (k0:Int→Int→Int→Int→Nat→(List Int)→(List (List Int))→Int→Int→Int→Int→Int→Bool→(List Int)→(List Int)→(List Int)→Int→(List Int)→Option ρ)
    (hk:∀(T:List (Nat×List Int)) (b:Nat) (y:List Int),T++[(b,y)]=stk (fkW n sh pub sec a) (i*2^z) 64 0 (m+1)→k0 (z:Int) (i:Int) ((i*2^z+m:Nat):Int) (T.length:Int) T.length (hs T) (ns T) n H D A K sh sec pub a (b:Int) y=r) :
    P.ae0 (z:Int) (i:Int) ((i*2^z+m:Nat):Int) ((stk (fkW n sh pub sec a) (i*2^z) 64 0 m).length:Int) (stk (fkW n sh pub sec a) (i*2^z) 64 0 m).length (hs (stk (fkW n sh pub sec a) (i*2^z) 64 0 m)) (ns (stk (fkW n sh pub sec a) (i*2^z) 64 0 m)) n H D A K sh sec pub a 0 (fkW n sh pub sec a 0 (i*2^z+m)) k0=r:=by
 have hn:n≤32:=by unfold afl at hf;omega
 have e1:(i+1)*2^z=i*2^z+2^z:=by rw[Nat.add_mul,Nat.one_mul]
 rw[P.aml];unfold P.ai3 P.bxg P.bvz P.b2c
 refine b0p (P:=fun x=>∃f b q,f+b=64∧stk (fkW n sh pub sec a) (i*2^z) 64 0 (m+1)=stk (fkW n sh pub sec a) (i*2^z) f b (q+1)∧(i*2^z+m)/2^b=i*2^z/2^b+q∧(q+1)*2^b≤2^z ∧
     x=((z:Int),(i:Int),((i*2^z+m:Nat):Int),((stk (fkW n sh pub sec a) (i*2^z) f b q).length:Int),(stk (fkW n sh pub sec a) (i*2^z) f b q).length,hs (stk (fkW n sh pub sec a) (i*2^z) f b q),ns (stk (fkW n sh pub sec a) (i*2^z) f b q),(n:Int),H,D,A,K,sh,sec,pub,a,(b:Int),fkW n sh pub sec a b (i*2^z/2^b+q)))
  (μ:=fun x=>x.2.2.2.2.1) ?_ ⟨64,0,m,rfl,rfl,by rw[Br,Bv,Bv],by omega,by rw[Br,Bv];rfl⟩ (by have:=azy (fkW n sh pub sec a) (i*2^z) 64 0 m;simp only;omega)
 rintro _ ⟨f,b,q,hfb,hst,hdv,hle,rfl⟩ next hnx
 have hbz:b≤z:=by
  have h1:2^b≤(q+1)*2^b:=Nat.le_mul_of_pos_left _ (by omega)
  exact (Bt (by omega)).1 (Nat.le_trans h1 hle)
 obtain ⟨f,rfl⟩:∃g,f=g+1:=⟨f-1,by omega⟩
 have hlen:=azy (fkW n sh pub sec a) (i*2^z) f (b+1) (q/2)
 by_cases hq:q%2=1
 ·-- two of one height
  have hb1:b+1≤z:=by
   have h1:2^(b+1)≤(q+1)*2^b:=by rw[Al,Aw];exact Ab (by omega) (Af _)
   exact (Bt (by omega)).1 (Nat.le_trans h1 hle)
  have hev:i*2^z/2^b=2*(i*2^z/2^(b+1)):=by
   have e2:i*2^z=i*2^(z-(b+1))*2^(b+1):=by rw[Bc,←Bu,Bn hb1]
   have e3:i*2^z=2*(i*2^(z-(b+1)))*2^b:=by rw[e2,Al];ac_rfl
   rw[e2,Bo _ (A8 _),←e2,e3,Bo _ (A8 _)]
  have hidx:(i*2^z+m)/2^(b+1)=i*2^z/2^(b+1)+q/2:=by
   rw[Al,←Bb,hdv,hev]
   rw[Al];omega
  have hsm:=Am (i*2^z+m) (2^(b+1))
  have hT:=bep (fkW n sh pub sec a) (i*2^z) f b q hq
  generalize hS:stk (fkW n sh pub sec a) (i*2^z) f (b+1) (q/2)=T0 at hT hlen
  have hl1:(stk (fkW n sh pub sec a) (i*2^z) (f+1) b q).length=T0.length+1:=by rw[hT];simp
  have hhs:hs (stk (fkW n sh pub sec a) (i*2^z) (f+1) b q)=hs T0++[(b:Int)]:=by rw[hT,bki];rfl
  have hns:ns (stk (fkW n sh pub sec a) (i*2^z) (f+1) b q)=ns T0++[fkW n sh pub sec a b (i*2^z/2^b+(q-1))]:=by rw[hT,bo9];rfl
  simp only[P.aeu,hl1,hhs,hns]
  rw[show ((T0.length+1:Nat):Int)-1=(T0.length:Int) by omega,wz (x:=(T0.length:Int)) (by omega) (by omega),toNat_cast,avv _ _ _ (bgp T0),avv _ _ _ (bjm T0),show (b:Int)+1=((b+1:Nat):Int) by omega,wz (x:=((b+1:Nat):Int)) (by omega) (by omega),toNat_cast,fdiv_pow _ _ _ (by omega),hidx]
  rw[bf (by omega),bf (by omega),bf (by omega),jc rfl,fq (by omega),bf (by omega),bf (by omega)]
  have hfl:[fkW n sh pub sec a b (i*2^z/2^b+(q-1)),fkW n sh pub sec a b (i*2^z/2^b+q)].flatten=fkW n sh pub sec a b (2*(i*2^z/2^(b+1)+q/2))++fkW n sh pub sec a b (2*(i*2^z/2^(b+1)+q/2)+1):=by
   rw[hev,show 2*(i*2^z/2^(b+1))+(q-1)=2*(i*2^z/2^(b+1)+q/2) by omega,show 2*(i*2^z/2^(b+1))+q=2*(i*2^z/2^(b+1)+q/2)+1 by omega]
   simp
  rw[anc hf sh hp np la ha (b+1) _ (by omega) (by omega) _ (by simp) (by rw[hfl];exact (blp _ _ _ _ _ _ _).app (blp _ _ _ _ _ _ _)) (by rw[hfl,Ac,azp hn,azp hn];omega),hfl,bf (by omega),bf (by omega),Nat.min_eq_left (by omega),List.take_left' (bgp T0),List.take_left' (bjm T0)]
  refine hnx _ ⟨f,b+1,q/2,by omega,by rw[hst,bti _ _ _ _ _ hq],hidx,?_,?_⟩ (by simp only[hl1];omega)
  ·have:(q/2+1)*2^(b+1)=(2*(q/2)+2)*2^b:=by rw[Al,Aw (2^b) 2,←Bc];congr 1;omega
   rw[this,show 2*(q/2)+2=q+1 by omega]
   exact hle
  ·rw[hS]
   rfl
 ·-- nothing of this height
  have hT:=bae (fkW n sh pub sec a) (i*2^z) f b q (by omega)
  have hP:=brh (fkW n sh pub sec a) (i*2^z) f b q (by omega)
  have hge:=bpj (fkW n sh pub sec a) (i*2^z) f (b+1) (q/2)
  rw[hT]
  generalize hS:stk (fkW n sh pub sec a) (i*2^z) f (b+1) (q/2)=T0 at hP hge hlen
  have hfin:=hk T0 b (fkW n sh pub sec a b (i*2^z/2^b+q)) (by rw[hst,hP])
  simp only[P.aeu]
  by_cases h0:T0.length=0
  ·rw[fq (by omega)]
   exact hfin
  ·have hlast:∃T1 x,T0=T1++[x]:=by
     have hne:T0≠[]:=by intro e;rw[e] at h0;exact h0 rfl
     exact ⟨T0.dropLast,T0.getLast hne,(List.dropLast_concat_getLast hne).symm⟩
   obtain ⟨T1,x,rfl⟩:=hlast
   have hx:=hge x (by simp)
   have hl1:(T1++[x]).length=T1.length+1:=by simp
   have hlk:(hs (T1++[x])).getD T1.length 0=(x.1:Int):=by rw[bki];exact avv _ _ _ (bgp T1)
   rw[hl1] at hfin ⊢
   rw[show ((T1.length+1:Nat):Int)-1=(T1.length:Int) by omega,wz (x:=(T1.length:Int)) (by omega) (by omega),toNat_cast,hlk,bf (by omega),bf (by omega),bf (by omega),jk (by omega)]
   exact hfin
theorem biy{n:Nat}{H D A K:Int}(hf:afl n H D A K)(sh:Bool){sec pub a:List Int}(hsec:In 256 sec)(lsec:sec.length=n)(hp:In 256 pub)(np:pub.length=n)(la:a.length=32)(ha:In 256 a)(z i:Nat)(hz:z≤14)(hb:(i+1)*2^z≤9223372036854775808){ρ:Type}(k:List Int→Option ρ):P.o7 (n:Int) H D A K sh sec pub a (z:Int) (i:Int) k=k (fkW n sh pub sec a z i):=by
 have hn:n≤32:=by unfold afl at hf;omega
 have e1:(i+1)*2^z=i*2^z+2^z:=by rw[Nat.add_mul,Nat.one_mul]
 have h1:1≤2^z:=A8 z
 have h2:i+1≤(i+1)*2^z:=A9 _ h1
 rw[P.ai9];unfold P.ad6
 rw[fq (by omega),toNat_cast,bff i z (by omega) (by omega),P.anb];unfold P.ajc P.bw7 P.bw1 P.b0h
 refine abk (fun j=>((z:Int),(i:Int),((i*2^z+j:Nat):Int),(stk (fkW n sh pub sec a) (i*2^z) 64 0 j).length,hs (stk (fkW n sh pub sec a) (i*2^z) 64 0 j),ns (stk (fkW n sh pub sec a) (i*2^z) 64 0 j),(n:Int),H,D,A,K,sh,sec,pub,a)) (2^z) (by rw[bnf];rfl) (fun j hj next hnx=>?_) (fun next=>?_) (by have:2^z≤2^14:=Ad (by omega) hz;omega)
 ·simp only[P.afb,toNat_cast]
  rw[fq (by omega),show (i:Int)+1=((i+1:Nat):Int) by omega,an6 (i+1) (by omega),bff (i+1) z (by omega) (by omega),bf (by omega),bck hf sh hp np la ha hsec lsec _ (by omega)]
  have hfl:[lfF n sh pub sec a (i*2^z+j)].flatten=lfF n sh pub sec a (i*2^z+j):=by simp
  rw[show ∀(x:Int) (l:List (List Int)) (kk:List Int→Option ρ),P.jr (n:Int) H D A K sh sec pub a 0 x l kk=P.jr (n:Int) H D A K sh sec pub a ((0:Nat):Int) x l kk from fun _ _ _=>rfl,
   anc hf sh hp np la ha 0 _ (by omega) (by omega) _ (by simp) (by rw[hfl];exact bpl _ _ _ _ _ _) (by rw[hfl,ay4 hn];omega),hfl]
  refine bq5 hf sh hsec lsec hp np la ha z i j hz hb hj _ _ (fun T b y hT=>?_)
  have hl:=azy (fkW n sh pub sec a) (i*2^z) 64 0 (j+1)
  rw[←hT] at hl
  have hl1:(T++[(b,y)]).length=T.length+1:=by simp
  rw[bf (by omega),bjj _ _ (bgp T),bjj _ _ (bjm T),show ((i*2^z+j:Nat):Int)+1=((i*2^z+(j+1):Nat):Int) by omega,an6 _ (by omega)]
  rw[←hT,hl1,bki,bo9] at hnx
  exact hnx
 ·simp only[P.afb,toNat_cast]
  rw[fq (by omega),show (i:Int)+1=((i+1:Nat):Int) by omega,an6 (i+1) (by omega),bff (i+1) z (by omega) (by omega),fq (by omega),bfv _ _ _ _ _ (by omega),Bz,Bo _ h1,bf (by simp)]
  rfl
end Q
end

section
/- fors: knots and keys, by the program and by the document. -/
namespace Q
open QK
open Go Go.Abs
theorem qz{n:Nat}{H D A K:Int}(hf:afl n H D A K)(sh:Bool)(sec pub a:List Int){ρ:Type}(k:Int→Int→Int→Int→Int→Bool→List Int→List Int→List Int→Bool→Option ρ):P.qz (n:Int) H D A K sh sec pub a k=k n H D A K sh sec pub a (decide (sec.length=n∧pub.length=n)):=by
 rw[P.anp];unfold P.ahb
 rw[ji,decide_eq_true hf,yx]
 by_cases h1:sec.length=n
 ·rw[jc (by omega)]
  by_cases h2:pub.length=n
  ·rw[decide_eq_true ⟨h1,h2⟩,h2];simp
  ·rw[decide_eq_false (fun h=>h2 h.2)]
   congr 1
   have:(pub.length:Int)≠(n:Int):=by omega
   simpa using this
 ·rw[jk (by omega),decide_eq_false (fun h=>h1 h.1)]
def szF(n A K:Nat):Nat:=K*(n*(A+1))
def txF(A K:Nat):Nat:=(K*A+7)/8
theorem bhw{n A K:Nat}(hn:n≤32)(hA:A≤14)(hK:K≤40):Aa.wrap (Aa.wrap ((n:Int)*(K:Int))*Aa.wrap ((A:Int)+(1:Int)))=((szF n A K:Nat):Int)∧Aa.wrap ((Aa.wrap (Aa.wrap ((K:Int)*(A:Int))+(7:Int))).tdiv (8:Int))=((txF A K:Nat):Int):=by
 have h1:n*K≤32*40:=Ab hn hK
 have h2:n*K*(A+1)≤32*40*15:=Ab h1 (by omega)
 have h3:K*A≤40*14:=Ab hK hA
 constructor
 ·rw[show (n:Int)*(K:Int)=((n*K:Nat):Int) by rw[Ao],wz (x:=((n*K:Nat):Int)) (by omega) (by omega),wz (x:=(A:Int)+1) (by omega) (by omega),show (A:Int)+1=((A+1:Nat):Int) by omega,←Ao,wz (by omega) (by omega)]
  congr 1
  unfold szF
  rw[Aw n K,Bc]
 ·rw[show (K:Int)*(A:Int)=((K*A:Nat):Int) by rw[Ao],wz (x:=((K*A:Nat):Int)) (by omega) (by omega),wz (x:=((K*A:Nat):Int)+7) (by omega) (by omega),Int.tdiv_eq_ediv_of_nonneg (by omega),wz (by omega) (by omega)]
  unfold txF
  omega
theorem jo{n A K:Nat}{H D:Int}(hf:afl n H D A K)(sh:Bool){ρ:Type}(k:Int→Int→Option ρ):P.jo (n:Int) H D A K sh k=k (szF n A K:Nat) (txF A K:Nat):=by
 have hq:=hf
 unfold afl at hq
 obtain ⟨e1,e2⟩:=bhw (n:=n) (A:=A) (K:=K) (by omega) (by omega) (by omega)
 rw[P.as4];unfold P.ak6
 rw[ji,decide_eq_true hf,uh,yx,e1,e2]
theorem bt8{A K z i:Nat}(hA:A≤14)(hK:K≤40)(hz:z≤A)(hi:i<K*2^(A-z)):(i+1)*2^z≤655360:=by
 have h1:(i+1)*2^z≤K*2^(A-z)*2^z:=Ab hi (Af _)
 rw[Bc,←Bu,Bn hz] at h1
 have h2:2^A≤2^14:=Ad (by omega) hA
 have:=Ab hK h2
 omega
end Q
end

section
/- fors: the chapter's examples; what is few and light. -/
namespace Q
open QK
open Go Go.Abs
end Q
end
