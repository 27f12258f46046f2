/-
  SlhSigns, part 26: lemmas for the law.
-/

import Derived.Test.YtciddcopcdmnbaaGreatDoorSlhSignsH
import Derived.Laws.Bits64
import Derived.Test.YtciddcopcdmnbaaGreatDoorSlhSignsM
import Derived.Test.YtciddcopcdmnbaaGreatDoorSlhSignsK
import Derived.Test.YtciddcopcdmnbaaGreatDoorSlhSignsL
import Derived.Test.YtciddcopcdmnbaaGreatDoorSlhSignsI
import Derived.Test.YtciddcopcdmnbaaGreatDoorSlhSignsJ
open BitVec renaming ofInt → Aa, toNat_add → Ag, toNat_ofInt → Ai, ofNat → Aw, toNat_ofNat → A8, toNat_and → Bw, toNat_xor → Cm, toNat_or → Cq, allOnes → Cv
open Go.IntKind renaming u64 → Ab, i64 → Ad, u32 → Ar, u8 → Ca, signed → Ce, bits → Ck, wrap → Da
open List renaming range → Ac, getD_eq_getElem?_getD → Ae, replicate → Af, length_range → Aj, getD_cons_zero → Ak, getD_cons_succ → Al, length_map → Am, set_append_right → Ao, getElem_range → Ap, take → Aq, getElem_map → Au, range_succ → Av, ext_getElem → Az, set_cons_zero → A9, drop → Ba, getElem?_append_right → Bb, append_assoc → Bc, drop_eq_getElem_cons → Bd, length_replicate → Bn, replicate_succ → Bq, getElem?_eq_getElem → Bt, drop_eq_nil_of_le → Bv, take_length → Bz, map_congr_left → Cc, length_append → Ci, getElem?_drop → Cj, map_append → Cr, append_nil → Ct, getElem?_eq_none → Cu, singleton_append → Cw, mem_range → Cx, getElem_reverse → Cz, mem_map → C9
open Int renaming natCast_add → Ah, eq_ofNat_of_zero_le → Ay, tdiv_eq_ediv_of_nonneg → Bo, tmod_eq_emod_of_nonneg → Bp
open Nat renaming pow_add → Bf, mod_eq_of_lt → Bg, sub_self → Bh, and_two_pow_sub_one_eq_mod → Bj, mul_le_mul → Bl, min_eq_left → Br, div_div_eq_div_mul → Bu, mul_succ → Cb, le_refl → Cg, and_lt_two_pow → Ch, div_eq_of_lt → Cn, le_mul_of_pos_right → Co, mod_lt → Cy, add_assoc → C8, add_comm → Dc, add_zero → Df, mul_comm → Dg
set_option linter.unusedVariables false
set_option linter.unusedSimpArgs false

section
/- Small laws for the plain proofs. -/
namespace Q
open Go Go.Abs
def In(m:Int)(l:List Int):Prop:=∀x,x∈l→0≤x∧x<m
theorem wf_u8{n:Int}(h:wfI .u8 n):0≤n∧n<256:=by
 simp[wfI,Lit.wf,IntKind.min,IntKind.max,Ce,Ck] at h;omega
theorem bzt{l:List Int}(h:∀x,x∈l→wfI .u8 x):In 256 l:=fun x hx=>wf_u8 (h x hx)
theorem In.tail{m x:Int}{l:List Int}(h:In m (x::l)):In m l:=fun y hy=>h y (List.mem_cons_of_mem _ hy)
theorem In.app{m:Int}{l r:List Int}(h1:In m l)(h2:In m r):In m (l++r):=fun y hy=>(List.mem_append.1 hy).elim (h1 y) (h2 y)
theorem In.left{m:Int}{l r:List Int}(h:In m (l++r)):In m l:=fun y hy=>h y (List.mem_append_left _ hy)
theorem In.right{m:Int}{l r:List Int}(h:In m (l++r)):In m r:=fun y hy=>h y (List.mem_append_right _ hy)
theorem In.take{m:Int}{l:List Int}(h:In m l)(n:Nat):In m (l.take n):=fun y hy=>h y (List.mem_of_mem_take hy)
theorem In.drop{m:Int}{l:List Int}(h:In m l)(n:Nat):In m (l.drop n):=fun y hy=>h y (List.mem_of_mem_drop hy)
theorem In.nil{m:Int}:In m []:=fun y hy=>by simp at hy
theorem In.rev{m:Int}{l:List Int}(h:In m l):In m l.reverse:=fun y hy=>h y (by simpa using hy)
theorem In.getD{m:Int}{l:List Int}(h:In m l)(i:Nat)(hm:0<m):0≤l.getD i 0∧l.getD i 0<m:=by
 rw[Ae]
 by_cases hi:i<l.length
 ·rw[Bt hi];exact h _ (List.getElem_mem hi)
 ·rw[Cu (by omega)];exact ⟨Int.le_refl 0,hm⟩
theorem In.map{m:Int}{α:Type}{l:List α}{f:α→Int}(h:∀a,a∈l→0≤f a∧f a<m):In m (l.map f):=fun y hy=>by
 obtain ⟨a,ha,rfl⟩:=C9.1 hy
 exact h a ha
theorem jd{α:Type}{a b:Int}(h:¬a=b)(x y:α):br (a !=b) x y=x:=by rw[bne_iff_ne.2 h];exact oq x y
theorem dh{α:Type}{a b:Int}(h:a=b)(x y:α):br (a !=b) x y=y:=by rw[bne_eq_false_iff_eq.2 h];exact w9 x y
theorem eu{α:Type}{a b:Int}(h:a=b)(x y:α):br (a==b) x y=x:=by rw[beq_iff_eq.2 h];exact oq x y
theorem gq{α:Type}{a b:Int}(h:¬a=b)(x y:α):br (a==b) x y=y:=by rw[beq_eq_false_iff_ne.2 h];exact w9 x y
theorem jv{α:Type}(b:Bool)(x y:α):br (!b) x y=br b y x:=by cases b<;>simp
theorem bxz{X Y ρ:Type}{stp:X→(X→Option ρ)→(Y→Option ρ)→Option ρ}{K:Y→Option ρ}{r:Option ρ}(S:Nat→X)(n:Nat)
    (hstep:∀i,i<n→∀next,next (S (i+1))=r→stp (S i) next K=r) (hend:∀next,stp (S n) next K=r) {i:Nat} (hi:i≤n) (hn:n≤18446744073709551616):lp stp (S i) K=r:=by
 have key:∀m i,m+i=n→lpN stp K m (S i)=r∧∀q,m≤q→lpN stp K q (S i)=r:=by
  intro m
  induction m with
  | zero =>
   intro i hi
   have:i=n:=by omega
   subst this
   refine ⟨hend _,fun q _=>?_⟩
   cases q with
   | zero=>exact hend _
   | succ q=>exact hend _
  | succ m ih =>
   intro i hi
   refine ⟨hstep i (by omega) _ (ih (i+1) (by omega)).1,fun q hq=>?_⟩
   cases q with
   | zero=>omega
   | succ q=>exact hstep i (by omega) _ ((ih (i+1) (by omega)).2 q (by omega))
 exact (key (n-i) i (by omega)).2 FU (by rw[b22];omega)
theorem getD_lt{α:Type}{l:List α}{d:α}{i:Nat}(h:i<l.length):l.getD i d=l[i]:=by
 rw[Ae,Bt h];rfl
theorem bh7{α:Type}{l:List α}{d:α}{i:Nat}(h:l.length≤i):l.getD i d=d:=by
 rw[Ae,Cu h];rfl
theorem toNat_cast(n:Nat):((n:Int)).toNat=n:=Int.toNat_natCast n
theorem bog(f:Nat→Int)(i n:Nat)(h:i<n)(d:Int):((Ac i).map f++Af (n-i) d).set i (f i)=(Ac (i+1)).map f++Af (n-(i+1)) d:=by
 rw[Ao _ _ (by simp),show n-i=(n-(i+1))+1 by omega,Bq]
 simp[Av]
theorem wo{α:Type}(f:Nat→α)(i:Nat):(Ac i).map f++[f i]=(Ac (i+1)).map f:=by simp[Av]
theorem asv{α:Type}(l:List α)(d:α)(i:Nat)(h:i<l.length):l.take i++[l.getD i d]=l.take (i+1):=by
 rw[getD_lt h,List.take_add_one,Bt h];rfl
theorem aft{α:Type}(l:List α)(d:α)(i:Nat)(h:i<l.length):l.drop i=l.getD i d::l.drop (i+1):=by
 rw[getD_lt h];exact Bd h
end Q
end

section
/- The bit operations as numbers. -/
namespace Q
open Go Go.Abs
theorem cjm(x y:Nat)(hx:x<256)(hy:y<256):bits .or .u8 (x:Int) (y:Int)=((x ||| y:Nat):Int):=by
 have h1:x ||| y<256:=Nat.or_lt_two_pow (n:=8) hx hy
 have e:bits .or .u8 (x:Int) (y:Int)=Ca.wrap ((Aa 8 (x:Int) ||| Aa 8 (y:Int)).toNat:Int):=rfl
 have e2:(Aa 8 (x:Int) ||| Aa 8 (y:Int)).toNat=x ||| y:=by
  rw[Cq,Ai,Ai];congr 1<;>omega
 rw[e,e2];exact IntWalk.u8_in _ ⟨by omega,by omega⟩
theorem b92(x y:Nat)(hx:x<256)(hy:y<256):bits .xor .u8 (x:Int) (y:Int)=((x ^^^ y:Nat):Int):=by
 have h1:x ^^^ y<256:=Nat.xor_lt_two_pow (n:=8) hx hy
 have e:bits .xor .u8 (x:Int) (y:Int)=Ca.wrap ((Aa 8 (x:Int) ^^^ Aa 8 (y:Int)).toNat:Int):=rfl
 have e2:(Aa 8 (x:Int) ^^^ Aa 8 (y:Int)).toNat=x ^^^ y:=by
  rw[Cm,Ai,Ai];congr 1<;>omega
 rw[e,e2];exact IntWalk.u8_in _ ⟨by omega,by omega⟩
theorem b61(x y:Nat)(hx:x<256)(hy:y<256):bits .and .u8 (x:Int) (y:Int)=((x &&& y:Nat):Int):=by
 have h1:x &&& y<256:=Ch (n:=8) x hy
 have e:bits .and .u8 (x:Int) (y:Int)=Ca.wrap ((Aa 8 (x:Int) &&& Aa 8 (y:Int)).toNat:Int):=rfl
 have e2:(Aa 8 (x:Int) &&& Aa 8 (y:Int)).toNat=x &&& y:=by
  rw[Bw,Ai,Ai];congr 1<;>omega
 rw[e,e2];exact IntWalk.u8_in _ ⟨by omega,by omega⟩
theorem bs1(x y:Nat)(hx:x<18446744073709551616)(hy:y<18446744073709551616):bits .or .u64 (x:Int) (y:Int)=((x ||| y:Nat):Int):=by
 have h1:x ||| y<18446744073709551616:=Nat.or_lt_two_pow (n:=64) hx hy
 have e:bits .or .u64 (x:Int) (y:Int)=Ab.wrap ((Aa 64 (x:Int) ||| Aa 64 (y:Int)).toNat:Int):=rfl
 have e2:(Aa 64 (x:Int) ||| Aa 64 (y:Int)).toNat=x ||| y:=by
  rw[Cq,Ai,Ai];congr 1<;>omega
 rw[e,e2];exact IntWalk.u64_in _ ⟨by omega,by omega⟩
theorem apr(x y:Nat)(hx:x<18446744073709551616)(hy:y<18446744073709551616):bits .and .u64 (x:Int) (y:Int)=((x &&& y:Nat):Int):=by
 have h1:x &&& y<18446744073709551616:=Ch (n:=64) x hy
 have e:bits .and .u64 (x:Int) (y:Int)=Ab.wrap ((Aa 64 (x:Int) &&& Aa 64 (y:Int)).toNat:Int):=rfl
 have e2:(Aa 64 (x:Int) &&& Aa 64 (y:Int)).toNat=x &&& y:=by
  rw[Bw,Ai,Ai];congr 1<;>omega
 rw[e,e2];exact IntWalk.u64_in _ ⟨by omega,by omega⟩
theorem b2v(x y:Nat)(hx:x<4294967296)(hy:y<4294967296):bits .and .u32 (x:Int) (y:Int)=((x &&& y:Nat):Int):=by
 have h1:x &&& y<4294967296:=Ch (n:=32) x hy
 have e:bits .and .u32 (x:Int) (y:Int)=Ar.wrap ((Aa 32 (x:Int) &&& Aa 32 (y:Int)).toNat:Int):=rfl
 have e2:(Aa 32 (x:Int) &&& Aa 32 (y:Int)).toNat=x &&& y:=by
  rw[Bw,Ai,Ai];congr 1<;>omega
 rw[e,e2];exact IntWalk.u32_in _ ⟨by omega,by omega⟩
theorem u8m(n:Int):Ca.wrap n=n%256:=by simp[Da,Ck,Ce]
theorem b6e(n:Int):Ar.wrap n=n%4294967296:=by simp[Da,Ck,Ce]
theorem bt6(n:Int):Ab.wrap n=n%18446744073709551616:=by simp[Da,Ck,Ce]
theorem xor_zero{x y:Nat}:x ^^^ y=0↔x=y:=by
 constructor
 ·intro h
  have:(x ^^^ y) ^^^ y=x:=by rw[Nat.xor_assoc,Nat.xor_self,Nat.xor_zero]
  rw[h,Nat.zero_xor] at this
  exact this.symm
 ·rintro rfl;exact Nat.xor_self _
theorem bs3(a x i:Nat)(hx:x<2^i):(a*2^i) ||| x=a*2^i+x:=by
 rw[←Nat.shiftLeft_eq,Nat.shiftLeft_add_eq_or_of_lt hx]
end Q
end

section
/- Numbers and their digits, the lowest first. -/
namespace Q
open Go Go.Abs
def T(w:Nat):List Int→Nat
 | []=>0
 | x::l=>x.toNat%2^w+2^w*T w l
theorem p2(n:Nat):0<2^n:=Nat.pow_pos (by omega)
theorem b5i(w:Nat):∀l:List Int,T w l<2^(w*l.length)
 | []=>by simp[T]
 | x::l=>by
  have ih:=b5i w l
  have h1:=Cy x.toNat (p2 w)
  rw[List.length_cons,Cb,Dc,Bf]
  simp only[T]
  have:2^w*(T w l+1)≤2^w*2^(w*l.length):=Bl (Cg _) ih
  rw[Nat.mul_add] at this
  omega
theorem blp(w:Nat):∀a b:List Int,T w (a++b)=T w a+2^(w*a.length)*T w b
 | [],b=>by simp[T]
 | x::a,b=>by
  rw[List.cons_append,T,T,blp w a b,List.length_cons,Cb,Dc (w*a.length) w,Bf,Nat.mul_add,Nat.mul_assoc]
  omega
theorem b7c(w:Nat)(l:List Int)(k:Nat)(h:k≤l.length):T w l=T w (l.take k)+2^(w*k)*T w (l.drop k):=by
 have:=blp w (l.take k) (l.drop k)
 rw[List.take_append_drop,List.length_take,Br h] at this
 exact this
theorem bkr(w:Nat)(l:List Int)(k:Nat)(h:k≤l.length):T w (l.drop k)=T w l/2^(w*k):=by
 have:=b5i w (l.take k)
 rw[List.length_take,Br h] at this
 rw[b7c w l k h,Nat.add_mul_div_left _ _ (p2 _),Cn this,Nat.zero_add]
theorem b7w(w:Nat)(l:List Int)(k:Nat):T w l/2^(w*k)%2^w=(l.getD k 0).toNat%2^w:=by
 by_cases h:k<l.length
 ·rw[←bkr w l k (by omega),aft l 0 k h,T,Nat.add_mul_mod_self_left,Nat.mod_mod]
 ·rw[bh7 (by omega),Cn]
  ·rfl
  ·exact Nat.lt_of_lt_of_le (b5i w l) (Nat.pow_le_pow_right (by omega) (Bl (Cg _) (by omega)))
theorem u7{X Y ρ:Type}{stp:X→(X→Option ρ)→(Y→Option ρ)→Option ρ}{K:Y→Option ρ}{r:Option ρ}(S:Nat→X)(n:Nat){x:X}(hx:x=S 0)
    (hstep:∀i,i<n→∀next,next (S (i+1))=r→stp (S i) next K=r) (hend:∀next,stp (S n) next K=r) (hn:n≤18446744073709551616):lp stp x K=r:=by
 rw[hx];exact bxz S n hstep hend (Nat.zero_le _) hn
def bsw(w n X:Nat):List Int:=(Ac n).map fun i=>((X/2^(w*i)%2^w:Nat):Int)
@[simp] theorem ac0 (w n X:Nat):(bsw w n X).length=n:=by simp[bsw]
theorem btx(w n X i:Nat)(h:i<n):(bsw w n X).getD i 0=((X/2^(w*i)%2^w:Nat):Int):=by
 rw[getD_lt (by simpa using h)];simp[bsw]
theorem bm0(w n X:Nat):bsw w (n+1) X=bsw w n X++[((X/2^(w*n)%2^w:Nat):Int)]:=by simp[bsw,Av]
theorem bje(w n X:Nat):In (2^w) (bsw w n X):=by
 refine In.map (fun i _=>⟨Int.natCast_nonneg _,?_⟩)
 have:=Cy (X/2^(w*i)) (p2 w)
 have e:((2:Int)^w)=((2^w:Nat):Int):=by simp
 rw[e];omega
theorem b83(w X:Nat):∀n,T w (bsw w n X)=X%2^(w*n)
 | 0=>by simp[bsw,T,Nat.mod_one]
 | n+1=>by
  rw[bm0,blp,b83 w X n,ac0,Cb,Bf,Nat.mod_mul]
  simp only[T,Int.toNat_natCast,Nat.mod_mod,Nat.mul_zero,Df]
theorem bpa(X h w m:Nat)(hm:h+w≤m):X%2^m/2^h%2^w=X/2^h%2^w:=by
 have e:(2:Nat)^m=2^h*(2^w*2^(m-(h+w))):=by rw[←Bf,←Bf];congr 1;omega
 rw[e,Nat.mod_mul_right_div_self,Nat.mod_mul_right_mod]
theorem brn(X h w a b:Nat)(hb:a+b≤w):X/2^h%2^w/2^a%2^b=X/2^(h+a)%2^b:=by
 rw[bpa _ _ _ _ hb,Bu,←Bf]
theorem bzr(X h w a:Nat):X/2^h%2^w+2^w*(X/2^(h+w)%2^a)=X/2^h%2^(w+a):=by
 rw[Bf 2 w a,Nat.mod_mul,Bf,Bu]
end Q
end

section
/- bits: Unpack. -/
namespace Q
open Go Go.Abs
def Such(n:Nat)(w c:Int):Prop:=1≤w∧w≤24∧0≤c∧c*w≤n*8
instance (n:Nat) (w c:Int):Decidable (Such n w c):=inferInstanceAs (Decidable (_∧_))
theorem bwe(n:Nat)(w c:Int)(hn:n≤1000000){ρ:Type}(k:Bool→Option ρ) :
    br (decide (w≥(1:Int))) (br (decide (w≤(24:Int))) (br (decide (c≥(0:Int))) (br (decide (w=(0:Int))) none
     (k (decide (c≤Ad.wrap ((Ad.wrap ((↑n:Int)*(8:Int))).tdiv w))))) (k false)) (k false)) (k false)=k (decide (Such n w c)):=by
 by_cases h1:w≥1
 ·by_cases h2:w≤24
  ·by_cases h3:c≥0
   ·rw[bf h1,bf h2,bf h3,bn (by omega)]
    congr 1
    have e0:((n:Int)*8).tdiv w=(n:Int)*8/w:=Bo (by omega)
    have e1:(n:Int)*8/w≤n*8:=Int.ediv_le_self _ (by omega)
    have e2:0≤(n:Int)*8/w:=Int.ediv_nonneg (by omega) (by omega)
    rw[l7 (x:=(n:Int)*8) (by omega) (by omega),e0,l7 (by omega) (by omega)]
    apply decide_eq_decide.2
    rw[Int.le_ediv_iff_mul_le (by omega)]
    unfold Such
    omega
   ·rw[bf h1,bf h2,bn h3,decide_eq_false (fun h=>h3 h.2.2.1)]
  ·rw[bf h1,bn h2,decide_eq_false (fun h=>h2 h.2.1)]
 ·rw[bn h1,decide_eq_false (fun h=>h1 h.1)]
theorem ad4(b:List Int)(w c:Int)(hn:b.length≤1000000){ρ:Type}(k:Bool→Option ρ):P.ad4 b w c k=k (decide (Such b.length w c)):=by
 rw[P.bbr];exact bwe b.length w c hn k
theorem ahc(b:List Int)(w c:Int)(hn:b.length≤1000000){ρ:Type}(k:Bool→Option ρ):P.ahc b w c k=k (decide (Such b.length w c)):=by
 rw[P.bf9];exact bwe b.length w c hn k
theorem fdiv_pow(a n m:Nat)(h:n≤m):(a:Int).fdiv ((2:Int)^min n m)=((a/2^n:Nat):Int):=by
 rw[Br h,show ((2:Int)^n)=((2^n:Nat):Int) by simp,←Int.ofNat_fdiv]
theorem mul_pow(a n m:Nat)(h:n≤m):(a:Int)*((2:Int)^min n m)=((a*2^n:Nat):Int):=by
 rw[Br h,show ((2:Int)^n)=((2^n:Nat):Int) by simp,←Int.natCast_mul]
theorem ad3(a:Nat)(h:a<18446744073709551616):Ab.wrap (a:Int)=(a:Int):=by rw[bt6];omega
theorem bv9(a:Nat)(h:a<4294967296):Ar.wrap (a:Int)=(a:Int):=by rw[b6e];omega
theorem u8n(a:Nat)(h:a<256):Ca.wrap (a:Int)=(a:Int):=by rw[u8m];omega
theorem bus{a b:Nat}(h:a≤b):2^a≤2^b:=Nat.pow_le_pow_right (by omega) h
theorem b2p(w:Nat)(h:w≤24):Ab.wrap (Ab.wrap ((1:Int)*(2:Int)^min w 64)-(1:Int))=((2^w-1:Nat):Int):=by
 have h1:=p2 w
 have h2:2^w≤2^24:=bus h
 rw[show (1:Int)=((1:Nat):Int) from rfl,mul_pow 1 w 64 (by omega),ad3 _ (by omega),show ((1*2^w:Nat):Int)-((1:Nat):Int)=((2^w-1:Nat):Int) by omega,ad3 _ (by omega)]
theorem bub(x w:Nat)(hx:x<18446744073709551616)(h:w≤24):bits .and .u64 (x:Int) (Ab.wrap (Ab.wrap ((1:Int)*(2:Int)^min w 64)-(1:Int)))=((x%2^w:Nat):Int):=by
 have h2:2^w≤2^24:=bus h
 rw[b2p w h,apr _ _ hx (by omega),Bj]
def acg(n:Nat):Nat:=(n+7)/8
theorem bs8(n:Nat):n≤8*acg n:=by unfold acg;omega
theorem bsu(n:Nat):8*acg n<n+8:=by unfold acg;omega
theorem byte_at{b:List Int}(hb:In 256 b)(t:Nat):∃x:Nat,b.getD t 0=(x:Int)∧x<256∧x=(b.getD t 0).toNat%2^8:=by
 have:=hb.getD t (by omega)
 exact ⟨(b.getD t 0).toNat,by omega,by omega,by omega⟩
end Q
end

section
/- Words of 32 and of 64 bits. -/
namespace Q
open Go Go.Abs
theorem ofI{w:Nat}(x:BitVec w):Aa w (x.toNat:Int)=x:=by simp
theorem bd7(x:BitVec 32):x.toNat<4294967296:=x.isLt
theorem b0b(x:BitVec 64):x.toNat<18446744073709551616:=x.isLt
theorem bm4(x y:BitVec 32):bits .xor .u32 (x.toNat:Int) (y.toNat:Int)=((x ^^^ y).toNat:Int):=by
 have e:bits .xor .u32 (x.toNat:Int) (y.toNat:Int)=Ar.wrap ((Aa 32 (x.toNat:Int) ^^^ Aa 32 (y.toNat:Int)).toNat:Int):=rfl
 rw[e,ofI,ofI,bv9 _ (bd7 _)]
theorem cg6(x y:BitVec 32):bits .and .u32 (x.toNat:Int) (y.toNat:Int)=((x &&& y).toNat:Int):=by
 have e:bits .and .u32 (x.toNat:Int) (y.toNat:Int)=Ar.wrap ((Aa 32 (x.toNat:Int) &&& Aa 32 (y.toNat:Int)).toNat:Int):=rfl
 rw[e,ofI,ofI,bv9 _ (bd7 _)]
theorem cq0(x y:BitVec 32):bits .or .u32 (x.toNat:Int) (y.toNat:Int)=((x ||| y).toNat:Int):=by
 have e:bits .or .u32 (x.toNat:Int) (y.toNat:Int)=Ar.wrap ((Aa 32 (x.toNat:Int) ||| Aa 32 (y.toNat:Int)).toNat:Int):=rfl
 rw[e,ofI,ofI,bv9 _ (bd7 _)]
theorem add32(x y:BitVec 32):Ar.wrap ((x.toNat:Int)+(y.toNat:Int))=((x+y).toNat:Int):=by
 rw[b6e,Ag];omega
theorem apy(x y:BitVec 64):bits .xor .u64 (x.toNat:Int) (y.toNat:Int)=((x ^^^ y).toNat:Int):=by
 have e:bits .xor .u64 (x.toNat:Int) (y.toNat:Int)=Ab.wrap ((Aa 64 (x.toNat:Int) ^^^ Aa 64 (y.toNat:Int)).toNat:Int):=rfl
 rw[e,ofI,ofI,ad3 _ (b0b _)]
theorem brt(x y:BitVec 64):bits .and .u64 (x.toNat:Int) (y.toNat:Int)=((x &&& y).toNat:Int):=by
 have e:bits .and .u64 (x.toNat:Int) (y.toNat:Int)=Ab.wrap ((Aa 64 (x.toNat:Int) &&& Aa 64 (y.toNat:Int)).toNat:Int):=rfl
 rw[e,ofI,ofI,ad3 _ (b0b _)]
theorem cbb(x y:BitVec 64):bits .or .u64 (x.toNat:Int) (y.toNat:Int)=((x ||| y).toNat:Int):=by
 have e:bits .or .u64 (x.toNat:Int) (y.toNat:Int)=Ab.wrap ((Aa 64 (x.toNat:Int) ||| Aa 64 (y.toNat:Int)).toNat:Int):=rfl
 rw[e,ofI,ofI,ad3 _ (b0b _)]
theorem ars(x y:BitVec 64):Ab.wrap ((x.toNat:Int)+(y.toNat:Int))=((x+y).toNat:Int):=by
 rw[bt6,Ag];omega
theorem bgb(x y:Nat)(hx:x<18446744073709551616)(hy:y<18446744073709551616):bits .xor .u64 (x:Int) (y:Int)=((x ^^^ y:Nat):Int):=by
 have:=apy (Aw 64 x) (Aw 64 y)
 rw[Cm,A8,A8,Bg (by omega),Bg (by omega)] at this
 exact this
/- words of 32 bits as numbers of 64 -/
theorem nlt(x:BitVec 32):x.toNat<18446744073709551616:=by have:=bd7 x;omega
theorem b1z(x y:BitVec 32):bits .xor .u64 (x.toNat:Int) (y.toNat:Int)=((x ^^^ y).toNat:Int):=by rw[bgb _ _ (nlt x) (nlt y),Cm]
theorem nand(x y:BitVec 32):bits .and .u64 (x.toNat:Int) (y.toNat:Int)=((x &&& y).toNat:Int):=by rw[apr _ _ (nlt x) (nlt y),Bw]
theorem nor(x y:BitVec 32):bits .or .u64 (x.toNat:Int) (y.toNat:Int)=((x ||| y).toNat:Int):=by rw[bs1 _ _ (nlt x) (nlt y),Cq]
theorem bwq(n:Nat)(h:n<18446744073709551616):bits .and .u64 (n:Int) 4294967295=((n%4294967296:Nat):Int):=by
 rw[show (4294967295:Int)=((2^32-1:Nat):Int) from rfl,apr _ _ h (by omega),Bj]
theorem b0i(n:Nat)(h:n<18446744073709551616):bits .and .u64 (n:Int) 18446744073709551615=(n:Int):=by
 rw[show (18446744073709551615:Int)=((2^64-1:Nat):Int) from rfl,apr _ _ h (by omega),Bj,Bg (by omega)]
def rr{w:Nat}(x:BitVec w)(n:Nat):BitVec w:=(x >>> n) ||| (x <<< (w-n))
theorem bfy{w:Nat}(x:BitVec w)(n:Nat):(x >>> n).toNat=x.toNat/2^n:=by rw[BitVec.toNat_ushiftRight,Nat.shiftRight_eq_div_pow]
theorem bev{w:Nat}(x:BitVec w)(n:Nat):(x <<< n).toNat=x.toNat*2^n%2^w:=by rw[BitVec.toNat_shiftLeft,Nat.shiftLeft_eq]
theorem b48(x:BitVec 32)(n:Nat)(h:n≤32):(x.toNat:Int).fdiv ((2:Int)^min n 32)=((x >>> n).toNat:Int):=by rw[fdiv_pow _ _ _ h,bfy]
theorem ci3(x:BitVec 32)(n:Nat)(h:n≤32):Ar.wrap ((x.toNat:Int)*(2:Int)^min n 32)=((x <<< n).toNat:Int):=by
 rw[mul_pow _ _ _ h,b6e,bev];omega
theorem bu0(x:BitVec 64)(n:Nat)(h:n≤64):(x.toNat:Int).fdiv ((2:Int)^min n 64)=((x >>> n).toNat:Int):=by rw[fdiv_pow _ _ _ h,bfy]
theorem b4x(x:BitVec 64)(n:Nat)(h:n≤64):Ab.wrap ((x.toNat:Int)*(2:Int)^min n 64)=((x <<< n).toNat:Int):=by
 rw[mul_pow _ _ _ h,bt6,bev];omega
theorem cr1(x:BitVec 32)(n:Nat)(h:n≤64):(x.toNat:Int).fdiv ((2:Int)^min n 64)=((x >>> n).toNat:Int):=by rw[fdiv_pow _ _ _ h,bfy]
theorem nshl(x:BitVec 32)(n:Nat)(h:n≤32):bits .and .u64 (Ab.wrap ((x.toNat:Int)*(2:Int)^min n 64)) 4294967295=((x <<< n).toNat:Int):=by
 have h1:=bd7 x
 have h2:2^n≤2^32:=bus h
 have h3:x.toNat*2^n≤4294967295*2^32:=Bl (by omega) h2
 rw[mul_pow _ _ _ (by omega),ad3 _ (by omega),bwq _ (by omega),bev]
theorem b9k{w:Nat}(e f g:BitVec w):(e &&& f) ^^^ ((Cv w ^^^ e) &&& g)=g ^^^ (e &&& (f ^^^ g)):=by
 ext i hi
 simp
 cases e[i]<;>cases f[i]<;>cases g[i]<;>rfl
theorem b1w{w:Nat}(a b c:BitVec w):((a &&& b) ^^^ (a &&& c)) ^^^ (b &&& c)=(a &&& b) ||| (c &&& (a ||| b)):=by
 ext i hi
 simp
 cases a[i]<;>cases b[i]<;>cases c[i]<;>rfl
end Q
end

section
/- keccak: 25 words by a function of their number; the program's round and the document's. -/
namespace QK
open Q
open Go Go.Abs
set_option maxRecDepth 100000
def L25(f:Nat→Int):List Int:=(Ac 25).map f
def X(a b:Int):Int:=bits .xor .u64 a b
def Rl(a:Int)(n:Nat):Int:=bits .or .u64 (Ab.wrap (a*2^min n 64)) (a.fdiv (2^min (64-n) 64))
def cP(f:Nat→Int)(j:Nat):Int:=X (X (X (X (f j) (f (j+5))) (f (j+10))) (f (j+15))) (f (j+20))
def thP(f:Nat→Int)(i:Nat):Int:=X (f i) (X (cP f ((i+4)%5)) (Rl (cP f ((i+1)%5)) 1))
def psT:List Nat:=[0,6,12,18,24,3,9,10,16,22,1,7,13,19,20,4,5,11,17,23,2,8,14,15,21]
def rsT:List Nat:=[0,44,43,21,14,28,20,3,45,61,1,6,25,8,18,27,36,10,15,56,62,55,39,41,2]
def piP(f:Nat→Int)(i:Nat):Int:=bif Nat.beq i 0 then f 0 else Rl (f (psT.getD i 0)) (rsT.getD i 0)
def chP(f:Nat→Int)(i:Nat):Int:=X (f i) (bits .andNot .u64 (f (i/5*5+(i+2)%5)) (f (i/5*5+(i+1)%5)))
def s0(x:Int)(f:Nat→Int)(i:Nat):Int:=bif Nat.beq i 0 then x else f i
theorem bnn(n:Nat)(h:n≤1000):∃m,FU=m+n:=⟨FU-n,by have:=b22;omega⟩
theorem cne(f:Nat→Int)(h1:List Int){ρ:Type}(k:Int→List Int→List Int→List Int→Option ρ) :
    P.af5 0 h1 (L25 f) [0,0,0,0,0] k=k 5 h1 (L25 f) [cP f 0,cP f 1,cP f 2,cP f 3,cP f 4]:=by
 obtain ⟨m,hm⟩:=bnn 6 (by omega)
 rw[P.aru]
 unfold P.amc P.zk3 P.zs3 P.zu3 P.aln lp
 rw[hm]
 kernel_rfl
theorem b91(c:Int)(f:Nat→Int)(h1 h2:List Int){ρ:Type}(k:Int→Int→List Int→List Int→List Int→List Int→Option ρ) :
    P.agc c 0 (L25 f) h1 h2 [cP f 0,cP f 1,cP f 2,cP f 3,cP f 4] k=k c 5 (L25 (thP f)) h1 h2 [cP f 0,cP f 1,cP f 2,cP f 3,cP f 4]:=by
 obtain ⟨m,hm⟩:=bnn 6 (by omega)
 rw[P.arq]
 unfold P.alp P.zk5 P.zs5 P.zu5 P.alh
 simp only[P.adu,P.ac6,P.zk4,P.zu4,P.adf,P.x9,P.uf,lp,hm];(try delta P.zs4);(try simp only[P.adu,P.ac6,P.zk4,P.zu4,P.adf,P.x9,P.uf,lp,hm]);(try delta P.zs4);(try simp only[P.adu,P.ac6,P.zk4,P.zu4,P.adf,P.x9,P.uf,lp,hm])
 kernel_rfl
theorem rhoP(c:Int)(f:Nat→Int)(h1 h2 h3:List Int){ρ:Type}(k:Int→Int→List Int→Int→List Int→List Int→List Int→List Int→Option ρ) :
    P.afs c ((L25 f).getD 1 0) P.b5h 0 h3 h2 h1 (L25 f) k=k c (f 1) P.b5h 24 h3 h2 h1 (L25 (piP f)):=by
 obtain ⟨m,hm⟩:=bnn 25 (by omega)
 rw[P.ap1]
 unfold P.akf P.zk6 P.zs6 P.zu6 P.akg
 simp only[P.x9,P.uf,lp,hm]
 kernel_rfl
theorem chiP(c:Int)(f:Nat→Int)(h1 h2 h3:List Int){ρ:Type}(k:Int→Int→List Int→List Int→List Int→List Int→Option ρ) :
    P.afq c 0 (L25 f) h1 h2 h3 k=k c 25 (L25 (chP f)) h1 h2 h3:=by
 obtain ⟨m,hm⟩:=bnn 6 (by omega)
 rw[P.apm]
 unfold P.aki P.zk8 P.zs8 P.zu8 P.akb
 simp only[P.ade,P.aci,P.zk7,P.zu7,P.acj,lp,hm];(try delta P.zs7);(try simp only[P.ade,P.aci,P.zk7,P.zu7,P.acj,lp,hm]);(try delta P.zs7);(try simp only[P.ade,P.aci,P.zk7,P.zu7,P.acj,lp,hm])
 kernel_rfl
theorem set0(x:Int)(f:Nat→Int):(L25 f).set 0 x=L25 (s0 x f):=by kernel_rfl
theorem cq5(f:Nat→Int):(L25 f).getD 0 0=f 0:=by kernel_rfl
def cR(f:Nat→Int)(j:Nat):Int:=X (X (X (X (X 0 (f j)) (f (j+5))) (f (j+10))) (f (j+15))) (f (j+20))
def thR(f:Nat→Int)(i:Nat):Int:=X (X (f i) (cR f ((i+4)%5))) (Rl (cR f ((i+1)%5)) 1)
def chR(f:Nat→Int)(i:Nat):Int:=X (f i) (bits .and .u64 (X (f (i/5*5+(i+1)%5)) 18446744073709551615) (f (i/5*5+(i+2)%5)))
theorem b38(f:Nat→Int){ρ:Type}(k:List Int→Option ρ):P.aff (L25 f) k=k (L25 (thR f)):=by
 obtain ⟨m,hm⟩:=bnn 26 (by omega)
 rw[P.azz]
 unfold P.anc
 simp only[P.aj1,P.akm,P.b5l,P.b8q,P.aku,P.aju,P.akv,P.b5d,P.b52,P.akr,P.aga,P.ac3,lp,hm];(try delta P.b7i P.b5w);(try simp only[P.aj1,P.akm,P.b5l,P.b8q,P.aku,P.aju,P.akv,P.b5d,P.b52,P.akr,P.aga,P.ac3,lp,hm]);(try delta P.b7i P.b5w);(try simp only[P.aj1,P.akm,P.b5l,P.b8q,P.aku,P.aju,P.akv,P.b5d,P.b52,P.akr,P.aga,P.ac3,lp,hm])
 kernel_rfl
theorem cf5(f:Nat→Int){ρ:Type}(k:List Int→Option ρ):P.akw (L25 f) k=k (L25 (piP f)):=by
 obtain ⟨m,hm⟩:=bnn 25 (by omega)
 rw[P.bft]
 unfold P.atb
 simp only[P.anb,P.apv,P.b5c,P.b85,P.aqc,P.aga,P.ac3,lp,hm];(try delta P.b7h);(try simp only[P.anb,P.apv,P.b5c,P.b85,P.aqc,P.aga,P.ac3,lp,hm]);(try delta P.b7h);(try simp only[P.anb,P.apv,P.b5c,P.b85,P.aqc,P.aga,P.ac3,lp,hm])
 kernel_rfl
theorem chiR(v:Int)(f g:Nat→Int)(h1 h2:List Int){ρ:Type}(k:Int→Int→List Int→List Int→List Int→List Int→Option ρ) :
    P.am7 v 0 h2 h1 (L25 g) (L25 f) k=k v 25 h2 h1 (L25 (chR f)) (L25 f):=by
 obtain ⟨m,hm⟩:=bnn 26 (by omega)
 rw[P.bay]
 unfold P.avi P.cdl P.cez P.cf4 P.au7
 simp only[lp,hm]
 kernel_rfl
theorem b68{ρ:Type}(k:List Int→Option ρ):P.aaw k=k P.bu4:=by
 obtain ⟨m,hm⟩:=bnn 169 (by omega)
 rw[P.aqx]
 unfold P.ah3
 simp only[P.af6,P.afw,P.b5j,P.b50,P.afx,lp,hm];(try delta P.b7t);(try simp only[P.af6,P.afw,P.b5j,P.b50,P.afx,lp,hm]);(try delta P.b7t);(try simp only[P.af6,P.afw,P.b5j,P.b50,P.afx,lp,hm])
 kernel_rfl
end QK
end

section
/- keccak: the program's rounds are the document's. -/
namespace QK
open Q
open Go Go.Abs
def U64(x:Int):Prop:=0≤x∧x<18446744073709551616
def Ws(f:Nat→Int):Prop:=∀i,U64 (f i)
theorem U64.bv{x:Int}(h:U64 x):∃b:BitVec 64,x=(b.toNat:Int):=by
 obtain ⟨n,rfl⟩:=Ay h.1
 have h2:=h.2
 refine ⟨Aw 64 n,?_⟩
 rw[A8,Bg (by omega)]
theorem bx3(b:BitVec 64):U64 (b.toNat:Int):=by
 have:=b0b b
 unfold U64
 omega
theorem b4p(a b:BitVec 64):X (a.toNat:Int) (b.toNat:Int)=((a ^^^ b).toNat:Int):=apy a b
theorem X_U{a b:Int}(ha:U64 a)(hb:U64 b):U64 (X a b):=by
 obtain ⟨x,rfl⟩:=ha.bv
 obtain ⟨y,rfl⟩:=hb.bv
 rw[b4p]
 exact bx3 _
theorem b6q{a:Int}(ha:U64 a):X 0 a=a:=by
 obtain ⟨x,rfl⟩:=ha.bv
 have:=b4p 0 x
 simpa using this
theorem b2y{a b c:Int}(ha:U64 a)(hb:U64 b)(hc:U64 c):X (X a b) c=X a (X b c):=by
 obtain ⟨x,rfl⟩:=ha.bv
 obtain ⟨y,rfl⟩:=hb.bv
 obtain ⟨z,rfl⟩:=hc.bv
 rw[b4p,b4p,b4p,b4p,BitVec.xor_assoc]
theorem cl0{a:Int}(ha:U64 a)(n:Nat)(hn:n≤64):U64 (Rl a n):=by
 obtain ⟨x,rfl⟩:=ha.bv
 unfold Rl
 rw[b4x x n hn,bu0 x (64-n) (by omega),cbb]
 exact bx3 _
theorem btu(x y:BitVec 64):bits .andNot .u64 (x.toNat:Int) (y.toNat:Int)=((x &&& ~~~y).toNat:Int):=by
 have e:bits .andNot .u64 (x.toNat:Int) (y.toNat:Int)=Ab.wrap ((Aa 64 (x.toNat:Int) &&& ~~~Aa 64 (y.toNat:Int)).toNat:Int):=rfl
 rw[e,ofI,ofI,ad3 _ (b0b _)]
theorem b3i{a b:Int}(ha:U64 a)(hb:U64 b):bits .and .u64 (X a 18446744073709551615) b=bits .andNot .u64 b a:=by
 obtain ⟨x,rfl⟩:=ha.bv
 obtain ⟨y,rfl⟩:=hb.bv
 have h1:(18446744073709551615:Int)=((Cv 64).toNat:Int):=by decide
 rw[h1,b4p,brt,btu,BitVec.xor_allOnes,BitVec.and_comm]
theorem bzs{a b:Int}(ha:U64 a)(hb:U64 b):U64 (bits .andNot .u64 a b):=by
 obtain ⟨x,rfl⟩:=ha.bv
 obtain ⟨y,rfl⟩:=hb.bv
 rw[btu]
 exact bx3 _
theorem cbj{f:Nat→Int}(h:Ws f)(j:Nat):U64 (cP f j):=X_U (X_U (X_U (X_U (h _) (h _)) (h _)) (h _)) (h _)
theorem b86{f:Nat→Int}(h:Ws f)(j:Nat):cR f j=cP f j:=by unfold cR cP;rw[b6q (h j)]
theorem b7m{f:Nat→Int}(h:Ws f):Ws (thP f):=fun i=>X_U (h i) (X_U (cbj h _) (cl0 (cbj h _) 1 (by omega)))
theorem b6y{f:Nat→Int}(h:Ws f):thR f=thP f:=by
 funext i
 unfold thR thP
 rw[b86 h,b86 h,b2y (h i) (cbj h _) (cl0 (cbj h _) 1 (by omega))]
theorem ckl(i:Nat):rsT.getD i 0≤64:=by
 by_cases hi:i<25
 ·have:∀i,i<25→rsT.getD i 0≤64:=by decide
  exact this i hi
 ·rw[bh7 (by simp[rsT];omega)];omega
theorem b5q{f:Nat→Int}(h:Ws f):Ws (piP f):=fun i=>by
 unfold piP
 cases Nat.beq i 0 with
 | true=>exact h 0
 | false=>exact cl0 (h _) _ (ckl i)
theorem b6f{f:Nat→Int}(h:Ws f):chR f=chP f:=by
 funext i
 unfold chR chP
 rw[b3i (h _) (h _)]
theorem cpa{f:Nat→Int}(h:Ws f):Ws (chP f):=fun i=>X_U (h i) (bzs (h _) (h _))
theorem s0_U{f:Nat→Int}{x:Int}(h:Ws f)(hx:U64 x):Ws (s0 x f):=fun i=>by
 unfold s0
 cases Nat.beq i 0 with
 | true=>exact hx
 | false=>exact h i
def rnd(c:Int)(f:Nat→Int):Nat→Int:=s0 (X (chP (piP (thP f)) 0) c) (chP (piP (thP f)))
theorem cjs{f:Nat→Int}{c:Int}(h:Ws f)(hc:U64 c):Ws (rnd c f):=by
 have h2:=cpa (b5q (b7m h))
 exact s0_U h2 (X_U (h2 0) hc)
def b28(f:Nat→Int):Nat→Nat→Int
 | 0=>f
 | n+1=>rnd (P.bu4.getD n 0) (b28 f n)
theorem b53(n:Nat):U64 (P.bu4.getD n 0):=by
 by_cases hn:n<24
 ·have:∀n,n<24→(0≤P.bu4.getD n 0∧P.bu4.getD n 0<18446744073709551616):=by decide +kernel
  exact this n hn
 ·have hl:P.bu4.length=24:=by decide +kernel
  rw[bh7 (by omega)]
  exact ⟨by decide,by decide⟩
theorem bx2{f:Nat→Int}(h:Ws f):∀n,Ws (b28 f n)
 | 0=>h
 | n+1=>cjs (bx2 h n) (b53 n)
theorem jo(f:Nat→Int){ρ:Type}(k:List Int→Option ρ):P.jo (L25 f) k=k (L25 (b28 f 24)):=by
 rw[P.an7];unfold P.ahk
 rw[P.au1];unfold P.aoh P.zk9 P.zs9 P.zu9
 refine u7 (fun i=>(P.bu4,(i:Int),L25 (b28 f i),[(0:Int),0,0,0,0,0,0,0,0,0,0,0,0,0,0,0,0,0,0,0,0,0,0,0,0])) 24 rfl (fun i hi next hn=>?_) (fun next=>?_) (by omega)
 ·simp only[P.aip,toNat_cast]
  rw[bf (by omega),bf (by omega),bf (by omega),cne,b91,rhoP,chiP,cq5,set0,l7 (by omega) (by omega)]
  exact hn
 ·simp only[P.aip]
  rw[bn (by omega)]
theorem uh{f:Nat→Int}(h:Ws f){ρ:Type}(k:List Int→Option ρ):P.uh (L25 f) k=k (L25 (b28 f 24)):=by
 rw[P.avy];unfold P.ak3
 rw[b68,P.ba6];unfold P.avz P.cey P.cck P.cif
 refine u7 (fun i=>((i:Int),L25 (b28 f i),[(0:Int),0,0,0,0,0,0,0,0,0,0,0,0,0,0,0,0,0,0,0,0,0,0,0,0],P.bu4)) 24 rfl (fun i hi next hn=>?_) (fun next=>?_) (by omega)
 ·have hU:=bx2 h i
  simp only[P.ang]
  rw[bf (by omega),b38,cf5,chiR,bf (by omega),bf (by omega),cq5,set0,toNat_cast,l7 (by omega) (by omega),b6y hU,b6f (b5q (b7m hU))]
  exact hn
 ·simp only[P.ang]
  rw[bn (by omega)]
theorem bxe(f:Nat→Int):(L25 f).length=25:=by simp[L25]
theorem b2a(l:List Int)(h:l.length=25):l=L25 fun i=>l.getD i 0:=by
 apply Az
 ·rw[bxe,h]
 ·intro i h1 h2
  simp only[L25,Au,Ap]
  exact (getD_lt h1).symm
end QK
end

section
/- bits: Unpack, as the document has it. -/
namespace Q
open Go Go.Abs
theorem td8(p:Nat):(p:Int).tdiv 8=((p/8:Nat):Int):=by rw[Bo (by omega)];omega
theorem tm8(p:Nat):(p:Int).tmod 8=((p%8:Nat):Int):=by rw[Bp (by omega)];omega
theorem wmul(i w:Nat)(h:w*i≤9223372036854775807):Ad.wrap ((i:Int)*(w:Int))=((w*i:Nat):Int):=by
 rw[←Int.natCast_mul,Dg,l7 (by omega) (by omega)]
theorem b51(x s:Nat)(hx:x<256)(hs:s≤8):bits .and .u8 ((x:Int).fdiv ((2:Int)^min s 8)) 1=((x/2^s%2:Nat):Int):=by
 have:=Nat.div_le_self x (2^s)
 rw[fdiv_pow x s 8 hs,show (1:Int)=((1:Nat):Int) from rfl,b61 _ _ (by omega) (by omega),Nat.and_one_is_mod]
theorem b2s(v x:Nat)(hv:v<16777216)(hx:x<2):Ar.wrap (Ar.wrap ((v:Int)*2)+Ar.wrap (x:Int))=((x+2*v:Nat):Int):=by
 rw[bv9 x (by omega),show (v:Int)*2=((v*2:Nat):Int) by omega,bv9 _ (by omega),←Ah,bv9 _ (by omega)];omega
theorem b8j(V h j:Nat):V/2^h%2+2*(V/2^(h+1)%2^j)=V/2^h%2^(j+1):=by
 have:=bzr V h 1 j
 rw[Dc j 1];exact this
end Q
end

section
/- bits: Digits. -/
namespace Q
open Go Go.Abs
def dg(w L N:Nat)(i:Nat):Int:=((N/2^(8*L-w*(i+1))%2^w:Nat):Int)
def um(b:List Int)(w c:Int):List Int:=if Such b.length w c then (Ac c.toNat).map (dg w.toNat b.length (T 8 b.reverse)) else []
theorem bzp(b:List Int)(t:Nat)(h:t≤b.length):T 8 (b.take t).reverse=T 8 b.reverse/2^(8*(b.length-t)):=by
 rw[List.reverse_take,bkr 8 _ _ (by simp)]
theorem bmc(b:List Int)(t:Nat)(h:t<b.length):T 8 (b.take (t+1)).reverse=(b.getD t 0).toNat%2^8+256*T 8 (b.take t).reverse:=by
 rw[←asv b 0 t h,List.reverse_append,List.reverse_singleton,Cw,T]
theorem b0z(b:List Int)(q:Nat)(h:q<b.length):(b.getD q 0).toNat%2^8=T 8 b.reverse/2^(8*(b.length-1-q))%2^8:=by
 rw[b7w]
 congr 2
 rw[getD_lt h,getD_lt (by simp;omega),Cz]
 congr 1;omega
theorem jr(b:List Int)(w c:Int)(hb:In 256 b)(hn:b.length≤1000000){ρ:Type}(k:List Int→Option ρ):P.jr b w c k=k (um b w c):=by
 rw[P.avm]
 unfold P.al1
 rw[ad4 b w c hn,jv]
 unfold um
 by_cases hs:Such b.length w c
 rotate_left
 ·rw[decide_eq_false hs,w9,if_neg hs]
 rw[decide_eq_true hs,oq,if_pos hs]
 obtain ⟨h1,h2,h3,h4⟩:=hs
 obtain ⟨w,rfl⟩:=Ay (show 0≤w by omega)
 obtain ⟨c,rfl⟩:=Ay h3
 have h4:c*w≤b.length*8:=by exact_mod_cast h4
 have hc:c≤c*w:=Co c (by omega)
 simp only[toNat_cast,Bn]
 simp (disch:=omega) only[bf,bn,jd,dh,eu,gq,jv,oq,w9,l7]
 rw[P.bbe]
 unfold P.avj P.cau P.ceo P.cff
 refine u7 (fun i=>(b.drop (acg (w*i)),(w:Int),((T 8 (b.take (acg (w*i))).reverse%2^64:Nat):Int),((8*acg (w*i)-w*i:Nat):Int),(c:Int),(i:Int),((Ac i).map (dg w b.length (T 8 b.reverse)))++Af (c-i) 0)) c (by simp[acg,T,bsw]) (fun i hi next hn'=>?_) (fun next=>?_) (by omega)
 ·have hwi:w*(i+1)=w*i+w:=Cb w i
  have hwc:w*(i+1)≤b.length*8:=Nat.le_trans (Bl (Cg w) hi) (by rw[Dg];exact h4)
  have c1:=bs8 (w*i)
  have c2:=bsu (w*i)
  have c3:=bs8 (w*(i+1))
  have c4:=bsu (w*(i+1))
  have c5:acg (w*i)≤acg (w*(i+1)):=by unfold acg;omega
  simp only[P.am5]
  rw[bf (by omega),P.ba7]
  unfold P.av1 P.cem P.ced P.cfx
  refine u7 (fun j=>(b.drop (acg (w*i)+j),(w:Int),((T 8 (b.take (acg (w*i)+j)).reverse%2^64:Nat):Int),((8*(acg (w*i)+j)-w*i:Nat):Int),(i:Int),(c:Int),(i:Int),((Ac i).map (dg w b.length (T 8 b.reverse)))++Af (c-i) 0)) (acg (w*(i+1))-acg (w*i)) rfl (fun j hj next2 hn2=>?_) (fun next2=>?_) (by omega)
  ·have ht:acg (w*i)+j<b.length:=by omega
   obtain ⟨x,hx,hx2,hx3⟩:=byte_at hb (acg (w*i)+j)
   have est:=bmc b (acg (w*i)+j) ht
   rw[←hx3] at est
   simp only[P.am9,List.length_drop,toNat_cast]
   rw[List.take_of_length_le (l:=b.drop (acg (w*i)+j)) (by simp),List.drop_drop]
   have e0:(b.drop (acg (w*i)+j)).getD 0 0=(x:Int):=by
    rw[←hx,aft b 0 _ ht];rfl
   have e1:Ab.wrap (((T 8 (b.take (acg (w*i)+j)).reverse%2^64:Nat):Int)*2^8)=((T 8 (b.take (acg (w*i)+j)).reverse%2^56*2^8:Nat):Int):=by
    rw[bt6];omega
   rw[e0,e1,ad3 x (by omega),bs1 _ _ (by omega) (by omega),bs3 _ _ _ (by omega)]
   simp (disch:=omega) only[bf,bn,jd,dh,eu,gq,jv,oq,w9,l7]
   rw[C8,show ((8*(acg (w*i)+j)-w*i:Nat):Int)+8=((8*(acg (w*i)+(j+1))-w*i:Nat):Int) by omega,
    show T 8 (b.take (acg (w*i)+j)).reverse%2^56*2^8+x=T 8 (b.take (acg (w*i)+(j+1))).reverse%2^64 by rw[←C8,est];omega]
   exact hn2
  ·have et:acg (w*i)+(acg (w*(i+1))-acg (w*i))=acg (w*(i+1)):=by omega
   simp only[P.am9,toNat_cast]
   rw[et,bn (by omega),show ((8*acg (w*(i+1))-w*i:Nat):Int)-(w:Int)=((8*acg (w*(i+1))-w*(i+1):Nat):Int) by omega,
    l7 (x:=((8*acg (w*(i+1))-w*(i+1):Nat):Int)) (by omega) (by omega)]
   simp only[toNat_cast]
   have hq:T 8 (b.take (acg (w*(i+1)))).reverse%2^64/2^(8*acg (w*(i+1))-w*(i+1))<18446744073709551616:=by
    have:=Nat.div_le_self (T 8 (b.take (acg (w*(i+1)))).reverse%2^64) (2^(8*acg (w*(i+1))-w*(i+1)))
    omega
   rw[fdiv_pow _ _ 64 (by omega),bub _ w hq (by omega),bpa _ _ _ _ (by omega)]
   have hw2:2^w≤2^24:=bus (by omega)
   have hmod:=Cy (T 8 (b.take (acg (w*(i+1)))).reverse/2^(8*acg (w*(i+1))-w*(i+1))) (p2 w)
   rw[bv9 _ (by omega)]
   have ed:((T 8 (b.take (acg (w*(i+1)))).reverse/2^(8*acg (w*(i+1))-w*(i+1))%2^w:Nat):Int)=dg w b.length (T 8 b.reverse) i:=by
    unfold dg
    rw[bzp b _ (by omega),Bu,←Bf]
    congr 4;omega
   rw[ed]
   simp only[Ci,Am,Aj,Bn]
   simp (disch:=omega) only[bf,bn,jd,dh,eu,gq,jv,oq,w9,l7]
   rw[bog _ _ _ hi]
   exact hn'
 ·simp only[P.am5]
  rw[bn (by omega),Bh]
  simp
theorem pq(b:List Int)(w c:Int)(hb:In 256 b)(hn:b.length≤1000000){ρ:Type}(k:List Int→Option ρ):P.pq b w c k=k (um b w c):=by
 rw[P.ax4]
 unfold P.anm
 rw[ahc b w c hn,jv]
 unfold um
 by_cases hs:Such b.length w c
 rotate_left
 ·rw[decide_eq_false hs,w9,if_neg hs]
 rw[decide_eq_true hs,oq,if_pos hs]
 obtain ⟨h1,h2,h3,h4⟩:=hs
 obtain ⟨w,rfl⟩:=Ay (show 0≤w by omega)
 obtain ⟨c,rfl⟩:=Ay h3
 have h4:c*w≤b.length*8:=by exact_mod_cast h4
 have hc:c≤c*w:=Co c (by omega)
 simp only[toNat_cast]
 rw[P.bdp]
 unfold P.azp P.ca6 P.cdz P.clg
 refine u7 (fun i=>(b,(w:Int),(c:Int),(i:Int),(Ac i).map (dg w b.length (T 8 b.reverse)))) c (by simp) (fun i hi next hn'=>?_) (fun next=>?_) (by omega)
 ·have hwi:w*(i+1)=w*i+w:=Cb w i
  have hwc:w*(i+1)≤b.length*8:=Nat.le_trans (Bl (Cg w) hi) (by rw[Dg];exact h4)
  simp only[P.apu]
  rw[bf (by omega),P.bdn]
  unfold P.ays P.cbp P.ccg P.cid
  refine u7 (fun j=>(b,(w:Int),(c:Int),(i:Int),((T 8 b.reverse/2^(8*b.length-(w*i+j))%2^j:Nat):Int),(j:Int),(Ac i).map (dg w b.length (T 8 b.reverse)))) w (by simp[Nat.mod_one]) (fun j hj next2 hn2=>?_) (fun next2=>?_) (by omega)
  ·obtain ⟨x,hx,hx2,hx3⟩:=byte_at hb ((w*i+j)/8)
   simp only[P.ao6]
   rw[wmul i w (by omega),←Ah,l7 (x:=((w*i+j:Nat):Int)) (by omega) (by omega),td8,tm8,l7 (x:=(((w*i+j)/8:Nat):Int)) (by omega) (by omega),
    show (7:Int)-(((w*i+j)%8:Nat):Int)=((7-(w*i+j)%8:Nat):Int) by omega,l7 (x:=((7-(w*i+j)%8:Nat):Int)) (by omega) (by omega)]
   simp only[toNat_cast]
   have hv:=Cy (T 8 b.reverse/2^(8*b.length-(w*i+j))) (p2 j)
   have hv2:2^j≤2^24:=bus (by omega)
   rw[hx,b51 x _ hx2 (by omega),b2s _ _ (by omega) (by omega),hx3,b0z b _ (by omega)]
   have e:=brn (T 8 b.reverse) (8*(b.length-1-(w*i+j)/8)) 8 (7-(w*i+j)%8) 1 (by omega)
   rw[Nat.pow_one,show 8*(b.length-1-(w*i+j)/8)+(7-(w*i+j)%8)=8*b.length-(w*i+(j+1)) by omega] at e
   rw[e,show 8*b.length-(w*i+j)=8*b.length-(w*i+(j+1))+1 by omega,b8j]
   simp (disch:=omega) only[bf,bn,jd,dh,eu,gq,jv,oq,w9,l7]
   exact hn2
  ·simp only[P.ao6,Am,Aj]
   simp (disch:=omega) only[bf,bn,jd,dh,eu,gq,jv,oq,w9,l7]
   have ed:((T 8 b.reverse/2^(8*b.length-(w*i+w))%2^w:Nat):Int)=dg w b.length (T 8 b.reverse) i:=by unfold dg;rw[hwi]
   rw[ed,wo]
   exact hn'
 ·simp only[P.apu]
  rw[bn (by omega)]
end Q
end

section
/- bits: numbers as bytes and back. -/
namespace Q
open Go Go.Abs
theorem bz6(w n m X:Nat)(hm:m≤n)(hX:X<2^(w*m)):bsw w m X++Af (n-m) 0=bsw w n X:=by
 refine Az (by simp;omega) (fun i h1 h2=>?_)
 have hi:i<n:=by simpa using h2
 rw[←getD_lt (d:=0) h2,btx _ _ _ _ hi]
 by_cases him:i<m
 ·rw[List.getElem_append_left (by simpa using him),←getD_lt (d:=0),btx _ _ _ _ him]
 ·rw[List.getElem_append_right (by simp;omega),List.getElem_replicate,Cn]
  ·rfl
  ·exact Nat.lt_of_lt_of_le hX (bus (Bl (Cg _) (by omega)))
theorem aie(N s:Nat)(hN:N<18446744073709551616)(hs:s≤65536){ρ:Type}(k:List Int→Option ρ):P.aie (N:Int) (s:Int) k=k (bsw 8 s N):=by
 rw[P.bkz]
 unfold P.aw8
 have em:(bif decide ((8:Int)<(s:Int)) then (8:Int) else (s:Int))=((min s 8:Nat):Int):=by
  by_cases h:(8:Int)<(s:Int)
  ·rw[decide_eq_true h];simp only[cond_true];omega
  ·rw[decide_eq_false h];simp only[cond_false];omega
 simp only[toNat_cast]
 rw[em]
 simp (disch:=omega) only[bf,bn,jd,dh,eu,gq,jv,oq,w9,l7]
 rw[P.bm7]
 unfold P.bks P.ca1 P.zs12 P.cmb
 refine u7 (fun i=>((N:Int),((min s 8:Nat):Int),(i:Int),bsw 8 i N++Af (s-i) 0)) (min s 8) (by simp[bsw]) (fun i hi next hn'=>?_) (fun next=>?_) (by omega)
 ·simp only[P.bai,Ci,ac0,Bn,toNat_cast]
  rw[show (8:Int)*(i:Int)=((8*i:Nat):Int) by omega,l7 (x:=((8*i:Nat):Int)) (by omega) (by omega)]
  simp only[toNat_cast]
  rw[fdiv_pow N _ 64 (by omega),u8m]
  simp (disch:=omega) only[bf,bn,jd,dh,eu,gq,jv,oq,w9,l7]
  rw[Ao _ _ (by simp),ac0,Bh,show s-i=(s-(i+1))+1 by omega,Bq,A9]
  rw[bm0,Bc,Cw] at hn'
  exact hn'
 ·simp only[P.bai]
  rw[bn (by omega)]
  by_cases h:s≤8
  ·rw[Br h,Bh];simp
  ·rw[Nat.min_eq_right (by omega),bz6 8 s 8 N (by omega) (by omega)]
theorem bve{f:Nat→Int}(n q:Nat)(v:Int):((Ac n).map f).set q v=(Ac n).map (fun j=>if j=q then v else f j):=by
 refine Az (by simp) (fun i h1 h2=>?_)
 simp only[List.getElem_set,Au,Ap]
 by_cases h:q=i
 ·rw[if_pos h,if_pos h.symm]
 ·rw[if_neg h,if_neg (fun e=>h e.symm)]
theorem bsh{f:Nat→Int}(n q:Nat)(h:q<n):((Ac n).map f).getD q 0=f q:=by
 rw[getD_lt (by simpa using h)];simp
theorem bzu(l:List Int):l=(Ac l.length).map (fun j=>l.getD j 0):=by
 refine Az (by simp) (fun i h1 h2=>?_)
 simp only[Au,Ap]
 rw[getD_lt h1]
theorem y7(N s:Nat)(hN:N<18446744073709551616)(hs:s≤65536){ρ:Type}(k:List Int→Option ρ):P.y7 (N:Int) (s:Int) k=k (bsw 8 s N).reverse:=by
 rw[P.bjr]
 unfold P.axt
 rw[aie N s hN hs,P.be9]
 unfold P.bbm P.cbi P.cag P.cf6
 simp only[ac0]
 rw[l7 (by omega) (by omega)]
 have hfin:(bsw 8 s N).reverse=(Ac s).map (fun q=>(bsw 8 s N).getD (s-1-q) 0):=by
  refine Az (by simp) (fun i h1 h2=>?_)
  have hi:i<s:=by simpa using h2
  rw[Cz,Au,Ap,getD_lt (by simp;omega)]
  congr 1;simp
 have h0:bsw 8 s N=(Ac s).map (fun q=>if q<0∨s-0≤q then (bsw 8 s N).getD (s-1-q) 0 else (bsw 8 s N).getD q 0):=by
  have e:=bzu (bsw 8 s N)
  rw[ac0] at e
  refine e.trans (Cc (fun q hq=>?_))
  have:=Cx.1 hq
  rw[if_neg (by omega)]
 generalize bsw 8 s N=l at h0 hfin
 refine u7 (fun i=>((i:Int),(s:Int)-1-(i:Int),(Ac s).map (fun q=>if q<i∨s-i≤q then l.getD (s-1-q) 0 else l.getD q 0))) (s/2) (by rw[←h0];simp) (fun i hi next hn'=>?_) (fun next=>?_) (by omega)
 ·simp only[P.aty,Am,Aj,List.length_set]
  rw[show (s:Int)-1-(i:Int)=((s-1-i:Nat):Int) by omega]
  simp only[toNat_cast]
  rw[bsh _ _ (by omega),bsh _ _ (by omega),if_neg (by omega),if_neg (by omega),bve,bve]
  have e:(Ac s).map (fun q=>if q<i+1∨s-(i+1)≤q then l.getD (s-1-q) 0 else l.getD q 0)=(Ac s).map (fun j=>if j=s-1-i then l.getD i 0 else if j=i then l.getD (s-1-i) 0 else if j<i∨s-i≤j then l.getD (s-1-j) 0 else l.getD j 0):=by
   refine Cc (fun q hq=>?_)
   have:=Cx.1 hq
   by_cases a1:q=s-1-i
   ·subst a1;rw[if_pos (by omega),if_pos rfl];congr 1;omega
   ·rw[if_neg a1]
    by_cases a2:q=i
    ·subst a2;rw[if_pos (by omega),if_pos rfl]
    ·rw[if_neg a2]
     by_cases a3:q<i∨s-i≤q
     ·rw[if_pos (by omega),if_pos a3]
     ·rw[if_neg (by omega),if_neg a3]
  rw[e] at hn'
  simp (disch:=omega) only[bf,bn,jd,dh,eu,gq,jv,oq,w9,l7]
  rw[show ((s-1-i:Nat):Int)-1=(s:Int)-1-((i+1:Nat):Int) by omega]
  exact hn'
 ·simp only[P.aty]
  rw[bn (by omega),hfin]
  congr 1
  refine Cc (fun q hq=>?_)
  have:=Cx.1 hq
  by_cases a3:q<s/2∨s-s/2≤q
  ·rw[if_pos a3]
  ·rw[if_neg a3];congr 1;omega
theorem wz(b:List Int)(hb:In 256 b)(hn:b.length≤1000000){ρ:Type}(k:Int→Option ρ):P.wz b k=k ((T 8 b.reverse%2^64:Nat):Int):=by
 rw[P.bez]
 unfold P.as2
 rw[P.bik]
 unfold P.bgv P.ccn P.cco P.cgb
 refine u7 (fun i=>(((T 8 (b.take i).reverse%2^64:Nat):Int),b,(b.length:Int),(i:Int))) b.length (by simp[T]) (fun i hi next hn'=>?_) (fun next=>?_) (by omega)
 ·obtain ⟨x,hx,hx2,hx3⟩:=byte_at hb i
  have est:=bmc b i hi
  rw[←hx3] at est
  simp only[P.aw6,toNat_cast]
  have e1:Ab.wrap (((T 8 (b.take i).reverse%2^64:Nat):Int)*2^8)=((T 8 (b.take i).reverse%2^56*2^8:Nat):Int):=by
   rw[bt6];omega
  rw[hx,e1,ad3 x (by omega),bs1 _ _ (by omega) (by omega),bs3 _ _ _ (by omega),
   show T 8 (b.take i).reverse%2^56*2^8+x=T 8 (b.take (i+1)).reverse%2^64 by rw[est];omega]
  simp (disch:=omega) only[bf,bn,jd,dh,eu,gq,jv,oq,w9,l7]
  exact hn'
 ·simp only[P.aw6]
  rw[bn (by omega),Bz]
end Q
end

section
/- keccak: what is taken up, what is given out. -/
namespace QK
open Q
open Go Go.Abs
def W25(w:List Int):Prop:=w.length=25∧In 18446744073709551616 w
theorem W25.ws{w:List Int}(h:W25 w):Ws fun i=>w.getD i 0:=fun i=>h.2.getD i (by omega)
theorem cmj{f:Nat→Int}(h:Ws f):W25 (L25 f):=⟨bxe f,fun x hx=>by
 simp only[L25,C9] at hx
 obtain ⟨i,_,rfl⟩:=hx
 exact h i⟩
def perm(w:List Int):List Int:=L25 (b28 (fun i=>w.getD i 0) 24)
theorem bx9{w:List Int}(h:W25 w):W25 (perm w):=cmj (bx2 h.ws 24)
theorem byl{w:List Int}(h:W25 w){ρ:Type}(k:List Int→Option ρ):P.jo w k=k (perm w):=by
 have:=jo (fun i=>w.getD i 0) k
 rw[←b2a w h.1] at this
 exact this
theorem bwz{w:List Int}(h:W25 w){ρ:Type}(k:List Int→Option ρ):P.uh w k=k (perm w):=by
 have:=uh h.ws k
 rw[←b2a w h.1] at this
 exact this
def pt(w:List Int)(a:Nat)(c:Int):List Int:=w.set (a/8) (X (w.getD (a/8) 0) (Ab.wrap (Ab.wrap c*(2:Int)^min (8*(a%8)) 64)))
theorem b69(x:Int):U64 (Ab.wrap x):=by
 rw[bt6]
 exact ⟨Int.emod_nonneg _ (by omega),Int.emod_lt_of_pos _ (by omega)⟩
theorem byu{w:List Int}(h:W25 w)(a:Nat)(c:Int):W25 (pt w a c):=by
 refine ⟨by unfold pt;rw[List.length_set];exact h.1,fun x hx=>?_⟩
 rcases List.mem_or_eq_of_mem_set hx with hx | rfl
 ·exact h.2 x hx
 ·exact X_U (h.2.getD _ (by omega)) (b69 _)
theorem at8(a:Nat)(h:a<1000000):Ad.wrap ((a:Int).tdiv 8)=((a/8:Nat):Int):=by
 rw[Bo (by omega),l7 (by omega) (by omega)]
 omega
theorem am8(a:Nat)(h:a<1000000):Ad.wrap ((8:Int)*(a:Int).tmod 8)=((8*(a%8):Nat):Int):=by
 rw[Bp (by omega),l7 (by omega) (by omega)]
 omega
theorem aa4(w:List Int)(a:Nat)(c:Int)(h:a<200){ρ:Type}(k:List Int→Option ρ):P.aa4 w (a:Int) c k=k (pt w a c):=by
 rw[P.bkj];unfold P.axg
 rw[at8 a (by omega),am8 a (by omega),toNat_cast,toNat_cast]
 simp (disch:=omega) only[bf,bn,jd,dh,eu,gq,jv,oq,w9,l7]
 rfl
def Rt(kd:Int)(r:Nat):Prop:=(kd=4∧r=136)∨(kd=5∧r=72)∨(kd=6∧r=168)∨(kd=7∧r=136)
theorem Rt.le{kd:Int}{r:Nat}(h:Rt kd r):72≤r∧r≤168:=by
 rcases h with ⟨_,rfl⟩ | ⟨_,rfl⟩ | ⟨_,rfl⟩ | ⟨_,rfl⟩<;>omega
theorem bjl{kd:Int}{r:Nat}(h:Rt kd r){ρ:Type}(k:Int→Option ρ):P.oz kd k=k (r:Int):=by
 rw[P.avd];unfold P.al9
 rcases h with ⟨rfl,rfl⟩ | ⟨rfl,rfl⟩ | ⟨rfl,rfl⟩ | ⟨rfl,rfl⟩<;>simp
theorem bsm{kd:Int}{r:Nat}(h:Rt kd r){ρ:Type}(k:Int→Option ρ):P.abn kd k=k (r:Int):=by
 rw[P.bgz];unfold P.auc
 rcases h with ⟨rfl,rfl⟩ | ⟨rfl,rfl⟩ | ⟨rfl,rfl⟩ | ⟨rfl,rfl⟩<;>simp
def ast(r:Nat)(s:List Int×Nat)(c:Int):List Int×Nat:=if s.2+1=r then (perm (pt s.1 s.2 c),0) else (pt s.1 s.2 c,s.2+1)
def az0(r:Nat)(s:List Int×Nat)(l:List Int):List Int×Nat:=l.foldl (ast r) s
def Good(r:Nat)(s:List Int×Nat):Prop:=W25 s.1∧s.2<r
theorem bzi{r:Nat}{s:List Int×Nat}(h:Good r s)(c:Int):Good r (ast r s c):=by
 unfold ast Good at *
 split
 ·exact ⟨bx9 (byu h.1 _ _),by simp only;omega⟩
 ·exact ⟨byu h.1 _ _,by simp only;omega⟩
theorem ajl{r:Nat}:∀(l:List Int) {s:List Int×Nat},Good r s→Good r (az0 r s l)
 | [],s,h=>h
 | c::l,s,h=>ajl l (bzi h c)
theorem bpi(r:Nat)(s:List Int×Nat)(l:List Int)(i:Nat)(hi:i<l.length):az0 r s (l.take (i+1))=ast r (az0 r s (l.take i)) (l.getD i 0):=by
 rw[←asv l 0 i hi]
 unfold az0
 rw[List.foldl_append]
 rfl
theorem b0v(r:Nat)(s:List Int×Nat)(l m:List Int):az0 r s (l++m)=az0 r (az0 r s l) m:=by
 unfold az0;rw[List.foldl_append]
abbrev Z25:List Int:=[0,0,0,0,0,0,0,0,0,0,0,0,0,0,0,0,0,0,0,0,0,0,0,0,0]
theorem b3n:W25 Z25:=⟨rfl,fun x hx=>by
 have:x=0:=by simpa [Z25] using hx
 subst this
 decide⟩
theorem ac1{kd:Int}{r:Nat}(hr:Rt kd r)(w:List Int)(a:Nat)(hg:Good r (w,a))(b:List Int)(hn:b.length<9223372036854775807){ρ:Type}(k:Int→List Int→Int→Bool→Option ρ) :
    P.ac1 kd w (a:Int) false b k=k kd (az0 r (w,a) b).1 ((az0 r (w,a) b).2:Int) false:=by
 have hr2:=hr.le
 rw[P.azt];unfold P.am6
 rw[w9,P.bdr];unfold P.azu P.cec P.cdp P.cjl
 refine u7 (fun i=>(b,(i:Int),kd,(az0 r (w,a) (b.take i)).1,((az0 r (w,a) (b.take i)).2:Int),false,(0:Int),Z25,(0:Int),false)) b.length (by simp[az0]) (fun i hi next hnx=>?_) (fun next=>?_) (by omega)
 ·have hg2:=ajl (b.take i) hg
  rw[bpi r (w,a) b i hi] at hnx
  simp only[P.aqd,toNat_cast]
  generalize az0 r (w,a) (b.take i)=s at hg2 hnx ⊢
  have hlt:=hg2.2
  rw[bf (by omega),bf (by omega),bf (by omega),aa4 _ _ _ (by omega),bsm hr,l7 (x:=(s.2:Int)+1) (by omega) (by omega),l7 (x:=(i:Int)+1) (by omega) (by omega)]
  unfold ast at hnx
  by_cases he:s.2+1=r
  ·rw[if_pos he] at hnx
   rw[eu (by omega),bwz (byu hg2.1 _ _)]
   exact hnx
  ·rw[if_neg he] at hnx
   rw[gq (by omega)]
   exact hnx
 ·simp only[P.aqd]
  rw[bn (by omega),Bz]
def sq0(r:Nat)(s:List Int×Nat):List Int×Nat:=if s.2=r then (perm s.1,0) else s
def sqb(s:List Int×Nat):Int:=Ca.wrap ((s.1.getD (s.2/8) 0).fdiv ((2:Int)^min (8*(s.2%8)) 64))
def sqS(r:Nat)(s:List Int×Nat):Nat→List Int×Nat
 | 0=>s
 | n+1=>((sq0 r (sqS r s n)).1,(sq0 r (sqS r s n)).2+1)
def sqB(r:Nat)(s:List Int×Nat)(n:Nat):Int:=sqb (sq0 r (sqS r s n))
def sqO(r:Nat)(s:List Int×Nat)(m:Nat):List Int:=(Ac m).map (sqB r s)
def Gd(r:Nat)(s:List Int×Nat):Prop:=W25 s.1∧s.2≤r
theorem bm6{r:Nat}(hr:1≤r){s:List Int×Nat}(h:Gd r s):∀n,Gd r (sqS r s n)
 | 0=>h
 | n+1=>by
  have ih:=bm6 hr h n
  show Gd r ((sq0 r (sqS r s n)).1,(sq0 r (sqS r s n)).2+1)
  revert ih
  generalize sqS r s n=t
  intro ih
  have h2:=ih.2
  unfold sq0
  by_cases he:t.2=r
  ·rw[if_pos he];exact ⟨bx9 ih.1,by simp only;omega⟩
  ·rw[if_neg he];exact ⟨ih.1,by simp only;omega⟩
theorem brs(r:Nat)(s:List Int×Nat)(m:Nat):(sqO r s m).length=m:=by simp[sqO]
theorem b7q(r:Nat)(s:List Int×Nat)(m:Nat):In 256 (sqO r s m):=fun x hx=>by
 simp only[sqO,C9] at hx
 obtain ⟨i,_,rfl⟩:=hx
 unfold sqB sqb
 rw[u8m]
 exact ⟨Int.emod_nonneg _ (by omega),Int.emod_lt_of_pos _ (by omega)⟩
theorem by7(r:Nat)(s:List Int×Nat)(i:Nat):sqO r s i++[sqB r s i]=sqO r s (i+1):=wo (sqB r s) i
theorem zd:(0:Nat)/8=0:=rfl
theorem zm:min (8*((0:Nat)%8)) 64=0:=rfl
theorem ciu{kd:Int}{r:Nat}(hr:Rt kd r)(s:List Int×Nat)(hg:Gd r s)(m:Nat)(hm:m≤100000000)(z:Bool){ρ:Type}(k:Int→Int→List Int→Int→List Int→Int→Bool→Int→List Int→Int→Bool→Option ρ) :
    P.aa3 (m:Int) (r:Int) [] kd s.1 (s.2:Int) z 0 Z25 0 false k=k (m:Int) (r:Int) (sqO r s m) kd (sqS r s m).1 ((sqS r s m).2:Int) z 0 Z25 0 false:=by
 have hr2:=hr.le
 rw[P.azw];unfold P.as4 P.cbr P.cdc P.cfp
 refine u7 (fun i=>((m:Int),(r:Int),sqO r s i,kd,(sqS r s i).1,((sqS r s i).2:Int),z,(0:Int),Z25,(0:Int),false)) m (by simp[sqO,sqS]) (fun i hi next hnx=>?_) (fun next=>?_) (by omega)
 ·have hg2:=bm6 (by omega) hg i
  rw[←by7] at hnx
  simp only[P.als]
  unfold sqB at hnx
  simp only[sqS] at hnx
  have hl:=brs r s i
  generalize sqS r s i=t at hg2 hnx ⊢
  generalize sqO r s i=o at hnx hl ⊢
  have hlt:=hg2.2
  rw[bf (by omega)]
  unfold sq0 sqb at hnx
  by_cases he:t.2=r
  ·rw[if_pos he] at hnx
   rw[eu (by omega),bwz hg2.1,bf (by omega),l7 (by omega) (by omega)]
   simp only[zd,zm] at hnx
   exact hnx
  ·rw[if_neg he] at hnx
   rw[gq (by omega),at8 _ (by omega),am8 _ (by omega),toNat_cast,toNat_cast,l7 (x:=(t.2:Int)+1) (by omega) (by omega)]
   simp (disch:=omega) only[bf,bn,jd,dh,eu,gq,jv,oq,w9,l7]
   exact hnx
 ·simp only[P.als,brs]
  rw[bn (by omega)]
theorem cph{kd:Int}{r:Nat}(hr:Rt kd r)(s:List Int×Nat)(hg:Gd r s)(m:Nat)(hm:m≤100000000)(z:Bool){ρ:Type}(k:Int→Int→Int→List Int→Int→Bool→Int→List Int→Int→Bool→List Int→Option ρ) :
    P.afi (m:Int) 0 kd s.1 (s.2:Int) z 0 Z25 0 false (Af m 0) k=k (m:Int) (m:Int) kd (sqS r s m).1 ((sqS r s m).2:Int) z 0 Z25 0 false (sqO r s m):=by
 have hr2:=hr.le
 rw[P.au0];unfold P.an3 P.cdm P.cbz P.cpf
 refine u7 (fun i=>((m:Int),(i:Int),kd,(sqS r s i).1,((sqS r s i).2:Int),z,(0:Int),Z25,(0:Int),false,sqO r s i++Af (m-i) 0)) m (by simp[sqO,sqS]) (fun i hi next hnx=>?_) (fun next=>?_) (by omega)
 ·have hg2:=bm6 (by omega) hg i
  have hO:sqO r s (i+1)++Af (m-(i+1)) 0=(sqO r s i++Af (m-i) 0).set i (sqB r s i):=(bog (sqB r s) i m hi 0).symm
  have hl:(sqO r s i++Af (m-i) 0).length=m:=by simp[sqO];omega
  rw[hO] at hnx
  unfold sqB at hnx
  simp only[sqS] at hnx
  simp only[P.aio,toNat_cast]
  generalize sqO r s i++Af (m-i) 0=o at hl hnx ⊢
  generalize sqS r s i=t at hg2 hnx ⊢
  have hlt:=hg2.2
  rw[bf (by omega),bjl hr]
  unfold sq0 sqb at hnx
  by_cases he:t.2=r
  ·rw[if_pos he] at hnx
   rw[eu (by omega),byl hg2.1,bf (by omega),bf (by omega),l7 (x:=(i:Int)+1) (by omega) (by omega),l7 (x:=(0:Int)+1) (by omega) (by omega)]
   simp only[zd,zm] at hnx
   exact hnx
  ·rw[if_neg he] at hnx
   rw[gq (by omega),at8 _ (by omega),am8 _ (by omega),toNat_cast,toNat_cast,l7 (x:=(t.2:Int)+1) (by omega) (by omega),l7 (x:=(i:Int)+1) (by omega) (by omega)]
   simp (disch:=omega) only[bf,bn,jd,dh,eu,gq,jv,oq,w9,l7]
   exact hnx
 ·simp only[P.aio]
  rw[bn (by omega)]
  simp
end QK
end

section
/- keccak: sums. -/
namespace QK
open Q
open Go Go.Abs
theorem o7{kd:Int}{r:Nat}(hr:Rt kd r)(w:List Int)(a:Nat)(hg:Good r (w,a))(b:List Int)(hn:b.length<9223372036854775807){ρ:Type}(k:Int→List Int→Int→Bool→Option ρ) :
    P.o7 kd w (a:Int) false b k=k kd (az0 r (w,a) b).1 ((az0 r (w,a) b).2:Int) false:=by
 have hr2:=hr.le
 rw[P.arp];unfold P.ah5
 rw[w9,bjl hr,P.awx];unfold P.aqp P.cca P.cd7 P.ck4
 refine u7 (fun i=>(b,(r:Int),(b.length:Int),(i:Int),kd,(az0 r (w,a) (b.take i)).1,((az0 r (w,a) (b.take i)).2:Int),false,(0:Int),Z25,(0:Int),false)) b.length (by simp[az0]) (fun i hi next hnx=>?_) (fun next=>?_) (by omega)
 ·have hg2:=ajl (b.take i) hg
  rw[bpi r (w,a) b i hi] at hnx
  simp only[P.ajs,toNat_cast]
  generalize az0 r (w,a) (b.take i)=s at hg2 hnx ⊢
  have hlt:=hg2.2
  rw[at8 _ (by omega),am8 _ (by omega),toNat_cast,toNat_cast,l7 (x:=(s.2:Int)+1) (by omega) (by omega),l7 (x:=(i:Int)+1) (by omega) (by omega)]
  unfold ast at hnx
  by_cases he:s.2+1=r
  ·rw[if_pos he] at hnx
   simp (disch:=omega) only[bf,bn,jd,dh,eu,gq,jv,oq,w9,l7]
   exact (byl (byu hg2.1 _ _) _).trans hnx
  ·rw[if_neg he] at hnx
   simp (disch:=omega) only[bf,bn,jd,dh,eu,gq,jv,oq,w9,l7]
   exact hnx
 ·simp only[P.ajs]
  rw[bn (by omega),Bz]
def mark(kd:Int):Int:=if kd=4∨kd=5 then 6 else 31
def trn(kd:Int)(r:Nat)(s:List Int×Nat):List Int:=perm (pt (pt s.1 s.2 (mark kd)) (r-1) 128)
theorem b5y{kd:Int}{r:Nat}{s:List Int×Nat}(h:W25 s.1):W25 (trn kd r s):=bx9 (byu (byu h _ _) _ _)
theorem za{kd:Int}{r:Nat}(hr:Rt kd r)(s:List Int×Nat)(hg:Good r s)(z:Bool){ρ:Type}(k:Int→List Int→Int→Bool→Option ρ) :
    P.za kd s.1 (s.2:Int) z k=k kd (trn kd r s) 0 true:=by
 have hr2:=hr.le
 have h2:=hg.2
 have er:(r:Int)-1=((r-1:Nat):Int):=by omega
 rw[P.aq7];unfold P.ah9
 rw[at8 _ (by omega),am8 _ (by omega),toNat_cast,toNat_cast]
 rw[bjl hr,bjl hr,l7 (x:=(r:Int)-1) (by omega) (by omega),er,at8 _ (by omega),am8 _ (by omega),toNat_cast,toNat_cast]
 have fin:∀c:Int,(P.jo (pt (pt s.1 s.2 c) (r-1) 128) fun q=>k kd q 0 true)=k kd (perm (pt (pt s.1 s.2 c) (r-1) 128)) 0 true:=fun c=>byl (byu (byu hg.1 _ _) _ _) _
 unfold trn mark
 by_cases h4:kd=4
 ·rw[if_pos (.inl h4)]
  simp (disch:=omega) only[bf,bn,jd,dh,eu,gq,jv,oq,w9,l7]
  exact fin 6
 ·by_cases h5:kd=5
  ·rw[if_pos (.inr h5)]
   simp (disch:=omega) only[bf,bn,jd,dh,eu,gq,jv,oq,w9,l7]
   exact fin 6
  ·rw[if_neg (by omega)]
   simp (disch:=omega) only[bf,bn,jd,dh,eu,gq,jv,oq,w9,l7]
   exact fin 31
theorem abf{kd:Int}{r:Nat}(hr:Rt kd r)(s:List Int×Nat)(hg:Good r s)(m:Nat)(hm:m≤100000000){ρ:Type}(k:Int→List Int→Int→Bool→List Int→Option ρ) :
    P.abf kd s.1 (s.2:Int) false (m:Int) k=k kd (sqS r (trn kd r s,0) m).1 ((sqS r (trn kd r s,0) m).2:Int) true (sqO r (trn kd r s,0) m):=by
 have hr2:=hr.le
 have h2:=hg.2
 have er:(r:Int)-1=((r-1:Nat):Int):=by omega
 have fin:∀c:Int,mark kd=c→(P.aa4 s.1 (s.2:Int) c fun q1=>P.aa4 q1 (Ad.wrap ((r:Int)-1)) 128 fun q2=>P.uh q2 fun q3=>P.aa3 (m:Int) (r:Int) [] kd q3 0 true 0 Z25 0 false
     fun (q4 q5:Int) (q6:List Int) (q7:Int) (q8:List Int) (q9:Int) (q10:Bool) (q11:Int) (q12:List Int) (q13:Int) (q14:Bool)=>k q7 q8 q9 q10 q6) =
     k kd (sqS r (trn kd r s,0) m).1 ((sqS r (trn kd r s,0) m).2:Int) true (sqO r (trn kd r s,0) m):=by
  intro c hc
  rw[l7 (x:=(r:Int)-1) (by omega) (by omega),er,aa4 _ _ _ (by omega),aa4 _ _ _ (by omega),bwz (byu (byu hg.1 _ _) _ _)]
  have:=ciu hr (trn kd r s,0) ⟨b5y hg.1,by simp only;omega⟩ m hm true (fun (q4 q5:Int) (q6:List Int) (q7:Int) (q8:List Int) (q9:Int) (q10:Bool) (q11:Int) (q12:List Int) (q13:Int) (q14:Bool)=>k q7 q8 q9 q10 q6)
  unfold trn at this ⊢
  rw[hc] at this ⊢
  exact this
 rw[P.avw];unfold P.aly
 rw[bn (by omega),bsm hr,jv,w9]
 by_cases h4:kd=4
 ·rw[eu h4];exact fin 6 (by unfold mark;rw[if_pos (.inl h4)])
 ·rw[gq h4]
  by_cases h5:kd=5
  ·rw[eu h5];exact fin 6 (by unfold mark;rw[if_pos (.inr h5)])
  ·rw[gq h5];exact fin 31 (by unfold mark;rw[if_neg (by omega)])
theorem qz{kd:Int}{r:Nat}(hr:Rt kd r)(s:List Int×Nat)(hg:Good r s)(m:Nat)(hm:m≤100000000){ρ:Type}(k:Int→List Int→Int→Bool→List Int→Option ρ) :
    P.qz kd s.1 (s.2:Int) false (m:Int) k=k kd (sqS r (trn kd r s,0) m).1 ((sqS r (trn kd r s,0) m).2:Int) true (sqO r (trn kd r s,0) m):=by
 have hr2:=hr.le
 rw[P.an8];unfold P.agm
 rw[bn (by omega),jv,w9,za hr s hg,bf (by omega),bf (by omega),bf (by omega),toNat_cast,Bn]
 exact cph hr (trn kd r s,0) ⟨b5y hg.1,by simp only;omega⟩ m hm true _
def rOf(kd:Int):Nat:=if kd=4 then 136 else if kd=5 then 72 else if kd=6 then 168 else 136
theorem bvz{kd:Int}(h:kd=4∨kd=5∨kd=6∨kd=7):Rt kd (rOf kd):=by
 unfold Rt rOf
 rcases h with rfl | rfl | rfl | rfl<;>simp
def bxs(kd:Int)(b:List Int)(m:Nat):List Int:=sqO (rOf kd) (trn kd (rOf kd) (az0 (rOf kd) (Z25,0) b),0) m
theorem bd3(kd:Int)(b:List Int)(m:Nat):(bxs kd b m).length=m:=brs _ _ _
theorem bmf(kd:Int)(b:List Int)(m:Nat):In 256 (bxs kd b m):=b7q _ _ _
theorem zw{kd:Int}(h:kd=4∨kd=5∨kd=6∨kd=7)(b:List Int)(hn:b.length<9223372036854775807)(m:Nat)(hm:m≤16777216){ρ:Type}(k:List Int→Int→Option ρ):P.zw kd b (m:Int) k=k (bxs kd b m) 0:=by
 have hr:=bvz h
 have hr2:=hr.le
 have hg:Good (rOf kd) (Z25,0):=⟨b3n,by simp only;omega⟩
 rw[P.ay4];unfold P.ano
 rw[P.ap8];unfold P.ai1
 rw[bjl hr,gq (by omega)]
 dsimp only
 rw[dh rfl,bn (by omega),bn (by omega)]
 exact (o7 hr Z25 0 hg b hn _).trans (qz hr _ (ajl b hg) m (by omega) _)
theorem abk{kd:Int}(h:kd=4∨kd=5∨kd=6∨kd=7)(b:List Int)(hn:b.length<9223372036854775807)(m:Nat)(hm:m≤16777216){ρ:Type}(k:List Int→Int→Option ρ):P.abk kd b (m:Int) k=k (bxs kd b m) 0:=by
 have hr:=bvz h
 have hr2:=hr.le
 have hg:Good (rOf kd) (Z25,0):=⟨b3n,by simp only;omega⟩
 rw[P.bk7];unfold P.awc
 rw[P.bju];unfold P.axj
 rw[bsm hr,gq (by omega)]
 dsimp only
 rw[dh rfl,bn (by omega),bn (by omega)]
 exact (ac1 hr Z25 0 hg b hn _).trans (abf hr _ (ajl b hg) m (by omega) _)
end QK
end

section
/- SHA-2: what a block does. -/
namespace Q
open Go Go.Abs
structure Par (w:Nat) where
 rounds:Nat
 a:Nat×Nat×Nat
 b:Nat×Nat×Nat
 c:Nat×Nat×Nat
 d:Nat×Nat×Nat
 K:Nat→BitVec w
section
variable {w:Nat}
def hi(t:Nat×Nat×Nat)(x:BitVec w):BitVec w:=rr x t.1 ^^^ rr x t.2.1 ^^^ rr x t.2.2
def lo(t:Nat×Nat×Nat)(x:BitVec w):BitVec w:=rr x t.1 ^^^ rr x t.2.1 ^^^ (x >>> t.2.2)
def cv(l:List (BitVec w)):List Int:=l.map fun x=>(x.toNat:Int)
@[simp] theorem aal (l:List (BitVec w)):(cv l).length=l.length:=by simp[cv]
theorem ajt(l:List (BitVec w))(i:Nat):(cv l).getD i 0=((l.getD i 0).toNat:Int):=by
 unfold cv
 rw[Ae,Ae,List.getElem?_map]
 cases l[i]?<;>simp
theorem bjk(l:List (BitVec w))(i:Nat)(x:BitVec w):(cv l).set i (x.toNat:Int)=cv (l.set i x):=by simp[cv,List.map_set]
theorem ajf(l r:List (BitVec w)):cv l++cv r=cv (l++r):=by simp[cv]
def b5k(p:Par w)(t:Nat)(wt:BitVec w)(v:List (BitVec w)):BitVec w :=
 v.getD 7 0+hi p.d (v.getD 4 0)+(v.getD 6 0 ^^^ (v.getD 4 0 &&& (v.getD 5 0 ^^^ v.getD 6 0)))+p.K t+wt
def cgu(p:Par w)(v:List (BitVec w)):BitVec w:=hi p.c (v.getD 0 0)+((v.getD 0 0 &&& v.getD 1 0) ||| (v.getD 2 0 &&& (v.getD 0 0 ||| v.getD 1 0)))
def rnd(p:Par w)(t:Nat)(wt:BitVec w)(v:List (BitVec w)):List (BitVec w) :=
 [b5k p t wt v+cgu p v,v.getD 0 0,v.getD 1 0,v.getD 2 0,v.getD 3 0+b5k p t wt v,v.getD 4 0,v.getD 5 0,v.getD 6 0]
def b9q(p:Par w)(l:List (BitVec w)):BitVec w:=lo p.b (l.getD (l.length-2) 0)+l.getD (l.length-7) 0+lo p.a (l.getD (l.length-15) 0)+l.getD (l.length-16) 0
def sched(p:Par w)(l:List (BitVec w)):Nat→List (BitVec w)
 | 0=>l
 | n+1=>sched p l n++[b9q p (sched p l n)]
theorem bh5(p:Par w)(l:List (BitVec w)):∀n,(sched p l n).length=l.length+n
 | 0=>rfl
 | n+1=>by simp only[sched,Ci,bh5 p l n,List.length_singleton];omega
theorem bna(p:Par w)(l:List (BitVec w))(n i:Nat)(hi:i<l.length+n):∀m,(sched p l (n+m)).getD i 0=(sched p l n).getD i 0
 | 0=>rfl
 | m+1=>by
  rw[←C8]
  simp only[sched]
  rw[Ae,List.getElem?_append_left (by rw[bh5];omega),←Ae,bna p l n i hi m]
def W(p:Par w)(l:List (BitVec w))(t:Nat):BitVec w:=(sched p l t).getD t 0
theorem b2c(p:Par w)(l:List (BitVec w))(hl:0<l.length)(n t:Nat)(h:t<l.length+n):(sched p l n).getD t 0=W p l t:=by
 unfold W
 by_cases hn:n≤t
 ·have:=bna p l n t h (t-n)
  rw[show n+(t-n)=t by omega] at this
  exact this.symm
 ·have:=bna p l t t (by omega) (n-t)
  rw[show t+(n-t)=n by omega] at this
  exact this
theorem bt0(p:Par w)(l:List (BitVec w))(hl:l.length=16)(t:Nat):W p l (t+16)=W p l t+lo p.a (W p l (t+1))+W p l (t+9)+lo p.b (W p l (t+14)):=by
 have e:=b2c p l (by omega) (t+1) (t+16) (by omega)
 rw[←e]
 simp only[sched]
 have hlen:=bh5 p l t
 rw[Ae,Bb (by rw[hlen];omega),hlen,show t+16-(l.length+t)=0 by omega]
 simp only[List.getElem?_cons_zero,Option.getD_some]
 unfold b9q
 rw[hlen,show l.length+t-2=t+14 by omega,show l.length+t-7=t+9 by omega,show l.length+t-15=t+1 by omega,show l.length+t-16=t by omega,
  b2c p l (by omega) t _ (by omega),b2c p l (by omega) t _ (by omega),b2c p l (by omega) t _ (by omega),b2c p l (by omega) t _ (by omega)]
 ac_rfl
def runs(p:Par w)(l:List (BitVec w))(v:List (BitVec w)):Nat→List (BitVec w)
 | 0=>v
 | t+1=>rnd p t (W p l t) (runs p l v t)
theorem aur(p:Par w)(l v:List (BitVec w))(hv:v.length=8):∀t,(runs p l v t).length=8
 | 0=>hv
 | t+1=>rfl
def b2j(p:Par w)(l v:List (BitVec w)):List (BitVec w):=(Ac 8).map fun i=>(runs p l v p.rounds).getD i 0+v.getD i 0
def o9(w:Nat)(b:List Int)(n:Nat):List (BitVec w):=(Ac n).map fun t=>Aw w (T 8 ((b.take ((t+1)*(w/8))).drop (t*(w/8))).reverse)
def be2(p:Par w)(v:List (BitVec w))(b:List Int):List (BitVec w):=b2j p (o9 w b 16) v
theorem buv(p:Par w)(v:List (BitVec w))(b:List Int):(be2 p v b).length=8:=by simp[be2,b2j]
theorem bg6(b:List Int)(n:Nat):o9 w b (n+1)=o9 w b n++[Aw w (T 8 ((b.take ((n+1)*(w/8))).drop (n*(w/8))).reverse)]:=by simp[o9,Av]
theorem xu(b:List Int)(n:Nat):(o9 w b n).length=n:=by simp[o9]
def win(p:Par w)(l:List (BitVec w))(t:Nat):List (BitVec w):=(Ac 16).map fun j=>W p l (t+(j+16-t%16)%16)
theorem bda(p:Par w)(l:List (BitVec w))(t i:Nat)(hi:i<16):(win p l t).getD ((t+i)%16) 0=W p l (t+i):=by
 unfold win
 rw[getD_lt (by simp;omega)]
 simp only[Au,Ap]
 congr 1
 omega
theorem bs0(p:Par w)(l:List (BitVec w))(t:Nat):(win p l t).set (t%16) (W p l (t+16))=win p l (t+1):=by
 unfold win
 refine Az (by simp) (fun j h1 h2=>?_)
 simp only[Am,Aj] at h2
 rw[List.getElem_set]
 by_cases h:t%16=j
 ·rw[if_pos h]
  simp only[Au,Ap]
  congr 1
  omega
 ·rw[if_neg h]
  simp only[Au,Ap]
  congr 1
  omega
theorem win_zero(p:Par w)(b:List Int):win p (o9 w b 16) 0=o9 w b 16:=by
 unfold win
 refine Az (by simp[o9]) (fun j h1 h2=>?_)
 rw[xu] at h2
 simp only[Au,Ap]
 rw[show 0+(j+16-0%16)%16=j by omega,←b2c p _ (by rw[xu];omega) 0 j (by rw[xu];omega)]
 exact getD_lt (by rw[show sched p (o9 w b 16) 0=o9 w b 16 from rfl,xu];exact h2)
end
theorem bqb:∀x,x∈P.roots256→0≤x∧x<4294967296:=by decide +kernel
theorem bri:∀x,x∈P.roots512→0≤x∧x<18446744073709551616:=by decide +kernel
def p32:Par 32:=⟨64,(7,18,3),(17,19,10),(2,13,22),(6,11,25),fun t=>Aa 32 (P.roots256.getD t 0)⟩
def p64:Par 64:=⟨80,(1,8,7),(19,61,6),(28,34,39),(14,18,41),fun t=>Aa 64 (P.roots512.getD t 0)⟩
theorem K32(t:Nat):P.roots256.getD t 0=((p32.K t).toNat:Int):=by
 have:=In.getD (m:=4294967296) bqb t (by omega)
 simp only[p32,Ai]
 omega
theorem K64(t:Nat):P.roots512.getD t 0=((p64.K t).toNat:Int):=by
 have:=In.getD (m:=18446744073709551616) bri t (by omega)
 simp only[p64,Ai]
 omega
end Q
end

section
/- SHA-2: the program's engine of 32 bits. -/
namespace Q
open Go Go.Abs
theorem an1(rd:Int)(t0 t1 t2 t3:List Int)(x:BitVec 32)(m:Int)(n:Nat)(hm:m=(n:Int))(hn:n≤32){ρ:Type}(k:Int→Option ρ) :
    P.dx 32 rd t0 t1 t2 t3 (x.toNat:Int) m k=k ((rr x n).toNat:Int):=by
 subst hm
 rw[P.ad2]
 unfold P.aas
 rw[bn (by omega),l7 (by omega) (by omega),bn (by omega),show (32:Int)-(n:Int)=((32-n:Nat):Int) by omega]
 simp only[toNat_cast]
 rw[b48 _ _ hn,ci3 _ _ (by omega),cq0]
 rfl
theorem byk(rd:Int)(x:BitVec 32){ρ:Type}(k:Int→Option ρ):P.l8 32 rd [7,18,3] [17,19,10] [2,13,22] [6,11,25] (x.toNat:Int) 3 k=k ((hi p32.d x).toNat:Int):=by
 rw[P.ace]
 unfold P.zx
 simp only[Ak,Al]
 rw[bn (by decide),bn (by decide),bn (by decide),bf (by decide),an1 _ _ _ _ _ _ _ 6 (by rfl) (by omega),an1 _ _ _ _ _ _ _ 11 (by rfl) (by omega),an1 _ _ _ _ _ _ _ 25 (by rfl) (by omega),bm4,bm4]
 rfl
theorem bx8(rd:Int)(x:BitVec 32){ρ:Type}(k:Int→Option ρ):P.l8 32 rd [7,18,3] [17,19,10] [2,13,22] [6,11,25] (x.toNat:Int) 2 k=k ((hi p32.c x).toNat:Int):=by
 rw[P.ace]
 unfold P.zx
 simp only[Ak,Al]
 rw[bn (by decide),bn (by decide),bf (by decide),an1 _ _ _ _ _ _ _ 2 (by rfl) (by omega),an1 _ _ _ _ _ _ _ 13 (by rfl) (by omega),an1 _ _ _ _ _ _ _ 22 (by rfl) (by omega),bm4,bm4]
 rfl
theorem b08(rd:Int)(x:BitVec 32){ρ:Type}(k:Int→Option ρ):P.oh 32 rd [7,18,3] [17,19,10] [2,13,22] [6,11,25] (x.toNat:Int) 0 k=k ((lo p32.a x).toNat:Int):=by
 rw[P.acu]
 unfold P.aai
 simp only[Ak,Al]
 rw[bf (by decide),an1 _ _ _ _ _ _ _ 7 (by rfl) (by omega),an1 _ _ _ _ _ _ _ 18 (by rfl) (by omega),bn (by decide),bm4,show (3:Int).toNat=3 from rfl,b48 _ _ (by omega),bm4]
 rfl
theorem bz0(rd:Int)(x:BitVec 32){ρ:Type}(k:Int→Option ρ):P.oh 32 rd [7,18,3] [17,19,10] [2,13,22] [6,11,25] (x.toNat:Int) 1 k=k ((lo p32.b x).toNat:Int):=by
 rw[P.acu]
 unfold P.aai
 simp only[Ak,Al]
 rw[bn (by decide),bf (by decide),an1 _ _ _ _ _ _ _ 17 (by rfl) (by omega),an1 _ _ _ _ _ _ _ 19 (by rfl) (by omega),bn (by decide),bm4,show (10:Int).toNat=10 from rfl,b48 _ _ (by omega),bm4]
 rfl
theorem by6(t:Nat)(h:t<64){ρ:Type}(k:Int→Option ρ):P.uj (t:Int) k=k ((p32.K t).toNat:Int):=by
 rw[P.avv]
 unfold P.al5
 rw[bf (by omega),bf (by omega),toNat_cast,K32]
theorem v8{w:Nat}(v:List (BitVec w))(hv:v.length=8):v=[v.getD 0 0,v.getD 1 0,v.getD 2 0,v.getD 3 0,v.getD 4 0,v.getD 5 0,v.getD 6 0,v.getD 7 0]:=by
 match v,hv with
 | [a,b,c,d,e,f,g,h],_=>rfl
theorem crr(t:Nat):((t:Nat):Int).tmod 16=((t%16:Nat):Int):=by
 rw[Bp (by omega)];rfl
theorem b6c(b:List Int)(hb:In 256 b)(hl:b.length=16*4)(rd:Int)(t0 t1 t2 t3 h1 h2:List Int){ρ:Type}(k0:List Int→Int→Int→Int→Int→List Int→List Int→List Int→List Int→List Int→List Int→List Int→Option ρ) :
    P.abv b 4 0 32 rd t0 t1 t2 t3 h1 h2 (Af 16 0) k0=k0 b 4 16 32 rd t0 t1 t2 t3 h1 h2 (cv (o9 32 b 16)):=by
 rw[P.aj3]
 unfold P.afl P.ccq P.cdq P.chg
 refine u7 (fun i=>(b,4,(i:Int),32,rd,t0,t1,t2,t3,h1,h2,cv (o9 32 b i)++Af (16-i) 0)) 16 (by simp[o9,cv]) (fun i hi next hn'=>?_) (fun next=>?_) (by omega)
 ·simp only[P.abt,toNat_cast]
  have e1:Ad.wrap ((i:Int)*4)=((i*4:Nat):Int):=by rw[l7 (by omega) (by omega)];omega
  have e2:Ad.wrap (Ad.wrap ((i:Int)+1)*4)=(((i+1)*4:Nat):Int):=by rw[l7 (x:=(i:Int)+1) (by omega) (by omega),l7 (by omega) (by omega)];omega
  rw[e1,e2]
  simp only[toNat_cast]
  have hlen:((b.take ((i+1)*4)).drop (i*4)).length=4:=by simp;omega
  rw[bf (by omega),bf (by omega),bf (by omega),bf (by omega),wz _ ((hb.take _).drop _) (by omega),bf (by omega),bf (by omega)]
  have e3:Ar.wrap ((T 8 ((b.take ((i+1)*4)).drop (i*4)).reverse%2^64:Nat):Int)=(((Aw 32 (T 8 ((b.take ((i+1)*4)).drop (i*4)).reverse)).toNat:Nat):Int):=by
   rw[b6e,A8];omega
  have e4:Ad.wrap ((i:Int)+1)=((i+1:Nat):Int):=by rw[l7 (by omega) (by omega)];omega
  rw[e3,e4]
  have e5:(cv (o9 32 b i)++Af (16-i) (0:Int)).set i (((Aw 32 (T 8 ((b.take ((i+1)*4)).drop (i*4)).reverse)).toNat:Nat):Int)=cv (o9 32 b (i+1))++Af (16-(i+1)) 0:=by
   rw[Ao _ _ (by simp[xu]),aal,xu,Bh,show 16-i=(16-(i+1))+1 by omega,Bq,A9,bg6,←ajf,Bc]
   rfl
  rw[e5]
  exact hn'
 ·simp only[P.abt]
  rw[bn (by omega)]
  simp
theorem b24(l v:List (BitVec 32))(hv:v.length=8)(h2 h1:List Int){ρ:Type}(k0:Int→Int→List Int→List Int→List Int→Int→Int→List Int→List Int→List Int→List Int→List Int→Option ρ)(hl:l.length=16) :
    P.ze 64 0 (cv (win p32 l 0)) h2 h1 32 64 [7,18,3] [17,19,10] [2,13,22] [6,11,25] (cv v) k0 =
     k0 64 64 (cv (win p32 l 64)) h2 h1 32 64 [7,18,3] [17,19,10] [2,13,22] [6,11,25] (cv (runs p32 l v 64)):=by
 rw[P.ajb]
 unfold P.ae3 P.cd5 P.ccm P.cjg
 refine u7 (fun t=>(64,(t:Int),cv (win p32 l t),h2,h1,32,64,[7,18,3],[17,19,10],[2,13,22],[6,11,25],cv (runs p32 l v t))) 64 rfl (fun t ht next hn'=>?_) (fun next=>?_) (by omega)
 ·simp only[P.abb]
  have e1:Ad.wrap ((t:Int)+1)=((t+1:Nat):Int):=by rw[l7 (by omega) (by omega)];omega
  have e9:Ad.wrap ((t:Int)+9)=((t+9:Nat):Int):=by rw[l7 (by omega) (by omega)];omega
  have e14:Ad.wrap ((t:Int)+14)=((t+14:Nat):Int):=by rw[l7 (by omega) (by omega)];omega
  simp only[e1,e9,e14,crr,toNat_cast,ajt]
  have g0:=bda p32 l t 0 (by omega)
  rw[Df] at g0
  rw[g0,bda p32 l t 1 (by omega),bda p32 l t 9 (by omega),bda p32 l t 14 (by omega)]
  have hV:=v8 _ (aur p32 l v hv t)
  rw[bf (by omega),bf (by omega),bf (by omega),byk,by6 t ht,bx8,bf (by omega),bf (by omega),b08,bf (by omega),bf (by omega),bf (by omega),bf (by omega),bz0,bf (by omega),bf (by omega)]
  simp only[add32,bm4,cg6,cq0]
  rw[←bt0 p32 l hl t,bjk,bs0]
  have hr:cv (runs p32 l v (t+1))=(((Aq 1 (cv (runs p32 l v t))).append (Aq 7 (Aq 7 (Ba 0 (cv (runs p32 l v t))))++Ba (1+min 7 (Aq 7 (Ba 0 (cv (runs p32 l v t)))).length) (cv (runs p32 l v t)))).set 4
      (((runs p32 l v t).getD 3 0+b5k p32 t (W p32 l t) (runs p32 l v t)).toNat:Int)).set 0 ((b5k p32 t (W p32 l t) (runs p32 l v t)+cgu p32 (runs p32 l v t)).toNat:Int):=by
   rw[hV]
   rfl
  have h3:((Aq 1 (cv (runs p32 l v t))).append (Aq 7 (Aq 7 (Ba 0 (cv (runs p32 l v t))))++Ba (1+min 7 (Aq 7 (Ba 0 (cv (runs p32 l v t)))).length) (cv (runs p32 l v t)))).getD 4 0=(((runs p32 l v t).getD 3 0).toNat:Int):=by
   rw[hV]
   rfl
  rw[h3,add32]
  rw[hr] at hn'
  exact hn'
 ·simp only[P.abb]
  rw[bn (by omega)]
  rfl
theorem b3f(v u:List (BitVec 32))(hv:v.length=8)(hu:u.length=8)(h2:List Int){ρ:Type}(k0:Int→List Int→List Int→List Int→Option ρ) :
    P.zo 0 (cv v) h2 (cv u) k0=k0 8 (cv v) h2 (cv ((Ac 8).map fun i=>u.getD i 0+v.getD i 0)):=by
 rw[P.ajp]
 unfold P.ae0 P.ccb P.caz P.ckc
 have hs:∀i,i≤8→(((Ac i).map fun i=>u.getD i 0+v.getD i 0)++u.drop i).length=8:=fun i hi=>by simp;omega
 refine u7 (fun i=>((i:Int),cv v,h2,cv (((Ac i).map fun i=>u.getD i 0+v.getD i 0)++u.drop i))) 8 (by simp) (fun i hi next hn'=>?_) (fun next=>?_) (by omega)
 ·simp only[P.aa2,toNat_cast,ajt]
  have e1:Ad.wrap ((i:Int)+1)=((i+1:Nat):Int):=by rw[l7 (by omega) (by omega)];omega
  have e2:(((Ac i).map fun i=>u.getD i 0+v.getD i 0)++u.drop i).getD i 0=u.getD i 0:=by
   rw[Ae,Bb (by simp),Cj,Am,Aj,Ae]
   congr 2
   omega
  rw[e1,e2,add32,bjk]
  have e3:(((Ac i).map fun i=>u.getD i 0+v.getD i 0)++u.drop i).set i (u.getD i 0+v.getD i 0)=((Ac (i+1)).map fun i=>u.getD i 0+v.getD i 0)++u.drop (i+1):=by
   rw[Ao _ _ (by simp),Am,Aj,Bh,Av,Cr,Bc,Bd (by omega),A9]
   rfl
  rw[e3]
  simp (disch:=omega) only[bf,bn,jd,dh,eu,gq,jv,oq,w9,l7]
  exact hn'
 ·simp only[P.aa2]
  rw[bn (by omega),Bv (by omega),Ct]
  rfl
theorem bxl(v:List (BitVec 32))(hv:v.length=8)(b:List Int)(hb:In 256 b)(hl:b.length=16*4){ρ:Type}(k:List Int→Option ρ) :
    P.ow 32 64 [7,18,3] [17,19,10] [2,13,22] [6,11,25] (cv v) b k=k (cv (be2 p32 v b)):=by
 rw[P.afk]
 unfold P.aa9
 rw[show Ad.wrap ((32:Int).tdiv 8)=4 from rfl]
 have:=b6c b hb hl 64 [7,18,3] [17,19,10] [2,13,22] [6,11,25] (cv v) (Af 8 0) (fun (q0:List Int) (q1 q2 q3 q4:Int) (q5 q6 q7 q8 q9 q10 q11:List Int) =>
  P.ze q4 (0:Int) q11 q10 q9 q3 q4 q5 q6 q7 q8 q9
   fun (q12 q13:Int) (q14 q15 q16:List Int) (q17 q18:Int) (q19 q20 q21 q22 q23:List Int) =>
   P.zo (0:Int) q16 q15 q23 fun (q24:Int) (q25 q26 q27:List Int)=>k q27)
 refine this.trans ?_
 rw[←win_zero p32,b24 _ v hv _ _ _ (xu b 16),b3f v _ hv (aur _ _ _ hv _)]
 rfl
end Q
end

section
/- SHA-2: the document's block of words of 32 bits. -/
namespace Q
open Go Go.Abs
theorem wm(b:List Int)(hb:In 256 b)(hn:b.length≤1000000){ρ:Type}(k:Int→Option ρ):P.wm b k=k ((T 8 b.reverse%2^64:Nat):Int):=by
 rw[P.bkd]
 unfold P.axd
 rw[P.bld]
 unfold P.bku P.cc1 P.cdf P.cpc
 refine u7 (fun i=>(b,((T 8 (b.take i).reverse%2^64:Nat):Int),(i:Int))) b.length (by simp[T]) (fun i hi next hn'=>?_) (fun next=>?_) (by omega)
 ·obtain ⟨x,hx,hx2,hx3⟩:=byte_at hb i
  have est:=bmc b i hi
  rw[←hx3] at est
  simp only[P.bao,toNat_cast]
  have e1:Ab.wrap (Ab.wrap (((T 8 (b.take i).reverse%2^64:Nat):Int)*256)+Ab.wrap (x:Int))=((T 8 (b.take (i+1)).reverse%2^64:Nat):Int):=by
   rw[bt6,bt6,bt6,est];omega
  rw[hx,e1]
  simp (disch:=omega) only[bf,bn,jd,dh,eu,gq,jv,oq,w9,l7]
  exact hn'
 ·simp only[P.bao]
  rw[bn (by omega),Bz]
theorem atz(x m:Int)(n:Nat)(hm:m=(n:Int))(hn:n≤32):∃q,∀{ρ:Type} (k:Int→Option ρ),P.abl x m false k=k q:=by
 subst hm
 refine ⟨bits .or .u64 (x.fdiv ((2:Int)^min ((n:Int)).toNat 64)) (bits .and .u64 (Ab.wrap (x*(2:Int)^min ((32:Int)-(n:Int)).toNat 64)) 4294967295),fun k=>?_⟩
 rw[P.amn]
 unfold P.ag0
 rw[w9,bn (by omega),l7 (by omega) (by omega),bn (by omega)]
theorem bxj(x a b c:Int)(l m n:Nat)(ha:a=(l:Int))(hb:b=(m:Int))(hc:c=(n:Int))(h1:l≤32)(h2:m≤32)(h3:n≤32):∃q,∀{ρ:Type} (k:Int→Option ρ),P.abe x a b c false false k=k q:=by
 obtain ⟨q1,e1⟩:=atz x a l ha h1
 obtain ⟨q2,e2⟩:=atz x b m hb h2
 obtain ⟨q3,e3⟩:=atz x c n hc h3
 refine ⟨bits .xor .u64 (bits .xor .u64 q1 q2) q3,fun k=>?_⟩
 rw[P.aic]
 unfold P.aen
 rw[bn (by omega),jv,w9,e3,e1,e2]
theorem btn(x a b c:Int)(l m n:Nat)(ha:a=(l:Int))(hb:b=(m:Int))(hc:c=(n:Int))(h1:l≤32)(h2:m≤32)(h3:n≤32):∃q,∀{ρ:Type} (k:Int→Option ρ),P.abe x a b c true false k=k q:=by
 obtain ⟨q1,e1⟩:=atz x a l ha h1
 obtain ⟨q2,e2⟩:=atz x b m hb h2
 refine ⟨bits .xor .u64 (bits .xor .u64 q1 q2) (x.fdiv ((2:Int)^min c.toNat 64)),fun k=>?_⟩
 rw[P.aic]
 unfold P.aen
 rw[bn (by omega),jv,oq,e1,e2]
theorem ati(x:BitVec 32)(m:Int)(n:Nat)(hm:m=(n:Int))(hn:n≤32){ρ:Type}(k:Int→Option ρ):P.abl (x.toNat:Int) m false k=k ((rr x n).toNat:Int):=by
 subst hm
 rw[P.amn]
 unfold P.ag0
 rw[w9,bn (by omega),l7 (by omega) (by omega),bn (by omega),show (32:Int)-(n:Int)=((32-n:Nat):Int) by omega]
 simp only[toNat_cast]
 rw[cr1 _ _ (by omega),nshl _ _ (by omega),nor]
 rfl
theorem b1q(x:BitVec 32)(t:Nat×Nat×Nat)(a b c:Int)(ha:a=(t.1:Int))(hb:b=(t.2.1:Int))(hc:c=(t.2.2:Int))(h1:t.1≤32)(h2:t.2.1≤32)(h3:t.2.2≤32){ρ:Type}(k:Int→Option ρ) :
    P.abe (x.toNat:Int) a b c false false k=k ((hi t x).toNat:Int):=by
 rw[P.aic]
 unfold P.aen
 rw[bn (by omega),jv,w9,ati _ _ _ hc h3,ati _ _ _ ha h1,ati _ _ _ hb h2,b1z,b1z]
 rfl
theorem b2i(x:BitVec 32)(t:Nat×Nat×Nat)(a b c:Int)(ha:a=(t.1:Int))(hb:b=(t.2.1:Int))(hc:c=(t.2.2:Int))(h1:t.1≤32)(h2:t.2.1≤32)(h3:t.2.2≤32){ρ:Type}(k:Int→Option ρ) :
    P.abe (x.toNat:Int) a b c true false k=k ((lo t x).toNat:Int):=by
 rw[P.aic]
 unfold P.aen
 rw[bn (by omega),jv,oq,ati _ _ _ ha h1,ati _ _ _ hb h2,b1z,hc]
 simp only[toNat_cast]
 rw[cr1 _ _ (by omega),b1z]
 rfl
theorem cny(a b c d:BitVec 32):bits .and .u64 (Ab.wrap (Ab.wrap (Ab.wrap ((a.toNat:Int)+(b.toNat:Int))+(c.toNat:Int))+(d.toNat:Int))) 4294967295=((a+b+c+d).toNat:Int):=by
 have ha:=bd7 a
 have hb:=bd7 b
 have hc:=bd7 c
 have hd:=bd7 d
 rw[←Ah,ad3 _ (by omega),←Ah,ad3 _ (by omega),←Ah,ad3 _ (by omega),bwq _ (by omega),Ag,Ag,Ag]
 omega
theorem cgr(a b:BitVec 32):bits .and .u64 (Ab.wrap ((a.toNat:Int)+(b.toNat:Int))) 4294967295=((a+b).toNat:Int):=by
 have ha:=bd7 a
 have hb:=bd7 b
 rw[←Ah,ad3 _ (by omega),bwq _ (by omega),Ag]
theorem cod(d a b c e f:BitVec 32):bits .and .u64 (Ab.wrap ((d.toNat:Int)+Ab.wrap (Ab.wrap (Ab.wrap (Ab.wrap ((a.toNat:Int)+(b.toNat:Int))+(c.toNat:Int))+(e.toNat:Int))+(f.toNat:Int)))) 4294967295=((d+(a+b+c+e+f)).toNat:Int):=by
 have hd:=bd7 d
 have ha:=bd7 a
 have hb:=bd7 b
 have hc:=bd7 c
 have he:=bd7 e
 have hf:=bd7 f
 rw[←Ah,ad3 _ (by omega),←Ah,ad3 _ (by omega),←Ah,ad3 _ (by omega),←Ah,ad3 _ (by omega),←Ah,ad3 _ (by omega),bwq _ (by omega),Ag,Ag,Ag,Ag,Ag]
 omega
theorem cog(a b c e f g h:BitVec 32):bits .and .u64 (Ab.wrap (Ab.wrap (Ab.wrap (Ab.wrap (Ab.wrap ((a.toNat:Int)+(b.toNat:Int))+(c.toNat:Int))+(e.toNat:Int))+(f.toNat:Int))+Ab.wrap ((g.toNat:Int)+(h.toNat:Int)))) 4294967295=(((a+b+c+e+f)+(g+h)).toNat:Int):=by
 have ha:=bd7 a
 have hb:=bd7 b
 have hc:=bd7 c
 have he:=bd7 e
 have hf:=bd7 f
 have hg:=bd7 g
 have hh:=bd7 h
 rw[←Ah,ad3 _ (by omega),←Ah,ad3 _ (by omega),←Ah,ad3 _ (by omega),←Ah,ad3 _ (by omega),←Ah (g.toNat),ad3 _ (by omega),←Ah,ad3 _ (by omega),bwq _ (by omega),Ag,Ag,Ag,Ag,Ag,Ag]
 omega
theorem cmq(e f g:BitVec 32):bits .xor .u64 (bits .and .u64 (e.toNat:Int) (f.toNat:Int)) (bits .and .u64 (bits .xor .u64 4294967295 (e.toNat:Int)) (g.toNat:Int))=((g ^^^ (e &&& (f ^^^ g))).toNat:Int):=by
 rw[show (4294967295:Int)=((Cv 32).toNat:Int) from rfl,nand,b1z,nand,b1z,b9k]
theorem b7e(a b c:BitVec 32):bits .xor .u64 (bits .xor .u64 (bits .and .u64 (a.toNat:Int) (b.toNat:Int)) (bits .and .u64 (a.toNat:Int) (c.toNat:Int))) (bits .and .u64 (b.toNat:Int) (c.toNat:Int))=(((a &&& b) ||| (c &&& (a ||| b))).toNat:Int):=by
 rw[nand,nand,nand,b1z,b1z,b1w]
def bdo(b:List Int)(t:Nat):List (BitVec 32):=(Ac t).map (W p32 (o9 32 b 16))
theorem bj9(b:List Int)(t:Nat):bdo b (t+1)=bdo b t++[W p32 (o9 32 b 16) t]:=by simp[bdo,Av]
theorem bn5(b:List Int)(t:Nat):(bdo b t).length=t:=by simp[bdo]
theorem aya(b:List Int)(t i:Nat)(h:i<t):(bdo b t).getD i 0=W p32 (o9 32 b 16) i:=by
 unfold bdo
 rw[getD_lt (by simpa using h)];simp
theorem b2u(b:List Int)(t:Nat)(h:t<16):W p32 (o9 32 b 16) t=Aw 32 (T 8 ((b.take ((t+1)*4)).drop (t*4)).reverse):=by
 rw[←b2c p32 _ (by rw[xu];omega) 0 t (by rw[xu];omega),show sched p32 (o9 32 b 16) 0=o9 32 b 16 from rfl,getD_lt (by rw[xu];exact h)]
 simp[o9]
theorem bvo(b:List Int)(hb:In 256 b)(hl:b.length=16*4){ρ:Type}(k:List Int→Option ρ):P.aek b false 64 4294967295 k=k (cv (bdo b 64)):=by
 rw[P.as9]
 unfold P.akn
 rw[w9,P.atp]
 unfold P.aug P.b6l P.b96 P.ces
 refine u7 (fun t=>(b,false,64,4294967295,4,(t:Int),cv (bdo b t))) 64 rfl (fun t ht next hn'=>?_) (fun next=>?_) (by omega)
 ·simp only[P.ajh,toNat_cast]
  have e1:Ad.wrap ((t:Int)+1)=((t+1:Nat):Int):=by rw[l7 (by omega) (by omega)];omega
  rw[bf (by omega)]
  have hlen:=bn5 b t
  by_cases h16:t<16
  ·have e2:Ad.wrap ((t:Int)*4)=((t*4:Nat):Int):=by rw[l7 (by omega) (by omega)];omega
   have e3:Ad.wrap (Ad.wrap ((t:Int)*4)+4)=(((t+1)*4:Nat):Int):=by rw[e2,l7 (by omega) (by omega)];omega
   have hl2:((b.take ((t+1)*4)).drop (t*4)).length=4:=by simp;omega
   rw[bf (by omega),e3,e2,bf (by omega),bf (by omega),bf (by omega)]
   simp only[toNat_cast]
   have hT:=b5i 8 ((b.take ((t+1)*4)).drop (t*4)).reverse
   rw[List.length_reverse,hl2] at hT
   have e4:((T 8 ((b.take ((t+1)*4)).drop (t*4)).reverse%2^64:Nat):Int)=((W p32 (o9 32 b 16) t).toNat:Int):=by
    rw[b2u b t h16,A8,Bg (by omega),Bg (by omega)]
   rw[wm _ ((hb.take _).drop _) (by omega),bf (by rw[aal];omega),e4,e1,show [((W p32 (o9 32 b 16) t).toNat:Int)]=cv [W p32 (o9 32 b 16) t] from rfl,ajf,←bj9]
   exact hn'
  ·have e15:Ad.wrap ((t:Int)-15)=((t-15:Nat):Int):=by rw[l7 (by omega) (by omega)];omega
   have e2:Ad.wrap ((t:Int)-2)=((t-2:Nat):Int):=by rw[l7 (by omega) (by omega)];omega
   have e7:Ad.wrap ((t:Int)-7)=((t-7:Nat):Int):=by rw[l7 (by omega) (by omega)];omega
   have e16:Ad.wrap ((t:Int)-16)=((t-16:Nat):Int):=by rw[l7 (by omega) (by omega)];omega
   simp only[e15,e2,e7,e16,toNat_cast,ajt,aal,hlen]
   rw[aya b t _ (by omega),aya b t _ (by omega),aya b t _ (by omega),aya b t _ (by omega)]
   rw[bn (by omega),bf (by omega),bf (by omega),b2i _ p32.a _ _ _ (by rfl) (by rfl) (by rfl) (by decide) (by decide) (by decide),bf (by omega),bf (by omega),b2i _ p32.b _ _ _ (by rfl) (by rfl) (by rfl) (by decide) (by decide) (by decide),w9]
   have hW:=bt0 p32 (o9 32 b 16) (xu b 16) (t-16)
   rw[show t-16+16=t by omega,show t-16+1=t-15 by omega,show t-16+9=t-7 by omega,show t-16+14=t-2 by omega] at hW
   have hW2:lo p32.b (W p32 (o9 32 b 16) (t-2))+W p32 (o9 32 b 16) (t-7)+lo p32.a (W p32 (o9 32 b 16) (t-15))+W p32 (o9 32 b 16) (t-16)=W p32 (o9 32 b 16) t:=by rw[hW];ac_rfl
   rw[bf (by omega),bf (by omega),bf (by omega),bf (by omega),bf (by omega),cny,hW2,e1,show [((W p32 (o9 32 b 16) t).toNat:Int)]=cv [W p32 (o9 32 b 16) t] from rfl,ajf,←bj9]
   exact hn'
 ·simp only[P.ajh]
  rw[bn (by omega)]
theorem b36(b:List Int)(v:List (BitVec 32))(hv:v.length=8)(h0 h1:List Int){ρ:Type}(k0:Bool→Int→Int→Int→List Int→List Int→List Int→List Int→List Int→List Int→Option ρ) :
    P.ag2 false 64 4294967295 0 h0 h1 P.roots256 P.roots512 (cv (bdo b 64)) (cv v) k0=k0 false 64 4294967295 64 h0 h1 P.roots256 P.roots512 (cv (bdo b 64)) (cv (runs p32 (o9 32 b 16) v 64)):=by
 rw[P.ard]
 unfold P.apf P.b72 P.b8s P.cb1
 refine u7 (fun t=>(false,64,4294967295,(t:Int),h0,h1,P.roots256,P.roots512,cv (bdo b 64),cv (runs p32 (o9 32 b 16) v t))) 64 rfl (fun t ht next hn'=>?_) (fun next=>?_) (by omega)
 ·simp only[P.ahi]
  have e1:Ad.wrap ((t:Int)+1)=((t+1:Nat):Int):=by rw[l7 (by omega) (by omega)];omega
  have hlen:=bn5 b 64
  simp only[e1,toNat_cast,ajt,aal,hlen]
  rw[aya b 64 t ht,K32]
  rw[bf (by omega),b1q _ p32.c _ _ _ (by rfl) (by rfl) (by rfl) (by decide) (by decide) (by decide),b1q _ p32.d _ _ _ (by rfl) (by rfl) (by rfl) (by decide) (by decide) (by decide),w9]
  rw[bf (by omega),bf (by omega),bf (by omega),bf (by omega),cmq,b7e,cog,cod]
  exact hn'
 ·simp only[P.ahi]
  rw[bn (by omega)]
  rfl
theorem b4m(v u:List (BitVec 32))(hv:v.length=8)(hu:u.length=8)(h1:List Int){ρ:Type}(k0:Int→Int→List Int→List Int→List Int→Option ρ) :
    P.ahn 4294967295 0 (cv v) h1 (cv u) k0=k0 4294967295 8 (cv v) h1 (cv ((Ac 8).map fun i=>u.getD i 0+v.getD i 0)):=by
 rw[P.arb]
 unfold P.ao7 P.b6w P.b6j P.ca9
 refine u7 (fun i=>(4294967295,(i:Int),cv v,h1,cv (((Ac i).map fun i=>u.getD i 0+v.getD i 0)++u.drop i))) 8 (by simp) (fun i hi next hn'=>?_) (fun next=>?_) (by omega)
 ·simp only[P.agv,toNat_cast,ajt]
  have e1:Ad.wrap ((i:Int)+1)=((i+1:Nat):Int):=by rw[l7 (by omega) (by omega)];omega
  have e2:(((Ac i).map fun i=>u.getD i 0+v.getD i 0)++u.drop i).getD i 0=u.getD i 0:=by
   rw[Ae,Bb (by simp),Cj,Am,Aj,Ae]
   congr 2
   omega
  rw[e1,e2,cgr,bjk]
  have e3:(((Ac i).map fun i=>u.getD i 0+v.getD i 0)++u.drop i).set i (u.getD i 0+v.getD i 0)=((Ac (i+1)).map fun i=>u.getD i 0+v.getD i 0)++u.drop (i+1):=by
   rw[Ao _ _ (by simp),Am,Aj,Bh,Av,Cr,Bc,Bd (by omega),A9]
   rfl
  rw[e3]
  simp (disch:=omega) only[bf,bn,jd,dh,eu,gq,jv,oq,w9,l7]
  exact hn'
 ·simp only[P.agv]
  rw[bn (by omega),Bv (by omega),Ct]
  rfl
theorem bvp(v:List (BitVec 32))(hv:v.length=8)(b:List Int)(hb:In 256 b)(hl:b.length=16*4){ρ:Type}(k:List Int→Option ρ):P.afu (cv v) b false k=k (cv (be2 p32 v b)):=by
 rw[P.atn]
 unfold P.ako
 have hr1:∀(k:List Int→Option ρ),P.aa0 k=k P.roots256:=fun k=>by rw[P.ak2];kernel_rfl
 have hr2:∀(k:List Int→Option ρ),P.aaz k=k P.roots512:=fun k=>by rw[P.ak4];kernel_rfl
 rw[hr1,hr2,w9,bvo b hb hl,b36 b v hv,b4m v _ hv (aur _ _ _ hv _)]
 rfl
end Q
end

section
/- SHA-2: the program's engine of 64 bits. -/
namespace Q
open Go Go.Abs
theorem anf(rd:Int)(t0 t1 t2 t3:List Int)(x:BitVec 64)(m:Int)(n:Nat)(hm:m=(n:Int))(hn:n≤64){ρ:Type}(k:Int→Option ρ) :
    P.dn 64 rd t0 t1 t2 t3 (x.toNat:Int) m k=k ((rr x n).toNat:Int):=by
 subst hm
 rw[P.adz]
 unfold P.aat
 rw[bn (by omega),l7 (by omega) (by omega),bn (by omega),show (64:Int)-(n:Int)=((64-n:Nat):Int) by omega]
 simp only[toNat_cast]
 rw[bu0 _ _ hn,b4x _ _ (by omega),cbb]
 rfl
theorem bx7(rd:Int)(x:BitVec 64){ρ:Type}(k:Int→Option ρ):P.l9 64 rd [1,8,7] [19,61,6] [28,34,39] [14,18,41] (x.toNat:Int) 3 k=k ((hi p64.d x).toNat:Int):=by
 rw[P.acd]
 unfold P.zy
 simp only[Ak,Al]
 rw[bn (by decide),bn (by decide),bn (by decide),bf (by decide),anf _ _ _ _ _ _ _ 14 (by rfl) (by omega),anf _ _ _ _ _ _ _ 18 (by rfl) (by omega),anf _ _ _ _ _ _ _ 41 (by rfl) (by omega),apy,apy]
 rfl
theorem bv5(rd:Int)(x:BitVec 64){ρ:Type}(k:Int→Option ρ):P.l9 64 rd [1,8,7] [19,61,6] [28,34,39] [14,18,41] (x.toNat:Int) 2 k=k ((hi p64.c x).toNat:Int):=by
 rw[P.acd]
 unfold P.zy
 simp only[Ak,Al]
 rw[bn (by decide),bn (by decide),bf (by decide),anf _ _ _ _ _ _ _ 28 (by rfl) (by omega),anf _ _ _ _ _ _ _ 34 (by rfl) (by omega),anf _ _ _ _ _ _ _ 39 (by rfl) (by omega),apy,apy]
 rfl
theorem bzz(rd:Int)(x:BitVec 64){ρ:Type}(k:Int→Option ρ):P.og 64 rd [1,8,7] [19,61,6] [28,34,39] [14,18,41] (x.toNat:Int) 0 k=k ((lo p64.a x).toNat:Int):=by
 rw[P.acy]
 unfold P.aaj
 simp only[Ak,Al]
 rw[bf (by decide),anf _ _ _ _ _ _ _ 1 (by rfl) (by omega),anf _ _ _ _ _ _ _ 8 (by rfl) (by omega),bn (by decide),apy,show (7:Int).toNat=7 from rfl,bu0 _ _ (by omega),apy]
 rfl
theorem b1a(rd:Int)(x:BitVec 64){ρ:Type}(k:Int→Option ρ):P.og 64 rd [1,8,7] [19,61,6] [28,34,39] [14,18,41] (x.toNat:Int) 1 k=k ((lo p64.b x).toNat:Int):=by
 rw[P.acy]
 unfold P.aaj
 simp only[Ak,Al]
 rw[bn (by decide),bf (by decide),anf _ _ _ _ _ _ _ 19 (by rfl) (by omega),anf _ _ _ _ _ _ _ 61 (by rfl) (by omega),bn (by decide),apy,show (6:Int).toNat=6 from rfl,bu0 _ _ (by omega),apy]
 rfl
theorem by1(t:Nat)(h:t<80){ρ:Type}(k:Int→Option ρ):P.uq (t:Int) k=k ((p64.K t).toNat:Int):=by
 rw[P.au5]
 unfold P.al7
 rw[bf (by omega),bf (by omega),toNat_cast,K64]
theorem b84(b:List Int)(hb:In 256 b)(hl:b.length=16*8)(rd:Int)(t0 t1 t2 t3 h1 h2:List Int){ρ:Type}(k0:List Int→Int→Int→Int→Int→List Int→List Int→List Int→List Int→List Int→List Int→List Int→Option ρ) :
    P.abw b 8 0 64 rd t0 t1 t2 t3 h1 h2 (Af 16 0) k0=k0 b 8 16 64 rd t0 t1 t2 t3 h1 h2 (cv (o9 64 b 16)):=by
 rw[P.ajy]
 unfold P.afn P.cd4 P.cao P.chx
 refine u7 (fun i=>(b,8,(i:Int),64,rd,t0,t1,t2,t3,h1,h2,cv (o9 64 b i)++Af (16-i) 0)) 16 (by simp[o9,cv]) (fun i hi next hn'=>?_) (fun next=>?_) (by omega)
 ·simp only[P.abu,toNat_cast]
  have e1:Ad.wrap ((i:Int)*8)=((i*8:Nat):Int):=by rw[l7 (by omega) (by omega)];omega
  have e2:Ad.wrap (Ad.wrap ((i:Int)+1)*8)=(((i+1)*8:Nat):Int):=by rw[l7 (x:=(i:Int)+1) (by omega) (by omega),l7 (by omega) (by omega)];omega
  rw[e1,e2]
  simp only[toNat_cast]
  have hlen:((b.take ((i+1)*8)).drop (i*8)).length=8:=by simp;omega
  rw[bf (by omega),bf (by omega),bf (by omega),bf (by omega),wz _ ((hb.take _).drop _) (by omega),bf (by omega),bf (by omega)]
  have e3:((T 8 ((b.take ((i+1)*8)).drop (i*8)).reverse%2^64:Nat):Int)=(((Aw 64 (T 8 ((b.take ((i+1)*8)).drop (i*8)).reverse)).toNat:Nat):Int):=by
   rw[A8]
  have e4:Ad.wrap ((i:Int)+1)=((i+1:Nat):Int):=by rw[l7 (by omega) (by omega)];omega
  rw[e3,e4]
  have e5:(cv (o9 64 b i)++Af (16-i) (0:Int)).set i (((Aw 64 (T 8 ((b.take ((i+1)*8)).drop (i*8)).reverse)).toNat:Nat):Int)=cv (o9 64 b (i+1))++Af (16-(i+1)) 0:=by
   rw[Ao _ _ (by simp[xu]),aal,xu,Bh,show 16-i=(16-(i+1))+1 by omega,Bq,A9,bg6,←ajf,Bc]
   rfl
  rw[e5]
  exact hn'
 ·simp only[P.abu]
  rw[bn (by omega)]
  simp
theorem b25(l v:List (BitVec 64))(hv:v.length=8)(h2 h1:List Int){ρ:Type}(k0:Int→Int→List Int→List Int→List Int→Int→Int→List Int→List Int→List Int→List Int→List Int→Option ρ)(hl:l.length=16) :
    P.zl 80 0 (cv (win p64 l 0)) h2 h1 64 80 [1,8,7] [19,61,6] [28,34,39] [14,18,41] (cv v) k0 =
     k0 80 80 (cv (win p64 l 80)) h2 h1 64 80 [1,8,7] [19,61,6] [28,34,39] [14,18,41] (cv (runs p64 l v 80)):=by
 rw[P.aji]
 unfold P.aer P.cce P.ccd P.cjc
 refine u7 (fun t=>(80,(t:Int),cv (win p64 l t),h2,h1,64,80,[1,8,7],[19,61,6],[28,34,39],[14,18,41],cv (runs p64 l v t))) 80 rfl (fun t ht next hn'=>?_) (fun next=>?_) (by omega)
 ·simp only[P.abh]
  have e1:Ad.wrap ((t:Int)+1)=((t+1:Nat):Int):=by rw[l7 (by omega) (by omega)];omega
  have e9:Ad.wrap ((t:Int)+9)=((t+9:Nat):Int):=by rw[l7 (by omega) (by omega)];omega
  have e14:Ad.wrap ((t:Int)+14)=((t+14:Nat):Int):=by rw[l7 (by omega) (by omega)];omega
  simp only[e1,e9,e14,crr,toNat_cast,ajt]
  have g0:=bda p64 l t 0 (by omega)
  rw[Df] at g0
  rw[g0,bda p64 l t 1 (by omega),bda p64 l t 9 (by omega),bda p64 l t 14 (by omega)]
  have hV:=v8 _ (aur p64 l v hv t)
  rw[bf (by omega),bf (by omega),bf (by omega),bx7,by1 t ht,bv5,bf (by omega),bf (by omega),bzz,bf (by omega),bf (by omega),bf (by omega),bf (by omega),b1a,bf (by omega),bf (by omega)]
  simp only[ars,apy,brt,cbb]
  rw[←bt0 p64 l hl t,bjk,bs0]
  have hr:cv (runs p64 l v (t+1))=(((Aq 1 (cv (runs p64 l v t))).append (Aq 7 (Aq 7 (Ba 0 (cv (runs p64 l v t))))++Ba (1+min 7 (Aq 7 (Ba 0 (cv (runs p64 l v t)))).length) (cv (runs p64 l v t)))).set 4
      (((runs p64 l v t).getD 3 0+b5k p64 t (W p64 l t) (runs p64 l v t)).toNat:Int)).set 0 ((b5k p64 t (W p64 l t) (runs p64 l v t)+cgu p64 (runs p64 l v t)).toNat:Int):=by
   rw[hV]
   rfl
  have h3:((Aq 1 (cv (runs p64 l v t))).append (Aq 7 (Aq 7 (Ba 0 (cv (runs p64 l v t))))++Ba (1+min 7 (Aq 7 (Ba 0 (cv (runs p64 l v t)))).length) (cv (runs p64 l v t)))).getD 4 0=(((runs p64 l v t).getD 3 0).toNat:Int):=by
   rw[hV]
   rfl
  rw[h3,ars]
  rw[hr] at hn'
  exact hn'
 ·simp only[P.abh]
  rw[bn (by omega)]
  rfl
theorem b2z(v u:List (BitVec 64))(hv:v.length=8)(hu:u.length=8)(h2:List Int){ρ:Type}(k0:Int→List Int→List Int→List Int→Option ρ) :
    P.zq 0 (cv v) h2 (cv u) k0=k0 8 (cv v) h2 (cv ((Ac 8).map fun i=>u.getD i 0+v.getD i 0)):=by
 rw[P.ajo]
 unfold P.ae1 P.cee P.ceq P.cno
 have hs:∀i,i≤8→(((Ac i).map fun i=>u.getD i 0+v.getD i 0)++u.drop i).length=8:=fun i hi=>by simp;omega
 refine u7 (fun i=>((i:Int),cv v,h2,cv (((Ac i).map fun i=>u.getD i 0+v.getD i 0)++u.drop i))) 8 (by simp) (fun i hi next hn'=>?_) (fun next=>?_) (by omega)
 ·simp only[P.aa5,toNat_cast,ajt]
  have e1:Ad.wrap ((i:Int)+1)=((i+1:Nat):Int):=by rw[l7 (by omega) (by omega)];omega
  have e2:(((Ac i).map fun i=>u.getD i 0+v.getD i 0)++u.drop i).getD i 0=u.getD i 0:=by
   rw[Ae,Bb (by simp),Cj,Am,Aj,Ae]
   congr 2
   omega
  rw[e1,e2,ars,bjk]
  have e3:(((Ac i).map fun i=>u.getD i 0+v.getD i 0)++u.drop i).set i (u.getD i 0+v.getD i 0)=((Ac (i+1)).map fun i=>u.getD i 0+v.getD i 0)++u.drop (i+1):=by
   rw[Ao _ _ (by simp),Am,Aj,Bh,Av,Cr,Bc,Bd (by omega),A9]
   rfl
  rw[e3]
  simp (disch:=omega) only[bf,bn,jd,dh,eu,gq,jv,oq,w9,l7]
  exact hn'
 ·simp only[P.aa5]
  rw[bn (by omega),Bv (by omega),Ct]
  rfl
theorem bv6(v:List (BitVec 64))(hv:v.length=8)(b:List Int)(hb:In 256 b)(hl:b.length=16*8){ρ:Type}(k:List Int→Option ρ) :
    P.ou 64 80 [1,8,7] [19,61,6] [28,34,39] [14,18,41] (cv v) b k=k (cv (be2 p64 v b)):=by
 rw[P.afm]
 unfold P.aa6
 rw[show Ad.wrap ((64:Int).tdiv 8)=8 from rfl]
 have:=b84 b hb hl 80 [1,8,7] [19,61,6] [28,34,39] [14,18,41] (cv v) (Af 8 0) (fun (q0:List Int) (q1 q2 q3 q4:Int) (q5 q6 q7 q8 q9 q10 q11:List Int) =>
  P.zl q4 (0:Int) q11 q10 q9 q3 q4 q5 q6 q7 q8 q9
   fun (q12 q13:Int) (q14 q15 q16:List Int) (q17 q18:Int) (q19 q20 q21 q22 q23:List Int) =>
   P.zq (0:Int) q16 q15 q23 fun (q24:Int) (q25 q26 q27:List Int)=>k q27)
 refine this.trans ?_
 rw[←win_zero p64,b25 _ v hv _ _ _ (xu b 16),b2z v _ hv (aur _ _ _ hv _)]
 rfl
end Q
end
