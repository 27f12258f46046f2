/-
  SlhVerifies, part 25: an interpreter of my own over abstract values, the pure functions, the walks and the plain law.
-/

import Derived.Test.YtciddcopcdmnbaaGreatDoorSlhVerifiesH
import Derived.Laws.Bits64
import Derived.Test.YtciddcopcdmnbaaGreatDoorSlhVerifiesM
import Derived.Test.YtciddcopcdmnbaaGreatDoorSlhVerifiesK
import Derived.Test.YtciddcopcdmnbaaGreatDoorSlhVerifiesL
import Derived.Test.YtciddcopcdmnbaaGreatDoorSlhVerifiesI
import Derived.Test.YtciddcopcdmnbaaGreatDoorSlhVerifiesJ
open BitVec renaming ofInt → Aa, toNat_add → Ag, toNat_ofInt → Ai, ofNat → Aw, toNat_ofNat → A8, toNat_and → Bw, toNat_xor → Cm, toNat_or → Cq, allOnes → Cv
open Go.IntKind renaming u64 → Ab, i64 → Ad, u32 → Ar, u8 → Ca, signed → Ce, bits → Ck, wrap → Da
open List renaming range → Ac, getD_eq_getElem?_getD → Ae, replicate → Af, length_range → Aj, getD_cons_zero → Ak, getD_cons_succ → Al, length_map → Am, set_append_right → Ao, getElem_range → Ap, take → Aq, getElem_map → Au, range_succ → Av, ext_getElem → Az, set_cons_zero → A9, drop → Ba, getElem?_append_right → Bb, append_assoc → Bc, drop_eq_getElem_cons → Bd, length_replicate → Bn, replicate_succ → Bq, getElem?_eq_getElem → Bt, drop_eq_nil_of_le → Bv, take_length → Bz, map_congr_left → Cc, length_append → Ci, getElem?_drop → Cj, map_append → Cr, append_nil → Ct, getElem?_eq_none → Cu, singleton_append → Cw, mem_range → Cx, getElem_reverse → Cz, mem_map → C9
open Int renaming natCast_add → Ah, eq_ofNat_of_zero_le → Ay, tdiv_eq_ediv_of_nonneg → Bo, tmod_eq_emod_of_nonneg → Bp
open Nat renaming pow_add → Bf, mod_eq_of_lt → Bg, sub_self → Bh, and_two_pow_sub_one_eq_mod → Bj, mul_le_mul → Bl, min_eq_left → Br, div_div_eq_div_mul → Bu, mul_succ → Cb, le_refl → Cg, and_lt_two_pow → Ch, div_eq_of_lt → Cn, le_mul_of_pos_right → Co, mod_lt → Cy, add_assoc → C8, add_comm → Dc, add_zero → Df, mul_comm → Dg

section
/- Small laws for the plain proofs. -/
namespace Q
open Go Go.Abs
set_option linter.unusedVariables false
def In(m:Int)(l:List Int):Prop:=∀x,x∈l→0≤x∧x<m
theorem wf_u8{n:Int}(h:wfI .u8 n):0≤n∧n<256:=by
 simp[wfI,Lit.wf,IntKind.min,IntKind.max,Ce,Ck] at h;omega
theorem bid{l:List Int}(h:∀x,x∈l→wfI .u8 x):In 256 l:=fun x hx=>wf_u8 (h x hx)
theorem In.tail{m x:Int}{l:List Int}(h:In m (x::l)):In m l:=fun y hy=>h y (List.mem_cons_of_mem _ hy)
theorem In.app{m:Int}{l r:List Int}(h1:In m l)(h2:In m r):In m (l++r):=fun y hy=>(List.mem_append.1 hy).elim (h1 y) (h2 y)
theorem In.left{m:Int}{l r:List Int}(h:In m (l++r)):In m l:=fun y hy=>h y (List.mem_append_left _ hy)
theorem In.right{m:Int}{l r:List Int}(h:In m (l++r)):In m r:=fun y hy=>h y (List.mem_append_right _ hy)
theorem In.take{m:Int}{l:List Int}(h:In m l)(n:Nat):In m (l.take n):=fun y hy=>h y (List.mem_of_mem_take hy)
theorem In.drop{m:Int}{l:List Int}(h:In m l)(n:Nat):In m (l.drop n):=fun y hy=>h y (List.mem_of_mem_drop hy)
theorem In.nil{m:Int}:In m []:=fun y hy=>by simp at hy
theorem In.rev{m:Int}{l:List Int}(h:In m l):In m l.reverse:=fun y hy=>h y (by simpa using hy)
theorem In.getD{m:Int}{l:List Int}(h:In m l)(i:Nat)(hm:0<m):0≤l.getD i 0∧l.getD i 0<m:=by
 rw[Ae]
 by_cases hi:i<l.length
 ·rw[Bt hi];exact h _ (List.getElem_mem hi)
 ·rw[Cu (by omega)];exact ⟨Int.le_refl 0,hm⟩
theorem In.map{m:Int}{α:Type}{l:List α}{f:α→Int}(h:∀a,a∈l→0≤f a∧f a<m):In m (l.map f):=fun y hy=>by
 obtain ⟨a,ha,rfl⟩:=C9.1 hy
 exact h a ha
theorem je{α:Type}{a b:Int}(h:¬a=b)(x y:α):br (a !=b) x y=x:=by rw[bne_iff_ne.2 h];exact oz x y
theorem fq{α:Type}{a b:Int}(h:a=b)(x y:α):br (a !=b) x y=y:=by rw[bne_eq_false_iff_eq.2 h];exact wo x y
theorem gu{α:Type}{a b:Int}(h:a=b)(x y:α):br (a==b) x y=x:=by rw[beq_iff_eq.2 h];exact oz x y
theorem gy{α:Type}{a b:Int}(h:¬a=b)(x y:α):br (a==b) x y=y:=by rw[beq_eq_false_iff_ne.2 h];exact wo x y
theorem jl{α:Type}(b:Bool)(x y:α):br (!b) x y=br b y x:=by cases b<;>simp
theorem btc{X Y ρ:Type}{stp:X→(X→Option ρ)→(Y→Option ρ)→Option ρ}{K:Y→Option ρ}{r:Option ρ}(S:Nat→X)(n:Nat)
    (hstep:∀i,i<n→∀next,next (S (i+1))=r→stp (S i) next K=r) (hend:∀next,stp (S n) next K=r) {i:Nat} (hi:i≤n) (hn:n≤18446744073709551616):lp stp (S i) K=r:=by
 have key:∀m i,m+i=n→lpN stp K m (S i)=r∧∀q,m≤q→lpN stp K q (S i)=r:=by
  intro m
  induction m with
  | zero =>
   intro i hi
   have:i=n:=by omega
   subst this
   refine ⟨hend _,fun q _=>?_⟩
   cases q with
   | zero=>exact hend _
   | succ q=>exact hend _
  | succ m ih =>
   intro i hi
   refine ⟨hstep i (by omega) _ (ih (i+1) (by omega)).1,fun q hq=>?_⟩
   cases q with
   | zero=>omega
   | succ q=>exact hstep i (by omega) _ ((ih (i+1) (by omega)).2 q (by omega))
 exact (key (n-i) i (by omega)).2 FU (by rw[bze];omega)
theorem getD_lt{α:Type}{l:List α}{d:α}{i:Nat}(h:i<l.length):l.getD i d=l[i]:=by
 rw[Ae,Bt h];rfl
theorem bhc{α:Type}{l:List α}{d:α}{i:Nat}(h:l.length≤i):l.getD i d=d:=by
 rw[Ae,Cu h];rfl
theorem toNat_cast(n:Nat):((n:Int)).toNat=n:=Int.toNat_natCast n
theorem bkb(f:Nat→Int)(i n:Nat)(h:i<n)(d:Int):((Ac i).map f++Af (n-i) d).set i (f i)=(Ac (i+1)).map f++Af (n-(i+1)) d:=by
 rw[Ao _ _ (by simp),show n-i=(n-(i+1))+1 by omega,Bq]
 simp[Av]
theorem ae6{α:Type}(f:Nat→α)(i:Nat):(Ac i).map f++[f i]=(Ac (i+1)).map f:=by simp[Av]
theorem ari{α:Type}(l:List α)(d:α)(i:Nat)(h:i<l.length):l.take i++[l.getD i d]=l.take (i+1):=by
 rw[getD_lt h,List.take_add_one,Bt h];rfl
theorem ae5{α:Type}(l:List α)(d:α)(i:Nat)(h:i<l.length):l.drop i=l.getD i d::l.drop (i+1):=by
 rw[getD_lt h];exact Bd h
end Q
end

section
/- The bit operations as numbers. -/
namespace Q
open Go Go.Abs
set_option linter.unusedVariables false
theorem cgb(x y:Nat)(hx:x<256)(hy:y<256):bits .or .u8 (x:Int) (y:Int)=((x ||| y:Nat):Int):=by
 have h1:x ||| y<256:=Nat.or_lt_two_pow (n:=8) hx hy
 have e:bits .or .u8 (x:Int) (y:Int)=Ca.wrap ((Aa 8 (x:Int) ||| Aa 8 (y:Int)).toNat:Int):=rfl
 have e2:(Aa 8 (x:Int) ||| Aa 8 (y:Int)).toNat=x ||| y:=by
  rw[Cq,Ai,Ai];congr 1<;>omega
 rw[e,e2];exact IntWalk.u8_in _ ⟨by omega,by omega⟩
theorem b4t(x y:Nat)(hx:x<256)(hy:y<256):bits .xor .u8 (x:Int) (y:Int)=((x ^^^ y:Nat):Int):=by
 have h1:x ^^^ y<256:=Nat.xor_lt_two_pow (n:=8) hx hy
 have e:bits .xor .u8 (x:Int) (y:Int)=Ca.wrap ((Aa 8 (x:Int) ^^^ Aa 8 (y:Int)).toNat:Int):=rfl
 have e2:(Aa 8 (x:Int) ^^^ Aa 8 (y:Int)).toNat=x ^^^ y:=by
  rw[Cm,Ai,Ai];congr 1<;>omega
 rw[e,e2];exact IntWalk.u8_in _ ⟨by omega,by omega⟩
theorem b28(x y:Nat)(hx:x<256)(hy:y<256):bits .and .u8 (x:Int) (y:Int)=((x &&& y:Nat):Int):=by
 have h1:x &&& y<256:=Ch (n:=8) x hy
 have e:bits .and .u8 (x:Int) (y:Int)=Ca.wrap ((Aa 8 (x:Int) &&& Aa 8 (y:Int)).toNat:Int):=rfl
 have e2:(Aa 8 (x:Int) &&& Aa 8 (y:Int)).toNat=x &&& y:=by
  rw[Bw,Ai,Ai];congr 1<;>omega
 rw[e,e2];exact IntWalk.u8_in _ ⟨by omega,by omega⟩
theorem bo0(x y:Nat)(hx:x<18446744073709551616)(hy:y<18446744073709551616):bits .or .u64 (x:Int) (y:Int)=((x ||| y:Nat):Int):=by
 have h1:x ||| y<18446744073709551616:=Nat.or_lt_two_pow (n:=64) hx hy
 have e:bits .or .u64 (x:Int) (y:Int)=Ab.wrap ((Aa 64 (x:Int) ||| Aa 64 (y:Int)).toNat:Int):=rfl
 have e2:(Aa 64 (x:Int) ||| Aa 64 (y:Int)).toNat=x ||| y:=by
  rw[Cq,Ai,Ai];congr 1<;>omega
 rw[e,e2];exact IntWalk.u64_in _ ⟨by omega,by omega⟩
theorem aou(x y:Nat)(hx:x<18446744073709551616)(hy:y<18446744073709551616):bits .and .u64 (x:Int) (y:Int)=((x &&& y:Nat):Int):=by
 have h1:x &&& y<18446744073709551616:=Ch (n:=64) x hy
 have e:bits .and .u64 (x:Int) (y:Int)=Ab.wrap ((Aa 64 (x:Int) &&& Aa 64 (y:Int)).toNat:Int):=rfl
 have e2:(Aa 64 (x:Int) &&& Aa 64 (y:Int)).toNat=x &&& y:=by
  rw[Bw,Ai,Ai];congr 1<;>omega
 rw[e,e2];exact IntWalk.u64_in _ ⟨by omega,by omega⟩
theorem bxq(x y:Nat)(hx:x<4294967296)(hy:y<4294967296):bits .and .u32 (x:Int) (y:Int)=((x &&& y:Nat):Int):=by
 have h1:x &&& y<4294967296:=Ch (n:=32) x hy
 have e:bits .and .u32 (x:Int) (y:Int)=Ar.wrap ((Aa 32 (x:Int) &&& Aa 32 (y:Int)).toNat:Int):=rfl
 have e2:(Aa 32 (x:Int) &&& Aa 32 (y:Int)).toNat=x &&& y:=by
  rw[Bw,Ai,Ai];congr 1<;>omega
 rw[e,e2];exact IntWalk.u32_in _ ⟨by omega,by omega⟩
theorem u8m(n:Int):Ca.wrap n=n%256:=by simp[Da,Ck,Ce]
theorem b4j(n:Int):Ar.wrap n=n%4294967296:=by simp[Da,Ck,Ce]
theorem bo9(n:Int):Ab.wrap n=n%18446744073709551616:=by simp[Da,Ck,Ce]
theorem xor_zero{x y:Nat}:x ^^^ y=0↔x=y:=by
 constructor
 ·intro h
  have:(x ^^^ y) ^^^ y=x:=by rw[Nat.xor_assoc,Nat.xor_self,Nat.xor_zero]
  rw[h,Nat.zero_xor] at this
  exact this.symm
 ·rintro rfl;exact Nat.xor_self _
theorem bm8(a x i:Nat)(hx:x<2^i):(a*2^i) ||| x=a*2^i+x:=by
 rw[←Nat.shiftLeft_eq,Nat.shiftLeft_add_eq_or_of_lt hx]
end Q
end

section
/- Numbers and their digits, the lowest first. -/
namespace Q
open Go Go.Abs
set_option linter.unusedVariables false
def T(w:Nat):List Int→Nat
 | []=>0
 | x::l=>x.toNat%2^w+2^w*T w l
theorem p2(n:Nat):0<2^n:=Nat.pow_pos (by omega)
theorem bzx(w:Nat):∀l:List Int,T w l<2^(w*l.length)
 | []=>by simp[T]
 | x::l=>by
  have ih:=bzx w l
  have h1:=Cy x.toNat (p2 w)
  rw[List.length_cons,Cb,Dc,Bf]
  simp only[T]
  have:2^w*(T w l+1)≤2^w*2^(w*l.length):=Bl (Cg _) ih
  rw[Nat.mul_add] at this
  omega
theorem bgf(w:Nat):∀a b:List Int,T w (a++b)=T w a+2^(w*a.length)*T w b
 | [],b=>by simp[T]
 | x::a,b=>by
  rw[List.cons_append,T,T,bgf w a b,List.length_cons,Cb,Dc (w*a.length) w,Bf,Nat.mul_add,Nat.mul_assoc]
  omega
theorem b1n(w:Nat)(l:List Int)(k:Nat)(h:k≤l.length):T w l=T w (l.take k)+2^(w*k)*T w (l.drop k):=by
 have:=bgf w (l.take k) (l.drop k)
 rw[List.take_append_drop,List.length_take,Br h] at this
 exact this
theorem bex(w:Nat)(l:List Int)(k:Nat)(h:k≤l.length):T w (l.drop k)=T w l/2^(w*k):=by
 have:=bzx w (l.take k)
 rw[List.length_take,Br h] at this
 rw[b1n w l k h,Nat.add_mul_div_left _ _ (p2 _),Cn this,Nat.zero_add]
theorem b4x(w:Nat)(l:List Int)(k:Nat):T w l/2^(w*k)%2^w=(l.getD k 0).toNat%2^w:=by
 by_cases h:k<l.length
 ·rw[←bex w l k (by omega),ae5 l 0 k h,T,Nat.add_mul_mod_self_left,Nat.mod_mod]
 ·rw[bhc (by omega),Cn]
  ·rfl
  ·exact Nat.lt_of_lt_of_le (bzx w l) (Nat.pow_le_pow_right (by omega) (Bl (Cg _) (by omega)))
theorem xu{X Y ρ:Type}{stp:X→(X→Option ρ)→(Y→Option ρ)→Option ρ}{K:Y→Option ρ}{r:Option ρ}(S:Nat→X)(n:Nat){x:X}(hx:x=S 0)
    (hstep:∀i,i<n→∀next,next (S (i+1))=r→stp (S i) next K=r) (hend:∀next,stp (S n) next K=r) (hn:n≤18446744073709551616):lp stp x K=r:=by
 rw[hx];exact btc S n hstep hend (Nat.zero_le _) hn
def bsw(w n X:Nat):List Int:=(Ac n).map fun i=>((X/2^(w*i)%2^w:Nat):Int)
@[simp] theorem ab5 (w n X:Nat):(bsw w n X).length=n:=by simp[bsw]
theorem bns(w n X i:Nat)(h:i<n):(bsw w n X).getD i 0=((X/2^(w*i)%2^w:Nat):Int):=by
 rw[getD_lt (by simpa using h)];simp[bsw]
theorem bg7(w n X:Nat):bsw w (n+1) X=bsw w n X++[((X/2^(w*n)%2^w:Nat):Int)]:=by simp[bsw,Av]
theorem bf0(w n X:Nat):In (2^w) (bsw w n X):=by
 refine In.map (fun i _=>⟨Int.natCast_nonneg _,?_⟩)
 have:=Cy (X/2^(w*i)) (p2 w)
 have e:((2:Int)^w)=((2^w:Nat):Int):=by simp
 rw[e];omega
theorem b4c(w X:Nat):∀n,T w (bsw w n X)=X%2^(w*n)
 | 0=>by simp[bsw,T,Nat.mod_one]
 | n+1=>by
  rw[bg7,bgf,b4c w X n,ab5,Cb,Bf,Nat.mod_mul]
  simp only[T,Int.toNat_natCast,Nat.mod_mod,Nat.mul_zero,Df]
theorem bk5(X h w m:Nat)(hm:h+w≤m):X%2^m/2^h%2^w=X/2^h%2^w:=by
 have e:(2:Nat)^m=2^h*(2^w*2^(m-(h+w))):=by rw[←Bf,←Bf];congr 1;omega
 rw[e,Nat.mod_mul_right_div_self,Nat.mod_mul_right_mod]
theorem bl4(X h w a b:Nat)(hb:a+b≤w):X/2^h%2^w/2^a%2^b=X/2^(h+a)%2^b:=by
 rw[bk5 _ _ _ _ hb,Bu,←Bf]
theorem bts(X h w a:Nat):X/2^h%2^w+2^w*(X/2^(h+w)%2^a)=X/2^h%2^(w+a):=by
 rw[Bf 2 w a,Nat.mod_mul,Bf,Bu]
end Q
end

section
/- bits: Unpack. -/
namespace Q
open Go Go.Abs
set_option linter.unusedVariables false
set_option linter.unusedSimpArgs false
def Such(n:Nat)(w c:Int):Prop:=1≤w∧w≤24∧0≤c∧c*w≤n*8
instance (n:Nat) (w c:Int):Decidable (Such n w c):=inferInstanceAs (Decidable (_∧_))
theorem btk(n:Nat)(w c:Int)(hn:n≤1000000){ρ:Type}(k:Bool→Option ρ) :
    br (decide (w≥(1:Int))) (br (decide (w≤(24:Int))) (br (decide (c≥(0:Int))) (br (decide (w=(0:Int))) none
     (k (decide (c≤Ad.wrap ((Ad.wrap ((↑n:Int)*(8:Int))).tdiv w))))) (k false)) (k false)) (k false)=k (decide (Such n w c)):=by
 by_cases h1:w≥1
 ·by_cases h2:w≤24
  ·by_cases h3:c≥0
   ·rw[bf h1,bf h2,bf h3,dh (by omega)]
    congr 1
    have e0:((n:Int)*8).tdiv w=(n:Int)*8/w:=Bo (by omega)
    have e1:(n:Int)*8/w≤n*8:=Int.ediv_le_self _ (by omega)
    have e2:0≤(n:Int)*8/w:=Int.ediv_nonneg (by omega) (by omega)
    rw[nu (x:=(n:Int)*8) (by omega) (by omega),e0,nu (by omega) (by omega)]
    apply decide_eq_decide.2
    rw[Int.le_ediv_iff_mul_le (by omega)]
    unfold Such
    omega
   ·rw[bf h1,bf h2,dh h3,decide_eq_false (fun h=>h3 h.2.2.1)]
  ·rw[bf h1,dh h2,decide_eq_false (fun h=>h2 h.2.1)]
 ·rw[dh h1,decide_eq_false (fun h=>h1 h.1)]
theorem ad8(b:List Int)(w c:Int)(hn:b.length≤1000000){ρ:Type}(k:Bool→Option ρ):P.ad8 b w c k=k (decide (Such b.length w c)):=by
 rw[P.aze];exact btk b.length w c hn k
theorem ag1(b:List Int)(w c:Int)(hn:b.length≤1000000){ρ:Type}(k:Bool→Option ρ):P.ag1 b w c k=k (decide (Such b.length w c)):=by
 rw[P.bcx];exact btk b.length w c hn k
theorem fdiv_pow(a n m:Nat)(h:n≤m):(a:Int).fdiv ((2:Int)^min n m)=((a/2^n:Nat):Int):=by
 rw[Br h,show ((2:Int)^n)=((2^n:Nat):Int) by simp,←Int.ofNat_fdiv]
theorem mul_pow(a n m:Nat)(h:n≤m):(a:Int)*((2:Int)^min n m)=((a*2^n:Nat):Int):=by
 rw[Br h,show ((2:Int)^n)=((2^n:Nat):Int) by simp,←Int.natCast_mul]
theorem aik(a:Nat)(h:a<18446744073709551616):Ab.wrap (a:Int)=(a:Int):=by rw[bo9];omega
theorem bq1(a:Nat)(h:a<4294967296):Ar.wrap (a:Int)=(a:Int):=by rw[b4j];omega
theorem u8n(a:Nat)(h:a<256):Ca.wrap (a:Int)=(a:Int):=by rw[u8m];omega
theorem bpa{a b:Nat}(h:a≤b):2^a≤2^b:=Nat.pow_le_pow_right (by omega) h
theorem bv9(w:Nat)(h:w≤24):Ab.wrap (Ab.wrap ((1:Int)*(2:Int)^min w 64)-(1:Int))=((2^w-1:Nat):Int):=by
 have h1:=p2 w
 have h2:2^w≤2^24:=bpa h
 rw[show (1:Int)=((1:Nat):Int) from rfl,mul_pow 1 w 64 (by omega),aik _ (by omega),show ((1*2^w:Nat):Int)-((1:Nat):Int)=((2^w-1:Nat):Int) by omega,aik _ (by omega)]
theorem bpy(x w:Nat)(hx:x<18446744073709551616)(h:w≤24):bits .and .u64 (x:Int) (Ab.wrap (Ab.wrap ((1:Int)*(2:Int)^min w 64)-(1:Int)))=((x%2^w:Nat):Int):=by
 have h2:2^w≤2^24:=bpa h
 rw[bv9 w h,aou _ _ hx (by omega),Bj]
def abv(n:Nat):Nat:=(n+7)/8
theorem bnn(n:Nat):n≤8*abv n:=by unfold abv;omega
theorem bn2(n:Nat):8*abv n<n+8:=by unfold abv;omega
theorem byte_at{b:List Int}(hb:In 256 b)(t:Nat):∃x:Nat,b.getD t 0=(x:Int)∧x<256∧x=(b.getD t 0).toNat%2^8:=by
 have:=hb.getD t (by omega)
 exact ⟨(b.getD t 0).toNat,by omega,by omega,by omega⟩
end Q
end

section
/- Words of 32 and of 64 bits. -/
namespace Q
open Go Go.Abs
set_option linter.unusedVariables false
set_option linter.unusedSimpArgs false
theorem ofI{w:Nat}(x:BitVec w):Aa w (x.toNat:Int)=x:=by simp
theorem az0(x:BitVec 32):x.toNat<4294967296:=x.isLt
theorem bu6(x:BitVec 64):x.toNat<18446744073709551616:=x.isLt
theorem bhd(x y:BitVec 32):bits .xor .u32 (x.toNat:Int) (y.toNat:Int)=((x ^^^ y).toNat:Int):=by
 have e:bits .xor .u32 (x.toNat:Int) (y.toNat:Int)=Ar.wrap ((Aa 32 (x.toNat:Int) ^^^ Aa 32 (y.toNat:Int)).toNat:Int):=rfl
 rw[e,ofI,ofI,bq1 _ (az0 _)]
theorem ces(x y:BitVec 32):bits .and .u32 (x.toNat:Int) (y.toNat:Int)=((x &&& y).toNat:Int):=by
 have e:bits .and .u32 (x.toNat:Int) (y.toNat:Int)=Ar.wrap ((Aa 32 (x.toNat:Int) &&& Aa 32 (y.toNat:Int)).toNat:Int):=rfl
 rw[e,ofI,ofI,bq1 _ (az0 _)]
theorem chm(x y:BitVec 32):bits .or .u32 (x.toNat:Int) (y.toNat:Int)=((x ||| y).toNat:Int):=by
 have e:bits .or .u32 (x.toNat:Int) (y.toNat:Int)=Ar.wrap ((Aa 32 (x.toNat:Int) ||| Aa 32 (y.toNat:Int)).toNat:Int):=rfl
 rw[e,ofI,ofI,bq1 _ (az0 _)]
theorem add32(x y:BitVec 32):Ar.wrap ((x.toNat:Int)+(y.toNat:Int))=((x+y).toNat:Int):=by
 rw[b4j,Ag];omega
theorem aoy(x y:BitVec 64):bits .xor .u64 (x.toNat:Int) (y.toNat:Int)=((x ^^^ y).toNat:Int):=by
 have e:bits .xor .u64 (x.toNat:Int) (y.toNat:Int)=Ab.wrap ((Aa 64 (x.toNat:Int) ^^^ Aa 64 (y.toNat:Int)).toNat:Int):=rfl
 rw[e,ofI,ofI,aik _ (bu6 _)]
theorem bli(x y:BitVec 64):bits .and .u64 (x.toNat:Int) (y.toNat:Int)=((x &&& y).toNat:Int):=by
 have e:bits .and .u64 (x.toNat:Int) (y.toNat:Int)=Ab.wrap ((Aa 64 (x.toNat:Int) &&& Aa 64 (y.toNat:Int)).toNat:Int):=rfl
 rw[e,ofI,ofI,aik _ (bu6 _)]
theorem b69(x y:BitVec 64):bits .or .u64 (x.toNat:Int) (y.toNat:Int)=((x ||| y).toNat:Int):=by
 have e:bits .or .u64 (x.toNat:Int) (y.toNat:Int)=Ab.wrap ((Aa 64 (x.toNat:Int) ||| Aa 64 (y.toNat:Int)).toNat:Int):=rfl
 rw[e,ofI,ofI,aik _ (bu6 _)]
theorem apw(x y:BitVec 64):Ab.wrap ((x.toNat:Int)+(y.toNat:Int))=((x+y).toNat:Int):=by
 rw[bo9,Ag];omega
theorem by2(x y:Nat)(hx:x<18446744073709551616)(hy:y<18446744073709551616):bits .xor .u64 (x:Int) (y:Int)=((x ^^^ y:Nat):Int):=by
 have:=aoy (Aw 64 x) (Aw 64 y)
 rw[Cm,A8,A8,Bg (by omega),Bg (by omega)] at this
 exact this
/- words of 32 bits as numbers of 64 -/
theorem nlt(x:BitVec 32):x.toNat<18446744073709551616:=by have:=az0 x;omega
theorem bw6(x y:BitVec 32):bits .xor .u64 (x.toNat:Int) (y.toNat:Int)=((x ^^^ y).toNat:Int):=by rw[by2 _ _ (nlt x) (nlt y),Cm]
theorem nand(x y:BitVec 32):bits .and .u64 (x.toNat:Int) (y.toNat:Int)=((x &&& y).toNat:Int):=by rw[aou _ _ (nlt x) (nlt y),Bw]
theorem nor(x y:BitVec 32):bits .or .u64 (x.toNat:Int) (y.toNat:Int)=((x ||| y).toNat:Int):=by rw[bo0 _ _ (nlt x) (nlt y),Cq]
theorem bqy(n:Nat)(h:n<18446744073709551616):bits .and .u64 (n:Int) 4294967295=((n%4294967296:Nat):Int):=by
 rw[show (4294967295:Int)=((2^32-1:Nat):Int) from rfl,aou _ _ h (by omega),Bj]
theorem btx(n:Nat)(h:n<18446744073709551616):bits .and .u64 (n:Int) 18446744073709551615=(n:Int):=by
 rw[show (18446744073709551615:Int)=((2^64-1:Nat):Int) from rfl,aou _ _ h (by omega),Bj,Bg (by omega)]
def rr{w:Nat}(x:BitVec w)(n:Nat):BitVec w:=(x >>> n) ||| (x <<< (w-n))
theorem bb4{w:Nat}(x:BitVec w)(n:Nat):(x >>> n).toNat=x.toNat/2^n:=by rw[BitVec.toNat_ushiftRight,Nat.shiftRight_eq_div_pow]
theorem bas{w:Nat}(x:BitVec w)(n:Nat):(x <<< n).toNat=x.toNat*2^n%2^w:=by rw[BitVec.toNat_shiftLeft,Nat.shiftLeft_eq]
theorem by5(x:BitVec 32)(n:Nat)(h:n≤32):(x.toNat:Int).fdiv ((2:Int)^min n 32)=((x >>> n).toNat:Int):=by rw[fdiv_pow _ _ _ h,bb4]
theorem b90(x:BitVec 32)(n:Nat)(h:n≤32):Ar.wrap ((x.toNat:Int)*(2:Int)^min n 32)=((x <<< n).toNat:Int):=by
 rw[mul_pow _ _ _ h,b4j,bas];omega
theorem bpq(x:BitVec 64)(n:Nat)(h:n≤64):(x.toNat:Int).fdiv ((2:Int)^min n 64)=((x >>> n).toNat:Int):=by rw[fdiv_pow _ _ _ h,bb4]
theorem bxs(x:BitVec 64)(n:Nat)(h:n≤64):Ab.wrap ((x.toNat:Int)*(2:Int)^min n 64)=((x <<< n).toNat:Int):=by
 rw[mul_pow _ _ _ h,bo9,bas];omega
theorem cg2(x:BitVec 32)(n:Nat)(h:n≤64):(x.toNat:Int).fdiv ((2:Int)^min n 64)=((x >>> n).toNat:Int):=by rw[fdiv_pow _ _ _ h,bb4]
theorem nshl(x:BitVec 32)(n:Nat)(h:n≤32):bits .and .u64 (Ab.wrap ((x.toNat:Int)*(2:Int)^min n 64)) 4294967295=((x <<< n).toNat:Int):=by
 have h1:=az0 x
 have h2:2^n≤2^32:=bpa h
 have h3:x.toNat*2^n≤4294967295*2^32:=Bl (by omega) h2
 rw[mul_pow _ _ _ (by omega),aik _ (by omega),bqy _ (by omega),bas]
theorem b3y{w:Nat}(e f g:BitVec w):(e &&& f) ^^^ ((Cv w ^^^ e) &&& g)=g ^^^ (e &&& (f ^^^ g)):=by
 ext i hi
 simp
 cases e[i]<;>cases f[i]<;>cases g[i]<;>rfl
theorem bwi{w:Nat}(a b c:BitVec w):((a &&& b) ^^^ (a &&& c)) ^^^ (b &&& c)=(a &&& b) ||| (c &&& (a ||| b)):=by
 ext i hi
 simp
 cases a[i]<;>cases b[i]<;>cases c[i]<;>rfl
end Q
end

section
/- keccak: 25 words by a function of their number; the program's round and the document's. -/
namespace QK
open Q
open Go Go.Abs
set_option linter.unusedVariables false
set_option linter.unusedSimpArgs false
set_option maxRecDepth 100000
def L25(f:Nat→Int):List Int:=(Ac 25).map f
def X(a b:Int):Int:=bits .xor .u64 a b
def Rl(a:Int)(n:Nat):Int:=bits .or .u64 (Ab.wrap (a*2^min n 64)) (a.fdiv (2^min (64-n) 64))
def cP(f:Nat→Int)(j:Nat):Int:=X (X (X (X (f j) (f (j+5))) (f (j+10))) (f (j+15))) (f (j+20))
def thP(f:Nat→Int)(i:Nat):Int:=X (f i) (X (cP f ((i+4)%5)) (Rl (cP f ((i+1)%5)) 1))
def psT:List Nat:=[0,6,12,18,24,3,9,10,16,22,1,7,13,19,20,4,5,11,17,23,2,8,14,15,21]
def rsT:List Nat:=[0,44,43,21,14,28,20,3,45,61,1,6,25,8,18,27,36,10,15,56,62,55,39,41,2]
def piP(f:Nat→Int)(i:Nat):Int:=bif Nat.beq i 0 then f 0 else Rl (f (psT.getD i 0)) (rsT.getD i 0)
def chP(f:Nat→Int)(i:Nat):Int:=X (f i) (bits .andNot .u64 (f (i/5*5+(i+2)%5)) (f (i/5*5+(i+1)%5)))
def s0(x:Int)(f:Nat→Int)(i:Nat):Int:=bif Nat.beq i 0 then x else f i
theorem bks(n:Nat)(h:n≤1000):∃m,FU=m+n:=⟨FU-n,by have:=bze;omega⟩
theorem cdr(f:Nat→Int)(h1:List Int){ρ:Type}(k:Int→List Int→List Int→List Int→Option ρ) :
    P.afg 0 h1 (L25 f) [0,0,0,0,0] k=k 5 h1 (L25 f) [cP f 0,cP f 1,cP f 2,cP f 3,cP f 4]:=by
 obtain ⟨m,hm⟩:=bks 6 (by omega)
 rw[P.ap1]
 unfold P.akb P.zk3 P.zs3 P.zu3 P.akn lp
 rw[hm]
 kernel_rfl
theorem b31(c:Int)(f:Nat→Int)(h1 h2:List Int){ρ:Type}(k:Int→Int→List Int→List Int→List Int→List Int→Option ρ) :
    P.afk c 0 (L25 f) h1 h2 [cP f 0,cP f 1,cP f 2,cP f 3,cP f 4] k=k c 5 (L25 (thP f)) h1 h2 [cP f 0,cP f 1,cP f 2,cP f 3,cP f 4]:=by
 obtain ⟨m,hm⟩:=bks 6 (by omega)
 rw[P.apx]
 unfold P.aj3 P.zk5 P.zs5 P.zu5 P.ake
 simp only[P.ac5,P.acs,P.zk4,P.zu4,P.acp,P.vw,P.qh,lp,hm];(try delta P.zs4);(try simp only[P.ac5,P.acs,P.zk4,P.zu4,P.acp,P.vw,P.qh,lp,hm]);(try delta P.zs4);(try simp only[P.ac5,P.acs,P.zk4,P.zu4,P.acp,P.vw,P.qh,lp,hm])
 kernel_rfl
theorem rhoP(c:Int)(f:Nat→Int)(h1 h2 h3:List Int){ρ:Type}(k:Int→Int→List Int→Int→List Int→List Int→List Int→List Int→Option ρ) :
    P.ae2 c ((L25 f).getD 1 0) P.bzv 0 h3 h2 h1 (L25 f) k=k c (f 1) P.bzv 24 h3 h2 h1 (L25 (piP f)):=by
 obtain ⟨m,hm⟩:=bks 25 (by omega)
 rw[P.aoe]
 unfold P.ajj P.zk6 P.zs6 P.zu6 P.ajh
 simp only[P.vw,P.qh,lp,hm]
 kernel_rfl
theorem chiP(c:Int)(f:Nat→Int)(h1 h2 h3:List Int){ρ:Type}(k:Int→Int→List Int→List Int→List Int→List Int→Option ρ) :
    P.ae3 c 0 (L25 f) h1 h2 h3 k=k c 25 (L25 (chP f)) h1 h2 h3:=by
 obtain ⟨m,hm⟩:=bks 6 (by omega)
 rw[P.aog]
 unfold P.aje P.zk8 P.zs8 P.zu8 P.ajf
 simp only[P.aco,P.abx,P.zk7,P.zu7,P.abw,lp,hm];(try delta P.zs7);(try simp only[P.aco,P.abx,P.zk7,P.zu7,P.abw,lp,hm]);(try delta P.zs7);(try simp only[P.aco,P.abx,P.zk7,P.zu7,P.abw,lp,hm])
 kernel_rfl
theorem set0(x:Int)(f:Nat→Int):(L25 f).set 0 x=L25 (s0 x f):=by kernel_rfl
theorem ch3(f:Nat→Int):(L25 f).getD 0 0=f 0:=by kernel_rfl
def cR(f:Nat→Int)(j:Nat):Int:=X (X (X (X (X 0 (f j)) (f (j+5))) (f (j+10))) (f (j+15))) (f (j+20))
def thR(f:Nat→Int)(i:Nat):Int:=X (X (f i) (cR f ((i+4)%5))) (Rl (cR f ((i+1)%5)) 1)
def chR(f:Nat→Int)(i:Nat):Int:=X (f i) (bits .and .u64 (X (f (i/5*5+(i+1)%5)) 18446744073709551615) (f (i/5*5+(i+2)%5)))
theorem by9(f:Nat→Int){ρ:Type}(k:List Int→Option ρ):P.aer (L25 f) k=k (L25 (thR f)):=by
 obtain ⟨m,hm⟩:=bks 26 (by omega)
 rw[P.av7]
 unfold P.amg
 simp only[P.ai3,P.ajq,P.bz1,P.b0c,P.ajt,P.ai5,P.ajp,P.bz7,P.b0i,P.aju,P.afh,P.ace,lp,hm];(try delta P.bz4 P.bz2);(try simp only[P.ai3,P.ajq,P.bz1,P.b0c,P.ajt,P.ai5,P.ajp,P.bz7,P.b0i,P.aju,P.afh,P.ace,lp,hm]);(try delta P.bz4 P.bz2);(try simp only[P.ai3,P.ajq,P.bz1,P.b0c,P.ajt,P.ai5,P.ajp,P.bz7,P.b0i,P.aju,P.afh,P.ace,lp,hm])
 kernel_rfl
theorem b8v(f:Nat→Int){ρ:Type}(k:List Int→Option ρ):P.ajs (L25 f) k=k (L25 (piP f)):=by
 obtain ⟨m,hm⟩:=bks 25 (by omega)
 rw[P.bdn]
 unfold P.aqe
 simp only[P.amf,P.aoc,P.bz9,P.b04,P.aoi,P.afh,P.ace,lp,hm];(try delta P.bz8);(try simp only[P.amf,P.aoc,P.bz9,P.b04,P.aoi,P.afh,P.ace,lp,hm]);(try delta P.bz8);(try simp only[P.amf,P.aoc,P.bz9,P.b04,P.aoi,P.afh,P.ace,lp,hm])
 kernel_rfl
theorem chiR(v:Int)(f g:Nat→Int)(h1 h2:List Int){ρ:Type}(k:Int→Int→List Int→List Int→List Int→List Int→Option ρ) :
    P.ama v 0 h2 h1 (L25 g) (L25 f) k=k v 25 h2 h1 (L25 (chR f)) (L25 f):=by
 obtain ⟨m,hm⟩:=bks 26 (by omega)
 rw[P.ax4]
 unfold P.atb P.b6s P.b2x P.cdn P.asl
 simp only[lp,hm]
 kernel_rfl
theorem b5p{ρ:Type}(k:List Int→Option ρ):P.aap k=k P.bp6:=by
 obtain ⟨m,hm⟩:=bks 169 (by omega)
 rw[P.apc]
 unfold P.ah1
 simp only[P.afo,P.afa,P.bz0,P.b07,P.afb,lp,hm];(try delta P.bzz);(try simp only[P.afo,P.afa,P.bz0,P.b07,P.afb,lp,hm]);(try delta P.bzz);(try simp only[P.afo,P.afa,P.bz0,P.b07,P.afb,lp,hm])
 kernel_rfl
end QK
end

section
/- keccak: the program's rounds are the document's. -/
namespace QK
open Q
open Go Go.Abs
set_option linter.unusedVariables false
set_option linter.unusedSimpArgs false
def U64(x:Int):Prop:=0≤x∧x<18446744073709551616
def Ws(f:Nat→Int):Prop:=∀i,U64 (f i)
theorem U64.bv{x:Int}(h:U64 x):∃b:BitVec 64,x=(b.toNat:Int):=by
 obtain ⟨n,rfl⟩:=Ay h.1
 have h2:=h.2
 refine ⟨Aw 64 n,?_⟩
 rw[A8,Bg (by omega)]
theorem bq7(b:BitVec 64):U64 (b.toNat:Int):=by
 have:=bu6 b
 unfold U64
 omega
theorem bzf(a b:BitVec 64):X (a.toNat:Int) (b.toNat:Int)=((a ^^^ b).toNat:Int):=aoy a b
theorem X_U{a b:Int}(ha:U64 a)(hb:U64 b):U64 (X a b):=by
 obtain ⟨x,rfl⟩:=ha.bv
 obtain ⟨y,rfl⟩:=hb.bv
 rw[bzf]
 exact bq7 _
theorem b0m{a:Int}(ha:U64 a):X 0 a=a:=by
 obtain ⟨x,rfl⟩:=ha.bv
 have:=bzf 0 x
 simpa using this
theorem bxy{a b c:Int}(ha:U64 a)(hb:U64 b)(hc:U64 c):X (X a b) c=X a (X b c):=by
 obtain ⟨x,rfl⟩:=ha.bv
 obtain ⟨y,rfl⟩:=hb.bv
 obtain ⟨z,rfl⟩:=hc.bv
 rw[bzf,bzf,bzf,bzf,BitVec.xor_assoc]
theorem b88{a:Int}(ha:U64 a)(n:Nat)(hn:n≤64):U64 (Rl a n):=by
 obtain ⟨x,rfl⟩:=ha.bv
 unfold Rl
 rw[bxs x n hn,bpq x (64-n) (by omega),b69]
 exact bq7 _
theorem bn7(x y:BitVec 64):bits .andNot .u64 (x.toNat:Int) (y.toNat:Int)=((x &&& ~~~y).toNat:Int):=by
 have e:bits .andNot .u64 (x.toNat:Int) (y.toNat:Int)=Ab.wrap ((Aa 64 (x.toNat:Int) &&& ~~~Aa 64 (y.toNat:Int)).toNat:Int):=rfl
 rw[e,ofI,ofI,aik _ (bu6 _)]
theorem byf{a b:Int}(ha:U64 a)(hb:U64 b):bits .and .u64 (X a 18446744073709551615) b=bits .andNot .u64 b a:=by
 obtain ⟨x,rfl⟩:=ha.bv
 obtain ⟨y,rfl⟩:=hb.bv
 have h1:(18446744073709551615:Int)=((Cv 64).toNat:Int):=by decide
 rw[h1,bzf,bli,bn7,BitVec.xor_allOnes,BitVec.and_comm]
theorem bub{a b:Int}(ha:U64 a)(hb:U64 b):U64 (bits .andNot .u64 a b):=by
 obtain ⟨x,rfl⟩:=ha.bv
 obtain ⟨y,rfl⟩:=hb.bv
 rw[bn7]
 exact bq7 _
theorem b6d{f:Nat→Int}(h:Ws f)(j:Nat):U64 (cP f j):=X_U (X_U (X_U (X_U (h _) (h _)) (h _)) (h _)) (h _)
theorem b25{f:Nat→Int}(h:Ws f)(j:Nat):cR f j=cP f j:=by unfold cR cP;rw[b0m (h j)]
theorem b2u{f:Nat→Int}(h:Ws f):Ws (thP f):=fun i=>X_U (h i) (X_U (b6d h _) (b88 (b6d h _) 1 (by omega)))
theorem b55{f:Nat→Int}(h:Ws f):thR f=thP f:=by
 funext i
 unfold thR thP
 rw[b25 h,b25 h,bxy (h i) (b6d h _) (b88 (b6d h _) 1 (by omega))]
theorem ceg(i:Nat):rsT.getD i 0≤64:=by
 by_cases hi:i<25
 ·have:∀i,i<25→rsT.getD i 0≤64:=by decide
  exact this i hi
 ·rw[bhc (by simp[rsT];omega)];omega
theorem b5z{f:Nat→Int}(h:Ws f):Ws (piP f):=fun i=>by
 unfold piP
 cases Nat.beq i 0 with
 | true=>exact h 0
 | false=>exact b88 (h _) _ (ceg i)
theorem b4i{f:Nat→Int}(h:Ws f):chR f=chP f:=by
 funext i
 unfold chR chP
 rw[byf (h _) (h _)]
theorem ca1{f:Nat→Int}(h:Ws f):Ws (chP f):=fun i=>X_U (h i) (bub (h _) (h _))
theorem s0_U{f:Nat→Int}{x:Int}(h:Ws f)(hx:U64 x):Ws (s0 x f):=fun i=>by
 unfold s0
 cases Nat.beq i 0 with
 | true=>exact hx
 | false=>exact h i
def rnd(c:Int)(f:Nat→Int):Nat→Int:=s0 (X (chP (piP (thP f)) 0) c) (chP (piP (thP f)))
theorem cba{f:Nat→Int}{c:Int}(h:Ws f)(hc:U64 c):Ws (rnd c f):=by
 have h2:=ca1 (b5z (b2u h))
 exact s0_U h2 (X_U (h2 0) hc)
def bzd(f:Nat→Int):Nat→Nat→Int
 | 0=>f
 | n+1=>rnd (P.bp6.getD n 0) (bzd f n)
theorem b2c(n:Nat):U64 (P.bp6.getD n 0):=by
 by_cases hn:n<24
 ·have:∀n,n<24→(0≤P.bp6.getD n 0∧P.bp6.getD n 0<18446744073709551616):=by decide +kernel
  exact this n hn
 ·have hl:P.bp6.length=24:=by decide +kernel
  rw[bhc (by omega)]
  exact ⟨by decide,by decide⟩
theorem br6{f:Nat→Int}(h:Ws f):∀n,Ws (bzd f n)
 | 0=>h
 | n+1=>cba (br6 h n) (b2c n)
theorem jk(f:Nat→Int){ρ:Type}(k:List Int→Option ρ):P.jk (L25 f) k=k (L25 (bzd f 24)):=by
 rw[P.amr];unfold P.ag0
 rw[P.asa];unfold P.ams P.zk9 P.zs9 P.zu9
 refine xu (fun i=>(P.bp6,(i:Int),L25 (bzd f i),[(0:Int),0,0,0,0,0,0,0,0,0,0,0,0,0,0,0,0,0,0,0,0,0,0,0,0])) 24 rfl (fun i hi next hn=>?_) (fun next=>?_) (by omega)
 ·simp only[P.ahq,toNat_cast]
  rw[bf (by omega),bf (by omega),bf (by omega),cdr,b31,rhoP,chiP,ch3,set0,nu (by omega) (by omega)]
  exact hn
 ·simp only[P.ahq]
  rw[dh (by omega)]
theorem qw{f:Nat→Int}(h:Ws f){ρ:Type}(k:List Int→Option ρ):P.qw (L25 f) k=k (L25 (bzd f 24)):=by
 rw[P.atf];unfold P.ak5
 rw[b5p,P.ax1];unfold P.ate P.b60 P.b0a P.b80
 refine xu (fun i=>((i:Int),L25 (bzd f i),[(0:Int),0,0,0,0,0,0,0,0,0,0,0,0,0,0,0,0,0,0,0,0,0,0,0,0],P.bp6)) 24 rfl (fun i hi next hn=>?_) (fun next=>?_) (by omega)
 ·have hU:=br6 h i
  simp only[P.al7]
  rw[bf (by omega),by9,b8v,chiR,bf (by omega),bf (by omega),ch3,set0,toNat_cast,nu (by omega) (by omega),b55 hU,b4i (b5z (b2u hU))]
  exact hn
 ·simp only[P.al7]
  rw[dh (by omega)]
theorem bqb(f:Nat→Int):(L25 f).length=25:=by simp[L25]
theorem bw8(l:List Int)(h:l.length=25):l=L25 fun i=>l.getD i 0:=by
 apply Az
 ·rw[bqb,h]
 ·intro i h1 h2
  simp only[L25,Au,Ap]
  exact (getD_lt h1).symm
end QK
end

section
/- bits: Unpack, as the document has it. -/
namespace Q
open Go Go.Abs
set_option linter.unusedVariables false
set_option linter.unusedSimpArgs false
theorem td8(p:Nat):(p:Int).tdiv 8=((p/8:Nat):Int):=by rw[Bo (by omega)];omega
theorem tm8(p:Nat):(p:Int).tmod 8=((p%8:Nat):Int):=by rw[Bp (by omega)];omega
theorem wmul(i w:Nat)(h:w*i≤9223372036854775807):Ad.wrap ((i:Int)*(w:Int))=((w*i:Nat):Int):=by
 rw[←Int.natCast_mul,Dg,nu (by omega) (by omega)]
theorem b2o(x s:Nat)(hx:x<256)(hs:s≤8):bits .and .u8 ((x:Int).fdiv ((2:Int)^min s 8)) 1=((x/2^s%2:Nat):Int):=by
 have:=Nat.div_le_self x (2^s)
 rw[fdiv_pow x s 8 hs,show (1:Int)=((1:Nat):Int) from rfl,b28 _ _ (by omega) (by omega),Nat.and_one_is_mod]
theorem byd(v x:Nat)(hv:v<16777216)(hx:x<2):Ar.wrap (Ar.wrap ((v:Int)*2)+Ar.wrap (x:Int))=((x+2*v:Nat):Int):=by
 rw[bq1 x (by omega),show (v:Int)*2=((v*2:Nat):Int) by omega,bq1 _ (by omega),←Ah,bq1 _ (by omega)];omega
theorem b3v(V h j:Nat):V/2^h%2+2*(V/2^(h+1)%2^j)=V/2^h%2^(j+1):=by
 have:=bts V h 1 j
 rw[Dc j 1];exact this
end Q
end

section
/- bits: Digits. -/
namespace Q
open Go Go.Abs
set_option linter.unusedVariables false
set_option linter.unusedSimpArgs false
def dg(w L N:Nat)(i:Nat):Int:=((N/2^(8*L-w*(i+1))%2^w:Nat):Int)
def tq(b:List Int)(w c:Int):List Int:=if Such b.length w c then (Ac c.toNat).map (dg w.toNat b.length (T 8 b.reverse)) else []
theorem bvc(b:List Int)(t:Nat)(h:t≤b.length):T 8 (b.take t).reverse=T 8 b.reverse/2^(8*(b.length-t)):=by
 rw[List.reverse_take,bex 8 _ _ (by simp)]
theorem bgm(b:List Int)(t:Nat)(h:t<b.length):T 8 (b.take (t+1)).reverse=(b.getD t 0).toNat%2^8+256*T 8 (b.take t).reverse:=by
 rw[←ari b 0 t h,List.reverse_append,List.reverse_singleton,Cw,T]
theorem bus(b:List Int)(q:Nat)(h:q<b.length):(b.getD q 0).toNat%2^8=T 8 b.reverse/2^(8*(b.length-1-q))%2^8:=by
 rw[b4x]
 congr 2
 rw[getD_lt h,getD_lt (by simp;omega),Cz]
 congr 1;omega
theorem ny(b:List Int)(w c:Int)(hb:In 256 b)(hn:b.length≤1000000){ρ:Type}(k:List Int→Option ρ):P.ny b w c k=k (tq b w c):=by
 rw[P.as6]
 unfold P.akc
 rw[ad8 b w c hn,jl]
 unfold tq
 by_cases hs:Such b.length w c
 rotate_left
 ·rw[decide_eq_false hs,wo,if_neg hs]
 rw[decide_eq_true hs,oz,if_pos hs]
 obtain ⟨h1,h2,h3,h4⟩:=hs
 obtain ⟨w,rfl⟩:=Ay (show 0≤w by omega)
 obtain ⟨c,rfl⟩:=Ay h3
 have h4:c*w≤b.length*8:=by exact_mod_cast h4
 have hc:c≤c*w:=Co c (by omega)
 simp only[toNat_cast,Bn]
 simp (disch:=omega) only[bf,dh,je,fq,gu,gy,jl,oz,wo,nu]
 rw[P.axl]
 unfold P.ata P.b7f P.b5o P.b91
 refine xu (fun i=>(b.drop (abv (w*i)),(w:Int),((T 8 (b.take (abv (w*i))).reverse%2^64:Nat):Int),((8*abv (w*i)-w*i:Nat):Int),(c:Int),(i:Int),((Ac i).map (dg w b.length (T 8 b.reverse)))++Af (c-i) 0)) c (by simp[abv,T,bsw]) (fun i hi next hn'=>?_) (fun next=>?_) (by omega)
 ·have hwi:w*(i+1)=w*i+w:=Cb w i
  have hwc:w*(i+1)≤b.length*8:=Nat.le_trans (Bl (Cg w) hi) (by rw[Dg];exact h4)
  have c1:=bnn (w*i)
  have c2:=bn2 (w*i)
  have c3:=bnn (w*(i+1))
  have c4:=bn2 (w*(i+1))
  have c5:abv (w*i)≤abv (w*(i+1)):=by unfold abv;omega
  simp only[P.al8]
  rw[bf (by omega),P.axa]
  unfold P.asr P.b6x P.b1l P.b8h
  refine xu (fun j=>(b.drop (abv (w*i)+j),(w:Int),((T 8 (b.take (abv (w*i)+j)).reverse%2^64:Nat):Int),((8*(abv (w*i)+j)-w*i:Nat):Int),(i:Int),(c:Int),(i:Int),((Ac i).map (dg w b.length (T 8 b.reverse)))++Af (c-i) 0)) (abv (w*(i+1))-abv (w*i)) rfl (fun j hj next2 hn2=>?_) (fun next2=>?_) (by omega)
  ·have ht:abv (w*i)+j<b.length:=by omega
   obtain ⟨x,hx,hx2,hx3⟩:=byte_at hb (abv (w*i)+j)
   have est:=bgm b (abv (w*i)+j) ht
   rw[←hx3] at est
   simp only[P.aml,List.length_drop,toNat_cast]
   rw[List.take_of_length_le (l:=b.drop (abv (w*i)+j)) (by simp),List.drop_drop]
   have e0:(b.drop (abv (w*i)+j)).getD 0 0=(x:Int):=by
    rw[←hx,ae5 b 0 _ ht];rfl
   have e1:Ab.wrap (((T 8 (b.take (abv (w*i)+j)).reverse%2^64:Nat):Int)*2^8)=((T 8 (b.take (abv (w*i)+j)).reverse%2^56*2^8:Nat):Int):=by
    rw[bo9];omega
   rw[e0,e1,aik x (by omega),bo0 _ _ (by omega) (by omega),bm8 _ _ _ (by omega)]
   simp (disch:=omega) only[bf,dh,je,fq,gu,gy,jl,oz,wo,nu]
   rw[C8,show ((8*(abv (w*i)+j)-w*i:Nat):Int)+8=((8*(abv (w*i)+(j+1))-w*i:Nat):Int) by omega,
    show T 8 (b.take (abv (w*i)+j)).reverse%2^56*2^8+x=T 8 (b.take (abv (w*i)+(j+1))).reverse%2^64 by rw[←C8,est];omega]
   exact hn2
  ·have et:abv (w*i)+(abv (w*(i+1))-abv (w*i))=abv (w*(i+1)):=by omega
   simp only[P.aml,toNat_cast]
   rw[et,dh (by omega),show ((8*abv (w*(i+1))-w*i:Nat):Int)-(w:Int)=((8*abv (w*(i+1))-w*(i+1):Nat):Int) by omega,
    nu (x:=((8*abv (w*(i+1))-w*(i+1):Nat):Int)) (by omega) (by omega)]
   simp only[toNat_cast]
   have hq:T 8 (b.take (abv (w*(i+1)))).reverse%2^64/2^(8*abv (w*(i+1))-w*(i+1))<18446744073709551616:=by
    have:=Nat.div_le_self (T 8 (b.take (abv (w*(i+1)))).reverse%2^64) (2^(8*abv (w*(i+1))-w*(i+1)))
    omega
   rw[fdiv_pow _ _ 64 (by omega),bpy _ w hq (by omega),bk5 _ _ _ _ (by omega)]
   have hw2:2^w≤2^24:=bpa (by omega)
   have hmod:=Cy (T 8 (b.take (abv (w*(i+1)))).reverse/2^(8*abv (w*(i+1))-w*(i+1))) (p2 w)
   rw[bq1 _ (by omega)]
   have ed:((T 8 (b.take (abv (w*(i+1)))).reverse/2^(8*abv (w*(i+1))-w*(i+1))%2^w:Nat):Int)=dg w b.length (T 8 b.reverse) i:=by
    unfold dg
    rw[bvc b _ (by omega),Bu,←Bf]
    congr 4;omega
   rw[ed]
   simp only[Ci,Am,Aj,Bn]
   simp (disch:=omega) only[bf,dh,je,fq,gu,gy,jl,oz,wo,nu]
   rw[bkb _ _ _ hi]
   exact hn'
 ·simp only[P.al8]
  rw[dh (by omega),Bh]
  simp
theorem qd(b:List Int)(w c:Int)(hb:In 256 b)(hn:b.length≤1000000){ρ:Type}(k:List Int→Option ρ):P.qd b w c k=k (tq b w c):=by
 rw[P.avc]
 unfold P.al1
 rw[ag1 b w c hn,jl]
 unfold tq
 by_cases hs:Such b.length w c
 rotate_left
 ·rw[decide_eq_false hs,wo,if_neg hs]
 rw[decide_eq_true hs,oz,if_pos hs]
 obtain ⟨h1,h2,h3,h4⟩:=hs
 obtain ⟨w,rfl⟩:=Ay (show 0≤w by omega)
 obtain ⟨c,rfl⟩:=Ay h3
 have h4:c*w≤b.length*8:=by exact_mod_cast h4
 have hc:c≤c*w:=Co c (by omega)
 simp only[toNat_cast]
 rw[P.azv]
 unfold P.avn P.b6c P.b5c P.cb7
 refine xu (fun i=>(b,(w:Int),(c:Int),(i:Int),(Ac i).map (dg w b.length (T 8 b.reverse)))) c (by simp) (fun i hi next hn'=>?_) (fun next=>?_) (by omega)
 ·have hwi:w*(i+1)=w*i+w:=Cb w i
  have hwc:w*(i+1)≤b.length*8:=Nat.le_trans (Bl (Cg w) hi) (by rw[Dg];exact h4)
  simp only[P.an1]
  rw[bf (by omega),P.azq]
  unfold P.avx P.b63 P.b5b P.cc4
  refine xu (fun j=>(b,(w:Int),(c:Int),(i:Int),((T 8 b.reverse/2^(8*b.length-(w*i+j))%2^j:Nat):Int),(j:Int),(Ac i).map (dg w b.length (T 8 b.reverse)))) w (by simp[Nat.mod_one]) (fun j hj next2 hn2=>?_) (fun next2=>?_) (by omega)
  ·obtain ⟨x,hx,hx2,hx3⟩:=byte_at hb ((w*i+j)/8)
   simp only[P.anu]
   rw[wmul i w (by omega),←Ah,nu (x:=((w*i+j:Nat):Int)) (by omega) (by omega),td8,tm8,nu (x:=(((w*i+j)/8:Nat):Int)) (by omega) (by omega),
    show (7:Int)-(((w*i+j)%8:Nat):Int)=((7-(w*i+j)%8:Nat):Int) by omega,nu (x:=((7-(w*i+j)%8:Nat):Int)) (by omega) (by omega)]
   simp only[toNat_cast]
   have hv:=Cy (T 8 b.reverse/2^(8*b.length-(w*i+j))) (p2 j)
   have hv2:2^j≤2^24:=bpa (by omega)
   rw[hx,b2o x _ hx2 (by omega),byd _ _ (by omega) (by omega),hx3,bus b _ (by omega)]
   have e:=bl4 (T 8 b.reverse) (8*(b.length-1-(w*i+j)/8)) 8 (7-(w*i+j)%8) 1 (by omega)
   rw[Nat.pow_one,show 8*(b.length-1-(w*i+j)/8)+(7-(w*i+j)%8)=8*b.length-(w*i+(j+1)) by omega] at e
   rw[e,show 8*b.length-(w*i+j)=8*b.length-(w*i+(j+1))+1 by omega,b3v]
   simp (disch:=omega) only[bf,dh,je,fq,gu,gy,jl,oz,wo,nu]
   exact hn2
  ·simp only[P.anu,Am,Aj]
   simp (disch:=omega) only[bf,dh,je,fq,gu,gy,jl,oz,wo,nu]
   have ed:((T 8 b.reverse/2^(8*b.length-(w*i+w))%2^w:Nat):Int)=dg w b.length (T 8 b.reverse) i:=by unfold dg;rw[hwi]
   rw[ed,ae6]
   exact hn'
 ·simp only[P.an1]
  rw[dh (by omega)]
end Q
end

section
/- bits: numbers as bytes and back. -/
namespace Q
open Go Go.Abs
set_option linter.unusedVariables false
set_option linter.unusedSimpArgs false
theorem bvw(w n m X:Nat)(hm:m≤n)(hX:X<2^(w*m)):bsw w m X++Af (n-m) 0=bsw w n X:=by
 refine Az (by simp;omega) (fun i h1 h2=>?_)
 have hi:i<n:=by simpa using h2
 rw[←getD_lt (d:=0) h2,bns _ _ _ _ hi]
 by_cases him:i<m
 ·rw[List.getElem_append_left (by simpa using him),←getD_lt (d:=0),bns _ _ _ _ him]
 ·rw[List.getElem_append_right (by simp;omega),List.getElem_replicate,Cn]
  ·rfl
  ·exact Nat.lt_of_lt_of_le hX (bpa (Bl (Cg _) (by omega)))
theorem ahv(N s:Nat)(hN:N<18446744073709551616)(hs:s≤65536){ρ:Type}(k:List Int→Option ρ):P.ahv (N:Int) (s:Int) k=k (bsw 8 s N):=by
 rw[P.bga]
 unfold P.auc
 have em:(bif decide ((8:Int)<(s:Int)) then (8:Int) else (s:Int))=((min s 8:Nat):Int):=by
  by_cases h:(8:Int)<(s:Int)
  ·rw[decide_eq_true h];simp only[cond_true];omega
  ·rw[decide_eq_false h];simp only[cond_false];omega
 simp only[toNat_cast]
 rw[em]
 simp (disch:=omega) only[bf,dh,je,fq,gu,gy,jl,oz,wo,nu]
 rw[P.bhe]
 unfold P.be5 P.b7k P.zs12 P.cao
 refine xu (fun i=>((N:Int),((min s 8:Nat):Int),(i:Int),bsw 8 i N++Af (s-i) 0)) (min s 8) (by simp[bsw]) (fun i hi next hn'=>?_) (fun next=>?_) (by omega)
 ·simp only[P.axh,Ci,ab5,Bn,toNat_cast]
  rw[show (8:Int)*(i:Int)=((8*i:Nat):Int) by omega,nu (x:=((8*i:Nat):Int)) (by omega) (by omega)]
  simp only[toNat_cast]
  rw[fdiv_pow N _ 64 (by omega),u8m]
  simp (disch:=omega) only[bf,dh,je,fq,gu,gy,jl,oz,wo,nu]
  rw[Ao _ _ (by simp),ab5,Bh,show s-i=(s-(i+1))+1 by omega,Bq,A9]
  rw[bg7,Bc,Cw] at hn'
  exact hn'
 ·simp only[P.axh]
  rw[dh (by omega)]
  by_cases h:s≤8
  ·rw[Br h,Bh];simp
  ·rw[Nat.min_eq_right (by omega),bvw 8 s 8 N (by omega) (by omega)]
theorem btl{f:Nat→Int}(n q:Nat)(v:Int):((Ac n).map f).set q v=(Ac n).map (fun j=>if j=q then v else f j):=by
 refine Az (by simp) (fun i h1 h2=>?_)
 simp only[List.getElem_set,Au,Ap]
 by_cases h:q=i
 ·rw[if_pos h,if_pos h.symm]
 ·rw[if_neg h,if_neg (fun e=>h e.symm)]
theorem bnj{f:Nat→Int}(n q:Nat)(h:q<n):((Ac n).map f).getD q 0=f q:=by
 rw[getD_lt (by simpa using h)];simp
theorem bui(l:List Int):l=(Ac l.length).map (fun j=>l.getD j 0):=by
 refine Az (by simp) (fun i h1 h2=>?_)
 simp only[Au,Ap]
 rw[getD_lt h1]
theorem xq(N s:Nat)(hN:N<18446744073709551616)(hs:s≤65536){ρ:Type}(k:List Int→Option ρ):P.xq (N:Int) (s:Int) k=k (bsw 8 s N).reverse:=by
 rw[P.be0]
 unfold P.auw
 rw[ahv N s hN hs,P.ba1]
 unfold P.ay1 P.b7h P.b36 P.car
 simp only[ab5]
 rw[nu (by omega) (by omega)]
 have hfin:(bsw 8 s N).reverse=(Ac s).map (fun q=>(bsw 8 s N).getD (s-1-q) 0):=by
  refine Az (by simp) (fun i h1 h2=>?_)
  have hi:i<s:=by simpa using h2
  rw[Cz,Au,Ap,getD_lt (by simp;omega)]
  congr 1;simp
 have h0:bsw 8 s N=(Ac s).map (fun q=>if q<0∨s-0≤q then (bsw 8 s N).getD (s-1-q) 0 else (bsw 8 s N).getD q 0):=by
  have e:=bui (bsw 8 s N)
  rw[ab5] at e
  refine e.trans (Cc (fun q hq=>?_))
  have:=Cx.1 hq
  rw[if_neg (by omega)]
 generalize bsw 8 s N=l at h0 hfin
 refine xu (fun i=>((i:Int),(s:Int)-1-(i:Int),(Ac s).map (fun q=>if q<i∨s-i≤q then l.getD (s-1-q) 0 else l.getD q 0))) (s/2) (by rw[←h0];simp) (fun i hi next hn'=>?_) (fun next=>?_) (by omega)
 ·simp only[P.aq6,Am,Aj,List.length_set]
  rw[show (s:Int)-1-(i:Int)=((s-1-i:Nat):Int) by omega]
  simp only[toNat_cast]
  rw[bnj _ _ (by omega),bnj _ _ (by omega),if_neg (by omega),if_neg (by omega),btl,btl]
  have e:(Ac s).map (fun q=>if q<i+1∨s-(i+1)≤q then l.getD (s-1-q) 0 else l.getD q 0)=(Ac s).map (fun j=>if j=s-1-i then l.getD i 0 else if j=i then l.getD (s-1-i) 0 else if j<i∨s-i≤j then l.getD (s-1-j) 0 else l.getD j 0):=by
   refine Cc (fun q hq=>?_)
   have:=Cx.1 hq
   by_cases a1:q=s-1-i
   ·subst a1;rw[if_pos (by omega),if_pos rfl];congr 1;omega
   ·rw[if_neg a1]
    by_cases a2:q=i
    ·subst a2;rw[if_pos (by omega),if_pos rfl]
    ·rw[if_neg a2]
     by_cases a3:q<i∨s-i≤q
     ·rw[if_pos (by omega),if_pos a3]
     ·rw[if_neg (by omega),if_neg a3]
  rw[e] at hn'
  simp (disch:=omega) only[bf,dh,je,fq,gu,gy,jl,oz,wo,nu]
  rw[show ((s-1-i:Nat):Int)-1=(s:Int)-1-((i+1:Nat):Int) by omega]
  exact hn'
 ·simp only[P.aq6]
  rw[dh (by omega),hfin]
  congr 1
  refine Cc (fun q hq=>?_)
  have:=Cx.1 hq
  by_cases a3:q<s/2∨s-s/2≤q
  ·rw[if_pos a3]
  ·rw[if_neg a3];congr 1;omega
theorem uy(b:List Int)(hb:In 256 b)(hn:b.length≤1000000){ρ:Type}(k:Int→Option ρ):P.uy b k=k ((T 8 b.reverse%2^64:Nat):Int):=by
 rw[P.bdh]
 unfold P.aq3
 rw[P.bdv]
 unfold P.ba3 P.b7x P.b5t P.ca9
 refine xu (fun i=>(((T 8 (b.take i).reverse%2^64:Nat):Int),b,(b.length:Int),(i:Int))) b.length (by simp[T]) (fun i hi next hn'=>?_) (fun next=>?_) (by omega)
 ·obtain ⟨x,hx,hx2,hx3⟩:=byte_at hb i
  have est:=bgm b i hi
  rw[←hx3] at est
  simp only[P.aui,toNat_cast]
  have e1:Ab.wrap (((T 8 (b.take i).reverse%2^64:Nat):Int)*2^8)=((T 8 (b.take i).reverse%2^56*2^8:Nat):Int):=by
   rw[bo9];omega
  rw[hx,e1,aik x (by omega),bo0 _ _ (by omega) (by omega),bm8 _ _ _ (by omega),
   show T 8 (b.take i).reverse%2^56*2^8+x=T 8 (b.take (i+1)).reverse%2^64 by rw[est];omega]
  simp (disch:=omega) only[bf,dh,je,fq,gu,gy,jl,oz,wo,nu]
  exact hn'
 ·simp only[P.aui]
  rw[dh (by omega),Bz]
end Q
end

section
/- keccak: what is taken up, what is given out. -/
namespace QK
open Q
open Go Go.Abs
set_option linter.unusedVariables false
set_option linter.unusedSimpArgs false
def W25(w:List Int):Prop:=w.length=25∧In 18446744073709551616 w
theorem W25.ws{w:List Int}(h:W25 w):Ws fun i=>w.getD i 0:=fun i=>h.2.getD i (by omega)
theorem ca3{f:Nat→Int}(h:Ws f):W25 (L25 f):=⟨bqb f,fun x hx=>by
 simp only[L25,C9] at hx
 obtain ⟨i,_,rfl⟩:=hx
 exact h i⟩
def perm(w:List Int):List Int:=L25 (bzd (fun i=>w.getD i 0) 24)
theorem bqd{w:List Int}(h:W25 w):W25 (perm w):=ca3 (br6 h.ws 24)
theorem bqs{w:List Int}(h:W25 w){ρ:Type}(k:List Int→Option ρ):P.jk w k=k (perm w):=by
 have:=jk (fun i=>w.getD i 0) k
 rw[←bw8 w h.1] at this
 exact this
theorem bra{w:List Int}(h:W25 w){ρ:Type}(k:List Int→Option ρ):P.qw w k=k (perm w):=by
 have:=qw h.ws k
 rw[←bw8 w h.1] at this
 exact this
def pt(w:List Int)(a:Nat)(c:Int):List Int:=w.set (a/8) (X (w.getD (a/8) 0) (Ab.wrap (Ab.wrap c*(2:Int)^min (8*(a%8)) 64)))
theorem b0s(x:Int):U64 (Ab.wrap x):=by
 rw[bo9]
 exact ⟨Int.emod_nonneg _ (by omega),Int.emod_lt_of_pos _ (by omega)⟩
theorem bto{w:List Int}(h:W25 w)(a:Nat)(c:Int):W25 (pt w a c):=by
 refine ⟨by unfold pt;rw[List.length_set];exact h.1,fun x hx=>?_⟩
 rcases List.mem_or_eq_of_mem_set hx with hx | rfl
 ·exact h.2 x hx
 ·exact X_U (h.2.getD _ (by omega)) (b0s _)
theorem at8(a:Nat)(h:a<1000000):Ad.wrap ((a:Int).tdiv 8)=((a/8:Nat):Int):=by
 rw[Bo (by omega),nu (by omega) (by omega)]
 omega
theorem am8(a:Nat)(h:a<1000000):Ad.wrap ((8:Int)*(a:Int).tmod 8)=((8*(a%8):Nat):Int):=by
 rw[Bp (by omega),nu (by omega) (by omega)]
 omega
theorem aa0(w:List Int)(a:Nat)(c:Int)(h:a<200){ρ:Type}(k:List Int→Option ρ):P.aa0 w (a:Int) c k=k (pt w a c):=by
 rw[P.be9];unfold P.att
 rw[at8 a (by omega),am8 a (by omega),toNat_cast,toNat_cast]
 simp (disch:=omega) only[bf,dh,je,fq,gu,gy,jl,oz,wo,nu]
 rfl
def Rt(kd:Int)(r:Nat):Prop:=(kd=4∧r=136)∨(kd=5∧r=72)∨(kd=6∧r=168)∨(kd=7∧r=136)
theorem Rt.le{kd:Int}{r:Nat}(h:Rt kd r):72≤r∧r≤168:=by
 rcases h with ⟨_,rfl⟩ | ⟨_,rfl⟩ | ⟨_,rfl⟩ | ⟨_,rfl⟩<;>omega
theorem bep{kd:Int}{r:Nat}(h:Rt kd r){ρ:Type}(k:Int→Option ρ):P.oo kd k=k (r:Int):=by
 rw[P.aso];unfold P.akr
 rcases h with ⟨rfl,rfl⟩ | ⟨rfl,rfl⟩ | ⟨rfl,rfl⟩ | ⟨rfl,rfl⟩<;>simp
theorem bsl{kd:Int}{r:Nat}(h:Rt kd r){ρ:Type}(k:Int→Option ρ):P.ach kd k=k (r:Int):=by
 rw[P.baw];unfold P.aqk
 rcases h with ⟨rfl,rfl⟩ | ⟨rfl,rfl⟩ | ⟨rfl,rfl⟩ | ⟨rfl,rfl⟩<;>simp
def ast(r:Nat)(s:List Int×Nat)(c:Int):List Int×Nat:=if s.2+1=r then (perm (pt s.1 s.2 c),0) else (pt s.1 s.2 c,s.2+1)
def aw6(r:Nat)(s:List Int×Nat)(l:List Int):List Int×Nat:=l.foldl (ast r) s
def Good(r:Nat)(s:List Int×Nat):Prop:=W25 s.1∧s.2<r
theorem bvi{r:Nat}{s:List Int×Nat}(h:Good r s)(c:Int):Good r (ast r s c):=by
 unfold ast Good at *
 split
 ·exact ⟨bqd (bto h.1 _ _),by simp only;omega⟩
 ·exact ⟨bto h.1 _ _,by simp only;omega⟩
theorem ait{r:Nat}:∀(l:List Int) {s:List Int×Nat},Good r s→Good r (aw6 r s l)
 | [],s,h=>h
 | c::l,s,h=>ait l (bvi h c)
theorem bkv(r:Nat)(s:List Int×Nat)(l:List Int)(i:Nat)(hi:i<l.length):aw6 r s (l.take (i+1))=ast r (aw6 r s (l.take i)) (l.getD i 0):=by
 rw[←ari l 0 i hi]
 unfold aw6
 rw[List.foldl_append]
 rfl
theorem bvt(r:Nat)(s:List Int×Nat)(l m:List Int):aw6 r s (l++m)=aw6 r (aw6 r s l) m:=by
 unfold aw6;rw[List.foldl_append]
abbrev Z25:List Int:=[0,0,0,0,0,0,0,0,0,0,0,0,0,0,0,0,0,0,0,0,0,0,0,0,0]
theorem bxi:W25 Z25:=⟨rfl,fun x hx=>by
 have:x=0:=by simpa [Z25] using hx
 subst this
 decide⟩
theorem abz{kd:Int}{r:Nat}(hr:Rt kd r)(w:List Int)(a:Nat)(hg:Good r (w,a))(b:List Int)(hn:b.length<9223372036854775807){ρ:Type}(k:Int→List Int→Int→Bool→Option ρ) :
    P.abz kd w (a:Int) false b k=k kd (aw6 r (w,a) b).1 ((aw6 r (w,a) b).2:Int) false:=by
 have hr2:=hr.le
 rw[P.aw3];unfold P.aly
 rw[wo,P.azw];unfold P.aw2 P.b6i P.b1s P.caj
 refine xu (fun i=>(b,(i:Int),kd,(aw6 r (w,a) (b.take i)).1,((aw6 r (w,a) (b.take i)).2:Int),false,(0:Int),Z25,(0:Int),false)) b.length (by simp[aw6]) (fun i hi next hnx=>?_) (fun next=>?_) (by omega)
 ·have hg2:=ait (b.take i) hg
  rw[bkv r (w,a) b i hi] at hnx
  simp only[P.ant,toNat_cast]
  generalize aw6 r (w,a) (b.take i)=s at hg2 hnx ⊢
  have hlt:=hg2.2
  rw[bf (by omega),bf (by omega),bf (by omega),aa0 _ _ _ (by omega),bsl hr,nu (x:=(s.2:Int)+1) (by omega) (by omega),nu (x:=(i:Int)+1) (by omega) (by omega)]
  unfold ast at hnx
  by_cases he:s.2+1=r
  ·rw[if_pos he] at hnx
   rw[gu (by omega),bra (bto hg2.1 _ _)]
   exact hnx
  ·rw[if_neg he] at hnx
   rw[gy (by omega)]
   exact hnx
 ·simp only[P.ant]
  rw[dh (by omega),Bz]
def sq0(r:Nat)(s:List Int×Nat):List Int×Nat:=if s.2=r then (perm s.1,0) else s
def sqb(s:List Int×Nat):Int:=Ca.wrap ((s.1.getD (s.2/8) 0).fdiv ((2:Int)^min (8*(s.2%8)) 64))
def sqS(r:Nat)(s:List Int×Nat):Nat→List Int×Nat
 | 0=>s
 | n+1=>((sq0 r (sqS r s n)).1,(sq0 r (sqS r s n)).2+1)
def sqB(r:Nat)(s:List Int×Nat)(n:Nat):Int:=sqb (sq0 r (sqS r s n))
def sqO(r:Nat)(s:List Int×Nat)(m:Nat):List Int:=(Ac m).map (sqB r s)
def Gd(r:Nat)(s:List Int×Nat):Prop:=W25 s.1∧s.2≤r
theorem bgg{r:Nat}(hr:1≤r){s:List Int×Nat}(h:Gd r s):∀n,Gd r (sqS r s n)
 | 0=>h
 | n+1=>by
  have ih:=bgg hr h n
  show Gd r ((sq0 r (sqS r s n)).1,(sq0 r (sqS r s n)).2+1)
  revert ih
  generalize sqS r s n=t
  intro ih
  have h2:=ih.2
  unfold sq0
  by_cases he:t.2=r
  ·rw[if_pos he];exact ⟨bqd ih.1,by simp only;omega⟩
  ·rw[if_neg he];exact ⟨ih.1,by simp only;omega⟩
theorem blz(r:Nat)(s:List Int×Nat)(m:Nat):(sqO r s m).length=m:=by simp[sqO]
theorem b0o(r:Nat)(s:List Int×Nat)(m:Nat):In 256 (sqO r s m):=fun x hx=>by
 simp only[sqO,C9] at hx
 obtain ⟨i,_,rfl⟩:=hx
 unfold sqB sqb
 rw[u8m]
 exact ⟨Int.emod_nonneg _ (by omega),Int.emod_lt_of_pos _ (by omega)⟩
theorem bva(r:Nat)(s:List Int×Nat)(i:Nat):sqO r s i++[sqB r s i]=sqO r s (i+1):=ae6 (sqB r s) i
theorem zd:(0:Nat)/8=0:=rfl
theorem zm:min (8*((0:Nat)%8)) 64=0:=rfl
theorem b94{kd:Int}{r:Nat}(hr:Rt kd r)(s:List Int×Nat)(hg:Gd r s)(m:Nat)(hm:m≤100000000)(z:Bool){ρ:Type}(k:Int→Int→List Int→Int→List Int→Int→Bool→Int→List Int→Int→Bool→Option ρ) :
    P.aa7 (m:Int) (r:Int) [] kd s.1 (s.2:Int) z 0 Z25 0 false k=k (m:Int) (r:Int) (sqO r s m) kd (sqS r s m).1 ((sqS r s m).2:Int) z 0 Z25 0 false:=by
 have hr2:=hr.le
 rw[P.avj];unfold P.aqh P.b7d P.b3a P.cdb
 refine xu (fun i=>((m:Int),(r:Int),sqO r s i,kd,(sqS r s i).1,((sqS r s i).2:Int),z,(0:Int),Z25,(0:Int),false)) m (by simp[sqO,sqS]) (fun i hi next hnx=>?_) (fun next=>?_) (by omega)
 ·have hg2:=bgg (by omega) hg i
  rw[←bva] at hnx
  simp only[P.aj4]
  unfold sqB at hnx
  simp only[sqS] at hnx
  have hl:=blz r s i
  generalize sqS r s i=t at hg2 hnx ⊢
  generalize sqO r s i=o at hnx hl ⊢
  have hlt:=hg2.2
  rw[bf (by omega)]
  unfold sq0 sqb at hnx
  by_cases he:t.2=r
  ·rw[if_pos he] at hnx
   rw[gu (by omega),bra hg2.1,bf (by omega),nu (by omega) (by omega)]
   simp only[zd,zm] at hnx
   exact hnx
  ·rw[if_neg he] at hnx
   rw[gy (by omega),at8 _ (by omega),am8 _ (by omega),toNat_cast,toNat_cast,nu (x:=(t.2:Int)+1) (by omega) (by omega)]
   simp (disch:=omega) only[bf,dh,je,fq,gu,gy,jl,oz,wo,nu]
   exact hnx
 ·simp only[P.aj4,blz]
  rw[dh (by omega)]
theorem cau{kd:Int}{r:Nat}(hr:Rt kd r)(s:List Int×Nat)(hg:Gd r s)(m:Nat)(hm:m≤100000000)(z:Bool){ρ:Type}(k:Int→Int→Int→List Int→Int→Bool→Int→List Int→Int→Bool→List Int→Option ρ) :
    P.aei (m:Int) 0 kd s.1 (s.2:Int) z 0 Z25 0 false (Af m 0) k=k (m:Int) (m:Int) kd (sqS r s m).1 ((sqS r s m).2:Int) z 0 Z25 0 false (sqO r s m):=by
 have hr2:=hr.le
 rw[P.asb];unfold P.anb P.b7v P.b1z P.ceh
 refine xu (fun i=>((m:Int),(i:Int),kd,(sqS r s i).1,((sqS r s i).2:Int),z,(0:Int),Z25,(0:Int),false,sqO r s i++Af (m-i) 0)) m (by simp[sqO,sqS]) (fun i hi next hnx=>?_) (fun next=>?_) (by omega)
 ·have hg2:=bgg (by omega) hg i
  have hO:sqO r s (i+1)++Af (m-(i+1)) 0=(sqO r s i++Af (m-i) 0).set i (sqB r s i):=(bkb (sqB r s) i m hi 0).symm
  have hl:(sqO r s i++Af (m-i) 0).length=m:=by simp[sqO];omega
  rw[hO] at hnx
  unfold sqB at hnx
  simp only[sqS] at hnx
  simp only[P.ah0,toNat_cast]
  generalize sqO r s i++Af (m-i) 0=o at hl hnx ⊢
  generalize sqS r s i=t at hg2 hnx ⊢
  have hlt:=hg2.2
  rw[bf (by omega),bep hr]
  unfold sq0 sqb at hnx
  by_cases he:t.2=r
  ·rw[if_pos he] at hnx
   rw[gu (by omega),bqs hg2.1,bf (by omega),bf (by omega),nu (x:=(i:Int)+1) (by omega) (by omega),nu (x:=(0:Int)+1) (by omega) (by omega)]
   simp only[zd,zm] at hnx
   exact hnx
  ·rw[if_neg he] at hnx
   rw[gy (by omega),at8 _ (by omega),am8 _ (by omega),toNat_cast,toNat_cast,nu (x:=(t.2:Int)+1) (by omega) (by omega),nu (x:=(i:Int)+1) (by omega) (by omega)]
   simp (disch:=omega) only[bf,dh,je,fq,gu,gy,jl,oz,wo,nu]
   exact hnx
 ·simp only[P.ah0]
  rw[dh (by omega)]
  simp
end QK
end

section
/- keccak: sums. -/
namespace QK
open Q
open Go Go.Abs
set_option linter.unusedVariables false
set_option linter.unusedSimpArgs false
theorem om{kd:Int}{r:Nat}(hr:Rt kd r)(w:List Int)(a:Nat)(hg:Good r (w,a))(b:List Int)(hn:b.length<9223372036854775807){ρ:Type}(k:Int→List Int→Int→Bool→Option ρ) :
    P.om kd w (a:Int) false b k=k kd (aw6 r (w,a) b).1 ((aw6 r (w,a) b).2:Int) false:=by
 have hr2:=hr.le
 rw[P.apk];unfold P.ag9
 rw[wo,bep hr,P.auo];unfold P.ao0 P.b70 P.b1j P.b93
 refine xu (fun i=>(b,(r:Int),(b.length:Int),(i:Int),kd,(aw6 r (w,a) (b.take i)).1,((aw6 r (w,a) (b.take i)).2:Int),false,(0:Int),Z25,(0:Int),false)) b.length (by simp[aw6]) (fun i hi next hnx=>?_) (fun next=>?_) (by omega)
 ·have hg2:=ait (b.take i) hg
  rw[bkv r (w,a) b i hi] at hnx
  simp only[P.ai0,toNat_cast]
  generalize aw6 r (w,a) (b.take i)=s at hg2 hnx ⊢
  have hlt:=hg2.2
  rw[at8 _ (by omega),am8 _ (by omega),toNat_cast,toNat_cast,nu (x:=(s.2:Int)+1) (by omega) (by omega),nu (x:=(i:Int)+1) (by omega) (by omega)]
  unfold ast at hnx
  by_cases he:s.2+1=r
  ·rw[if_pos he] at hnx
   simp (disch:=omega) only[bf,dh,je,fq,gu,gy,jl,oz,wo,nu]
   exact (bqs (bto hg2.1 _ _) _).trans hnx
  ·rw[if_neg he] at hnx
   simp (disch:=omega) only[bf,dh,je,fq,gu,gy,jl,oz,wo,nu]
   exact hnx
 ·simp only[P.ai0]
  rw[dh (by omega),Bz]
def mark(kd:Int):Int:=if kd=4∨kd=5 then 6 else 31
def trn(kd:Int)(r:Nat)(s:List Int×Nat):List Int:=perm (pt (pt s.1 s.2 (mark kd)) (r-1) 128)
theorem b4z{kd:Int}{r:Nat}{s:List Int×Nat}(h:W25 s.1):W25 (trn kd r s):=bqd (bto (bto h _ _) _ _)
theorem y7{kd:Int}{r:Nat}(hr:Rt kd r)(s:List Int×Nat)(hg:Good r s)(z:Bool){ρ:Type}(k:Int→List Int→Int→Bool→Option ρ) :
    P.y7 kd s.1 (s.2:Int) z k=k kd (trn kd r s) 0 true:=by
 have hr2:=hr.le
 have h2:=hg.2
 have er:(r:Int)-1=((r-1:Nat):Int):=by omega
 rw[P.apo];unfold P.ahb
 rw[at8 _ (by omega),am8 _ (by omega),toNat_cast,toNat_cast]
 rw[bep hr,bep hr,nu (x:=(r:Int)-1) (by omega) (by omega),er,at8 _ (by omega),am8 _ (by omega),toNat_cast,toNat_cast]
 have fin:∀c:Int,(P.jk (pt (pt s.1 s.2 c) (r-1) 128) fun q=>k kd q 0 true)=k kd (perm (pt (pt s.1 s.2 c) (r-1) 128)) 0 true:=fun c=>bqs (bto (bto hg.1 _ _) _ _) _
 unfold trn mark
 by_cases h4:kd=4
 ·rw[if_pos (.inl h4)]
  simp (disch:=omega) only[bf,dh,je,fq,gu,gy,jl,oz,wo,nu]
  exact fin 6
 ·by_cases h5:kd=5
  ·rw[if_pos (.inr h5)]
   simp (disch:=omega) only[bf,dh,je,fq,gu,gy,jl,oz,wo,nu]
   exact fin 6
  ·rw[if_neg (by omega)]
   simp (disch:=omega) only[bf,dh,je,fq,gu,gy,jl,oz,wo,nu]
   exact fin 31
theorem aa1{kd:Int}{r:Nat}(hr:Rt kd r)(s:List Int×Nat)(hg:Good r s)(m:Nat)(hm:m≤100000000){ρ:Type}(k:Int→List Int→Int→Bool→List Int→Option ρ) :
    P.aa1 kd s.1 (s.2:Int) false (m:Int) k=k kd (sqS r (trn kd r s,0) m).1 ((sqS r (trn kd r s,0) m).2:Int) true (sqO r (trn kd r s,0) m):=by
 have hr2:=hr.le
 have h2:=hg.2
 have er:(r:Int)-1=((r-1:Nat):Int):=by omega
 have fin:∀c:Int,mark kd=c→(P.aa0 s.1 (s.2:Int) c fun q1=>P.aa0 q1 (Ad.wrap ((r:Int)-1)) 128 fun q2=>P.qw q2 fun q3=>P.aa7 (m:Int) (r:Int) [] kd q3 0 true 0 Z25 0 false
     fun (q4 q5:Int) (q6:List Int) (q7:Int) (q8:List Int) (q9:Int) (q10:Bool) (q11:Int) (q12:List Int) (q13:Int) (q14:Bool)=>k q7 q8 q9 q10 q6) =
     k kd (sqS r (trn kd r s,0) m).1 ((sqS r (trn kd r s,0) m).2:Int) true (sqO r (trn kd r s,0) m):=by
  intro c hc
  rw[nu (x:=(r:Int)-1) (by omega) (by omega),er,aa0 _ _ _ (by omega),aa0 _ _ _ (by omega),bra (bto (bto hg.1 _ _) _ _)]
  have:=b94 hr (trn kd r s,0) ⟨b4z hg.1,by simp only;omega⟩ m hm true (fun (q4 q5:Int) (q6:List Int) (q7:Int) (q8:List Int) (q9:Int) (q10:Bool) (q11:Int) (q12:List Int) (q13:Int) (q14:Bool)=>k q7 q8 q9 q10 q6)
  unfold trn at this ⊢
  rw[hc] at this ⊢
  exact this
 rw[P.as5];unfold P.aks
 rw[dh (by omega),bsl hr,jl,wo]
 by_cases h4:kd=4
 ·rw[gu h4];exact fin 6 (by unfold mark;rw[if_pos (.inl h4)])
 ·rw[gy h4]
  by_cases h5:kd=5
  ·rw[gu h5];exact fin 6 (by unfold mark;rw[if_pos (.inr h5)])
  ·rw[gy h5];exact fin 31 (by unfold mark;rw[if_neg (by omega)])
theorem pq{kd:Int}{r:Nat}(hr:Rt kd r)(s:List Int×Nat)(hg:Good r s)(m:Nat)(hm:m≤100000000){ρ:Type}(k:Int→List Int→Int→Bool→List Int→Option ρ) :
    P.pq kd s.1 (s.2:Int) false (m:Int) k=k kd (sqS r (trn kd r s,0) m).1 ((sqS r (trn kd r s,0) m).2:Int) true (sqO r (trn kd r s,0) m):=by
 have hr2:=hr.le
 rw[P.ane];unfold P.af7
 rw[dh (by omega),jl,wo,y7 hr s hg,bf (by omega),bf (by omega),bf (by omega),toNat_cast,Bn]
 exact cau hr (trn kd r s,0) ⟨b4z hg.1,by simp only;omega⟩ m hm true _
def rOf(kd:Int):Nat:=if kd=4 then 136 else if kd=5 then 72 else if kd=6 then 168 else 136
theorem bv7{kd:Int}(h:kd=4∨kd=5∨kd=6∨kd=7):Rt kd (rOf kd):=by
 unfold Rt rOf
 rcases h with rfl | rfl | rfl | rfl<;>simp
def btp(kd:Int)(b:List Int)(m:Nat):List Int:=sqO (rOf kd) (trn kd (rOf kd) (aw6 (rOf kd) (Z25,0) b),0) m
theorem bgu(kd:Int)(b:List Int)(m:Nat):(btp kd b m).length=m:=blz _ _ _
theorem bmr(kd:Int)(b:List Int)(m:Nat):In 256 (btp kd b m):=b0o _ _ _
theorem zq{kd:Int}(h:kd=4∨kd=5∨kd=6∨kd=7)(b:List Int)(hn:b.length<9223372036854775807)(m:Nat)(hm:m≤16777216){ρ:Type}(k:List Int→Int→Option ρ):P.zq kd b (m:Int) k=k (btp kd b m) 0:=by
 have hr:=bv7 h
 have hr2:=hr.le
 have hg:Good (rOf kd) (Z25,0):=⟨bxi,by simp only;omega⟩
 rw[P.awl];unfold P.amd
 rw[P.aol];unfold P.ah3
 rw[bep hr,gy (by omega)]
 dsimp only
 rw[fq rfl,dh (by omega),dh (by omega)]
 exact (om hr Z25 0 hg b hn _).trans (pq hr _ (ait b hg) m (by omega) _)
theorem acg{kd:Int}(h:kd=4∨kd=5∨kd=6∨kd=7)(b:List Int)(hn:b.length<9223372036854775807)(m:Nat)(hm:m≤16777216){ρ:Type}(k:List Int→Int→Option ρ):P.acg kd b (m:Int) k=k (btp kd b m) 0:=by
 have hr:=bv7 h
 have hr2:=hr.le
 have hg:Good (rOf kd) (Z25,0):=⟨bxi,by simp only;omega⟩
 rw[P.bgc];unfold P.ato
 rw[P.bd8];unfold P.aub
 rw[bsl hr,gy (by omega)]
 dsimp only
 rw[fq rfl,dh (by omega),dh (by omega)]
 exact (abz hr Z25 0 hg b hn _).trans (aa1 hr _ (ait b hg) m (by omega) _)
end QK
end

section
/- SHA-2: what a block does. -/
namespace Q
open Go Go.Abs
set_option linter.unusedVariables false
set_option linter.unusedSimpArgs false
structure Par (w:Nat) where
 rounds:Nat
 a:Nat×Nat×Nat
 b:Nat×Nat×Nat
 c:Nat×Nat×Nat
 d:Nat×Nat×Nat
 K:Nat→BitVec w
section
variable {w:Nat}
def hi(t:Nat×Nat×Nat)(x:BitVec w):BitVec w:=rr x t.1 ^^^ rr x t.2.1 ^^^ rr x t.2.2
def lo(t:Nat×Nat×Nat)(x:BitVec w):BitVec w:=rr x t.1 ^^^ rr x t.2.1 ^^^ (x >>> t.2.2)
def cv(l:List (BitVec w)):List Int:=l.map fun x=>(x.toNat:Int)
@[simp] theorem aae (l:List (BitVec w)):(cv l).length=l.length:=by simp[cv]
theorem aix(l:List (BitVec w))(i:Nat):(cv l).getD i 0=((l.getD i 0).toNat:Int):=by
 unfold cv
 rw[Ae,Ae,List.getElem?_map]
 cases l[i]?<;>simp
theorem bfr(l:List (BitVec w))(i:Nat)(x:BitVec w):(cv l).set i (x.toNat:Int)=cv (l.set i x):=by simp[cv,List.map_set]
theorem aiq(l r:List (BitVec w)):cv l++cv r=cv (l++r):=by simp[cv]
def bz5(p:Par w)(t:Nat)(wt:BitVec w)(v:List (BitVec w)):BitVec w :=
 v.getD 7 0+hi p.d (v.getD 4 0)+(v.getD 6 0 ^^^ (v.getD 4 0 &&& (v.getD 5 0 ^^^ v.getD 6 0)))+p.K t+wt
def ccr(p:Par w)(v:List (BitVec w)):BitVec w:=hi p.c (v.getD 0 0)+((v.getD 0 0 &&& v.getD 1 0) ||| (v.getD 2 0 &&& (v.getD 0 0 ||| v.getD 1 0)))
def rnd(p:Par w)(t:Nat)(wt:BitVec w)(v:List (BitVec w)):List (BitVec w) :=
 [bz5 p t wt v+ccr p v,v.getD 0 0,v.getD 1 0,v.getD 2 0,v.getD 3 0+bz5 p t wt v,v.getD 4 0,v.getD 5 0,v.getD 6 0]
def b0e(p:Par w)(l:List (BitVec w)):BitVec w:=lo p.b (l.getD (l.length-2) 0)+l.getD (l.length-7) 0+lo p.a (l.getD (l.length-15) 0)+l.getD (l.length-16) 0
def sched(p:Par w)(l:List (BitVec w)):Nat→List (BitVec w)
 | 0=>l
 | n+1=>sched p l n++[b0e p (sched p l n)]
theorem ba2(p:Par w)(l:List (BitVec w)):∀n,(sched p l n).length=l.length+n
 | 0=>rfl
 | n+1=>by simp only[sched,Ci,ba2 p l n,List.length_singleton];omega
theorem bgq(p:Par w)(l:List (BitVec w))(n i:Nat)(hi:i<l.length+n):∀m,(sched p l (n+m)).getD i 0=(sched p l n).getD i 0
 | 0=>rfl
 | m+1=>by
  rw[←C8]
  simp only[sched]
  rw[Ae,List.getElem?_append_left (by rw[ba2];omega),←Ae,bgq p l n i hi m]
def W(p:Par w)(l:List (BitVec w))(t:Nat):BitVec w:=(sched p l t).getD t 0
theorem bwj(p:Par w)(l:List (BitVec w))(hl:0<l.length)(n t:Nat)(h:t<l.length+n):(sched p l n).getD t 0=W p l t:=by
 unfold W
 by_cases hn:n≤t
 ·have:=bgq p l n t h (t-n)
  rw[show n+(t-n)=t by omega] at this
  exact this.symm
 ·have:=bgq p l t t (by omega) (n-t)
  rw[show t+(n-t)=n by omega] at this
  exact this
theorem bnt(p:Par w)(l:List (BitVec w))(hl:l.length=16)(t:Nat):W p l (t+16)=W p l t+lo p.a (W p l (t+1))+W p l (t+9)+lo p.b (W p l (t+14)):=by
 have e:=bwj p l (by omega) (t+1) (t+16) (by omega)
 rw[←e]
 simp only[sched]
 have hlen:=ba2 p l t
 rw[Ae,Bb (by rw[hlen];omega),hlen,show t+16-(l.length+t)=0 by omega]
 simp only[List.getElem?_cons_zero,Option.getD_some]
 unfold b0e
 rw[hlen,show l.length+t-2=t+14 by omega,show l.length+t-7=t+9 by omega,show l.length+t-15=t+1 by omega,show l.length+t-16=t by omega,
  bwj p l (by omega) t _ (by omega),bwj p l (by omega) t _ (by omega),bwj p l (by omega) t _ (by omega),bwj p l (by omega) t _ (by omega)]
 ac_rfl
def runs(p:Par w)(l:List (BitVec w))(v:List (BitVec w)):Nat→List (BitVec w)
 | 0=>v
 | t+1=>rnd p t (W p l t) (runs p l v t)
theorem ar0(p:Par w)(l v:List (BitVec w))(hv:v.length=8):∀t,(runs p l v t).length=8
 | 0=>hv
 | t+1=>rfl
def bwq(p:Par w)(l v:List (BitVec w)):List (BitVec w):=(Ac 8).map fun i=>(runs p l v p.rounds).getD i 0+v.getD i 0
def ou(w:Nat)(b:List Int)(n:Nat):List (BitVec w):=(Ac n).map fun t=>Aw w (T 8 ((b.take ((t+1)*(w/8))).drop (t*(w/8))).reverse)
def bat(p:Par w)(v:List (BitVec w))(b:List Int):List (BitVec w):=bwq p (ou w b 16) v
theorem bo8(p:Par w)(v:List (BitVec w))(b:List Int):(bat p v b).length=8:=by simp[bat,bwq]
theorem bcn(b:List Int)(n:Nat):ou w b (n+1)=ou w b n++[Aw w (T 8 ((b.take ((n+1)*(w/8))).drop (n*(w/8))).reverse)]:=by simp[ou,Av]
theorem vo(b:List Int)(n:Nat):(ou w b n).length=n:=by simp[ou]
def win(p:Par w)(l:List (BitVec w))(t:Nat):List (BitVec w):=(Ac 16).map fun j=>W p l (t+(j+16-t%16)%16)
theorem ayl(p:Par w)(l:List (BitVec w))(t i:Nat)(hi:i<16):(win p l t).getD ((t+i)%16) 0=W p l (t+i):=by
 unfold win
 rw[getD_lt (by simp;omega)]
 simp only[Au,Ap]
 congr 1
 omega
theorem boj(p:Par w)(l:List (BitVec w))(t:Nat):(win p l t).set (t%16) (W p l (t+16))=win p l (t+1):=by
 unfold win
 refine Az (by simp) (fun j h1 h2=>?_)
 simp only[Am,Aj] at h2
 rw[List.getElem_set]
 by_cases h:t%16=j
 ·rw[if_pos h]
  simp only[Au,Ap]
  congr 1
  omega
 ·rw[if_neg h]
  simp only[Au,Ap]
  congr 1
  omega
theorem win_zero(p:Par w)(b:List Int):win p (ou w b 16) 0=ou w b 16:=by
 unfold win
 refine Az (by simp[ou]) (fun j h1 h2=>?_)
 rw[vo] at h2
 simp only[Au,Ap]
 rw[show 0+(j+16-0%16)%16=j by omega,←bwj p _ (by rw[vo];omega) 0 j (by rw[vo];omega)]
 exact getD_lt (by rw[show sched p (ou w b 16) 0=ou w b 16 from rfl,vo];exact h2)
end
theorem bm2:∀x,x∈P.roots256→0≤x∧x<4294967296:=by decide +kernel
theorem bl9:∀x,x∈P.roots512→0≤x∧x<18446744073709551616:=by decide +kernel
def p32:Par 32:=⟨64,(7,18,3),(17,19,10),(2,13,22),(6,11,25),fun t=>Aa 32 (P.roots256.getD t 0)⟩
def p64:Par 64:=⟨80,(1,8,7),(19,61,6),(28,34,39),(14,18,41),fun t=>Aa 64 (P.roots512.getD t 0)⟩
theorem K32(t:Nat):P.roots256.getD t 0=((p32.K t).toNat:Int):=by
 have:=In.getD (m:=4294967296) bm2 t (by omega)
 simp only[p32,Ai]
 omega
theorem K64(t:Nat):P.roots512.getD t 0=((p64.K t).toNat:Int):=by
 have:=In.getD (m:=18446744073709551616) bl9 t (by omega)
 simp only[p64,Ai]
 omega
end Q
end

section
/- SHA-2: the program's engine of 32 bits. -/
namespace Q
open Go Go.Abs
set_option linter.unusedVariables false
set_option linter.unusedSimpArgs false
theorem amc(rd:Int)(t0 t1 t2 t3:List Int)(x:BitVec 32)(m:Int)(n:Nat)(hm:m=(n:Int))(hn:n≤32){ρ:Type}(k:Int→Option ρ) :
    P.dz 32 rd t0 t1 t2 t3 (x.toNat:Int) m k=k ((rr x n).toNat:Int):=by
 subst hm
 rw[P.adf]
 unfold P.aaj
 rw[dh (by omega),nu (by omega) (by omega),dh (by omega),show (32:Int)-(n:Int)=((32-n:Nat):Int) by omega]
 simp only[toNat_cast]
 rw[by5 _ _ hn,b90 _ _ (by omega),chm]
 rfl
theorem br4(rd:Int)(x:BitVec 32){ρ:Type}(k:Int→Option ρ):P.ko 32 rd [7,18,3] [17,19,10] [2,13,22] [6,11,25] (x.toNat:Int) 3 k=k ((hi p32.d x).toNat:Int):=by
 rw[P.abu]
 unfold P.zl
 simp only[Ak,Al]
 rw[dh (by decide),dh (by decide),dh (by decide),bf (by decide),amc _ _ _ _ _ _ _ 6 (by rfl) (by omega),amc _ _ _ _ _ _ _ 11 (by rfl) (by omega),amc _ _ _ _ _ _ _ 25 (by rfl) (by omega),bhd,bhd]
 rfl
theorem bsf(rd:Int)(x:BitVec 32){ρ:Type}(k:Int→Option ρ):P.ko 32 rd [7,18,3] [17,19,10] [2,13,22] [6,11,25] (x.toNat:Int) 2 k=k ((hi p32.c x).toNat:Int):=by
 rw[P.abu]
 unfold P.zl
 simp only[Ak,Al]
 rw[dh (by decide),dh (by decide),bf (by decide),amc _ _ _ _ _ _ _ 2 (by rfl) (by omega),amc _ _ _ _ _ _ _ 13 (by rfl) (by omega),amc _ _ _ _ _ _ _ 22 (by rfl) (by omega),bhd,bhd]
 rfl
theorem buu(rd:Int)(x:BitVec 32){ρ:Type}(k:Int→Option ρ):P.mg 32 rd [7,18,3] [17,19,10] [2,13,22] [6,11,25] (x.toNat:Int) 0 k=k ((lo p32.a x).toNat:Int):=by
 rw[P.ab9]
 unfold P.aad
 simp only[Ak,Al]
 rw[bf (by decide),amc _ _ _ _ _ _ _ 7 (by rfl) (by omega),amc _ _ _ _ _ _ _ 18 (by rfl) (by omega),dh (by decide),bhd,show (3:Int).toNat=3 from rfl,by5 _ _ (by omega),bhd]
 rfl
theorem buk(rd:Int)(x:BitVec 32){ρ:Type}(k:Int→Option ρ):P.mg 32 rd [7,18,3] [17,19,10] [2,13,22] [6,11,25] (x.toNat:Int) 1 k=k ((lo p32.b x).toNat:Int):=by
 rw[P.ab9]
 unfold P.aad
 simp only[Ak,Al]
 rw[dh (by decide),bf (by decide),amc _ _ _ _ _ _ _ 17 (by rfl) (by omega),amc _ _ _ _ _ _ _ 19 (by rfl) (by omega),dh (by decide),bhd,show (10:Int).toNat=10 from rfl,by5 _ _ (by omega),bhd]
 rfl
theorem bt5(t:Nat)(h:t<64){ρ:Type}(k:Int→Option ρ):P.qm (t:Int) k=k ((p32.K t).toNat:Int):=by
 rw[P.as3]
 unfold P.aj8
 rw[bf (by omega),bf (by omega),toNat_cast,K32]
theorem v8{w:Nat}(v:List (BitVec w))(hv:v.length=8):v=[v.getD 0 0,v.getD 1 0,v.getD 2 0,v.getD 3 0,v.getD 4 0,v.getD 5 0,v.getD 6 0,v.getD 7 0]:=by
 match v,hv with
 | [a,b,c,d,e,f,g,h],_=>rfl
theorem cir(t:Nat):((t:Nat):Int).tmod 16=((t%16:Nat):Int):=by
 rw[Bp (by omega)];rfl
theorem b27(b:List Int)(hb:In 256 b)(hl:b.length=16*4)(rd:Int)(t0 t1 t2 t3 h1 h2:List Int){ρ:Type}(k0:List Int→Int→Int→Int→Int→List Int→List Int→List Int→List Int→List Int→List Int→List Int→Option ρ) :
    P.abe b 4 0 32 rd t0 t1 t2 t3 h1 h2 (Af 16 0) k0=k0 b 4 16 32 rd t0 t1 t2 t3 h1 h2 (cv (ou 32 b 16)):=by
 rw[P.aiz]
 unfold P.aez P.b59 P.b4m P.cet
 refine xu (fun i=>(b,4,(i:Int),32,rd,t0,t1,t2,t3,h1,h2,cv (ou 32 b i)++Af (16-i) 0)) 16 (by simp[ou,cv]) (fun i hi next hn'=>?_) (fun next=>?_) (by omega)
 ·simp only[P.abf,toNat_cast]
  have e1:Ad.wrap ((i:Int)*4)=((i*4:Nat):Int):=by rw[nu (by omega) (by omega)];omega
  have e2:Ad.wrap (Ad.wrap ((i:Int)+1)*4)=(((i+1)*4:Nat):Int):=by rw[nu (x:=(i:Int)+1) (by omega) (by omega),nu (by omega) (by omega)];omega
  rw[e1,e2]
  simp only[toNat_cast]
  have hlen:((b.take ((i+1)*4)).drop (i*4)).length=4:=by simp;omega
  rw[bf (by omega),bf (by omega),bf (by omega),bf (by omega),uy _ ((hb.take _).drop _) (by omega),bf (by omega),bf (by omega)]
  have e3:Ar.wrap ((T 8 ((b.take ((i+1)*4)).drop (i*4)).reverse%2^64:Nat):Int)=(((Aw 32 (T 8 ((b.take ((i+1)*4)).drop (i*4)).reverse)).toNat:Nat):Int):=by
   rw[b4j,A8];omega
  have e4:Ad.wrap ((i:Int)+1)=((i+1:Nat):Int):=by rw[nu (by omega) (by omega)];omega
  rw[e3,e4]
  have e5:(cv (ou 32 b i)++Af (16-i) (0:Int)).set i (((Aw 32 (T 8 ((b.take ((i+1)*4)).drop (i*4)).reverse)).toNat:Nat):Int)=cv (ou 32 b (i+1))++Af (16-(i+1)) 0:=by
   rw[Ao _ _ (by simp[vo]),aae,vo,Bh,show 16-i=(16-(i+1))+1 by omega,Bq,A9,bcn,←aiq,Bc]
   rfl
  rw[e5]
  exact hn'
 ·simp only[P.abf]
  rw[dh (by omega)]
  simp
theorem bxz(l v:List (BitVec 32))(hv:v.length=8)(h2 h1:List Int){ρ:Type}(k0:Int→Int→List Int→List Int→List Int→Int→Int→List Int→List Int→List Int→List Int→List Int→Option ρ)(hl:l.length=16) :
    P.yw 64 0 (cv (win p32 l 0)) h2 h1 32 64 [7,18,3] [17,19,10] [2,13,22] [6,11,25] (cv v) k0 =
     k0 64 64 (cv (win p32 l 64)) h2 h1 32 64 [7,18,3] [17,19,10] [2,13,22] [6,11,25] (cv (runs p32 l v 64)):=by
 rw[P.ain]
 unfold P.adj P.b7u P.b21 P.ccj
 refine xu (fun t=>(64,(t:Int),cv (win p32 l t),h2,h1,32,64,[7,18,3],[17,19,10],[2,13,22],[6,11,25],cv (runs p32 l v t))) 64 rfl (fun t ht next hn'=>?_) (fun next=>?_) (by omega)
 ·simp only[P.aaz]
  have e1:Ad.wrap ((t:Int)+1)=((t+1:Nat):Int):=by rw[nu (by omega) (by omega)];omega
  have e9:Ad.wrap ((t:Int)+9)=((t+9:Nat):Int):=by rw[nu (by omega) (by omega)];omega
  have e14:Ad.wrap ((t:Int)+14)=((t+14:Nat):Int):=by rw[nu (by omega) (by omega)];omega
  simp only[e1,e9,e14,cir,toNat_cast,aix]
  have g0:=ayl p32 l t 0 (by omega)
  rw[Df] at g0
  rw[g0,ayl p32 l t 1 (by omega),ayl p32 l t 9 (by omega),ayl p32 l t 14 (by omega)]
  have hV:=v8 _ (ar0 p32 l v hv t)
  rw[bf (by omega),bf (by omega),bf (by omega),br4,bt5 t ht,bsf,bf (by omega),bf (by omega),buu,bf (by omega),bf (by omega),bf (by omega),bf (by omega),buk,bf (by omega),bf (by omega)]
  simp only[add32,bhd,ces,chm]
  rw[←bnt p32 l hl t,bfr,boj]
  have hr:cv (runs p32 l v (t+1))=(((Aq 1 (cv (runs p32 l v t))).append (Aq 7 (Aq 7 (Ba 0 (cv (runs p32 l v t))))++Ba (1+min 7 (Aq 7 (Ba 0 (cv (runs p32 l v t)))).length) (cv (runs p32 l v t)))).set 4
      (((runs p32 l v t).getD 3 0+bz5 p32 t (W p32 l t) (runs p32 l v t)).toNat:Int)).set 0 ((bz5 p32 t (W p32 l t) (runs p32 l v t)+ccr p32 (runs p32 l v t)).toNat:Int):=by
   rw[hV]
   rfl
  have h3:((Aq 1 (cv (runs p32 l v t))).append (Aq 7 (Aq 7 (Ba 0 (cv (runs p32 l v t))))++Ba (1+min 7 (Aq 7 (Ba 0 (cv (runs p32 l v t)))).length) (cv (runs p32 l v t)))).getD 4 0=(((runs p32 l v t).getD 3 0).toNat:Int):=by
   rw[hV]
   rfl
  rw[h3,add32]
  rw[hr] at hn'
  exact hn'
 ·simp only[P.aaz]
  rw[dh (by omega)]
  rfl
theorem byb(v u:List (BitVec 32))(hv:v.length=8)(hu:u.length=8)(h2:List Int){ρ:Type}(k0:Int→List Int→List Int→List Int→Option ρ) :
    P.yh 0 (cv v) h2 (cv u) k0=k0 8 (cv v) h2 (cv ((Ac 8).map fun i=>u.getD i 0+v.getD i 0)):=by
 rw[P.aip]
 unfold P.adn P.b7o P.b5i P.cgc
 have hs:∀i,i≤8→(((Ac i).map fun i=>u.getD i 0+v.getD i 0)++u.drop i).length=8:=fun i hi=>by simp;omega
 refine xu (fun i=>((i:Int),cv v,h2,cv (((Ac i).map fun i=>u.getD i 0+v.getD i 0)++u.drop i))) 8 (by simp) (fun i hi next hn'=>?_) (fun next=>?_) (by omega)
 ·simp only[P.aat,toNat_cast,aix]
  have e1:Ad.wrap ((i:Int)+1)=((i+1:Nat):Int):=by rw[nu (by omega) (by omega)];omega
  have e2:(((Ac i).map fun i=>u.getD i 0+v.getD i 0)++u.drop i).getD i 0=u.getD i 0:=by
   rw[Ae,Bb (by simp),Cj,Am,Aj,Ae]
   congr 2
   omega
  rw[e1,e2,add32,bfr]
  have e3:(((Ac i).map fun i=>u.getD i 0+v.getD i 0)++u.drop i).set i (u.getD i 0+v.getD i 0)=((Ac (i+1)).map fun i=>u.getD i 0+v.getD i 0)++u.drop (i+1):=by
   rw[Ao _ _ (by simp),Am,Aj,Bh,Av,Cr,Bc,Bd (by omega),A9]
   rfl
  rw[e3]
  simp (disch:=omega) only[bf,dh,je,fq,gu,gy,jl,oz,wo,nu]
  exact hn'
 ·simp only[P.aat]
  rw[dh (by omega),Bv (by omega),Ct]
  rfl
theorem btb(v:List (BitVec 32))(hv:v.length=8)(b:List Int)(hb:In 256 b)(hl:b.length=16*4){ρ:Type}(k:List Int→Option ρ) :
    P.oh 32 64 [7,18,3] [17,19,10] [2,13,22] [6,11,25] (cv v) b k=k (cv (bat p32 v b)):=by
 rw[P.aew]
 unfold P.aa4
 rw[show Ad.wrap ((32:Int).tdiv 8)=4 from rfl]
 have:=b27 b hb hl 64 [7,18,3] [17,19,10] [2,13,22] [6,11,25] (cv v) (Af 8 0) (fun (q0:List Int) (q1 q2 q3 q4:Int) (q5 q6 q7 q8 q9 q10 q11:List Int) =>
  P.yw q4 (0:Int) q11 q10 q9 q3 q4 q5 q6 q7 q8 q9
   fun (q12 q13:Int) (q14 q15 q16:List Int) (q17 q18:Int) (q19 q20 q21 q22 q23:List Int) =>
   P.yh (0:Int) q16 q15 q23 fun (q24:Int) (q25 q26 q27:List Int)=>k q27)
 refine this.trans ?_
 rw[←win_zero p32,bxz _ v hv _ _ _ (vo b 16),byb v _ hv (ar0 _ _ _ hv _)]
 rfl
end Q
end

section
/- SHA-2: the document's block of words of 32 bits. -/
namespace Q
open Go Go.Abs
set_option linter.unusedVariables false
set_option linter.unusedSimpArgs false
theorem uj(b:List Int)(hb:In 256 b)(hn:b.length≤1000000){ρ:Type}(k:Int→Option ρ):P.uj b k=k ((T 8 b.reverse%2^64:Nat):Int):=by
 rw[P.bft]
 unfold P.aul
 rw[P.bhm]
 unfold P.bfm P.b6r P.b5l P.b76
 refine xu (fun i=>(b,((T 8 (b.take i).reverse%2^64:Nat):Int),(i:Int))) b.length (by simp[T]) (fun i hi next hn'=>?_) (fun next=>?_) (by omega)
 ·obtain ⟨x,hx,hx2,hx3⟩:=byte_at hb i
  have est:=bgm b i hi
  rw[←hx3] at est
  simp only[P.axc,toNat_cast]
  have e1:Ab.wrap (Ab.wrap (((T 8 (b.take i).reverse%2^64:Nat):Int)*256)+Ab.wrap (x:Int))=((T 8 (b.take (i+1)).reverse%2^64:Nat):Int):=by
   rw[bo9,bo9,bo9,est];omega
  rw[hx,e1]
  simp (disch:=omega) only[bf,dh,je,fq,gu,gy,jl,oz,wo,nu]
  exact hn'
 ·simp only[P.axc]
  rw[dh (by omega),Bz]
theorem ap9(x m:Int)(n:Nat)(hm:m=(n:Int))(hn:n≤32):∃q,∀{ρ:Type} (k:Int→Option ρ),P.aa6 x m false k=k q:=by
 subst hm
 refine ⟨bits .or .u64 (x.fdiv ((2:Int)^min ((n:Int)).toNat 64)) (bits .and .u64 (Ab.wrap (x*(2:Int)^min ((32:Int)-(n:Int)).toNat 64)) 4294967295),fun k=>?_⟩
 rw[P.alk]
 unfold P.agw
 rw[wo,dh (by omega),nu (by omega) (by omega),dh (by omega)]
theorem bse(x a b c:Int)(l m n:Nat)(ha:a=(l:Int))(hb:b=(m:Int))(hc:c=(n:Int))(h1:l≤32)(h2:m≤32)(h3:n≤32):∃q,∀{ρ:Type} (k:Int→Option ρ),P.aav x a b c false false k=k q:=by
 obtain ⟨q1,e1⟩:=ap9 x a l ha h1
 obtain ⟨q2,e2⟩:=ap9 x b m hb h2
 obtain ⟨q3,e3⟩:=ap9 x c n hc h3
 refine ⟨bits .xor .u64 (bits .xor .u64 q1 q2) q3,fun k=>?_⟩
 rw[P.ahe]
 unfold P.aea
 rw[dh (by omega),jl,wo,e3,e1,e2]
theorem bor(x a b c:Int)(l m n:Nat)(ha:a=(l:Int))(hb:b=(m:Int))(hc:c=(n:Int))(h1:l≤32)(h2:m≤32)(h3:n≤32):∃q,∀{ρ:Type} (k:Int→Option ρ),P.aav x a b c true false k=k q:=by
 obtain ⟨q1,e1⟩:=ap9 x a l ha h1
 obtain ⟨q2,e2⟩:=ap9 x b m hb h2
 refine ⟨bits .xor .u64 (bits .xor .u64 q1 q2) (x.fdiv ((2:Int)^min c.toNat 64)),fun k=>?_⟩
 rw[P.ahe]
 unfold P.aea
 rw[dh (by omega),jl,oz,e1,e2]
theorem ap6(x:BitVec 32)(m:Int)(n:Nat)(hm:m=(n:Int))(hn:n≤32){ρ:Type}(k:Int→Option ρ):P.aa6 (x.toNat:Int) m false k=k ((rr x n).toNat:Int):=by
 subst hm
 rw[P.alk]
 unfold P.agw
 rw[wo,dh (by omega),nu (by omega) (by omega),dh (by omega),show (32:Int)-(n:Int)=((32-n:Nat):Int) by omega]
 simp only[toNat_cast]
 rw[cg2 _ _ (by omega),nshl _ _ (by omega),nor]
 rfl
theorem bwy(x:BitVec 32)(t:Nat×Nat×Nat)(a b c:Int)(ha:a=(t.1:Int))(hb:b=(t.2.1:Int))(hc:c=(t.2.2:Int))(h1:t.1≤32)(h2:t.2.1≤32)(h3:t.2.2≤32){ρ:Type}(k:Int→Option ρ) :
    P.aav (x.toNat:Int) a b c false false k=k ((hi t x).toNat:Int):=by
 rw[P.ahe]
 unfold P.aea
 rw[dh (by omega),jl,wo,ap6 _ _ _ hc h3,ap6 _ _ _ ha h1,ap6 _ _ _ hb h2,bw6,bw6]
 rfl
theorem bv6(x:BitVec 32)(t:Nat×Nat×Nat)(a b c:Int)(ha:a=(t.1:Int))(hb:b=(t.2.1:Int))(hc:c=(t.2.2:Int))(h1:t.1≤32)(h2:t.2.1≤32)(h3:t.2.2≤32){ρ:Type}(k:Int→Option ρ) :
    P.aav (x.toNat:Int) a b c true false k=k ((lo t x).toNat:Int):=by
 rw[P.ahe]
 unfold P.aea
 rw[dh (by omega),jl,oz,ap6 _ _ _ ha h1,ap6 _ _ _ hb h2,bw6,hc]
 simp only[toNat_cast]
 rw[cg2 _ _ (by omega),bw6]
 rfl
theorem cbm(a b c d:BitVec 32):bits .and .u64 (Ab.wrap (Ab.wrap (Ab.wrap ((a.toNat:Int)+(b.toNat:Int))+(c.toNat:Int))+(d.toNat:Int))) 4294967295=((a+b+c+d).toNat:Int):=by
 have ha:=az0 a
 have hb:=az0 b
 have hc:=az0 c
 have hd:=az0 d
 rw[←Ah,aik _ (by omega),←Ah,aik _ (by omega),←Ah,aik _ (by omega),bqy _ (by omega),Ag,Ag,Ag]
 omega
theorem b8s(a b:BitVec 32):bits .and .u64 (Ab.wrap ((a.toNat:Int)+(b.toNat:Int))) 4294967295=((a+b).toNat:Int):=by
 have ha:=az0 a
 have hb:=az0 b
 rw[←Ah,aik _ (by omega),bqy _ (by omega),Ag]
theorem b77(d a b c e f:BitVec 32):bits .and .u64 (Ab.wrap ((d.toNat:Int)+Ab.wrap (Ab.wrap (Ab.wrap (Ab.wrap ((a.toNat:Int)+(b.toNat:Int))+(c.toNat:Int))+(e.toNat:Int))+(f.toNat:Int)))) 4294967295=((d+(a+b+c+e+f)).toNat:Int):=by
 have hd:=az0 d
 have ha:=az0 a
 have hb:=az0 b
 have hc:=az0 c
 have he:=az0 e
 have hf:=az0 f
 rw[←Ah,aik _ (by omega),←Ah,aik _ (by omega),←Ah,aik _ (by omega),←Ah,aik _ (by omega),←Ah,aik _ (by omega),bqy _ (by omega),Ag,Ag,Ag,Ag,Ag]
 omega
theorem cfe(a b c e f g h:BitVec 32):bits .and .u64 (Ab.wrap (Ab.wrap (Ab.wrap (Ab.wrap (Ab.wrap ((a.toNat:Int)+(b.toNat:Int))+(c.toNat:Int))+(e.toNat:Int))+(f.toNat:Int))+Ab.wrap ((g.toNat:Int)+(h.toNat:Int)))) 4294967295=(((a+b+c+e+f)+(g+h)).toNat:Int):=by
 have ha:=az0 a
 have hb:=az0 b
 have hc:=az0 c
 have he:=az0 e
 have hf:=az0 f
 have hg:=az0 g
 have hh:=az0 h
 rw[←Ah,aik _ (by omega),←Ah,aik _ (by omega),←Ah,aik _ (by omega),←Ah,aik _ (by omega),←Ah (g.toNat),aik _ (by omega),←Ah,aik _ (by omega),bqy _ (by omega),Ag,Ag,Ag,Ag,Ag,Ag]
 omega
theorem b8q(e f g:BitVec 32):bits .xor .u64 (bits .and .u64 (e.toNat:Int) (f.toNat:Int)) (bits .and .u64 (bits .xor .u64 4294967295 (e.toNat:Int)) (g.toNat:Int))=((g ^^^ (e &&& (f ^^^ g))).toNat:Int):=by
 rw[show (4294967295:Int)=((Cv 32).toNat:Int) from rfl,nand,bw6,nand,bw6,b3y]
theorem b5x(a b c:BitVec 32):bits .xor .u64 (bits .xor .u64 (bits .and .u64 (a.toNat:Int) (b.toNat:Int)) (bits .and .u64 (a.toNat:Int) (c.toNat:Int))) (bits .and .u64 (b.toNat:Int) (c.toNat:Int))=(((a &&& b) ||| (c &&& (a ||| b))).toNat:Int):=by
 rw[nand,nand,nand,bw6,bw6,bwi]
def azr(b:List Int)(t:Nat):List (BitVec 32):=(Ac t).map (W p32 (ou 32 b 16))
theorem bd7(b:List Int)(t:Nat):azr b (t+1)=azr b t++[W p32 (ou 32 b 16) t]:=by simp[azr,Av]
theorem bjv(b:List Int)(t:Nat):(azr b t).length=t:=by simp[azr]
theorem awi(b:List Int)(t i:Nat)(h:i<t):(azr b t).getD i 0=W p32 (ou 32 b 16) i:=by
 unfold azr
 rw[getD_lt (by simpa using h)];simp
theorem by3(b:List Int)(t:Nat)(h:t<16):W p32 (ou 32 b 16) t=Aw 32 (T 8 ((b.take ((t+1)*4)).drop (t*4)).reverse):=by
 rw[←bwj p32 _ (by rw[vo];omega) 0 t (by rw[vo];omega),show sched p32 (ou 32 b 16) 0=ou 32 b 16 from rfl,getD_lt (by rw[vo];exact h)]
 simp[ou]
theorem brl(b:List Int)(hb:In 256 b)(hl:b.length=16*4){ρ:Type}(k:List Int→Option ρ):P.adt b false 64 4294967295 k=k (cv (azr b 64)):=by
 rw[P.aqu]
 unfold P.ajn
 rw[wo,P.ap3]
 unfold P.aq4 P.b37 P.bzt P.b7s
 refine xu (fun t=>(b,false,64,4294967295,4,(t:Int),cv (azr b t))) 64 rfl (fun t ht next hn'=>?_) (fun next=>?_) (by omega)
 ·simp only[P.aic,toNat_cast]
  have e1:Ad.wrap ((t:Int)+1)=((t+1:Nat):Int):=by rw[nu (by omega) (by omega)];omega
  rw[bf (by omega)]
  have hlen:=bjv b t
  by_cases h16:t<16
  ·have e2:Ad.wrap ((t:Int)*4)=((t*4:Nat):Int):=by rw[nu (by omega) (by omega)];omega
   have e3:Ad.wrap (Ad.wrap ((t:Int)*4)+4)=(((t+1)*4:Nat):Int):=by rw[e2,nu (by omega) (by omega)];omega
   have hl2:((b.take ((t+1)*4)).drop (t*4)).length=4:=by simp;omega
   rw[bf (by omega),e3,e2,bf (by omega),bf (by omega),bf (by omega)]
   simp only[toNat_cast]
   have hT:=bzx 8 ((b.take ((t+1)*4)).drop (t*4)).reverse
   rw[List.length_reverse,hl2] at hT
   have e4:((T 8 ((b.take ((t+1)*4)).drop (t*4)).reverse%2^64:Nat):Int)=((W p32 (ou 32 b 16) t).toNat:Int):=by
    rw[by3 b t h16,A8,Bg (by omega),Bg (by omega)]
   rw[uj _ ((hb.take _).drop _) (by omega),bf (by rw[aae];omega),e4,e1,show [((W p32 (ou 32 b 16) t).toNat:Int)]=cv [W p32 (ou 32 b 16) t] from rfl,aiq,←bd7]
   exact hn'
  ·have e15:Ad.wrap ((t:Int)-15)=((t-15:Nat):Int):=by rw[nu (by omega) (by omega)];omega
   have e2:Ad.wrap ((t:Int)-2)=((t-2:Nat):Int):=by rw[nu (by omega) (by omega)];omega
   have e7:Ad.wrap ((t:Int)-7)=((t-7:Nat):Int):=by rw[nu (by omega) (by omega)];omega
   have e16:Ad.wrap ((t:Int)-16)=((t-16:Nat):Int):=by rw[nu (by omega) (by omega)];omega
   simp only[e15,e2,e7,e16,toNat_cast,aix,aae,hlen]
   rw[awi b t _ (by omega),awi b t _ (by omega),awi b t _ (by omega),awi b t _ (by omega)]
   rw[dh (by omega),bf (by omega),bf (by omega),bv6 _ p32.a _ _ _ (by rfl) (by rfl) (by rfl) (by decide) (by decide) (by decide),bf (by omega),bf (by omega),bv6 _ p32.b _ _ _ (by rfl) (by rfl) (by rfl) (by decide) (by decide) (by decide),wo]
   have hW:=bnt p32 (ou 32 b 16) (vo b 16) (t-16)
   rw[show t-16+16=t by omega,show t-16+1=t-15 by omega,show t-16+9=t-7 by omega,show t-16+14=t-2 by omega] at hW
   have hW2:lo p32.b (W p32 (ou 32 b 16) (t-2))+W p32 (ou 32 b 16) (t-7)+lo p32.a (W p32 (ou 32 b 16) (t-15))+W p32 (ou 32 b 16) (t-16)=W p32 (ou 32 b 16) t:=by rw[hW];ac_rfl
   rw[bf (by omega),bf (by omega),bf (by omega),bf (by omega),bf (by omega),cbm,hW2,e1,show [((W p32 (ou 32 b 16) t).toNat:Int)]=cv [W p32 (ou 32 b 16) t] from rfl,aiq,←bd7]
   exact hn'
 ·simp only[P.aic]
  rw[dh (by omega)]
theorem bym(b:List Int)(v:List (BitVec 32))(hv:v.length=8)(h0 h1:List Int){ρ:Type}(k0:Bool→Int→Int→Int→List Int→List Int→List Int→List Int→List Int→List Int→Option ρ) :
    P.agj false 64 4294967295 0 h0 h1 P.roots256 P.roots512 (cv (azr b 64)) (cv v) k0=k0 false 64 4294967295 64 h0 h1 P.roots256 P.roots512 (cv (azr b 64)) (cv (runs p32 (ou 32 b 16) v 64)):=by
 rw[P.apg]
 unfold P.anw P.b0n P.bzs P.b7a
 refine xu (fun t=>(false,64,4294967295,(t:Int),h0,h1,P.roots256,P.roots512,cv (azr b 64),cv (runs p32 (ou 32 b 16) v t))) 64 rfl (fun t ht next hn'=>?_) (fun next=>?_) (by omega)
 ·simp only[P.afu]
  have e1:Ad.wrap ((t:Int)+1)=((t+1:Nat):Int):=by rw[nu (by omega) (by omega)];omega
  have hlen:=bjv b 64
  simp only[e1,toNat_cast,aix,aae,hlen]
  rw[awi b 64 t ht,K32]
  rw[bf (by omega),bwy _ p32.c _ _ _ (by rfl) (by rfl) (by rfl) (by decide) (by decide) (by decide),bwy _ p32.d _ _ _ (by rfl) (by rfl) (by rfl) (by decide) (by decide) (by decide),wo]
  rw[bf (by omega),bf (by omega),bf (by omega),bf (by omega),b8q,b5x,cfe,b77]
  exact hn'
 ·simp only[P.afu]
  rw[dh (by omega)]
  rfl
theorem byg(v u:List (BitVec 32))(hv:v.length=8)(hu:u.length=8)(h1:List Int){ρ:Type}(k0:Int→Int→List Int→List Int→List Int→Option ρ) :
    P.ags 4294967295 0 (cv v) h1 (cv u) k0=k0 4294967295 8 (cv v) h1 (cv ((Ac 8).map fun i=>u.getD i 0+v.getD i 0)):=by
 rw[P.apf]
 unfold P.aon P.b2y P.bzw P.b7c
 refine xu (fun i=>(4294967295,(i:Int),cv v,h1,cv (((Ac i).map fun i=>u.getD i 0+v.getD i 0)++u.drop i))) 8 (by simp) (fun i hi next hn'=>?_) (fun next=>?_) (by omega)
 ·simp only[P.agc,toNat_cast,aix]
  have e1:Ad.wrap ((i:Int)+1)=((i+1:Nat):Int):=by rw[nu (by omega) (by omega)];omega
  have e2:(((Ac i).map fun i=>u.getD i 0+v.getD i 0)++u.drop i).getD i 0=u.getD i 0:=by
   rw[Ae,Bb (by simp),Cj,Am,Aj,Ae]
   congr 2
   omega
  rw[e1,e2,b8s,bfr]
  have e3:(((Ac i).map fun i=>u.getD i 0+v.getD i 0)++u.drop i).set i (u.getD i 0+v.getD i 0)=((Ac (i+1)).map fun i=>u.getD i 0+v.getD i 0)++u.drop (i+1):=by
   rw[Ao _ _ (by simp),Am,Aj,Bh,Av,Cr,Bc,Bd (by omega),A9]
   rfl
  rw[e3]
  simp (disch:=omega) only[bf,dh,je,fq,gu,gy,jl,oz,wo,nu]
  exact hn'
 ·simp only[P.agc]
  rw[dh (by omega),Bv (by omega),Ct]
  rfl
theorem bry(v:List (BitVec 32))(hv:v.length=8)(b:List Int)(hb:In 256 b)(hl:b.length=16*4){ρ:Type}(k:List Int→Option ρ):P.ae7 (cv v) b false k=k (cv (bat p32 v b)):=by
 rw[P.aql]
 unfold P.ajw
 have hr1:∀(k:List Int→Option ρ),P.aaq k=k P.roots256:=fun k=>by rw[P.akf];kernel_rfl
 have hr2:∀(k:List Int→Option ρ),P.aar k=k P.roots512:=fun k=>by rw[P.aky];kernel_rfl
 rw[hr1,hr2,wo,brl b hb hl,bym b v hv,byg v _ hv (ar0 _ _ _ hv _)]
 rfl
end Q
end

section
/- SHA-2: the program's engine of 64 bits. -/
namespace Q
open Go Go.Abs
set_option linter.unusedVariables false
set_option linter.unusedSimpArgs false
theorem alz(rd:Int)(t0 t1 t2 t3:List Int)(x:BitVec 64)(m:Int)(n:Nat)(hm:m=(n:Int))(hn:n≤64){ρ:Type}(k:Int→Option ρ) :
    P.eu 64 rd t0 t1 t2 t3 (x.toNat:Int) m k=k ((rr x n).toNat:Int):=by
 subst hm
 rw[P.ade]
 unfold P.aam
 rw[dh (by omega),nu (by omega) (by omega),dh (by omega),show (64:Int)-(n:Int)=((64-n:Nat):Int) by omega]
 simp only[toNat_cast]
 rw[bpq _ _ hn,bxs _ _ (by omega),b69]
 rfl
theorem brp(rd:Int)(x:BitVec 64){ρ:Type}(k:Int→Option ρ):P.ku 64 rd [1,8,7] [19,61,6] [28,34,39] [14,18,41] (x.toNat:Int) 3 k=k ((hi p64.d x).toNat:Int):=by
 rw[P.abp]
 unfold P.zh
 simp only[Ak,Al]
 rw[dh (by decide),dh (by decide),dh (by decide),bf (by decide),alz _ _ _ _ _ _ _ 14 (by rfl) (by omega),alz _ _ _ _ _ _ _ 18 (by rfl) (by omega),alz _ _ _ _ _ _ _ 41 (by rfl) (by omega),aoy,aoy]
 rfl
theorem bth(rd:Int)(x:BitVec 64){ρ:Type}(k:Int→Option ρ):P.ku 64 rd [1,8,7] [19,61,6] [28,34,39] [14,18,41] (x.toNat:Int) 2 k=k ((hi p64.c x).toNat:Int):=by
 rw[P.abp]
 unfold P.zh
 simp only[Ak,Al]
 rw[dh (by decide),dh (by decide),bf (by decide),alz _ _ _ _ _ _ _ 28 (by rfl) (by omega),alz _ _ _ _ _ _ _ 34 (by rfl) (by omega),alz _ _ _ _ _ _ _ 39 (by rfl) (by omega),aoy,aoy]
 rfl
theorem bu3(rd:Int)(x:BitVec 64){ρ:Type}(k:Int→Option ρ):P.mo 64 rd [1,8,7] [19,61,6] [28,34,39] [14,18,41] (x.toNat:Int) 0 k=k ((lo p64.a x).toNat:Int):=by
 rw[P.ab4]
 unfold P.aac
 simp only[Ak,Al]
 rw[bf (by decide),alz _ _ _ _ _ _ _ 1 (by rfl) (by omega),alz _ _ _ _ _ _ _ 8 (by rfl) (by omega),dh (by decide),aoy,show (7:Int).toNat=7 from rfl,bpq _ _ (by omega),aoy]
 rfl
theorem bt8(rd:Int)(x:BitVec 64){ρ:Type}(k:Int→Option ρ):P.mo 64 rd [1,8,7] [19,61,6] [28,34,39] [14,18,41] (x.toNat:Int) 1 k=k ((lo p64.b x).toNat:Int):=by
 rw[P.ab4]
 unfold P.aac
 simp only[Ak,Al]
 rw[dh (by decide),bf (by decide),alz _ _ _ _ _ _ _ 19 (by rfl) (by omega),alz _ _ _ _ _ _ _ 61 (by rfl) (by omega),dh (by decide),aoy,show (6:Int).toNat=6 from rfl,bpq _ _ (by omega),aoy]
 rfl
theorem bv2(t:Nat)(h:t<80){ρ:Type}(k:Int→Option ρ):P.ql (t:Int) k=k ((p64.K t).toNat:Int):=by
 rw[P.as8]
 unfold P.ak0
 rw[bf (by omega),bf (by omega),toNat_cast,K64]
theorem b0h(b:List Int)(hb:In 256 b)(hl:b.length=16*8)(rd:Int)(t0 t1 t2 t3 h1 h2:List Int){ρ:Type}(k0:List Int→Int→Int→Int→Int→List Int→List Int→List Int→List Int→List Int→List Int→List Int→Option ρ) :
    P.abb b 8 0 64 rd t0 t1 t2 t3 h1 h2 (Af 16 0) k0=k0 b 8 16 64 rd t0 t1 t2 t3 h1 h2 (cv (ou 64 b 16)):=by
 rw[P.ai2]
 unfold P.aey P.b6l P.b1o P.b9k
 refine xu (fun i=>(b,8,(i:Int),64,rd,t0,t1,t2,t3,h1,h2,cv (ou 64 b i)++Af (16-i) 0)) 16 (by simp[ou,cv]) (fun i hi next hn'=>?_) (fun next=>?_) (by omega)
 ·simp only[P.abd,toNat_cast]
  have e1:Ad.wrap ((i:Int)*8)=((i*8:Nat):Int):=by rw[nu (by omega) (by omega)];omega
  have e2:Ad.wrap (Ad.wrap ((i:Int)+1)*8)=(((i+1)*8:Nat):Int):=by rw[nu (x:=(i:Int)+1) (by omega) (by omega),nu (by omega) (by omega)];omega
  rw[e1,e2]
  simp only[toNat_cast]
  have hlen:((b.take ((i+1)*8)).drop (i*8)).length=8:=by simp;omega
  rw[bf (by omega),bf (by omega),bf (by omega),bf (by omega),uy _ ((hb.take _).drop _) (by omega),bf (by omega),bf (by omega)]
  have e3:((T 8 ((b.take ((i+1)*8)).drop (i*8)).reverse%2^64:Nat):Int)=(((Aw 64 (T 8 ((b.take ((i+1)*8)).drop (i*8)).reverse)).toNat:Nat):Int):=by
   rw[A8]
  have e4:Ad.wrap ((i:Int)+1)=((i+1:Nat):Int):=by rw[nu (by omega) (by omega)];omega
  rw[e3,e4]
  have e5:(cv (ou 64 b i)++Af (16-i) (0:Int)).set i (((Aw 64 (T 8 ((b.take ((i+1)*8)).drop (i*8)).reverse)).toNat:Nat):Int)=cv (ou 64 b (i+1))++Af (16-(i+1)) 0:=by
   rw[Ao _ _ (by simp[vo]),aae,vo,Bh,show 16-i=(16-(i+1))+1 by omega,Bq,A9,bcn,←aiq,Bc]
   rfl
  rw[e5]
  exact hn'
 ·simp only[P.abd]
  rw[dh (by omega)]
  simp
theorem bzi(l v:List (BitVec 64))(hv:v.length=8)(h2 h1:List Int){ρ:Type}(k0:Int→Int→List Int→List Int→List Int→Int→Int→List Int→List Int→List Int→List Int→List Int→Option ρ)(hl:l.length=16) :
    P.y5 80 0 (cv (win p64 l 0)) h2 h1 64 80 [1,8,7] [19,61,6] [28,34,39] [14,18,41] (cv v) k0 =
     k0 80 80 (cv (win p64 l 80)) h2 h1 64 80 [1,8,7] [19,61,6] [28,34,39] [14,18,41] (cv (runs p64 l v 80)):=by
 rw[P.aii]
 unfold P.ado P.b6z P.b24 P.cbq
 refine xu (fun t=>(80,(t:Int),cv (win p64 l t),h2,h1,64,80,[1,8,7],[19,61,6],[28,34,39],[14,18,41],cv (runs p64 l v t))) 80 rfl (fun t ht next hn'=>?_) (fun next=>?_) (by omega)
 ·simp only[P.aay]
  have e1:Ad.wrap ((t:Int)+1)=((t+1:Nat):Int):=by rw[nu (by omega) (by omega)];omega
  have e9:Ad.wrap ((t:Int)+9)=((t+9:Nat):Int):=by rw[nu (by omega) (by omega)];omega
  have e14:Ad.wrap ((t:Int)+14)=((t+14:Nat):Int):=by rw[nu (by omega) (by omega)];omega
  simp only[e1,e9,e14,cir,toNat_cast,aix]
  have g0:=ayl p64 l t 0 (by omega)
  rw[Df] at g0
  rw[g0,ayl p64 l t 1 (by omega),ayl p64 l t 9 (by omega),ayl p64 l t 14 (by omega)]
  have hV:=v8 _ (ar0 p64 l v hv t)
  rw[bf (by omega),bf (by omega),bf (by omega),brp,bv2 t ht,bth,bf (by omega),bf (by omega),bu3,bf (by omega),bf (by omega),bf (by omega),bf (by omega),bt8,bf (by omega),bf (by omega)]
  simp only[apw,aoy,bli,b69]
  rw[←bnt p64 l hl t,bfr,boj]
  have hr:cv (runs p64 l v (t+1))=(((Aq 1 (cv (runs p64 l v t))).append (Aq 7 (Aq 7 (Ba 0 (cv (runs p64 l v t))))++Ba (1+min 7 (Aq 7 (Ba 0 (cv (runs p64 l v t)))).length) (cv (runs p64 l v t)))).set 4
      (((runs p64 l v t).getD 3 0+bz5 p64 t (W p64 l t) (runs p64 l v t)).toNat:Int)).set 0 ((bz5 p64 t (W p64 l t) (runs p64 l v t)+ccr p64 (runs p64 l v t)).toNat:Int):=by
   rw[hV]
   rfl
  have h3:((Aq 1 (cv (runs p64 l v t))).append (Aq 7 (Aq 7 (Ba 0 (cv (runs p64 l v t))))++Ba (1+min 7 (Aq 7 (Ba 0 (cv (runs p64 l v t)))).length) (cv (runs p64 l v t)))).getD 4 0=(((runs p64 l v t).getD 3 0).toNat:Int):=by
   rw[hV]
   rfl
  rw[h3,apw]
  rw[hr] at hn'
  exact hn'
 ·simp only[P.aay]
  rw[dh (by omega)]
  rfl
theorem byv(v u:List (BitVec 64))(hv:v.length=8)(hu:u.length=8)(h2:List Int){ρ:Type}(k0:Int→List Int→List Int→List Int→Option ρ) :
    P.y8 0 (cv v) h2 (cv u) k0=k0 8 (cv v) h2 (cv ((Ac 8).map fun i=>u.getD i 0+v.getD i 0)):=by
 rw[P.aiw]
 unfold P.ad1 P.b6a P.b4r P.cb9
 have hs:∀i,i≤8→(((Ac i).map fun i=>u.getD i 0+v.getD i 0)++u.drop i).length=8:=fun i hi=>by simp;omega
 refine xu (fun i=>((i:Int),cv v,h2,cv (((Ac i).map fun i=>u.getD i 0+v.getD i 0)++u.drop i))) 8 (by simp) (fun i hi next hn'=>?_) (fun next=>?_) (by omega)
 ·simp only[P.aa3,toNat_cast,aix]
  have e1:Ad.wrap ((i:Int)+1)=((i+1:Nat):Int):=by rw[nu (by omega) (by omega)];omega
  have e2:(((Ac i).map fun i=>u.getD i 0+v.getD i 0)++u.drop i).getD i 0=u.getD i 0:=by
   rw[Ae,Bb (by simp),Cj,Am,Aj,Ae]
   congr 2
   omega
  rw[e1,e2,apw,bfr]
  have e3:(((Ac i).map fun i=>u.getD i 0+v.getD i 0)++u.drop i).set i (u.getD i 0+v.getD i 0)=((Ac (i+1)).map fun i=>u.getD i 0+v.getD i 0)++u.drop (i+1):=by
   rw[Ao _ _ (by simp),Am,Aj,Bh,Av,Cr,Bc,Bd (by omega),A9]
   rfl
  rw[e3]
  simp (disch:=omega) only[bf,dh,je,fq,gu,gy,jl,oz,wo,nu]
  exact hn'
 ·simp only[P.aa3]
  rw[dh (by omega),Bv (by omega),Ct]
  rfl
theorem bte(v:List (BitVec 64))(hv:v.length=8)(b:List Int)(hb:In 256 b)(hl:b.length=16*8){ρ:Type}(k:List Int→Option ρ) :
    P.og 64 80 [1,8,7] [19,61,6] [28,34,39] [14,18,41] (cv v) b k=k (cv (bat p64 v b)):=by
 rw[P.aex]
 unfold P.aax
 rw[show Ad.wrap ((64:Int).tdiv 8)=8 from rfl]
 have:=b0h b hb hl 80 [1,8,7] [19,61,6] [28,34,39] [14,18,41] (cv v) (Af 8 0) (fun (q0:List Int) (q1 q2 q3 q4:Int) (q5 q6 q7 q8 q9 q10 q11:List Int) =>
  P.y5 q4 (0:Int) q11 q10 q9 q3 q4 q5 q6 q7 q8 q9
   fun (q12 q13:Int) (q14 q15 q16:List Int) (q17 q18:Int) (q19 q20 q21 q22 q23:List Int) =>
   P.y8 (0:Int) q16 q15 q23 fun (q24:Int) (q25 q26 q27:List Int)=>k q27)
 refine this.trans ?_
 rw[←win_zero p64,bzi _ v hv _ _ _ (vo b 16),byv v _ hv (ar0 _ _ _ hv _)]
 rfl
end Q
end
