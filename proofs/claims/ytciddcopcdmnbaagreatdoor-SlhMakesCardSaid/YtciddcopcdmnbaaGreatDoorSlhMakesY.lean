/-
  SlhMakes, part 25: an interpreter of my own over abstract values, the pure functions, the walks and the plain law.
-/

import Derived.Test.YtciddcopcdmnbaaGreatDoorSlhMakesH
import Derived.Laws.Bits64
import Derived.Test.YtciddcopcdmnbaaGreatDoorSlhMakesM
import Derived.Test.YtciddcopcdmnbaaGreatDoorSlhMakesK
import Derived.Test.YtciddcopcdmnbaaGreatDoorSlhMakesL
import Derived.Test.YtciddcopcdmnbaaGreatDoorSlhMakesI
import Derived.Test.YtciddcopcdmnbaaGreatDoorSlhMakesJ
open BitVec renaming ofInt → Aa, toNat_add → Ag, toNat_ofInt → Ai, ofNat → Av, toNat_ofNat → Ay, toNat_xor → Cg, toNat_and → Ch, toNat_or → Ci, allOnes → Cn
open Go.IntKind renaming u64 → Ab, i64 → Ae, u32 → Bc, signed → Bt, u8 → Cc, bits → Ce, wrap → Cu
open List renaming range → Ac, getD_eq_getElem?_getD → Ad, replicate → Af, length_range → Aj, getD_cons_zero → Ak, getD_cons_succ → Al, set_append_right → Am, getElem_range → Ao, take → Ap, length_map → Aq, getElem_map → Ar, range_succ → Au, ext_getElem → Aw, set_cons_zero → Az, drop → A8, getElem?_append_right → A9, append_assoc → Ba, drop_eq_getElem_cons → Bb, length_replicate → Bh, replicate_succ → Bj, getElem?_eq_getElem → Bn, drop_eq_nil_of_le → Bp, take_length → Bq, map_congr_left → Br, length_append → Bw, getElem?_drop → Bz, map_append → Cj, append_nil → Ck, getElem?_eq_none → Cm, singleton_append → Co, mem_range → Cq, mem_map → Ct
open Int renaming natCast_add → Ah, eq_ofNat_of_zero_le → Bo, tdiv_eq_ediv_of_nonneg → Ca, tmod_eq_emod_of_nonneg → Cb
open Nat renaming mod_eq_of_lt → Bd, sub_self → Bf, and_two_pow_sub_one_eq_mod → Bg, min_eq_left → Bl, mul_le_mul → Bu, pow_add → Bv, add_assoc → Cr, mul_succ → Cv

section
/- Small laws for the plain proofs. -/
namespace Q
open Go Go.Abs
set_option linter.unusedVariables false
def In(m:Int)(l:List Int):Prop:=∀x,x∈l→0≤x∧x<m
theorem wf_u8{n:Int}(h:wfI .u8 n):0≤n∧n<256:=by
 simp[wfI,Lit.wf,IntKind.min,IntKind.max,Bt,Ce] at h;omega
theorem bwf{l:List Int}(h:∀x,x∈l→wfI .u8 x):In 256 l:=fun x hx=>wf_u8 (h x hx)
theorem In.tail{m x:Int}{l:List Int}(h:In m (x::l)):In m l:=fun y hy=>h y (List.mem_cons_of_mem _ hy)
theorem In.app{m:Int}{l r:List Int}(h1:In m l)(h2:In m r):In m (l++r):=fun y hy=>(List.mem_append.1 hy).elim (h1 y) (h2 y)
theorem In.left{m:Int}{l r:List Int}(h:In m (l++r)):In m l:=fun y hy=>h y (List.mem_append_left _ hy)
theorem In.right{m:Int}{l r:List Int}(h:In m (l++r)):In m r:=fun y hy=>h y (List.mem_append_right _ hy)
theorem In.take{m:Int}{l:List Int}(h:In m l)(n:Nat):In m (l.take n):=fun y hy=>h y (List.mem_of_mem_take hy)
theorem In.drop{m:Int}{l:List Int}(h:In m l)(n:Nat):In m (l.drop n):=fun y hy=>h y (List.mem_of_mem_drop hy)
theorem In.nil{m:Int}:In m []:=fun y hy=>by simp at hy
theorem In.rev{m:Int}{l:List Int}(h:In m l):In m l.reverse:=fun y hy=>h y (by simpa using hy)
theorem In.getD{m:Int}{l:List Int}(h:In m l)(i:Nat)(hm:0<m):0≤l.getD i 0∧l.getD i 0<m:=by
 rw[Ad]
 by_cases hi:i<l.length
 ·rw[Bn hi];exact h _ (List.getElem_mem hi)
 ·rw[Cm (by omega)];exact ⟨Int.le_refl 0,hm⟩
theorem In.map{m:Int}{α:Type}{l:List α}{f:α→Int}(h:∀a,a∈l→0≤f a∧f a<m):In m (l.map f):=fun y hy=>by
 obtain ⟨a,ha,rfl⟩:=Ct.1 hy
 exact h a ha
theorem jd{α:Type}{a b:Int}(h:¬a=b)(x y:α):br (a !=b) x y=x:=by rw[bne_iff_ne.2 h];exact p9 x y
theorem eu{α:Type}{a b:Int}(h:a=b)(x y:α):br (a !=b) x y=y:=by rw[bne_eq_false_iff_eq.2 h];exact yg x y
theorem gu{α:Type}{a b:Int}(h:a=b)(x y:α):br (a==b) x y=x:=by rw[beq_iff_eq.2 h];exact p9 x y
theorem iw{α:Type}{a b:Int}(h:¬a=b)(x y:α):br (a==b) x y=y:=by rw[beq_eq_false_iff_ne.2 h];exact yg x y
theorem jo{α:Type}(b:Bool)(x y:α):br (!b) x y=br b y x:=by cases b<;>simp
theorem bqf{X Y ρ:Type}{stp:X→(X→Option ρ)→(Y→Option ρ)→Option ρ}{K:Y→Option ρ}{r:Option ρ}(S:Nat→X)(n:Nat)
    (hstep:∀i,i<n→∀next,next (S (i+1))=r→stp (S i) next K=r) (hend:∀next,stp (S n) next K=r) {i:Nat} (hi:i≤n) (hn:n≤18446744073709551616):lp stp (S i) K=r:=by
 have key:∀m i,m+i=n→lpN stp K m (S i)=r∧∀q,m≤q→lpN stp K q (S i)=r:=by
  intro m
  induction m with
  | zero =>
   intro i hi
   have:i=n:=by omega
   subst this
   refine ⟨hend _,fun q _=>?_⟩
   cases q with
   | zero=>exact hend _
   | succ q=>exact hend _
  | succ m ih =>
   intro i hi
   refine ⟨hstep i (by omega) _ (ih (i+1) (by omega)).1,fun q hq=>?_⟩
   cases q with
   | zero=>omega
   | succ q=>exact hstep i (by omega) _ ((ih (i+1) (by omega)).2 q (by omega))
 exact (key (n-i) i (by omega)).2 FU (by rw[bvt];omega)
theorem getD_lt{α:Type}{l:List α}{d:α}{i:Nat}(h:i<l.length):l.getD i d=l[i]:=by
 rw[Ad,Bn h];rfl
theorem bi2{α:Type}{l:List α}{d:α}{i:Nat}(h:l.length≤i):l.getD i d=d:=by
 rw[Ad,Cm h];rfl
theorem toNat_cast(n:Nat):((n:Int)).toNat=n:=Int.toNat_natCast n
theorem biv(f:Nat→Int)(i n:Nat)(h:i<n)(d:Int):((Ac i).map f++Af (n-i) d).set i (f i)=(Ac (i+1)).map f++Af (n-(i+1)) d:=by
 rw[Am _ _ (by simp),show n-i=(n-(i+1))+1 by omega,Bj]
 simp[Au]
theorem aep{α:Type}(f:Nat→α)(i:Nat):(Ac i).map f++[f i]=(Ac (i+1)).map f:=by simp[Au]
theorem apm{α:Type}(l:List α)(d:α)(i:Nat)(h:i<l.length):l.take i++[l.getD i d]=l.take (i+1):=by
 rw[getD_lt h,List.take_add_one,Bn h];rfl
theorem afh{α:Type}(l:List α)(d:α)(i:Nat)(h:i<l.length):l.drop i=l.getD i d::l.drop (i+1):=by
 rw[getD_lt h];exact Bb h
end Q
end

section
/- The bit operations as numbers. -/
namespace Q
open Go Go.Abs
set_option linter.unusedVariables false
theorem cbx(x y:Nat)(hx:x<256)(hy:y<256):bits .or .u8 (x:Int) (y:Int)=((x ||| y:Nat):Int):=by
 have h1:x ||| y<256:=Nat.or_lt_two_pow (n:=8) hx hy
 have e:bits .or .u8 (x:Int) (y:Int)=Cc.wrap ((Aa 8 (x:Int) ||| Aa 8 (y:Int)).toNat:Int):=rfl
 have e2:(Aa 8 (x:Int) ||| Aa 8 (y:Int)).toNat=x ||| y:=by
  rw[Ci,Ai,Ai];congr 1<;>omega
 rw[e,e2];exact IntWalk.u8_in _ ⟨by omega,by omega⟩
theorem bzg(x y:Nat)(hx:x<256)(hy:y<256):bits .xor .u8 (x:Int) (y:Int)=((x ^^^ y:Nat):Int):=by
 have h1:x ^^^ y<256:=Nat.xor_lt_two_pow (n:=8) hx hy
 have e:bits .xor .u8 (x:Int) (y:Int)=Cc.wrap ((Aa 8 (x:Int) ^^^ Aa 8 (y:Int)).toNat:Int):=rfl
 have e2:(Aa 8 (x:Int) ^^^ Aa 8 (y:Int)).toNat=x ^^^ y:=by
  rw[Cg,Ai,Ai];congr 1<;>omega
 rw[e,e2];exact IntWalk.u8_in _ ⟨by omega,by omega⟩
theorem bkv(x y:Nat)(hx:x<18446744073709551616)(hy:y<18446744073709551616):bits .or .u64 (x:Int) (y:Int)=((x ||| y:Nat):Int):=by
 have h1:x ||| y<18446744073709551616:=Nat.or_lt_two_pow (n:=64) hx hy
 have e:bits .or .u64 (x:Int) (y:Int)=Ab.wrap ((Aa 64 (x:Int) ||| Aa 64 (y:Int)).toNat:Int):=rfl
 have e2:(Aa 64 (x:Int) ||| Aa 64 (y:Int)).toNat=x ||| y:=by
  rw[Ci,Ai,Ai];congr 1<;>omega
 rw[e,e2];exact IntWalk.u64_in _ ⟨by omega,by omega⟩
theorem ao6(x y:Nat)(hx:x<18446744073709551616)(hy:y<18446744073709551616):bits .and .u64 (x:Int) (y:Int)=((x &&& y:Nat):Int):=by
 have h1:x &&& y<18446744073709551616:=Nat.and_lt_two_pow (n:=64) x hy
 have e:bits .and .u64 (x:Int) (y:Int)=Ab.wrap ((Aa 64 (x:Int) &&& Aa 64 (y:Int)).toNat:Int):=rfl
 have e2:(Aa 64 (x:Int) &&& Aa 64 (y:Int)).toNat=x &&& y:=by
  rw[Ch,Ai,Ai];congr 1<;>omega
 rw[e,e2];exact IntWalk.u64_in _ ⟨by omega,by omega⟩
theorem bua(x y:Nat)(hx:x<4294967296)(hy:y<4294967296):bits .and .u32 (x:Int) (y:Int)=((x &&& y:Nat):Int):=by
 have h1:x &&& y<4294967296:=Nat.and_lt_two_pow (n:=32) x hy
 have e:bits .and .u32 (x:Int) (y:Int)=Bc.wrap ((Aa 32 (x:Int) &&& Aa 32 (y:Int)).toNat:Int):=rfl
 have e2:(Aa 32 (x:Int) &&& Aa 32 (y:Int)).toNat=x &&& y:=by
  rw[Ch,Ai,Ai];congr 1<;>omega
 rw[e,e2];exact IntWalk.u32_in _ ⟨by omega,by omega⟩
theorem u8m(n:Int):Cc.wrap n=n%256:=by simp[Cu,Ce,Bt]
theorem b0a(n:Int):Bc.wrap n=n%4294967296:=by simp[Cu,Ce,Bt]
theorem bng(n:Int):Ab.wrap n=n%18446744073709551616:=by simp[Cu,Ce,Bt]
theorem xor_zero{x y:Nat}:x ^^^ y=0↔x=y:=by
 constructor
 ·intro h
  have:(x ^^^ y) ^^^ y=x:=by rw[Nat.xor_assoc,Nat.xor_self,Nat.xor_zero]
  rw[h,Nat.zero_xor] at this
  exact this.symm
 ·rintro rfl;exact Nat.xor_self _
theorem bko(a x i:Nat)(hx:x<2^i):(a*2^i) ||| x=a*2^i+x:=by
 rw[←Nat.shiftLeft_eq,Nat.shiftLeft_add_eq_or_of_lt hx]
end Q
end

section
/- Numbers and their digits, the lowest first. -/
namespace Q
open Go Go.Abs
set_option linter.unusedVariables false
def T(w:Nat):List Int→Nat
 | []=>0
 | x::l=>x.toNat%2^w+2^w*T w l
theorem p2(n:Nat):0<2^n:=Nat.pow_pos (by omega)
theorem b25(w:Nat):∀l:List Int,T w l<2^(w*l.length)
 | []=>by simp[T]
 | x::l=>by
  have ih:=b25 w l
  have h1:=Nat.mod_lt x.toNat (p2 w)
  rw[List.length_cons,Cv,Nat.add_comm,Bv]
  simp only[T]
  have:2^w*(T w l+1)≤2^w*2^(w*l.length):=Bu (Nat.le_refl _) ih
  rw[Nat.mul_add] at this
  omega
theorem bmh(w:Nat):∀a b:List Int,T w (a++b)=T w a+2^(w*a.length)*T w b
 | [],b=>by simp[T]
 | x::a,b=>by
  rw[List.cons_append,T,T,bmh w a b,List.length_cons,Cv,Nat.add_comm (w*a.length) w,Bv,Nat.mul_add,Nat.mul_assoc]
  omega
theorem b0x(w:Nat)(l:List Int)(k:Nat)(h:k≤l.length):T w l=T w (l.take k)+2^(w*k)*T w (l.drop k):=by
 have:=bmh w (l.take k) (l.drop k)
 rw[List.take_append_drop,List.length_take,Bl h] at this
 exact this
theorem bmj(w:Nat)(l:List Int)(k:Nat)(h:k≤l.length):T w (l.drop k)=T w l/2^(w*k):=by
 have:=b25 w (l.take k)
 rw[List.length_take,Bl h] at this
 rw[b0x w l k h,Nat.add_mul_div_left _ _ (p2 _),Nat.div_eq_of_lt this,Nat.zero_add]
theorem yu{X Y ρ:Type}{stp:X→(X→Option ρ)→(Y→Option ρ)→Option ρ}{K:Y→Option ρ}{r:Option ρ}(S:Nat→X)(n:Nat){x:X}(hx:x=S 0)
    (hstep:∀i,i<n→∀next,next (S (i+1))=r→stp (S i) next K=r) (hend:∀next,stp (S n) next K=r) (hn:n≤18446744073709551616):lp stp x K=r:=by
 rw[hx];exact bqf S n hstep hend (Nat.zero_le _) hn
def bsw(w n X:Nat):List Int:=(Ac n).map fun i=>((X/2^(w*i)%2^w:Nat):Int)
@[simp] theorem ad4 (w n X:Nat):(bsw w n X).length=n:=by simp[bsw]
theorem bln(w n X i:Nat)(h:i<n):(bsw w n X).getD i 0=((X/2^(w*i)%2^w:Nat):Int):=by
 rw[getD_lt (by simpa using h)];simp[bsw]
theorem blo(w n X:Nat):bsw w (n+1) X=bsw w n X++[((X/2^(w*n)%2^w:Nat):Int)]:=by simp[bsw,Au]
theorem bl1(w n X:Nat):In (2^w) (bsw w n X):=by
 refine In.map (fun i _=>⟨Int.natCast_nonneg _,?_⟩)
 have:=Nat.mod_lt (X/2^(w*i)) (p2 w)
 have e:((2:Int)^w)=((2^w:Nat):Int):=by simp
 rw[e];omega
theorem bpx(X h w m:Nat)(hm:h+w≤m):X%2^m/2^h%2^w=X/2^h%2^w:=by
 have e:(2:Nat)^m=2^h*(2^w*2^(m-(h+w))):=by rw[←Bv,←Bv];congr 1;omega
 rw[e,Nat.mod_mul_right_div_self,Nat.mod_mul_right_mod]
end Q
end

section
/- bits: Unpack. -/
namespace Q
open Go Go.Abs
set_option linter.unusedVariables false
set_option linter.unusedSimpArgs false
def Such(n:Nat)(w c:Int):Prop:=1≤w∧w≤24∧0≤c∧c*w≤n*8
instance (n:Nat) (w c:Int):Decidable (Such n w c):=inferInstanceAs (Decidable (_∧_))
theorem bwa(n:Nat)(w c:Int)(hn:n≤1000000){ρ:Type}(k:Bool→Option ρ) :
    br (decide (w≥(1:Int))) (br (decide (w≤(24:Int))) (br (decide (c≥(0:Int))) (br (decide (w=(0:Int))) none
     (k (decide (c≤Ae.wrap ((Ae.wrap ((↑n:Int)*(8:Int))).tdiv w))))) (k false)) (k false)) (k false)=k (decide (Such n w c)):=by
 by_cases h1:w≥1
 ·by_cases h2:w≤24
  ·by_cases h3:c≥0
   ·rw[bg h1,bg h2,bg h3,dh (by omega)]
    congr 1
    have e0:((n:Int)*8).tdiv w=(n:Int)*8/w:=Ca (by omega)
    have e1:(n:Int)*8/w≤n*8:=Int.ediv_le_self _ (by omega)
    have e2:0≤(n:Int)*8/w:=Int.ediv_nonneg (by omega) (by omega)
    rw[qc (x:=(n:Int)*8) (by omega) (by omega),e0,qc (by omega) (by omega)]
    apply decide_eq_decide.2
    rw[Int.le_ediv_iff_mul_le (by omega)]
    unfold Such
    omega
   ·rw[bg h1,bg h2,dh h3,decide_eq_false (fun h=>h3 h.2.2.1)]
  ·rw[bg h1,dh h2,decide_eq_false (fun h=>h2 h.2.1)]
 ·rw[dh h1,decide_eq_false (fun h=>h1 h.1)]
theorem adj(b:List Int)(w c:Int)(hn:b.length≤1000000){ρ:Type}(k:Bool→Option ρ):P.adj b w c k=k (decide (Such b.length w c)):=by
 rw[P.axg];exact bwa b.length w c hn k
theorem fdiv_pow(a n m:Nat)(h:n≤m):(a:Int).fdiv ((2:Int)^min n m)=((a/2^n:Nat):Int):=by
 rw[Bl h,show ((2:Int)^n)=((2^n:Nat):Int) by simp,←Int.ofNat_fdiv]
theorem mul_pow(a n m:Nat)(h:n≤m):(a:Int)*((2:Int)^min n m)=((a*2^n:Nat):Int):=by
 rw[Bl h,show ((2:Int)^n)=((2^n:Nat):Int) by simp,←Int.natCast_mul]
theorem ah1(a:Nat)(h:a<18446744073709551616):Ab.wrap (a:Int)=(a:Int):=by rw[bng];omega
theorem bt8(a:Nat)(h:a<4294967296):Bc.wrap (a:Int)=(a:Int):=by rw[b0a];omega
theorem u8n(a:Nat)(h:a<256):Cc.wrap (a:Int)=(a:Int):=by rw[u8m];omega
theorem bo9{a b:Nat}(h:a≤b):2^a≤2^b:=Nat.pow_le_pow_right (by omega) h
theorem btz(w:Nat)(h:w≤24):Ab.wrap (Ab.wrap ((1:Int)*(2:Int)^min w 64)-(1:Int))=((2^w-1:Nat):Int):=by
 have h1:=p2 w
 have h2:2^w≤2^24:=bo9 h
 rw[show (1:Int)=((1:Nat):Int) from rfl,mul_pow 1 w 64 (by omega),ah1 _ (by omega),show ((1*2^w:Nat):Int)-((1:Nat):Int)=((2^w-1:Nat):Int) by omega,ah1 _ (by omega)]
theorem bmo(x w:Nat)(hx:x<18446744073709551616)(h:w≤24):bits .and .u64 (x:Int) (Ab.wrap (Ab.wrap ((1:Int)*(2:Int)^min w 64)-(1:Int)))=((x%2^w:Nat):Int):=by
 have h2:2^w≤2^24:=bo9 h
 rw[btz w h,ao6 _ _ hx (by omega),Bg]
def abg(n:Nat):Nat:=(n+7)/8
theorem bl4(n:Nat):n≤8*abg n:=by unfold abg;omega
theorem blf(n:Nat):8*abg n<n+8:=by unfold abg;omega
theorem byte_at{b:List Int}(hb:In 256 b)(t:Nat):∃x:Nat,b.getD t 0=(x:Int)∧x<256∧x=(b.getD t 0).toNat%2^8:=by
 have:=hb.getD t (by omega)
 exact ⟨(b.getD t 0).toNat,by omega,by omega,by omega⟩
end Q
end

section
/- Words of 32 and of 64 bits. -/
namespace Q
open Go Go.Abs
set_option linter.unusedVariables false
set_option linter.unusedSimpArgs false
theorem ofI{w:Nat}(x:BitVec w):Aa w (x.toNat:Int)=x:=by simp
theorem ax3(x:BitVec 32):x.toNat<4294967296:=x.isLt
theorem brr(x:BitVec 64):x.toNat<18446744073709551616:=x.isLt
theorem bf4(x y:BitVec 32):bits .xor .u32 (x.toNat:Int) (y.toNat:Int)=((x ^^^ y).toNat:Int):=by
 have e:bits .xor .u32 (x.toNat:Int) (y.toNat:Int)=Bc.wrap ((Aa 32 (x.toNat:Int) ^^^ Aa 32 (y.toNat:Int)).toNat:Int):=rfl
 rw[e,ofI,ofI,bt8 _ (ax3 _)]
theorem cb9(x y:BitVec 32):bits .and .u32 (x.toNat:Int) (y.toNat:Int)=((x &&& y).toNat:Int):=by
 have e:bits .and .u32 (x.toNat:Int) (y.toNat:Int)=Bc.wrap ((Aa 32 (x.toNat:Int) &&& Aa 32 (y.toNat:Int)).toNat:Int):=rfl
 rw[e,ofI,ofI,bt8 _ (ax3 _)]
theorem ccw(x y:BitVec 32):bits .or .u32 (x.toNat:Int) (y.toNat:Int)=((x ||| y).toNat:Int):=by
 have e:bits .or .u32 (x.toNat:Int) (y.toNat:Int)=Bc.wrap ((Aa 32 (x.toNat:Int) ||| Aa 32 (y.toNat:Int)).toNat:Int):=rfl
 rw[e,ofI,ofI,bt8 _ (ax3 _)]
theorem add32(x y:BitVec 32):Bc.wrap ((x.toNat:Int)+(y.toNat:Int))=((x+y).toNat:Int):=by
 rw[b0a,Ag];omega
theorem anp(x y:BitVec 64):bits .xor .u64 (x.toNat:Int) (y.toNat:Int)=((x ^^^ y).toNat:Int):=by
 have e:bits .xor .u64 (x.toNat:Int) (y.toNat:Int)=Ab.wrap ((Aa 64 (x.toNat:Int) ^^^ Aa 64 (y.toNat:Int)).toNat:Int):=rfl
 rw[e,ofI,ofI,ah1 _ (brr _)]
theorem bjx(x y:BitVec 64):bits .and .u64 (x.toNat:Int) (y.toNat:Int)=((x &&& y).toNat:Int):=by
 have e:bits .and .u64 (x.toNat:Int) (y.toNat:Int)=Ab.wrap ((Aa 64 (x.toNat:Int) &&& Aa 64 (y.toNat:Int)).toNat:Int):=rfl
 rw[e,ofI,ofI,ah1 _ (brr _)]
theorem b3b(x y:BitVec 64):bits .or .u64 (x.toNat:Int) (y.toNat:Int)=((x ||| y).toNat:Int):=by
 have e:bits .or .u64 (x.toNat:Int) (y.toNat:Int)=Ab.wrap ((Aa 64 (x.toNat:Int) ||| Aa 64 (y.toNat:Int)).toNat:Int):=rfl
 rw[e,ofI,ofI,ah1 _ (brr _)]
theorem aoc(x y:BitVec 64):Ab.wrap ((x.toNat:Int)+(y.toNat:Int))=((x+y).toNat:Int):=by
 rw[bng,Ag];omega
theorem bub(x y:Nat)(hx:x<18446744073709551616)(hy:y<18446744073709551616):bits .xor .u64 (x:Int) (y:Int)=((x ^^^ y:Nat):Int):=by
 have:=anp (Av 64 x) (Av 64 y)
 rw[Cg,Ay,Ay,Bd (by omega),Bd (by omega)] at this
 exact this
/- words of 32 bits as numbers of 64 -/
theorem nlt(x:BitVec 32):x.toNat<18446744073709551616:=by have:=ax3 x;omega
theorem bt1(x y:BitVec 32):bits .xor .u64 (x.toNat:Int) (y.toNat:Int)=((x ^^^ y).toNat:Int):=by rw[bub _ _ (nlt x) (nlt y),Cg]
theorem nand(x y:BitVec 32):bits .and .u64 (x.toNat:Int) (y.toNat:Int)=((x &&& y).toNat:Int):=by rw[ao6 _ _ (nlt x) (nlt y),Ch]
theorem nor(x y:BitVec 32):bits .or .u64 (x.toNat:Int) (y.toNat:Int)=((x ||| y).toNat:Int):=by rw[bkv _ _ (nlt x) (nlt y),Ci]
theorem bp8(n:Nat)(h:n<18446744073709551616):bits .and .u64 (n:Int) 4294967295=((n%4294967296:Nat):Int):=by
 rw[show (4294967295:Int)=((2^32-1:Nat):Int) from rfl,ao6 _ _ h (by omega),Bg]
theorem bsx(n:Nat)(h:n<18446744073709551616):bits .and .u64 (n:Int) 18446744073709551615=(n:Int):=by
 rw[show (18446744073709551615:Int)=((2^64-1:Nat):Int) from rfl,ao6 _ _ h (by omega),Bg,Bd (by omega)]
def rr{w:Nat}(x:BitVec w)(n:Nat):BitVec w:=(x >>> n) ||| (x <<< (w-n))
theorem ayw{w:Nat}(x:BitVec w)(n:Nat):(x >>> n).toNat=x.toNat/2^n:=by rw[BitVec.toNat_ushiftRight,Nat.shiftRight_eq_div_pow]
theorem azt{w:Nat}(x:BitVec w)(n:Nat):(x <<< n).toNat=x.toNat*2^n%2^w:=by rw[BitVec.toNat_shiftLeft,Nat.shiftLeft_eq]
theorem bur(x:BitVec 32)(n:Nat)(h:n≤32):(x.toNat:Int).fdiv ((2:Int)^min n 32)=((x >>> n).toNat:Int):=by rw[fdiv_pow _ _ _ h,ayw]
theorem cao(x:BitVec 32)(n:Nat)(h:n≤32):Bc.wrap ((x.toNat:Int)*(2:Int)^min n 32)=((x <<< n).toNat:Int):=by
 rw[mul_pow _ _ _ h,b0a,azt];omega
theorem bmw(x:BitVec 64)(n:Nat)(h:n≤64):(x.toNat:Int).fdiv ((2:Int)^min n 64)=((x >>> n).toNat:Int):=by rw[fdiv_pow _ _ _ h,ayw]
theorem bwb(x:BitVec 64)(n:Nat)(h:n≤64):Ab.wrap ((x.toNat:Int)*(2:Int)^min n 64)=((x <<< n).toNat:Int):=by
 rw[mul_pow _ _ _ h,bng,azt];omega
theorem cdu(x:BitVec 32)(n:Nat)(h:n≤64):(x.toNat:Int).fdiv ((2:Int)^min n 64)=((x >>> n).toNat:Int):=by rw[fdiv_pow _ _ _ h,ayw]
theorem nshl(x:BitVec 32)(n:Nat)(h:n≤32):bits .and .u64 (Ab.wrap ((x.toNat:Int)*(2:Int)^min n 64)) 4294967295=((x <<< n).toNat:Int):=by
 have h1:=ax3 x
 have h2:2^n≤2^32:=bo9 h
 have h3:x.toNat*2^n≤4294967295*2^32:=Bu (by omega) h2
 rw[mul_pow _ _ _ (by omega),ah1 _ (by omega),bp8 _ (by omega),azt]
theorem bz2{w:Nat}(e f g:BitVec w):(e &&& f) ^^^ ((Cn w ^^^ e) &&& g)=g ^^^ (e &&& (f ^^^ g)):=by
 ext i hi
 simp
 cases e[i]<;>cases f[i]<;>cases g[i]<;>rfl
theorem bth{w:Nat}(a b c:BitVec w):((a &&& b) ^^^ (a &&& c)) ^^^ (b &&& c)=(a &&& b) ||| (c &&& (a ||| b)):=by
 ext i hi
 simp
 cases a[i]<;>cases b[i]<;>cases c[i]<;>rfl
end Q
end

section
/- keccak: 25 words by a function of their number; the program's round and the document's. -/
namespace QK
open Q
open Go Go.Abs
set_option linter.unusedVariables false
set_option linter.unusedSimpArgs false
set_option maxRecDepth 100000
def L25(f:Nat→Int):List Int:=(Ac 25).map f
def X(a b:Int):Int:=bits .xor .u64 a b
def Rl(a:Int)(n:Nat):Int:=bits .or .u64 (Ab.wrap (a*2^min n 64)) (a.fdiv (2^min (64-n) 64))
def cP(f:Nat→Int)(j:Nat):Int:=X (X (X (X (f j) (f (j+5))) (f (j+10))) (f (j+15))) (f (j+20))
def thP(f:Nat→Int)(i:Nat):Int:=X (f i) (X (cP f ((i+4)%5)) (Rl (cP f ((i+1)%5)) 1))
def psT:List Nat:=[0,6,12,18,24,3,9,10,16,22,1,7,13,19,20,4,5,11,17,23,2,8,14,15,21]
def rsT:List Nat:=[0,44,43,21,14,28,20,3,45,61,1,6,25,8,18,27,36,10,15,56,62,55,39,41,2]
def piP(f:Nat→Int)(i:Nat):Int:=bif Nat.beq i 0 then f 0 else Rl (f (psT.getD i 0)) (rsT.getD i 0)
def chP(f:Nat→Int)(i:Nat):Int:=X (f i) (bits .andNot .u64 (f (i/5*5+(i+2)%5)) (f (i/5*5+(i+1)%5)))
def s0(x:Int)(f:Nat→Int)(i:Nat):Int:=bif Nat.beq i 0 then x else f i
theorem bim(n:Nat)(h:n≤1000):∃m,FU=m+n:=⟨FU-n,by have:=bvt;omega⟩
theorem b83(f:Nat→Int)(h1:List Int){ρ:Type}(k:Int→List Int→List Int→List Int→Option ρ) :
    P.ae3 0 h1 (L25 f) [0,0,0,0,0] k=k 5 h1 (L25 f) [cP f 0,cP f 1,cP f 2,cP f 3,cP f 4]:=by
 obtain ⟨m,hm⟩:=bim 6 (by omega)
 rw[P.aod]
 unfold P.aj0 P.zk3 P.zs3 P.zu3 P.aj8 lp
 rw[hm]
 kernel_rfl
theorem b1v(c:Int)(f:Nat→Int)(h1 h2:List Int){ρ:Type}(k:Int→Int→List Int→List Int→List Int→List Int→Option ρ) :
    P.ae4 c 0 (L25 f) h1 h2 [cP f 0,cP f 1,cP f 2,cP f 3,cP f 4] k=k c 5 (L25 (thP f)) h1 h2 [cP f 0,cP f 1,cP f 2,cP f 3,cP f 4]:=by
 obtain ⟨m,hm⟩:=bim 6 (by omega)
 rw[P.aoh]
 unfold P.ajl P.zk5 P.zs5 P.zu5 P.aj4
 simp only[P.acp,P.ab5,P.zk4,P.zu4,P.ab0,P.vg,P.qg,lp,hm];(try delta P.zs4);(try simp only[P.acp,P.ab5,P.zk4,P.zu4,P.ab0,P.vg,P.qg,lp,hm]);(try delta P.zs4);(try simp only[P.acp,P.ab5,P.zk4,P.zu4,P.ab0,P.vg,P.qg,lp,hm])
 kernel_rfl
theorem rhoP(c:Int)(f:Nat→Int)(h1 h2 h3:List Int){ρ:Type}(k:Int→Int→List Int→Int→List Int→List Int→List Int→List Int→Option ρ) :
    P.ael c ((L25 f).getD 1 0) P.bww 0 h3 h2 h1 (L25 f) k=k c (f 1) P.bww 24 h3 h2 h1 (L25 (piP f)):=by
 obtain ⟨m,hm⟩:=bim 25 (by omega)
 rw[P.am9]
 unfold P.aic P.zk6 P.zs6 P.zu6 P.aif
 simp only[P.vg,P.qg,lp,hm]
 kernel_rfl
theorem chiP(c:Int)(f:Nat→Int)(h1 h2 h3:List Int){ρ:Type}(k:Int→Int→List Int→List Int→List Int→List Int→Option ρ) :
    P.aem c 0 (L25 f) h1 h2 h3 k=k c 25 (L25 (chP f)) h1 h2 h3:=by
 obtain ⟨m,hm⟩:=bim 6 (by omega)
 rw[P.ane]
 unfold P.aii P.zk8 P.zs8 P.zu8 P.air
 simp only[P.ab3,P.abh,P.zk7,P.zu7,P.abj,lp,hm];(try delta P.zs7);(try simp only[P.ab3,P.abh,P.zk7,P.zu7,P.abj,lp,hm]);(try delta P.zs7);(try simp only[P.ab3,P.abh,P.zk7,P.zu7,P.abj,lp,hm])
 kernel_rfl
theorem set0(x:Int)(f:Nat→Int):(L25 f).set 0 x=L25 (s0 x f):=by kernel_rfl
theorem cdi(f:Nat→Int):(L25 f).getD 0 0=f 0:=by kernel_rfl
def cR(f:Nat→Int)(j:Nat):Int:=X (X (X (X (X 0 (f j)) (f (j+5))) (f (j+10))) (f (j+15))) (f (j+20))
def thR(f:Nat→Int)(i:Nat):Int:=X (X (f i) (cR f ((i+4)%5))) (Rl (cR f ((i+1)%5)) 1)
def chR(f:Nat→Int)(i:Nat):Int:=X (f i) (bits .and .u64 (X (f (i/5*5+(i+1)%5)) 18446744073709551615) (f (i/5*5+(i+2)%5)))
theorem bvg(f:Nat→Int){ρ:Type}(k:List Int→Option ρ):P.adz (L25 f) k=k (L25 (thR f)):=by
 obtain ⟨m,hm⟩:=bim 26 (by omega)
 rw[P.aus]
 unfold P.alf
 simp only[P.ah9,P.aix,P.bwy,P.by5,P.aiv,P.ah7,P.ai0,P.bwu,P.b2h,P.ai3,P.aew,P.abx,lp,hm];(try delta P.bxb P.bw8);(try simp only[P.ah9,P.aix,P.bwy,P.by5,P.aiv,P.ah7,P.ai0,P.bwu,P.b2h,P.ai3,P.aew,P.abx,lp,hm]);(try delta P.bxb P.bw8);(try simp only[P.ah9,P.aix,P.bwy,P.by5,P.aiv,P.ah7,P.ai0,P.bwu,P.b2h,P.ai3,P.aew,P.abx,lp,hm])
 kernel_rfl
theorem ca0(f:Nat→Int){ρ:Type}(k:List Int→Option ρ):P.aiz (L25 f) k=k (L25 (piP f)):=by
 obtain ⟨m,hm⟩:=bim 25 (by omega)
 rw[P.ay1]
 unfold P.ao4
 simp only[P.ali,P.amu,P.bw7,P.b0f,P.anh,P.aew,P.abx,lp,hm];(try delta P.bwv);(try simp only[P.ali,P.amu,P.bw7,P.b0f,P.anh,P.aew,P.abx,lp,hm]);(try delta P.bwv);(try simp only[P.ali,P.amu,P.bw7,P.b0f,P.anh,P.aew,P.abx,lp,hm])
 kernel_rfl
theorem chiR(v:Int)(f g:Nat→Int)(h1 h2:List Int){ρ:Type}(k:Int→Int→List Int→List Int→List Int→List Int→Option ρ) :
    P.ak3 v 0 h2 h1 (L25 g) (L25 f) k=k v 25 h2 h1 (L25 (chR f)) (L25 f):=by
 obtain ⟨m,hm⟩:=bim 26 (by omega)
 rw[P.avy]
 unfold P.aq8 P.b4i P.b2o P.b7a P.ark
 simp only[lp,hm]
 kernel_rfl
theorem b1c{ρ:Type}(k:List Int→Option ρ):P.z8 k=k P.bnh:=by
 obtain ⟨m,hm⟩:=bim 169 (by omega)
 rw[P.anz]
 unfold P.agq
 simp only[P.ae5,P.aer,P.bw5,P.byg,P.aes,lp,hm];(try delta P.bwz);(try simp only[P.ae5,P.aer,P.bw5,P.byg,P.aes,lp,hm]);(try delta P.bwz);(try simp only[P.ae5,P.aer,P.bw5,P.byg,P.aes,lp,hm])
 kernel_rfl
end QK
end

section
/- keccak: the program's rounds are the document's. -/
namespace QK
open Q
open Go Go.Abs
set_option linter.unusedVariables false
set_option linter.unusedSimpArgs false
def U64(x:Int):Prop:=0≤x∧x<18446744073709551616
def Ws(f:Nat→Int):Prop:=∀i,U64 (f i)
theorem U64.bv{x:Int}(h:U64 x):∃b:BitVec 64,x=(b.toNat:Int):=by
 obtain ⟨n,rfl⟩:=Bo h.1
 have h2:=h.2
 refine ⟨Av 64 n,?_⟩
 rw[Ay,Bd (by omega)]
theorem bps(b:BitVec 64):U64 (b.toNat:Int):=by
 have:=brr b
 unfold U64
 omega
theorem bvd(a b:BitVec 64):X (a.toNat:Int) (b.toNat:Int)=((a ^^^ b).toNat:Int):=anp a b
theorem X_U{a b:Int}(ha:U64 a)(hb:U64 b):U64 (X a b):=by
 obtain ⟨x,rfl⟩:=ha.bv
 obtain ⟨y,rfl⟩:=hb.bv
 rw[bvd]
 exact bps _
theorem b1n{a:Int}(ha:U64 a):X 0 a=a:=by
 obtain ⟨x,rfl⟩:=ha.bv
 have:=bvd 0 x
 simpa using this
theorem bwh{a b c:Int}(ha:U64 a)(hb:U64 b)(hc:U64 c):X (X a b) c=X a (X b c):=by
 obtain ⟨x,rfl⟩:=ha.bv
 obtain ⟨y,rfl⟩:=hb.bv
 obtain ⟨z,rfl⟩:=hc.bv
 rw[bvd,bvd,bvd,bvd,BitVec.xor_assoc]
theorem ca3{a:Int}(ha:U64 a)(n:Nat)(hn:n≤64):U64 (Rl a n):=by
 obtain ⟨x,rfl⟩:=ha.bv
 unfold Rl
 rw[bwb x n hn,bmw x (64-n) (by omega),b3b]
 exact bps _
theorem blq(x y:BitVec 64):bits .andNot .u64 (x.toNat:Int) (y.toNat:Int)=((x &&& ~~~y).toNat:Int):=by
 have e:bits .andNot .u64 (x.toNat:Int) (y.toNat:Int)=Ab.wrap ((Aa 64 (x.toNat:Int) &&& ~~~Aa 64 (y.toNat:Int)).toNat:Int):=rfl
 rw[e,ofI,ofI,ah1 _ (brr _)]
theorem bt9{a b:Int}(ha:U64 a)(hb:U64 b):bits .and .u64 (X a 18446744073709551615) b=bits .andNot .u64 b a:=by
 obtain ⟨x,rfl⟩:=ha.bv
 obtain ⟨y,rfl⟩:=hb.bv
 have h1:(18446744073709551615:Int)=((Cn 64).toNat:Int):=by decide
 rw[h1,bvd,bjx,blq,BitVec.xor_allOnes,BitVec.and_comm]
theorem bsi{a b:Int}(ha:U64 a)(hb:U64 b):U64 (bits .andNot .u64 a b):=by
 obtain ⟨x,rfl⟩:=ha.bv
 obtain ⟨y,rfl⟩:=hb.bv
 rw[blq]
 exact bps _
theorem b3k{f:Nat→Int}(h:Ws f)(j:Nat):U64 (cP f j):=X_U (X_U (X_U (X_U (h _) (h _)) (h _)) (h _)) (h _)
theorem b1a{f:Nat→Int}(h:Ws f)(j:Nat):cR f j=cP f j:=by unfold cR cP;rw[b1n (h j)]
theorem bye{f:Nat→Int}(h:Ws f):Ws (thP f):=fun i=>X_U (h i) (X_U (b3k h _) (ca3 (b3k h _) 1 (by omega)))
theorem b0j{f:Nat→Int}(h:Ws f):thR f=thP f:=by
 funext i
 unfold thR thP
 rw[b1a h,b1a h,bwh (h i) (b3k h _) (ca3 (b3k h _) 1 (by omega))]
theorem b7g(i:Nat):rsT.getD i 0≤64:=by
 by_cases hi:i<25
 ·have:∀i,i<25→rsT.getD i 0≤64:=by decide
  exact this i hi
 ·rw[bi2 (by simp[rsT];omega)];omega
theorem b2a{f:Nat→Int}(h:Ws f):Ws (piP f):=fun i=>by
 unfold piP
 cases Nat.beq i 0 with
 | true=>exact h 0
 | false=>exact ca3 (h _) _ (b7g i)
theorem bzr{f:Nat→Int}(h:Ws f):chR f=chP f:=by
 funext i
 unfold chR chP
 rw[bt9 (h _) (h _)]
theorem b65{f:Nat→Int}(h:Ws f):Ws (chP f):=fun i=>X_U (h i) (bsi (h _) (h _))
theorem s0_U{f:Nat→Int}{x:Int}(h:Ws f)(hx:U64 x):Ws (s0 x f):=fun i=>by
 unfold s0
 cases Nat.beq i 0 with
 | true=>exact hx
 | false=>exact h i
def rnd(c:Int)(f:Nat→Int):Nat→Int:=s0 (X (chP (piP (thP f)) 0) c) (chP (piP (thP f)))
theorem b7y{f:Nat→Int}{c:Int}(h:Ws f)(hc:U64 c):Ws (rnd c f):=by
 have h2:=b65 (b2a (bye h))
 exact s0_U h2 (X_U (h2 0) hc)
def bum(f:Nat→Int):Nat→Nat→Int
 | 0=>f
 | n+1=>rnd (P.bnh.getD n 0) (bum f n)
theorem b2d(n:Nat):U64 (P.bnh.getD n 0):=by
 by_cases hn:n<24
 ·have:∀n,n<24→(0≤P.bnh.getD n 0∧P.bnh.getD n 0<18446744073709551616):=by decide +kernel
  exact this n hn
 ·have hl:P.bnh.length=24:=by decide +kernel
  rw[bi2 (by omega)]
  exact ⟨by decide,by decide⟩
theorem bnp{f:Nat→Int}(h:Ws f):∀n,Ws (bum f n)
 | 0=>h
 | n+1=>b7y (bnp h n) (b2d n)
theorem jh(f:Nat→Int){ρ:Type}(k:List Int→Option ρ):P.jh (L25 f) k=k (L25 (bum f 24)):=by
 rw[P.alo];unfold P.afu
 rw[P.aqk];unfold P.amc P.zk9 P.zs9 P.zu9
 refine yu (fun i=>(P.bnh,(i:Int),L25 (bum f i),[(0:Int),0,0,0,0,0,0,0,0,0,0,0,0,0,0,0,0,0,0,0,0,0,0,0,0])) 24 rfl (fun i hi next hn=>?_) (fun next=>?_) (by omega)
 ·simp only[P.agu,toNat_cast]
  rw[bg (by omega),bg (by omega),bg (by omega),b83,b1v,rhoP,chiP,cdi,set0,qc (by omega) (by omega)]
  exact hn
 ·simp only[P.agu]
  rw[dh (by omega)]
theorem ql{f:Nat→Int}(h:Ws f){ρ:Type}(k:List Int→Option ρ):P.ql (L25 f) k=k (L25 (bum f 24)):=by
 rw[P.aqr];unfold P.ajv
 rw[b1c,P.awc];unfold P.arp P.b36 P.bz4 P.b6c
 refine yu (fun i=>((i:Int),L25 (bum f i),[(0:Int),0,0,0,0,0,0,0,0,0,0,0,0,0,0,0,0,0,0,0,0,0,0,0,0],P.bnh)) 24 rfl (fun i hi next hn=>?_) (fun next=>?_) (by omega)
 ·have hU:=bnp h i
  simp only[P.ak8]
  rw[bg (by omega),bvg,ca0,chiR,bg (by omega),bg (by omega),cdi,set0,toNat_cast,qc (by omega) (by omega),b0j hU,bzr (b2a (bye hU))]
  exact hn
 ·simp only[P.ak8]
  rw[dh (by omega)]
theorem bp9(f:Nat→Int):(L25 f).length=25:=by simp[L25]
theorem btr(l:List Int)(h:l.length=25):l=L25 fun i=>l.getD i 0:=by
 apply Aw
 ·rw[bp9,h]
 ·intro i h1 h2
  simp only[L25,Ar,Ao]
  exact (getD_lt h1).symm
end QK
end

section
/- bits: Unpack, as the document has it. -/
namespace Q
open Go Go.Abs
set_option linter.unusedVariables false
set_option linter.unusedSimpArgs false
end Q
end

section
/- bits: Digits. -/
namespace Q
open Go Go.Abs
set_option linter.unusedVariables false
set_option linter.unusedSimpArgs false
def dg(w L N:Nat)(i:Nat):Int:=((N/2^(8*L-w*(i+1))%2^w:Nat):Int)
def abd(b:List Int)(w c:Int):List Int:=if Such b.length w c then (Ac c.toNat).map (dg w.toNat b.length (T 8 b.reverse)) else []
theorem brd(b:List Int)(t:Nat)(h:t≤b.length):T 8 (b.take t).reverse=T 8 b.reverse/2^(8*(b.length-t)):=by
 rw[List.reverse_take,bmj 8 _ _ (by simp)]
theorem be1(b:List Int)(t:Nat)(h:t<b.length):T 8 (b.take (t+1)).reverse=(b.getD t 0).toNat%2^8+256*T 8 (b.take t).reverse:=by
 rw[←apm b 0 t h,List.reverse_append,List.reverse_singleton,Co,T]
theorem nu(b:List Int)(w c:Int)(hb:In 256 b)(hn:b.length≤1000000){ρ:Type}(k:List Int→Option ρ):P.nu b w c k=k (abd b w c):=by
 rw[P.arn]
 unfold P.ajs
 rw[adj b w c hn,jo]
 unfold abd
 by_cases hs:Such b.length w c
 rotate_left
 ·rw[decide_eq_false hs,yg,if_neg hs]
 rw[decide_eq_true hs,p9,if_pos hs]
 obtain ⟨h1,h2,h3,h4⟩:=hs
 obtain ⟨w,rfl⟩:=Bo (show 0≤w by omega)
 obtain ⟨c,rfl⟩:=Bo h3
 have h4:c*w≤b.length*8:=by exact_mod_cast h4
 have hc:c≤c*w:=Nat.le_mul_of_pos_right c (by omega)
 simp only[toNat_cast,Bh]
 simp (disch:=omega) only[bg,dh,jd,eu,gu,iw,jo,p9,yg,qc]
 rw[P.avs]
 unfold P.aq5 P.b3h P.b1i P.b8b
 refine yu (fun i=>(b.drop (abg (w*i)),(w:Int),((T 8 (b.take (abg (w*i))).reverse%2^64:Nat):Int),((8*abg (w*i)-w*i:Nat):Int),(c:Int),(i:Int),((Ac i).map (dg w b.length (T 8 b.reverse)))++Af (c-i) 0)) c (by simp[abg,T,bsw]) (fun i hi next hn'=>?_) (fun next=>?_) (by omega)
 ·have hwi:w*(i+1)=w*i+w:=Cv w i
  have hwc:w*(i+1)≤b.length*8:=Nat.le_trans (Bu (Nat.le_refl w) hi) (by rw[Nat.mul_comm];exact h4)
  have c1:=bl4 (w*i)
  have c2:=blf (w*i)
  have c3:=bl4 (w*(i+1))
  have c4:=blf (w*(i+1))
  have c5:abg (w*i)≤abg (w*(i+1)):=by unfold abg;omega
  simp only[P.akz]
  rw[bg (by omega),P.av9]
  unfold P.aq9 P.b4m P.b1t P.cba
  refine yu (fun j=>(b.drop (abg (w*i)+j),(w:Int),((T 8 (b.take (abg (w*i)+j)).reverse%2^64:Nat):Int),((8*(abg (w*i)+j)-w*i:Nat):Int),(i:Int),(c:Int),(i:Int),((Ac i).map (dg w b.length (T 8 b.reverse)))++Af (c-i) 0)) (abg (w*(i+1))-abg (w*i)) rfl (fun j hj next2 hn2=>?_) (fun next2=>?_) (by omega)
  ·have ht:abg (w*i)+j<b.length:=by omega
   obtain ⟨x,hx,hx2,hx3⟩:=byte_at hb (abg (w*i)+j)
   have est:=be1 b (abg (w*i)+j) ht
   rw[←hx3] at est
   simp only[P.alg,List.length_drop,toNat_cast]
   rw[List.take_of_length_le (l:=b.drop (abg (w*i)+j)) (by simp),List.drop_drop]
   have e0:(b.drop (abg (w*i)+j)).getD 0 0=(x:Int):=by
    rw[←hx,afh b 0 _ ht];rfl
   have e1:Ab.wrap (((T 8 (b.take (abg (w*i)+j)).reverse%2^64:Nat):Int)*2^8)=((T 8 (b.take (abg (w*i)+j)).reverse%2^56*2^8:Nat):Int):=by
    rw[bng];omega
   rw[e0,e1,ah1 x (by omega),bkv _ _ (by omega) (by omega),bko _ _ _ (by omega)]
   simp (disch:=omega) only[bg,dh,jd,eu,gu,iw,jo,p9,yg,qc]
   rw[Cr,show ((8*(abg (w*i)+j)-w*i:Nat):Int)+8=((8*(abg (w*i)+(j+1))-w*i:Nat):Int) by omega,
    show T 8 (b.take (abg (w*i)+j)).reverse%2^56*2^8+x=T 8 (b.take (abg (w*i)+(j+1))).reverse%2^64 by rw[←Cr,est];omega]
   exact hn2
  ·have et:abg (w*i)+(abg (w*(i+1))-abg (w*i))=abg (w*(i+1)):=by omega
   simp only[P.alg,toNat_cast]
   rw[et,dh (by omega),show ((8*abg (w*(i+1))-w*i:Nat):Int)-(w:Int)=((8*abg (w*(i+1))-w*(i+1):Nat):Int) by omega,
    qc (x:=((8*abg (w*(i+1))-w*(i+1):Nat):Int)) (by omega) (by omega)]
   simp only[toNat_cast]
   have hq:T 8 (b.take (abg (w*(i+1)))).reverse%2^64/2^(8*abg (w*(i+1))-w*(i+1))<18446744073709551616:=by
    have:=Nat.div_le_self (T 8 (b.take (abg (w*(i+1)))).reverse%2^64) (2^(8*abg (w*(i+1))-w*(i+1)))
    omega
   rw[fdiv_pow _ _ 64 (by omega),bmo _ w hq (by omega),bpx _ _ _ _ (by omega)]
   have hw2:2^w≤2^24:=bo9 (by omega)
   have hmod:=Nat.mod_lt (T 8 (b.take (abg (w*(i+1)))).reverse/2^(8*abg (w*(i+1))-w*(i+1))) (p2 w)
   rw[bt8 _ (by omega)]
   have ed:((T 8 (b.take (abg (w*(i+1)))).reverse/2^(8*abg (w*(i+1))-w*(i+1))%2^w:Nat):Int)=dg w b.length (T 8 b.reverse) i:=by
    unfold dg
    rw[brd b _ (by omega),Nat.div_div_eq_div_mul,←Bv]
    congr 4;omega
   rw[ed]
   simp only[Bw,Aq,Aj,Bh]
   simp (disch:=omega) only[bg,dh,jd,eu,gu,iw,jo,p9,yg,qc]
   rw[biv _ _ _ hi]
   exact hn'
 ·simp only[P.akz]
  rw[dh (by omega),Bf]
  simp
end Q
end

section
/- bits: numbers as bytes and back. -/
namespace Q
open Go Go.Abs
set_option linter.unusedVariables false
set_option linter.unusedSimpArgs false
theorem bq2(w n m X:Nat)(hm:m≤n)(hX:X<2^(w*m)):bsw w m X++Af (n-m) 0=bsw w n X:=by
 refine Aw (by simp;omega) (fun i h1 h2=>?_)
 have hi:i<n:=by simpa using h2
 rw[←getD_lt (d:=0) h2,bln _ _ _ _ hi]
 by_cases him:i<m
 ·rw[List.getElem_append_left (by simpa using him),←getD_lt (d:=0),bln _ _ _ _ him]
 ·rw[List.getElem_append_right (by simp;omega),List.getElem_replicate,Nat.div_eq_of_lt]
  ·rfl
  ·exact Nat.lt_of_lt_of_le hX (bo9 (Bu (Nat.le_refl _) (by omega)))
theorem agl(N s:Nat)(hN:N<18446744073709551616)(hs:s≤65536){ρ:Type}(k:List Int→Option ρ):P.agl (N:Int) (s:Int) k=k (bsw 8 s N):=by
 rw[P.bdi]
 unfold P.ar4
 have em:(bif decide ((8:Int)<(s:Int)) then (8:Int) else (s:Int))=((min s 8:Nat):Int):=by
  by_cases h:(8:Int)<(s:Int)
  ·rw[decide_eq_true h];simp only[cond_true];omega
  ·rw[decide_eq_false h];simp only[cond_false];omega
 simp only[toNat_cast]
 rw[em]
 simp (disch:=omega) only[bg,dh,jd,eu,gu,iw,jo,p9,yg,qc]
 rw[P.bfd]
 unfold P.bc7 P.b34 P.zs12 P.b50
 refine yu (fun i=>((N:Int),((min s 8:Nat):Int),(i:Int),bsw 8 i N++Af (s-i) 0)) (min s 8) (by simp[bsw]) (fun i hi next hn'=>?_) (fun next=>?_) (by omega)
 ·simp only[P.avq,Bw,ad4,Bh,toNat_cast]
  rw[show (8:Int)*(i:Int)=((8*i:Nat):Int) by omega,qc (x:=((8*i:Nat):Int)) (by omega) (by omega)]
  simp only[toNat_cast]
  rw[fdiv_pow N _ 64 (by omega),u8m]
  simp (disch:=omega) only[bg,dh,jd,eu,gu,iw,jo,p9,yg,qc]
  rw[Am _ _ (by simp),ad4,Bf,show s-i=(s-(i+1))+1 by omega,Bj,Az]
  rw[blo,Ba,Co] at hn'
  exact hn'
 ·simp only[P.avq]
  rw[dh (by omega)]
  by_cases h:s≤8
  ·rw[Bl h,Bf];simp
  ·rw[Nat.min_eq_right (by omega),bq2 8 s 8 N (by omega) (by omega)]
theorem bow{f:Nat→Int}(n q:Nat)(v:Int):((Ac n).map f).set q v=(Ac n).map (fun j=>if j=q then v else f j):=by
 refine Aw (by simp) (fun i h1 h2=>?_)
 simp only[List.getElem_set,Ar,Ao]
 by_cases h:q=i
 ·rw[if_pos h,if_pos h.symm]
 ·rw[if_neg h,if_neg (fun e=>h e.symm)]
theorem bmi{f:Nat→Int}(n q:Nat)(h:q<n):((Ac n).map f).getD q 0=f q:=by
 rw[getD_lt (by simpa using h)];simp
theorem br2(l:List Int):l=(Ac l.length).map (fun j=>l.getD j 0):=by
 refine Aw (by simp) (fun i h1 h2=>?_)
 simp only[Ar,Ao]
 rw[getD_lt h1]
theorem wu(N s:Nat)(hN:N<18446744073709551616)(hs:s≤65536){ρ:Type}(k:List Int→Option ρ):P.wu (N:Int) (s:Int) k=k (bsw 8 s N).reverse:=by
 rw[P.bco]
 unfold P.as2
 rw[agl N s hN hs,P.bbd]
 unfold P.aw9 P.b28 P.byk P.b5v
 simp only[ad4]
 rw[qc (by omega) (by omega)]
 have hfin:(bsw 8 s N).reverse=(Ac s).map (fun q=>(bsw 8 s N).getD (s-1-q) 0):=by
  refine Aw (by simp) (fun i h1 h2=>?_)
  have hi:i<s:=by simpa using h2
  rw[List.getElem_reverse,Ar,Ao,getD_lt (by simp;omega)]
  congr 1;simp
 have h0:bsw 8 s N=(Ac s).map (fun q=>if q<0∨s-0≤q then (bsw 8 s N).getD (s-1-q) 0 else (bsw 8 s N).getD q 0):=by
  have e:=br2 (bsw 8 s N)
  rw[ad4] at e
  refine e.trans (Br (fun q hq=>?_))
  have:=Cq.1 hq
  rw[if_neg (by omega)]
 generalize bsw 8 s N=l at h0 hfin
 refine yu (fun i=>((i:Int),(s:Int)-1-(i:Int),(Ac s).map (fun q=>if q<i∨s-i≤q then l.getD (s-1-q) 0 else l.getD q 0))) (s/2) (by rw[←h0];simp) (fun i hi next hn'=>?_) (fun next=>?_) (by omega)
 ·simp only[P.apz,Aq,Aj,List.length_set]
  rw[show (s:Int)-1-(i:Int)=((s-1-i:Nat):Int) by omega]
  simp only[toNat_cast]
  rw[bmi _ _ (by omega),bmi _ _ (by omega),if_neg (by omega),if_neg (by omega),bow,bow]
  have e:(Ac s).map (fun q=>if q<i+1∨s-(i+1)≤q then l.getD (s-1-q) 0 else l.getD q 0)=(Ac s).map (fun j=>if j=s-1-i then l.getD i 0 else if j=i then l.getD (s-1-i) 0 else if j<i∨s-i≤j then l.getD (s-1-j) 0 else l.getD j 0):=by
   refine Br (fun q hq=>?_)
   have:=Cq.1 hq
   by_cases a1:q=s-1-i
   ·subst a1;rw[if_pos (by omega),if_pos rfl];congr 1;omega
   ·rw[if_neg a1]
    by_cases a2:q=i
    ·subst a2;rw[if_pos (by omega),if_pos rfl]
    ·rw[if_neg a2]
     by_cases a3:q<i∨s-i≤q
     ·rw[if_pos (by omega),if_pos a3]
     ·rw[if_neg (by omega),if_neg a3]
  rw[e] at hn'
  simp (disch:=omega) only[bg,dh,jd,eu,gu,iw,jo,p9,yg,qc]
  rw[show ((s-1-i:Nat):Int)-1=(s:Int)-1-((i+1:Nat):Int) by omega]
  exact hn'
 ·simp only[P.apz]
  rw[dh (by omega),hfin]
  congr 1
  refine Br (fun q hq=>?_)
  have:=Cq.1 hq
  by_cases a3:q<s/2∨s-s/2≤q
  ·rw[if_pos a3]
  ·rw[if_neg a3];congr 1;omega
theorem uz(b:List Int)(hb:In 256 b)(hn:b.length≤1000000){ρ:Type}(k:Int→Option ρ):P.uz b k=k ((T 8 b.reverse%2^64:Nat):Int):=by
 rw[P.ay4]
 unfold P.ap0
 rw[P.bbp]
 unfold P.baj P.b30 P.b2t P.b43
 refine yu (fun i=>(((T 8 (b.take i).reverse%2^64:Nat):Int),b,(b.length:Int),(i:Int))) b.length (by simp[T]) (fun i hi next hn'=>?_) (fun next=>?_) (by omega)
 ·obtain ⟨x,hx,hx2,hx3⟩:=byte_at hb i
  have est:=be1 b i hi
  rw[←hx3] at est
  simp only[P.ar9,toNat_cast]
  have e1:Ab.wrap (((T 8 (b.take i).reverse%2^64:Nat):Int)*2^8)=((T 8 (b.take i).reverse%2^56*2^8:Nat):Int):=by
   rw[bng];omega
  rw[hx,e1,ah1 x (by omega),bkv _ _ (by omega) (by omega),bko _ _ _ (by omega),
   show T 8 (b.take i).reverse%2^56*2^8+x=T 8 (b.take (i+1)).reverse%2^64 by rw[est];omega]
  simp (disch:=omega) only[bg,dh,jd,eu,gu,iw,jo,p9,yg,qc]
  exact hn'
 ·simp only[P.ar9]
  rw[dh (by omega),Bq]
end Q
end

section
/- keccak: what is taken up, what is given out. -/
namespace QK
open Q
open Go Go.Abs
set_option linter.unusedVariables false
set_option linter.unusedSimpArgs false
def W25(w:List Int):Prop:=w.length=25∧In 18446744073709551616 w
theorem W25.ws{w:List Int}(h:W25 w):Ws fun i=>w.getD i 0:=fun i=>h.2.getD i (by omega)
theorem b9a{f:Nat→Int}(h:Ws f):W25 (L25 f):=⟨bp9 f,fun x hx=>by
 simp only[L25,Ct] at hx
 obtain ⟨i,_,rfl⟩:=hx
 exact h i⟩
def perm(w:List Int):List Int:=L25 (bum (fun i=>w.getD i 0) 24)
theorem bo2{w:List Int}(h:W25 w):W25 (perm w):=b9a (bnp h.ws 24)
theorem bqg{w:List Int}(h:W25 w){ρ:Type}(k:List Int→Option ρ):P.jh w k=k (perm w):=by
 have:=jh (fun i=>w.getD i 0) k
 rw[←btr w h.1] at this
 exact this
theorem bqc{w:List Int}(h:W25 w){ρ:Type}(k:List Int→Option ρ):P.ql w k=k (perm w):=by
 have:=ql h.ws k
 rw[←btr w h.1] at this
 exact this
def pt(w:List Int)(a:Nat)(c:Int):List Int:=w.set (a/8) (X (w.getD (a/8) 0) (Ab.wrap (Ab.wrap c*(2:Int)^min (8*(a%8)) 64)))
theorem byz(x:Int):U64 (Ab.wrap x):=by
 rw[bng]
 exact ⟨Int.emod_nonneg _ (by omega),Int.emod_lt_of_pos _ (by omega)⟩
theorem bqw{w:List Int}(h:W25 w)(a:Nat)(c:Int):W25 (pt w a c):=by
 refine ⟨by unfold pt;rw[List.length_set];exact h.1,fun x hx=>?_⟩
 rcases List.mem_or_eq_of_mem_set hx with hx | rfl
 ·exact h.2 x hx
 ·exact X_U (h.2.getD _ (by omega)) (byz _)
theorem at8(a:Nat)(h:a<1000000):Ae.wrap ((a:Int).tdiv 8)=((a/8:Nat):Int):=by
 rw[Ca (by omega),qc (by omega) (by omega)]
 omega
theorem am8(a:Nat)(h:a<1000000):Ae.wrap ((8:Int)*(a:Int).tmod 8)=((8*(a%8):Nat):Int):=by
 rw[Cb (by omega),qc (by omega) (by omega)]
 omega
theorem aat(w:List Int)(a:Nat)(c:Int)(h:a<200){ρ:Type}(k:List Int→Option ρ):P.aat w (a:Int) c k=k (pt w a c):=by
 rw[P.bdb];unfold P.arz
 rw[at8 a (by omega),am8 a (by omega),toNat_cast,toNat_cast]
 simp (disch:=omega) only[bg,dh,jd,eu,gu,iw,jo,p9,yg,qc]
 rfl
def Rt(kd:Int)(r:Nat):Prop:=(kd=4∧r=136)∨(kd=5∧r=72)∨(kd=6∧r=168)∨(kd=7∧r=136)
theorem Rt.le{kd:Int}{r:Nat}(h:Rt kd r):72≤r∧r≤168:=by
 rcases h with ⟨_,rfl⟩ | ⟨_,rfl⟩ | ⟨_,rfl⟩ | ⟨_,rfl⟩<;>omega
theorem bdy{kd:Int}{r:Nat}(h:Rt kd r){ρ:Type}(k:Int→Option ρ):P.mo kd k=k (r:Int):=by
 rw[P.arj];unfold P.aje
 rcases h with ⟨rfl,rfl⟩ | ⟨rfl,rfl⟩ | ⟨rfl,rfl⟩ | ⟨rfl,rfl⟩<;>simp
theorem bql{kd:Int}{r:Nat}(h:Rt kd r){ρ:Type}(k:Int→Option ρ):P.ab1 kd k=k (r:Int):=by
 rw[P.azx];unfold P.apj
 rcases h with ⟨rfl,rfl⟩ | ⟨rfl,rfl⟩ | ⟨rfl,rfl⟩ | ⟨rfl,rfl⟩<;>simp
def ast(r:Nat)(s:List Int×Nat)(c:Int):List Int×Nat:=if s.2+1=r then (perm (pt s.1 s.2 c),0) else (pt s.1 s.2 c,s.2+1)
def au7(r:Nat)(s:List Int×Nat)(l:List Int):List Int×Nat:=l.foldl (ast r) s
def Good(r:Nat)(s:List Int×Nat):Prop:=W25 s.1∧s.2<r
theorem brh{r:Nat}{s:List Int×Nat}(h:Good r s)(c:Int):Good r (ast r s c):=by
 unfold ast Good at *
 split
 ·exact ⟨bo2 (bqw h.1 _ _),by simp only;omega⟩
 ·exact ⟨bqw h.1 _ _,by simp only;omega⟩
theorem ahl{r:Nat}:∀(l:List Int) {s:List Int×Nat},Good r s→Good r (au7 r s l)
 | [],s,h=>h
 | c::l,s,h=>ahl l (brh h c)
theorem biw(r:Nat)(s:List Int×Nat)(l:List Int)(i:Nat)(hi:i<l.length):au7 r s (l.take (i+1))=ast r (au7 r s (l.take i)) (l.getD i 0):=by
 rw[←apm l 0 i hi]
 unfold au7
 rw[List.foldl_append]
 rfl
theorem bs8(r:Nat)(s:List Int×Nat)(l m:List Int):au7 r s (l++m)=au7 r (au7 r s l) m:=by
 unfold au7;rw[List.foldl_append]
abbrev Z25:List Int:=[0,0,0,0,0,0,0,0,0,0,0,0,0,0,0,0,0,0,0,0,0,0,0,0,0]
theorem buz:W25 Z25:=⟨rfl,fun x hx=>by
 have:x=0:=by simpa [Z25] using hx
 subst this
 decide⟩
theorem abo{kd:Int}{r:Nat}(hr:Rt kd r)(w:List Int)(a:Nat)(hg:Good r (w,a))(b:List Int)(hn:b.length<9223372036854775807){ρ:Type}(k:Int→List Int→Int→Bool→Option ρ) :
    P.abo kd w (a:Int) false b k=k kd (au7 r (w,a) b).1 ((au7 r (w,a) b).2:Int) false:=by
 have hr2:=hr.le
 rw[P.auz];unfold P.ale
 rw[yg,P.ax0];unfold P.au4 P.b4t P.byp P.cbf
 refine yu (fun i=>(b,(i:Int),kd,(au7 r (w,a) (b.take i)).1,((au7 r (w,a) (b.take i)).2:Int),false,(0:Int),Z25,(0:Int),false)) b.length (by simp[au7]) (fun i hi next hnx=>?_) (fun next=>?_) (by omega)
 ·have hg2:=ahl (b.take i) hg
  rw[biw r (w,a) b i hi] at hnx
  simp only[P.anj,toNat_cast]
  generalize au7 r (w,a) (b.take i)=s at hg2 hnx ⊢
  have hlt:=hg2.2
  rw[bg (by omega),bg (by omega),bg (by omega),aat _ _ _ (by omega),bql hr,qc (x:=(s.2:Int)+1) (by omega) (by omega),qc (x:=(i:Int)+1) (by omega) (by omega)]
  unfold ast at hnx
  by_cases he:s.2+1=r
  ·rw[if_pos he] at hnx
   rw[gu (by omega),bqc (bqw hg2.1 _ _)]
   exact hnx
  ·rw[if_neg he] at hnx
   rw[iw (by omega)]
   exact hnx
 ·simp only[P.anj]
  rw[dh (by omega),Bq]
def sq0(r:Nat)(s:List Int×Nat):List Int×Nat:=if s.2=r then (perm s.1,0) else s
def sqb(s:List Int×Nat):Int:=Cc.wrap ((s.1.getD (s.2/8) 0).fdiv ((2:Int)^min (8*(s.2%8)) 64))
def sqS(r:Nat)(s:List Int×Nat):Nat→List Int×Nat
 | 0=>s
 | n+1=>((sq0 r (sqS r s n)).1,(sq0 r (sqS r s n)).2+1)
def sqB(r:Nat)(s:List Int×Nat)(n:Nat):Int:=sqb (sq0 r (sqS r s n))
def sqO(r:Nat)(s:List Int×Nat)(m:Nat):List Int:=(Ac m).map (sqB r s)
def Gd(r:Nat)(s:List Int×Nat):Prop:=W25 s.1∧s.2≤r
theorem be6{r:Nat}(hr:1≤r){s:List Int×Nat}(h:Gd r s):∀n,Gd r (sqS r s n)
 | 0=>h
 | n+1=>by
  have ih:=be6 hr h n
  show Gd r ((sq0 r (sqS r s n)).1,(sq0 r (sqS r s n)).2+1)
  revert ih
  generalize sqS r s n=t
  intro ih
  have h2:=ih.2
  unfold sq0
  by_cases he:t.2=r
  ·rw[if_pos he];exact ⟨bo2 ih.1,by simp only;omega⟩
  ·rw[if_neg he];exact ⟨ih.1,by simp only;omega⟩
theorem bke(r:Nat)(s:List Int×Nat)(m:Nat):(sqO r s m).length=m:=by simp[sqO]
theorem bzt(r:Nat)(s:List Int×Nat)(m:Nat):In 256 (sqO r s m):=fun x hx=>by
 simp only[sqO,Ct] at hx
 obtain ⟨i,_,rfl⟩:=hx
 unfold sqB sqb
 rw[u8m]
 exact ⟨Int.emod_nonneg _ (by omega),Int.emod_lt_of_pos _ (by omega)⟩
theorem brb(r:Nat)(s:List Int×Nat)(i:Nat):sqO r s i++[sqB r s i]=sqO r s (i+1):=aep (sqB r s) i
theorem zd:(0:Nat)/8=0:=rfl
theorem zm:min (8*((0:Nat)%8)) 64=0:=rfl
theorem b9q{kd:Int}{r:Nat}(hr:Rt kd r)(s:List Int×Nat)(hg:Gd r s)(m:Nat)(hm:m≤100000000)(z:Bool){ρ:Type}(k:Int→Int→List Int→Int→List Int→Int→Bool→Int→List Int→Int→Bool→Option ρ) :
    P.aas (m:Int) (r:Int) [] kd s.1 (s.2:Int) z 0 Z25 0 false k=k (m:Int) (r:Int) (sqO r s m) kd (sqS r s m).1 ((sqS r s m).2:Int) z 0 Z25 0 false:=by
 have hr2:=hr.le
 rw[P.auv];unfold P.aox P.b3u P.b03 P.b5m
 refine yu (fun i=>((m:Int),(r:Int),sqO r s i,kd,(sqS r s i).1,((sqS r s i).2:Int),z,(0:Int),Z25,(0:Int),false)) m (by simp[sqO,sqS]) (fun i hi next hnx=>?_) (fun next=>?_) (by omega)
 ·have hg2:=be6 (by omega) hg i
  rw[←brb] at hnx
  simp only[P.aj5]
  unfold sqB at hnx
  simp only[sqS] at hnx
  have hl:=bke r s i
  generalize sqS r s i=t at hg2 hnx ⊢
  generalize sqO r s i=o at hnx hl ⊢
  have hlt:=hg2.2
  rw[bg (by omega)]
  unfold sq0 sqb at hnx
  by_cases he:t.2=r
  ·rw[if_pos he] at hnx
   rw[gu (by omega),bqc hg2.1,bg (by omega),qc (by omega) (by omega)]
   simp only[zd,zm] at hnx
   exact hnx
  ·rw[if_neg he] at hnx
   rw[iw (by omega),at8 _ (by omega),am8 _ (by omega),toNat_cast,toNat_cast,qc (x:=(t.2:Int)+1) (by omega) (by omega)]
   simp (disch:=omega) only[bg,dh,jd,eu,gu,iw,jo,p9,yg,qc]
   exact hnx
 ·simp only[P.aj5,bke]
  rw[dh (by omega)]
theorem b7c{kd:Int}{r:Nat}(hr:Rt kd r)(s:List Int×Nat)(hg:Gd r s)(m:Nat)(hm:m≤100000000)(z:Bool){ρ:Type}(k:Int→Int→Int→List Int→Int→Bool→Int→List Int→Int→Bool→List Int→Option ρ) :
    P.ad2 (m:Int) 0 kd s.1 (s.2:Int) z 0 Z25 0 false (Af m 0) k=k (m:Int) (m:Int) kd (sqS r s m).1 ((sqS r s m).2:Int) z 0 Z25 0 false (sqO r s m):=by
 have hr2:=hr.le
 rw[P.aqi];unfold P.al9 P.b3s P.bzn P.cbw
 refine yu (fun i=>((m:Int),(i:Int),kd,(sqS r s i).1,((sqS r s i).2:Int),z,(0:Int),Z25,(0:Int),false,sqO r s i++Af (m-i) 0)) m (by simp[sqO,sqS]) (fun i hi next hnx=>?_) (fun next=>?_) (by omega)
 ·have hg2:=be6 (by omega) hg i
  have hO:sqO r s (i+1)++Af (m-(i+1)) 0=(sqO r s i++Af (m-i) 0).set i (sqB r s i):=(biv (sqB r s) i m hi 0).symm
  have hl:(sqO r s i++Af (m-i) 0).length=m:=by simp[sqO];omega
  rw[hO] at hnx
  unfold sqB at hnx
  simp only[sqS] at hnx
  simp only[P.agp,toNat_cast]
  generalize sqO r s i++Af (m-i) 0=o at hl hnx ⊢
  generalize sqS r s i=t at hg2 hnx ⊢
  have hlt:=hg2.2
  rw[bg (by omega),bdy hr]
  unfold sq0 sqb at hnx
  by_cases he:t.2=r
  ·rw[if_pos he] at hnx
   rw[gu (by omega),bqg hg2.1,bg (by omega),bg (by omega),qc (x:=(i:Int)+1) (by omega) (by omega),qc (x:=(0:Int)+1) (by omega) (by omega)]
   simp only[zd,zm] at hnx
   exact hnx
  ·rw[if_neg he] at hnx
   rw[iw (by omega),at8 _ (by omega),am8 _ (by omega),toNat_cast,toNat_cast,qc (x:=(t.2:Int)+1) (by omega) (by omega),qc (x:=(i:Int)+1) (by omega) (by omega)]
   simp (disch:=omega) only[bg,dh,jd,eu,gu,iw,jo,p9,yg,qc]
   exact hnx
 ·simp only[P.agp]
  rw[dh (by omega)]
  simp
end QK
end

section
/- keccak: sums. -/
namespace QK
open Q
open Go Go.Abs
set_option linter.unusedVariables false
set_option linter.unusedSimpArgs false
theorem mh{kd:Int}{r:Nat}(hr:Rt kd r)(w:List Int)(a:Nat)(hg:Good r (w,a))(b:List Int)(hn:b.length<9223372036854775807){ρ:Type}(k:Int→List Int→Int→Bool→Option ρ) :
    P.mh kd w (a:Int) false b k=k kd (au7 r (w,a) b).1 ((au7 r (w,a) b).2:Int) false:=by
 have hr2:=hr.le
 rw[P.an8];unfold P.agm
 rw[yg,bdy hr,P.as3];unfold P.ant P.b4s P.b22 P.cbj
 refine yu (fun i=>(b,(r:Int),(b.length:Int),(i:Int),kd,(au7 r (w,a) (b.take i)).1,((au7 r (w,a) (b.take i)).2:Int),false,(0:Int),Z25,(0:Int),false)) b.length (by simp[au7]) (fun i hi next hnx=>?_) (fun next=>?_) (by omega)
 ·have hg2:=ahl (b.take i) hg
  rw[biw r (w,a) b i hi] at hnx
  simp only[P.ah6,toNat_cast]
  generalize au7 r (w,a) (b.take i)=s at hg2 hnx ⊢
  have hlt:=hg2.2
  rw[at8 _ (by omega),am8 _ (by omega),toNat_cast,toNat_cast,qc (x:=(s.2:Int)+1) (by omega) (by omega),qc (x:=(i:Int)+1) (by omega) (by omega)]
  unfold ast at hnx
  by_cases he:s.2+1=r
  ·rw[if_pos he] at hnx
   simp (disch:=omega) only[bg,dh,jd,eu,gu,iw,jo,p9,yg,qc]
   exact (bqg (bqw hg2.1 _ _) _).trans hnx
  ·rw[if_neg he] at hnx
   simp (disch:=omega) only[bg,dh,jd,eu,gu,iw,jo,p9,yg,qc]
   exact hnx
 ·simp only[P.ah6]
  rw[dh (by omega),Bq]
def mark(kd:Int):Int:=if kd=4∨kd=5 then 6 else 31
def trn(kd:Int)(r:Nat)(s:List Int×Nat):List Int:=perm (pt (pt s.1 s.2 (mark kd)) (r-1) 128)
theorem bx7{kd:Int}{r:Nat}{s:List Int×Nat}(h:W25 s.1):W25 (trn kd r s):=bo2 (bqw (bqw h _ _) _ _)
theorem xu{kd:Int}{r:Nat}(hr:Rt kd r)(s:List Int×Nat)(hg:Good r s)(z:Bool){ρ:Type}(k:Int→List Int→Int→Bool→Option ρ) :
    P.xu kd s.1 (s.2:Int) z k=k kd (trn kd r s) 0 true:=by
 have hr2:=hr.le
 have h2:=hg.2
 have er:(r:Int)-1=((r-1:Nat):Int):=by omega
 rw[P.an7];unfold P.agw
 rw[at8 _ (by omega),am8 _ (by omega),toNat_cast,toNat_cast]
 rw[bdy hr,bdy hr,qc (x:=(r:Int)-1) (by omega) (by omega),er,at8 _ (by omega),am8 _ (by omega),toNat_cast,toNat_cast]
 have fin:∀c:Int,(P.jh (pt (pt s.1 s.2 c) (r-1) 128) fun q=>k kd q 0 true)=k kd (perm (pt (pt s.1 s.2 c) (r-1) 128)) 0 true:=fun c=>bqg (bqw (bqw hg.1 _ _) _ _) _
 unfold trn mark
 by_cases h4:kd=4
 ·rw[if_pos (.inl h4)]
  simp (disch:=omega) only[bg,dh,jd,eu,gu,iw,jo,p9,yg,qc]
  exact fin 6
 ·by_cases h5:kd=5
  ·rw[if_pos (.inr h5)]
   simp (disch:=omega) only[bg,dh,jd,eu,gu,iw,jo,p9,yg,qc]
   exact fin 6
  ·rw[if_neg (by omega)]
   simp (disch:=omega) only[bg,dh,jd,eu,gu,iw,jo,p9,yg,qc]
   exact fin 31
theorem aap{kd:Int}{r:Nat}(hr:Rt kd r)(s:List Int×Nat)(hg:Good r s)(m:Nat)(hm:m≤100000000){ρ:Type}(k:Int→List Int→Int→Bool→List Int→Option ρ) :
    P.aap kd s.1 (s.2:Int) false (m:Int) k=k kd (sqS r (trn kd r s,0) m).1 ((sqS r (trn kd r s,0) m).2:Int) true (sqO r (trn kd r s,0) m):=by
 have hr2:=hr.le
 have h2:=hg.2
 have er:(r:Int)-1=((r-1:Nat):Int):=by omega
 have fin:∀c:Int,mark kd=c→(P.aat s.1 (s.2:Int) c fun q1=>P.aat q1 (Ae.wrap ((r:Int)-1)) 128 fun q2=>P.ql q2 fun q3=>P.aas (m:Int) (r:Int) [] kd q3 0 true 0 Z25 0 false
     fun (q4 q5:Int) (q6:List Int) (q7:Int) (q8:List Int) (q9:Int) (q10:Bool) (q11:Int) (q12:List Int) (q13:Int) (q14:Bool)=>k q7 q8 q9 q10 q6) =
     k kd (sqS r (trn kd r s,0) m).1 ((sqS r (trn kd r s,0) m).2:Int) true (sqO r (trn kd r s,0) m):=by
  intro c hc
  rw[qc (x:=(r:Int)-1) (by omega) (by omega),er,aat _ _ _ (by omega),aat _ _ _ (by omega),bqc (bqw (bqw hg.1 _ _) _ _)]
  have:=b9q hr (trn kd r s,0) ⟨bx7 hg.1,by simp only;omega⟩ m hm true (fun (q4 q5:Int) (q6:List Int) (q7:Int) (q8:List Int) (q9:Int) (q10:Bool) (q11:Int) (q12:List Int) (q13:Int) (q14:Bool)=>k q7 q8 q9 q10 q6)
  unfold trn at this ⊢
  rw[hc] at this ⊢
  exact this
 rw[P.ara];unfold P.ajw
 rw[dh (by omega),bql hr,jo,yg]
 by_cases h4:kd=4
 ·rw[gu h4];exact fin 6 (by unfold mark;rw[if_pos (.inl h4)])
 ·rw[iw h4]
  by_cases h5:kd=5
  ·rw[gu h5];exact fin 6 (by unfold mark;rw[if_pos (.inr h5)])
  ·rw[iw h5];exact fin 31 (by unfold mark;rw[if_neg (by omega)])
theorem o7{kd:Int}{r:Nat}(hr:Rt kd r)(s:List Int×Nat)(hg:Good r s)(m:Nat)(hm:m≤100000000){ρ:Type}(k:Int→List Int→Int→Bool→List Int→Option ρ) :
    P.o7 kd s.1 (s.2:Int) false (m:Int) k=k kd (sqS r (trn kd r s,0) m).1 ((sqS r (trn kd r s,0) m).2:Int) true (sqO r (trn kd r s,0) m):=by
 have hr2:=hr.le
 rw[P.ami];unfold P.afp
 rw[dh (by omega),jo,yg,xu hr s hg,bg (by omega),bg (by omega),bg (by omega),toNat_cast,Bh]
 exact b7c hr (trn kd r s,0) ⟨bx7 hg.1,by simp only;omega⟩ m hm true _
def rOf(kd:Int):Nat:=if kd=4 then 136 else if kd=5 then 72 else if kd=6 then 168 else 136
theorem btf{kd:Int}(h:kd=4∨kd=5∨kd=6∨kd=7):Rt kd (rOf kd):=by
 unfold Rt rOf
 rcases h with rfl | rfl | rfl | rfl<;>simp
def buw(kd:Int)(b:List Int)(m:Nat):List Int:=sqO (rOf kd) (trn kd (rOf kd) (au7 (rOf kd) (Z25,0) b),0) m
theorem bli(kd:Int)(b:List Int)(m:Nat):(buw kd b m).length=m:=bke _ _ _
theorem bn7(kd:Int)(b:List Int)(m:Nat):In 256 (buw kd b m):=bzt _ _ _
theorem zl{kd:Int}(h:kd=4∨kd=5∨kd=6∨kd=7)(b:List Int)(hn:b.length<9223372036854775807)(m:Nat)(hm:m≤16777216){ρ:Type}(k:List Int→Int→Option ρ):P.zl kd b (m:Int) k=k (buw kd b m) 0:=by
 have hr:=btf h
 have hr2:=hr.le
 have hg:Good (rOf kd) (Z25,0):=⟨buz,by simp only;omega⟩
 rw[P.atx];unfold P.alh
 rw[P.am0];unfold P.ahc
 rw[bdy hr,iw (by omega)]
 dsimp only
 rw[eu rfl,dh (by omega),dh (by omega)]
 exact (mh hr Z25 0 hg b hn _).trans (o7 hr _ (ahl b hg) m (by omega) _)
theorem akb{kd:Int}(h:kd=4∨kd=5∨kd=6∨kd=7)(b:List Int)(hn:b.length<9223372036854775807)(m:Nat)(hm:m≤16777216){ρ:Type}(k:List Int→Int→Option ρ):P.akb kd b (m:Int) k=k (buw kd b m) 0:=by
 have hr:=btf h
 have hr2:=hr.le
 have hg:Good (rOf kd) (Z25,0):=⟨buz,by simp only;omega⟩
 rw[P.bdu];unfold P.ar6
 rw[P.bby];unfold P.asf
 rw[bql hr,iw (by omega)]
 dsimp only
 rw[eu rfl,dh (by omega),dh (by omega)]
 exact (abo hr Z25 0 hg b hn _).trans (aap hr _ (ahl b hg) m (by omega) _)
end QK
end

section
/- SHA-2: what a block does. -/
namespace Q
open Go Go.Abs
set_option linter.unusedVariables false
set_option linter.unusedSimpArgs false
structure Par (w:Nat) where
 rounds:Nat
 a:Nat×Nat×Nat
 b:Nat×Nat×Nat
 c:Nat×Nat×Nat
 d:Nat×Nat×Nat
 K:Nat→BitVec w
section
variable {w:Nat}
def hi(t:Nat×Nat×Nat)(x:BitVec w):BitVec w:=rr x t.1 ^^^ rr x t.2.1 ^^^ rr x t.2.2
def lo(t:Nat×Nat×Nat)(x:BitVec w):BitVec w:=rr x t.1 ^^^ rr x t.2.1 ^^^ (x >>> t.2.2)
def cv(l:List (BitVec w)):List Int:=l.map fun x=>(x.toNat:Int)
@[simp] theorem zi (l:List (BitVec w)):(cv l).length=l.length:=by simp[cv]
theorem ah4(l:List (BitVec w))(i:Nat):(cv l).getD i 0=((l.getD i 0).toNat:Int):=by
 unfold cv
 rw[Ad,Ad,List.getElem?_map]
 cases l[i]?<;>simp
theorem bb4(l:List (BitVec w))(i:Nat)(x:BitVec w):(cv l).set i (x.toNat:Int)=cv (l.set i x):=by simp[cv,List.map_set]
theorem ahi(l r:List (BitVec w)):cv l++cv r=cv (l++r):=by simp[cv]
def bw0(p:Par w)(t:Nat)(wt:BitVec w)(v:List (BitVec w)):BitVec w :=
 v.getD 7 0+hi p.d (v.getD 4 0)+(v.getD 6 0 ^^^ (v.getD 4 0 &&& (v.getD 5 0 ^^^ v.getD 6 0)))+p.K t+wt
def b63(p:Par w)(v:List (BitVec w)):BitVec w:=hi p.c (v.getD 0 0)+((v.getD 0 0 &&& v.getD 1 0) ||| (v.getD 2 0 &&& (v.getD 0 0 ||| v.getD 1 0)))
def rnd(p:Par w)(t:Nat)(wt:BitVec w)(v:List (BitVec w)):List (BitVec w) :=
 [bw0 p t wt v+b63 p v,v.getD 0 0,v.getD 1 0,v.getD 2 0,v.getD 3 0+bw0 p t wt v,v.getD 4 0,v.getD 5 0,v.getD 6 0]
def byy(p:Par w)(l:List (BitVec w)):BitVec w:=lo p.b (l.getD (l.length-2) 0)+l.getD (l.length-7) 0+lo p.a (l.getD (l.length-15) 0)+l.getD (l.length-16) 0
def sched(p:Par w)(l:List (BitVec w)):Nat→List (BitVec w)
 | 0=>l
 | n+1=>sched p l n++[byy p (sched p l n)]
theorem bay(p:Par w)(l:List (BitVec w)):∀n,(sched p l n).length=l.length+n
 | 0=>rfl
 | n+1=>by simp only[sched,Bw,bay p l n,List.length_singleton];omega
theorem bey(p:Par w)(l:List (BitVec w))(n i:Nat)(hi:i<l.length+n):∀m,(sched p l (n+m)).getD i 0=(sched p l n).getD i 0
 | 0=>rfl
 | m+1=>by
  rw[←Cr]
  simp only[sched]
  rw[Ad,List.getElem?_append_left (by rw[bay];omega),←Ad,bey p l n i hi m]
def W(p:Par w)(l:List (BitVec w))(t:Nat):BitVec w:=(sched p l t).getD t 0
theorem btb(p:Par w)(l:List (BitVec w))(hl:0<l.length)(n t:Nat)(h:t<l.length+n):(sched p l n).getD t 0=W p l t:=by
 unfold W
 by_cases hn:n≤t
 ·have:=bey p l n t h (t-n)
  rw[show n+(t-n)=t by omega] at this
  exact this.symm
 ·have:=bey p l t t (by omega) (n-t)
  rw[show t+(n-t)=n by omega] at this
  exact this
theorem bkz(p:Par w)(l:List (BitVec w))(hl:l.length=16)(t:Nat):W p l (t+16)=W p l t+lo p.a (W p l (t+1))+W p l (t+9)+lo p.b (W p l (t+14)):=by
 have e:=btb p l (by omega) (t+1) (t+16) (by omega)
 rw[←e]
 simp only[sched]
 have hlen:=bay p l t
 rw[Ad,A9 (by rw[hlen];omega),hlen,show t+16-(l.length+t)=0 by omega]
 simp only[List.getElem?_cons_zero,Option.getD_some]
 unfold byy
 rw[hlen,show l.length+t-2=t+14 by omega,show l.length+t-7=t+9 by omega,show l.length+t-15=t+1 by omega,show l.length+t-16=t by omega,
  btb p l (by omega) t _ (by omega),btb p l (by omega) t _ (by omega),btb p l (by omega) t _ (by omega),btb p l (by omega) t _ (by omega)]
 ac_rfl
def runs(p:Par w)(l:List (BitVec w))(v:List (BitVec w)):Nat→List (BitVec w)
 | 0=>v
 | t+1=>rnd p t (W p l t) (runs p l v t)
theorem ap9(p:Par w)(l v:List (BitVec w))(hv:v.length=8):∀t,(runs p l v t).length=8
 | 0=>hv
 | t+1=>rfl
def btc(p:Par w)(l v:List (BitVec w)):List (BitVec w):=(Ac 8).map fun i=>(runs p l v p.rounds).getD i 0+v.getD i 0
def og(w:Nat)(b:List Int)(n:Nat):List (BitVec w):=(Ac n).map fun t=>Av w (T 8 ((b.take ((t+1)*(w/8))).drop (t*(w/8))).reverse)
def bau(p:Par w)(v:List (BitVec w))(b:List Int):List (BitVec w):=btc p (og w b 16) v
theorem bnc(p:Par w)(v:List (BitVec w))(b:List Int):(bau p v b).length=8:=by simp[bau,btc]
theorem ayp(b:List Int)(n:Nat):og w b (n+1)=og w b n++[Av w (T 8 ((b.take ((n+1)*(w/8))).drop (n*(w/8))).reverse)]:=by simp[og,Au]
theorem u7(b:List Int)(n:Nat):(og w b n).length=n:=by simp[og]
def win(p:Par w)(l:List (BitVec w))(t:Nat):List (BitVec w):=(Ac 16).map fun j=>W p l (t+(j+16-t%16)%16)
theorem awv(p:Par w)(l:List (BitVec w))(t i:Nat)(hi:i<16):(win p l t).getD ((t+i)%16) 0=W p l (t+i):=by
 unfold win
 rw[getD_lt (by simp;omega)]
 simp only[Ar,Ao]
 congr 1
 omega
theorem bky(p:Par w)(l:List (BitVec w))(t:Nat):(win p l t).set (t%16) (W p l (t+16))=win p l (t+1):=by
 unfold win
 refine Aw (by simp) (fun j h1 h2=>?_)
 simp only[Aq,Aj] at h2
 rw[List.getElem_set]
 by_cases h:t%16=j
 ·rw[if_pos h]
  simp only[Ar,Ao]
  congr 1
  omega
 ·rw[if_neg h]
  simp only[Ar,Ao]
  congr 1
  omega
theorem win_zero(p:Par w)(b:List Int):win p (og w b 16) 0=og w b 16:=by
 unfold win
 refine Aw (by simp[og]) (fun j h1 h2=>?_)
 rw[u7] at h2
 simp only[Ar,Ao]
 rw[show 0+(j+16-0%16)%16=j by omega,←btb p _ (by rw[u7];omega) 0 j (by rw[u7];omega)]
 exact getD_lt (by rw[show sched p (og w b 16) 0=og w b 16 from rfl,u7];exact h2)
end
theorem bjk:∀x,x∈P.roots256→0≤x∧x<4294967296:=by decide +kernel
theorem bjd:∀x,x∈P.roots512→0≤x∧x<18446744073709551616:=by decide +kernel
def p32:Par 32:=⟨64,(7,18,3),(17,19,10),(2,13,22),(6,11,25),fun t=>Aa 32 (P.roots256.getD t 0)⟩
def p64:Par 64:=⟨80,(1,8,7),(19,61,6),(28,34,39),(14,18,41),fun t=>Aa 64 (P.roots512.getD t 0)⟩
theorem K32(t:Nat):P.roots256.getD t 0=((p32.K t).toNat:Int):=by
 have:=In.getD (m:=4294967296) bjk t (by omega)
 simp only[p32,Ai]
 omega
theorem K64(t:Nat):P.roots512.getD t 0=((p64.K t).toNat:Int):=by
 have:=In.getD (m:=18446744073709551616) bjd t (by omega)
 simp only[p64,Ai]
 omega
end Q
end

section
/- SHA-2: the program's engine of 32 bits. -/
namespace Q
open Go Go.Abs
set_option linter.unusedVariables false
set_option linter.unusedSimpArgs false
theorem ala(rd:Int)(t0 t1 t2 t3:List Int)(x:BitVec 32)(m:Int)(n:Nat)(hm:m=(n:Int))(hn:n≤32){ρ:Type}(k:Int→Option ρ) :
    P.dx 32 rd t0 t1 t2 t3 (x.toNat:Int) m k=k ((rr x n).toNat:Int):=by
 subst hm
 rw[P.acs]
 unfold P.zq
 rw[dh (by omega),qc (by omega) (by omega),dh (by omega),show (32:Int)-(n:Int)=((32-n:Nat):Int) by omega]
 simp only[toNat_cast]
 rw[bur _ _ hn,cao _ _ (by omega),ccw]
 rfl
theorem bqe(rd:Int)(x:BitVec 32){ρ:Type}(k:Int→Option ρ):P.kg 32 rd [7,18,3] [17,19,10] [2,13,22] [6,11,25] (x.toNat:Int) 3 k=k ((hi p32.d x).toNat:Int):=by
 rw[P.abb]
 unfold P.yt
 simp only[Ak,Al]
 rw[dh (by decide),dh (by decide),dh (by decide),bg (by decide),ala _ _ _ _ _ _ _ 6 (by rfl) (by omega),ala _ _ _ _ _ _ _ 11 (by rfl) (by omega),ala _ _ _ _ _ _ _ 25 (by rfl) (by omega),bf4,bf4]
 rfl
theorem bo8(rd:Int)(x:BitVec 32){ρ:Type}(k:Int→Option ρ):P.kg 32 rd [7,18,3] [17,19,10] [2,13,22] [6,11,25] (x.toNat:Int) 2 k=k ((hi p32.c x).toNat:Int):=by
 rw[P.abb]
 unfold P.yt
 simp only[Ak,Al]
 rw[dh (by decide),dh (by decide),bg (by decide),ala _ _ _ _ _ _ _ 2 (by rfl) (by omega),ala _ _ _ _ _ _ _ 13 (by rfl) (by omega),ala _ _ _ _ _ _ _ 22 (by rfl) (by omega),bf4,bf4]
 rfl
theorem bru(rd:Int)(x:BitVec 32){ρ:Type}(k:Int→Option ρ):P.l6 32 rd [7,18,3] [17,19,10] [2,13,22] [6,11,25] (x.toNat:Int) 0 k=k ((lo p32.a x).toNat:Int):=by
 rw[P.abk]
 unfold P.za
 simp only[Ak,Al]
 rw[bg (by decide),ala _ _ _ _ _ _ _ 7 (by rfl) (by omega),ala _ _ _ _ _ _ _ 18 (by rfl) (by omega),dh (by decide),bf4,show (3:Int).toNat=3 from rfl,bur _ _ (by omega),bf4]
 rfl
theorem brf(rd:Int)(x:BitVec 32){ρ:Type}(k:Int→Option ρ):P.l6 32 rd [7,18,3] [17,19,10] [2,13,22] [6,11,25] (x.toNat:Int) 1 k=k ((lo p32.b x).toNat:Int):=by
 rw[P.abk]
 unfold P.za
 simp only[Ak,Al]
 rw[dh (by decide),bg (by decide),ala _ _ _ _ _ _ _ 17 (by rfl) (by omega),ala _ _ _ _ _ _ _ 19 (by rfl) (by omega),dh (by decide),bf4,show (10:Int).toNat=10 from rfl,bur _ _ (by omega),bf4]
 rfl
theorem br8(t:Nat)(h:t<64){ρ:Type}(k:Int→Option ρ):P.qh (t:Int) k=k ((p32.K t).toNat:Int):=by
 rw[P.aqt]
 unfold P.ajp
 rw[bg (by omega),bg (by omega),toNat_cast,K32]
theorem v8{w:Nat}(v:List (BitVec w))(hv:v.length=8):v=[v.getD 0 0,v.getD 1 0,v.getD 2 0,v.getD 3 0,v.getD 4 0,v.getD 5 0,v.getD 6 0,v.getD 7 0]:=by
 match v,hv with
 | [a,b,c,d,e,f,g,h],_=>rfl
theorem cdv(t:Nat):((t:Nat):Int).tmod 16=((t%16:Nat):Int):=by
 rw[Cb (by omega)];rfl
theorem bzj(b:List Int)(hb:In 256 b)(hl:b.length=16*4)(rd:Int)(t0 t1 t2 t3 h1 h2:List Int){ρ:Type}(k0:List Int→Int→Int→Int→Int→List Int→List Int→List Int→List Int→List Int→List Int→List Int→Option ρ) :
    P.aa2 b 4 0 32 rd t0 t1 t2 t3 h1 h2 (Af 16 0) k0=k0 b 4 16 32 rd t0 t1 t2 t3 h1 h2 (cv (og 32 b 16)):=by
 rw[P.ah5]
 unfold P.aee P.b3n P.b05 P.cbz
 refine yu (fun i=>(b,4,(i:Int),32,rd,t0,t1,t2,t3,h1,h2,cv (og 32 b i)++Af (16-i) 0)) 16 (by simp[og,cv]) (fun i hi next hn'=>?_) (fun next=>?_) (by omega)
 ·simp only[P.aaz,toNat_cast]
  have e1:Ae.wrap ((i:Int)*4)=((i*4:Nat):Int):=by rw[qc (by omega) (by omega)];omega
  have e2:Ae.wrap (Ae.wrap ((i:Int)+1)*4)=(((i+1)*4:Nat):Int):=by rw[qc (x:=(i:Int)+1) (by omega) (by omega),qc (by omega) (by omega)];omega
  rw[e1,e2]
  simp only[toNat_cast]
  have hlen:((b.take ((i+1)*4)).drop (i*4)).length=4:=by simp;omega
  rw[bg (by omega),bg (by omega),bg (by omega),bg (by omega),uz _ ((hb.take _).drop _) (by omega),bg (by omega),bg (by omega)]
  have e3:Bc.wrap ((T 8 ((b.take ((i+1)*4)).drop (i*4)).reverse%2^64:Nat):Int)=(((Av 32 (T 8 ((b.take ((i+1)*4)).drop (i*4)).reverse)).toNat:Nat):Int):=by
   rw[b0a,Ay];omega
  have e4:Ae.wrap ((i:Int)+1)=((i+1:Nat):Int):=by rw[qc (by omega) (by omega)];omega
  rw[e3,e4]
  have e5:(cv (og 32 b i)++Af (16-i) (0:Int)).set i (((Av 32 (T 8 ((b.take ((i+1)*4)).drop (i*4)).reverse)).toNat:Nat):Int)=cv (og 32 b (i+1))++Af (16-(i+1)) 0:=by
   rw[Am _ _ (by simp[u7]),zi,u7,Bf,show 16-i=(16-(i+1))+1 by omega,Bj,Az,ayp,←ahi,Ba]
   rfl
  rw[e5]
  exact hn'
 ·simp only[P.aaz]
  rw[dh (by omega)]
  simp
theorem bwg(l v:List (BitVec 32))(hv:v.length=8)(h2 h1:List Int){ρ:Type}(k0:Int→Int→List Int→List Int→List Int→Int→Int→List Int→List Int→List Int→List Int→List Int→Option ρ)(hl:l.length=16) :
    P.xk 64 0 (cv (win p32 l 0)) h2 h1 32 64 [7,18,3] [17,19,10] [2,13,22] [6,11,25] (cv v) k0 =
     k0 64 64 (cv (win p32 l 64)) h2 h1 32 64 [7,18,3] [17,19,10] [2,13,22] [6,11,25] (cv (runs p32 l v 64)):=by
 rw[P.ahm]
 unfold P.adq P.b3z P.bzh P.b8n
 refine yu (fun t=>(64,(t:Int),cv (win p32 l t),h2,h1,32,64,[7,18,3],[17,19,10],[2,13,22],[6,11,25],cv (runs p32 l v t))) 64 rfl (fun t ht next hn'=>?_) (fun next=>?_) (by omega)
 ·simp only[P.aag]
  have e1:Ae.wrap ((t:Int)+1)=((t+1:Nat):Int):=by rw[qc (by omega) (by omega)];omega
  have e9:Ae.wrap ((t:Int)+9)=((t+9:Nat):Int):=by rw[qc (by omega) (by omega)];omega
  have e14:Ae.wrap ((t:Int)+14)=((t+14:Nat):Int):=by rw[qc (by omega) (by omega)];omega
  simp only[e1,e9,e14,cdv,toNat_cast,ah4]
  have g0:=awv p32 l t 0 (by omega)
  rw[Nat.add_zero] at g0
  rw[g0,awv p32 l t 1 (by omega),awv p32 l t 9 (by omega),awv p32 l t 14 (by omega)]
  have hV:=v8 _ (ap9 p32 l v hv t)
  rw[bg (by omega),bg (by omega),bg (by omega),bqe,br8 t ht,bo8,bg (by omega),bg (by omega),bru,bg (by omega),bg (by omega),bg (by omega),bg (by omega),brf,bg (by omega),bg (by omega)]
  simp only[add32,bf4,cb9,ccw]
  rw[←bkz p32 l hl t,bb4,bky]
  have hr:cv (runs p32 l v (t+1))=(((Ap 1 (cv (runs p32 l v t))).append (Ap 7 (Ap 7 (A8 0 (cv (runs p32 l v t))))++A8 (1+min 7 (Ap 7 (A8 0 (cv (runs p32 l v t)))).length) (cv (runs p32 l v t)))).set 4
      (((runs p32 l v t).getD 3 0+bw0 p32 t (W p32 l t) (runs p32 l v t)).toNat:Int)).set 0 ((bw0 p32 t (W p32 l t) (runs p32 l v t)+b63 p32 (runs p32 l v t)).toNat:Int):=by
   rw[hV]
   rfl
  have h3:((Ap 1 (cv (runs p32 l v t))).append (Ap 7 (Ap 7 (A8 0 (cv (runs p32 l v t))))++A8 (1+min 7 (Ap 7 (A8 0 (cv (runs p32 l v t)))).length) (cv (runs p32 l v t)))).getD 4 0=(((runs p32 l v t).getD 3 0).toNat:Int):=by
   rw[hV]
   rfl
  rw[h3,add32]
  rw[hr] at hn'
  exact hn'
 ·simp only[P.aag]
  rw[dh (by omega)]
  rfl
theorem bu5(v u:List (BitVec 32))(hv:v.length=8)(hu:u.length=8)(h2:List Int){ρ:Type}(k0:Int→List Int→List Int→List Int→Option ρ) :
    P.xw 0 (cv v) h2 (cv u) k0=k0 8 (cv v) h2 (cv ((Ac 8).map fun i=>u.getD i 0+v.getD i 0)):=by
 rw[P.ahv]
 unfold P.ac4 P.b3r P.bx5 P.b84
 have hs:∀i,i≤8→(((Ac i).map fun i=>u.getD i 0+v.getD i 0)++u.drop i).length=8:=fun i hi=>by simp;omega
 refine yu (fun i=>((i:Int),cv v,h2,cv (((Ac i).map fun i=>u.getD i 0+v.getD i 0)++u.drop i))) 8 (by simp) (fun i hi next hn'=>?_) (fun next=>?_) (by omega)
 ·simp only[P.aav,toNat_cast,ah4]
  have e1:Ae.wrap ((i:Int)+1)=((i+1:Nat):Int):=by rw[qc (by omega) (by omega)];omega
  have e2:(((Ac i).map fun i=>u.getD i 0+v.getD i 0)++u.drop i).getD i 0=u.getD i 0:=by
   rw[Ad,A9 (by simp),Bz,Aq,Aj,Ad]
   congr 2
   omega
  rw[e1,e2,add32,bb4]
  have e3:(((Ac i).map fun i=>u.getD i 0+v.getD i 0)++u.drop i).set i (u.getD i 0+v.getD i 0)=((Ac (i+1)).map fun i=>u.getD i 0+v.getD i 0)++u.drop (i+1):=by
   rw[Am _ _ (by simp),Aq,Aj,Bf,Au,Cj,Ba,Bb (by omega),Az]
   rfl
  rw[e3]
  simp (disch:=omega) only[bg,dh,jd,eu,gu,iw,jo,p9,yg,qc]
  exact hn'
 ·simp only[P.aav]
  rw[dh (by omega),Bp (by omega),Ck]
  rfl
theorem bn2(v:List (BitVec 32))(hv:v.length=8)(b:List Int)(hb:In 256 b)(hl:b.length=16*4){ρ:Type}(k:List Int→Option ρ) :
    P.ny 32 64 [7,18,3] [17,19,10] [2,13,22] [6,11,25] (cv v) b k=k (cv (bau p32 v b)):=by
 rw[P.aec]
 unfold P.aao
 rw[show Ae.wrap ((32:Int).tdiv 8)=4 from rfl]
 have:=bzj b hb hl 64 [7,18,3] [17,19,10] [2,13,22] [6,11,25] (cv v) (Af 8 0) (fun (q0:List Int) (q1 q2 q3 q4:Int) (q5 q6 q7 q8 q9 q10 q11:List Int) =>
  P.xk q4 (0:Int) q11 q10 q9 q3 q4 q5 q6 q7 q8 q9
   fun (q12 q13:Int) (q14 q15 q16:List Int) (q17 q18:Int) (q19 q20 q21 q22 q23:List Int) =>
   P.xw (0:Int) q16 q15 q23 fun (q24:Int) (q25 q26 q27:List Int)=>k q27)
 refine this.trans ?_
 rw[←win_zero p32,bwg _ v hv _ _ _ (u7 b 16),bu5 v _ hv (ap9 _ _ _ hv _)]
 rfl
end Q
end

section
/- SHA-2: the document's block of words of 32 bits. -/
namespace Q
open Go Go.Abs
set_option linter.unusedVariables false
set_option linter.unusedSimpArgs false
theorem aek(b:List Int)(hb:In 256 b)(hn:b.length≤1000000){ρ:Type}(k:Int→Option ρ):P.aek b k=k ((T 8 b.reverse%2^64:Nat):Int):=by
 rw[P.bcz]
 unfold P.asc
 rw[P.bew]
 unfold P.bdd P.b4j P.bxz P.b85
 refine yu (fun i=>(b,((T 8 (b.take i).reverse%2^64:Nat):Int),(i:Int))) b.length (by simp[T]) (fun i hi next hn'=>?_) (fun next=>?_) (by omega)
 ·obtain ⟨x,hx,hx2,hx3⟩:=byte_at hb i
  have est:=be1 b i hi
  rw[←hx3] at est
  simp only[P.avf,toNat_cast]
  have e1:Ab.wrap (Ab.wrap (((T 8 (b.take i).reverse%2^64:Nat):Int)*256)+Ab.wrap (x:Int))=((T 8 (b.take (i+1)).reverse%2^64:Nat):Int):=by
   rw[bng,bng,bng,est];omega
  rw[hx,e1]
  simp (disch:=omega) only[bg,dh,jd,eu,gu,iw,jo,p9,yg,qc]
  exact hn'
 ·simp only[P.avf]
  rw[dh (by omega),Bq]
theorem aph(x m:Int)(n:Nat)(hm:m=(n:Int))(hn:n≤32):∃q,∀{ρ:Type} (k:Int→Option ρ),P.aal x m false k=k q:=by
 subst hm
 refine ⟨bits .or .u64 (x.fdiv ((2:Int)^min ((n:Int)).toNat 64)) (bits .and .u64 (Ab.wrap (x*(2:Int)^min ((32:Int)-(n:Int)).toNat 64)) 4294967295),fun k=>?_⟩
 rw[P.aku]
 unfold P.af6
 rw[yg,dh (by omega),qc (by omega) (by omega),dh (by omega)]
theorem bos(x a b c:Int)(l m n:Nat)(ha:a=(l:Int))(hb:b=(m:Int))(hc:c=(n:Int))(h1:l≤32)(h2:m≤32)(h3:n≤32):∃q,∀{ρ:Type} (k:Int→Option ρ),P.aar x a b c false false k=k q:=by
 obtain ⟨q1,e1⟩:=aph x a l ha h1
 obtain ⟨q2,e2⟩:=aph x b m hb h2
 obtain ⟨q3,e3⟩:=aph x c n hc h3
 refine ⟨bits .xor .u64 (bits .xor .u64 q1 q2) q3,fun k=>?_⟩
 rw[P.agr]
 unfold P.adn
 rw[dh (by omega),jo,yg,e3,e1,e2]
theorem bk7(x a b c:Int)(l m n:Nat)(ha:a=(l:Int))(hb:b=(m:Int))(hc:c=(n:Int))(h1:l≤32)(h2:m≤32)(h3:n≤32):∃q,∀{ρ:Type} (k:Int→Option ρ),P.aar x a b c true false k=k q:=by
 obtain ⟨q1,e1⟩:=aph x a l ha h1
 obtain ⟨q2,e2⟩:=aph x b m hb h2
 refine ⟨bits .xor .u64 (bits .xor .u64 q1 q2) (x.fdiv ((2:Int)^min c.toNat 64)),fun k=>?_⟩
 rw[P.agr]
 unfold P.adn
 rw[dh (by omega),jo,p9,e1,e2]
theorem ao7(x:BitVec 32)(m:Int)(n:Nat)(hm:m=(n:Int))(hn:n≤32){ρ:Type}(k:Int→Option ρ):P.aal (x.toNat:Int) m false k=k ((rr x n).toNat:Int):=by
 subst hm
 rw[P.aku]
 unfold P.af6
 rw[yg,dh (by omega),qc (by omega) (by omega),dh (by omega),show (32:Int)-(n:Int)=((32-n:Nat):Int) by omega]
 simp only[toNat_cast]
 rw[cdu _ _ (by omega),nshl _ _ (by omega),nor]
 rfl
theorem btv(x:BitVec 32)(t:Nat×Nat×Nat)(a b c:Int)(ha:a=(t.1:Int))(hb:b=(t.2.1:Int))(hc:c=(t.2.2:Int))(h1:t.1≤32)(h2:t.2.1≤32)(h3:t.2.2≤32){ρ:Type}(k:Int→Option ρ) :
    P.aar (x.toNat:Int) a b c false false k=k ((hi t x).toNat:Int):=by
 rw[P.agr]
 unfold P.adn
 rw[dh (by omega),jo,yg,ao7 _ _ _ hc h3,ao7 _ _ _ ha h1,ao7 _ _ _ hb h2,bt1,bt1]
 rfl
theorem bte(x:BitVec 32)(t:Nat×Nat×Nat)(a b c:Int)(ha:a=(t.1:Int))(hb:b=(t.2.1:Int))(hc:c=(t.2.2:Int))(h1:t.1≤32)(h2:t.2.1≤32)(h3:t.2.2≤32){ρ:Type}(k:Int→Option ρ) :
    P.aar (x.toNat:Int) a b c true false k=k ((lo t x).toNat:Int):=by
 rw[P.agr]
 unfold P.adn
 rw[dh (by omega),jo,p9,ao7 _ _ _ ha h1,ao7 _ _ _ hb h2,bt1,hc]
 simp only[toNat_cast]
 rw[cdu _ _ (by omega),bt1]
 rfl
theorem b55(a b c d:BitVec 32):bits .and .u64 (Ab.wrap (Ab.wrap (Ab.wrap ((a.toNat:Int)+(b.toNat:Int))+(c.toNat:Int))+(d.toNat:Int))) 4294967295=((a+b+c+d).toNat:Int):=by
 have ha:=ax3 a
 have hb:=ax3 b
 have hc:=ax3 c
 have hd:=ax3 d
 rw[←Ah,ah1 _ (by omega),←Ah,ah1 _ (by omega),←Ah,ah1 _ (by omega),bp8 _ (by omega),Ag,Ag,Ag]
 omega
theorem b8h(a b:BitVec 32):bits .and .u64 (Ab.wrap ((a.toNat:Int)+(b.toNat:Int))) 4294967295=((a+b).toNat:Int):=by
 have ha:=ax3 a
 have hb:=ax3 b
 rw[←Ah,ah1 _ (by omega),bp8 _ (by omega),Ag]
theorem b5t(d a b c e f:BitVec 32):bits .and .u64 (Ab.wrap ((d.toNat:Int)+Ab.wrap (Ab.wrap (Ab.wrap (Ab.wrap ((a.toNat:Int)+(b.toNat:Int))+(c.toNat:Int))+(e.toNat:Int))+(f.toNat:Int)))) 4294967295=((d+(a+b+c+e+f)).toNat:Int):=by
 have hd:=ax3 d
 have ha:=ax3 a
 have hb:=ax3 b
 have hc:=ax3 c
 have he:=ax3 e
 have hf:=ax3 f
 rw[←Ah,ah1 _ (by omega),←Ah,ah1 _ (by omega),←Ah,ah1 _ (by omega),←Ah,ah1 _ (by omega),←Ah,ah1 _ (by omega),bp8 _ (by omega),Ag,Ag,Ag,Ag,Ag]
 omega
theorem b91(a b c e f g h:BitVec 32):bits .and .u64 (Ab.wrap (Ab.wrap (Ab.wrap (Ab.wrap (Ab.wrap ((a.toNat:Int)+(b.toNat:Int))+(c.toNat:Int))+(e.toNat:Int))+(f.toNat:Int))+Ab.wrap ((g.toNat:Int)+(h.toNat:Int)))) 4294967295=(((a+b+c+e+f)+(g+h)).toNat:Int):=by
 have ha:=ax3 a
 have hb:=ax3 b
 have hc:=ax3 c
 have he:=ax3 e
 have hf:=ax3 f
 have hg:=ax3 g
 have hh:=ax3 h
 rw[←Ah,ah1 _ (by omega),←Ah,ah1 _ (by omega),←Ah,ah1 _ (by omega),←Ah,ah1 _ (by omega),←Ah (g.toNat),ah1 _ (by omega),←Ah,ah1 _ (by omega),bp8 _ (by omega),Ag,Ag,Ag,Ag,Ag,Ag]
 omega
theorem cbi(e f g:BitVec 32):bits .xor .u64 (bits .and .u64 (e.toNat:Int) (f.toNat:Int)) (bits .and .u64 (bits .xor .u64 4294967295 (e.toNat:Int)) (g.toNat:Int))=((g ^^^ (e &&& (f ^^^ g))).toNat:Int):=by
 rw[show (4294967295:Int)=((Cn 32).toNat:Int) from rfl,nand,bt1,nand,bt1,bz2]
theorem b0w(a b c:BitVec 32):bits .xor .u64 (bits .xor .u64 (bits .and .u64 (a.toNat:Int) (b.toNat:Int)) (bits .and .u64 (a.toNat:Int) (c.toNat:Int))) (bits .and .u64 (b.toNat:Int) (c.toNat:Int))=(((a &&& b) ||| (c &&& (a ||| b))).toNat:Int):=by
 rw[nand,nand,nand,bt1,bt1,bth]
def axo(b:List Int)(t:Nat):List (BitVec 32):=(Ac t).map (W p32 (og 32 b 16))
theorem bcu(b:List Int)(t:Nat):axo b (t+1)=axo b t++[W p32 (og 32 b 16) t]:=by simp[axo,Au]
theorem bgz(b:List Int)(t:Nat):(axo b t).length=t:=by simp[axo]
theorem at5(b:List Int)(t i:Nat)(h:i<t):(axo b t).getD i 0=W p32 (og 32 b 16) i:=by
 unfold axo
 rw[getD_lt (by simpa using h)];simp
theorem bul(b:List Int)(t:Nat)(h:t<16):W p32 (og 32 b 16) t=Av 32 (T 8 ((b.take ((t+1)*4)).drop (t*4)).reverse):=by
 rw[←btb p32 _ (by rw[u7];omega) 0 t (by rw[u7];omega),show sched p32 (og 32 b 16) 0=og 32 b 16 from rfl,getD_lt (by rw[u7];exact h)]
 simp[og]
theorem bo1(b:List Int)(hb:In 256 b)(hl:b.length=16*4){ρ:Type}(k:List Int→Option ρ):P.adt b false 64 4294967295 k=k (cv (axo b 64)):=by
 rw[P.apb]
 unfold P.aiw
 rw[yg,P.ao0]
 unfold P.ap2 P.b04 P.bw9 P.b4g
 refine yu (fun t=>(b,false,64,4294967295,4,(t:Int),cv (axo b t))) 64 rfl (fun t ht next hn'=>?_) (fun next=>?_) (by omega)
 ·simp only[P.aht,toNat_cast]
  have e1:Ae.wrap ((t:Int)+1)=((t+1:Nat):Int):=by rw[qc (by omega) (by omega)];omega
  rw[bg (by omega)]
  have hlen:=bgz b t
  by_cases h16:t<16
  ·have e2:Ae.wrap ((t:Int)*4)=((t*4:Nat):Int):=by rw[qc (by omega) (by omega)];omega
   have e3:Ae.wrap (Ae.wrap ((t:Int)*4)+4)=(((t+1)*4:Nat):Int):=by rw[e2,qc (by omega) (by omega)];omega
   have hl2:((b.take ((t+1)*4)).drop (t*4)).length=4:=by simp;omega
   rw[bg (by omega),e3,e2,bg (by omega),bg (by omega),bg (by omega)]
   simp only[toNat_cast]
   have hT:=b25 8 ((b.take ((t+1)*4)).drop (t*4)).reverse
   rw[List.length_reverse,hl2] at hT
   have e4:((T 8 ((b.take ((t+1)*4)).drop (t*4)).reverse%2^64:Nat):Int)=((W p32 (og 32 b 16) t).toNat:Int):=by
    rw[bul b t h16,Ay,Bd (by omega),Bd (by omega)]
   rw[aek _ ((hb.take _).drop _) (by omega),bg (by rw[zi];omega),e4,e1,show [((W p32 (og 32 b 16) t).toNat:Int)]=cv [W p32 (og 32 b 16) t] from rfl,ahi,←bcu]
   exact hn'
  ·have e15:Ae.wrap ((t:Int)-15)=((t-15:Nat):Int):=by rw[qc (by omega) (by omega)];omega
   have e2:Ae.wrap ((t:Int)-2)=((t-2:Nat):Int):=by rw[qc (by omega) (by omega)];omega
   have e7:Ae.wrap ((t:Int)-7)=((t-7:Nat):Int):=by rw[qc (by omega) (by omega)];omega
   have e16:Ae.wrap ((t:Int)-16)=((t-16:Nat):Int):=by rw[qc (by omega) (by omega)];omega
   simp only[e15,e2,e7,e16,toNat_cast,ah4,zi,hlen]
   rw[at5 b t _ (by omega),at5 b t _ (by omega),at5 b t _ (by omega),at5 b t _ (by omega)]
   rw[dh (by omega),bg (by omega),bg (by omega),bte _ p32.a _ _ _ (by rfl) (by rfl) (by rfl) (by decide) (by decide) (by decide),bg (by omega),bg (by omega),bte _ p32.b _ _ _ (by rfl) (by rfl) (by rfl) (by decide) (by decide) (by decide),yg]
   have hW:=bkz p32 (og 32 b 16) (u7 b 16) (t-16)
   rw[show t-16+16=t by omega,show t-16+1=t-15 by omega,show t-16+9=t-7 by omega,show t-16+14=t-2 by omega] at hW
   have hW2:lo p32.b (W p32 (og 32 b 16) (t-2))+W p32 (og 32 b 16) (t-7)+lo p32.a (W p32 (og 32 b 16) (t-15))+W p32 (og 32 b 16) (t-16)=W p32 (og 32 b 16) t:=by rw[hW];ac_rfl
   rw[bg (by omega),bg (by omega),bg (by omega),bg (by omega),bg (by omega),b55,hW2,e1,show [((W p32 (og 32 b 16) t).toNat:Int)]=cv [W p32 (og 32 b 16) t] from rfl,ahi,←bcu]
   exact hn'
 ·simp only[P.aht]
  rw[dh (by omega)]
theorem bwe(b:List Int)(v:List (BitVec 32))(hv:v.length=8)(h0 h1:List Int){ρ:Type}(k0:Bool→Int→Int→Int→List Int→List Int→List Int→List Int→List Int→List Int→Option ρ) :
    P.aff false 64 4294967295 0 h0 h1 P.roots256 P.roots512 (cv (axo b 64)) (cv v) k0=k0 false 64 4294967295 64 h0 h1 P.roots256 P.roots512 (cv (axo b 64)) (cv (runs p32 (og 32 b 16) v 64)):=by
 rw[P.an2]
 unfold P.amt P.b0g P.bw6 P.b4r
 refine yu (fun t=>(false,64,4294967295,(t:Int),h0,h1,P.roots256,P.roots512,cv (axo b 64),cv (runs p32 (og 32 b 16) v t))) 64 rfl (fun t ht next hn'=>?_) (fun next=>?_) (by omega)
 ·simp only[P.afl]
  have e1:Ae.wrap ((t:Int)+1)=((t+1:Nat):Int):=by rw[qc (by omega) (by omega)];omega
  have hlen:=bgz b 64
  simp only[e1,toNat_cast,ah4,zi,hlen]
  rw[at5 b 64 t ht,K32]
  rw[bg (by omega),btv _ p32.c _ _ _ (by rfl) (by rfl) (by rfl) (by decide) (by decide) (by decide),btv _ p32.d _ _ _ (by rfl) (by rfl) (by rfl) (by decide) (by decide) (by decide),yg]
  rw[bg (by omega),bg (by omega),bg (by omega),bg (by omega),cbi,b0w,b91,b5t]
  exact hn'
 ·simp only[P.afl]
  rw[dh (by omega)]
  rfl
theorem bu9(v u:List (BitVec 32))(hv:v.length=8)(hu:u.length=8)(h1:List Int){ρ:Type}(k0:Int→Int→List Int→List Int→List Int→Option ρ) :
    P.afk 4294967295 0 (cv v) h1 (cv u) k0=k0 4294967295 8 (cv v) h1 (cv ((Ac 8).map fun i=>u.getD i 0+v.getD i 0)):=by
 rw[P.aob]
 unfold P.amq P.b0o P.bw2 P.b3i
 refine yu (fun i=>(4294967295,(i:Int),cv v,h1,cv (((Ac i).map fun i=>u.getD i 0+v.getD i 0)++u.drop i))) 8 (by simp) (fun i hi next hn'=>?_) (fun next=>?_) (by omega)
 ·simp only[P.afr,toNat_cast,ah4]
  have e1:Ae.wrap ((i:Int)+1)=((i+1:Nat):Int):=by rw[qc (by omega) (by omega)];omega
  have e2:(((Ac i).map fun i=>u.getD i 0+v.getD i 0)++u.drop i).getD i 0=u.getD i 0:=by
   rw[Ad,A9 (by simp),Bz,Aq,Aj,Ad]
   congr 2
   omega
  rw[e1,e2,b8h,bb4]
  have e3:(((Ac i).map fun i=>u.getD i 0+v.getD i 0)++u.drop i).set i (u.getD i 0+v.getD i 0)=((Ac (i+1)).map fun i=>u.getD i 0+v.getD i 0)++u.drop (i+1):=by
   rw[Am _ _ (by simp),Aq,Aj,Bf,Au,Cj,Ba,Bb (by omega),Az]
   rfl
  rw[e3]
  simp (disch:=omega) only[bg,dh,jd,eu,gu,iw,jo,p9,yg,qc]
  exact hn'
 ·simp only[P.afr]
  rw[dh (by omega),Bp (by omega),Ck]
  rfl
theorem bnw(v:List (BitVec 32))(hv:v.length=8)(b:List Int)(hb:In 256 b)(hl:b.length=16*4){ρ:Type}(k:List Int→Option ρ):P.aen (cv v) b false k=k (cv (bau p32 v b)):=by
 rw[P.apx]
 unfold P.ai2
 have hr1:∀(k:List Int→Option ρ),P.aac k=k P.roots256:=fun k=>by rw[P.ajh];kernel_rfl
 have hr2:∀(k:List Int→Option ρ),P.aad k=k P.roots512:=fun k=>by rw[P.akd];kernel_rfl
 rw[hr1,hr2,yg,bo1 b hb hl,bwe b v hv,bu9 v _ hv (ap9 _ _ _ hv _)]
 rfl
end Q
end

section
/- SHA-2: the program's engine of 64 bits. -/
namespace Q
open Go Go.Abs
set_option linter.unusedVariables false
set_option linter.unusedSimpArgs false
theorem ak1(rd:Int)(t0 t1 t2 t3:List Int)(x:BitVec 64)(m:Int)(n:Nat)(hm:m=(n:Int))(hn:n≤64){ρ:Type}(k:Int→Option ρ) :
    P.dz 64 rd t0 t1 t2 t3 (x.toNat:Int) m k=k ((rr x n).toNat:Int):=by
 subst hm
 rw[P.acu]
 unfold P.zu
 rw[dh (by omega),qc (by omega) (by omega),dh (by omega),show (64:Int)-(n:Int)=((64-n:Nat):Int) by omega]
 simp only[toNat_cast]
 rw[bmw _ _ hn,bwb _ _ (by omega),b3b]
 rfl
theorem bpa(rd:Int)(x:BitVec 64){ρ:Type}(k:Int→Option ρ):P.j6 64 rd [1,8,7] [19,61,6] [28,34,39] [14,18,41] (x.toNat:Int) 3 k=k ((hi p64.d x).toNat:Int):=by
 rw[P.abe]
 unfold P.yj
 simp only[Ak,Al]
 rw[dh (by decide),dh (by decide),dh (by decide),bg (by decide),ak1 _ _ _ _ _ _ _ 14 (by rfl) (by omega),ak1 _ _ _ _ _ _ _ 18 (by rfl) (by omega),ak1 _ _ _ _ _ _ _ 41 (by rfl) (by omega),anp,anp]
 rfl
theorem bnt(rd:Int)(x:BitVec 64){ρ:Type}(k:Int→Option ρ):P.j6 64 rd [1,8,7] [19,61,6] [28,34,39] [14,18,41] (x.toNat:Int) 2 k=k ((hi p64.c x).toNat:Int):=by
 rw[P.abe]
 unfold P.yj
 simp only[Ak,Al]
 rw[dh (by decide),dh (by decide),bg (by decide),ak1 _ _ _ _ _ _ _ 28 (by rfl) (by omega),ak1 _ _ _ _ _ _ _ 34 (by rfl) (by omega),ak1 _ _ _ _ _ _ _ 39 (by rfl) (by omega),anp,anp]
 rfl
theorem brl(rd:Int)(x:BitVec 64){ρ:Type}(k:Int→Option ρ):P.l7 64 rd [1,8,7] [19,61,6] [28,34,39] [14,18,41] (x.toNat:Int) 0 k=k ((lo p64.a x).toNat:Int):=by
 rw[P.abl]
 unfold P.y9
 simp only[Ak,Al]
 rw[bg (by decide),ak1 _ _ _ _ _ _ _ 1 (by rfl) (by omega),ak1 _ _ _ _ _ _ _ 8 (by rfl) (by omega),dh (by decide),anp,show (7:Int).toNat=7 from rfl,bmw _ _ (by omega),anp]
 rfl
theorem br4(rd:Int)(x:BitVec 64){ρ:Type}(k:Int→Option ρ):P.l7 64 rd [1,8,7] [19,61,6] [28,34,39] [14,18,41] (x.toNat:Int) 1 k=k ((lo p64.b x).toNat:Int):=by
 rw[P.abl]
 unfold P.y9
 simp only[Ak,Al]
 rw[dh (by decide),bg (by decide),ak1 _ _ _ _ _ _ _ 19 (by rfl) (by omega),ak1 _ _ _ _ _ _ _ 61 (by rfl) (by omega),dh (by decide),anp,show (6:Int).toNat=6 from rfl,bmw _ _ (by omega),anp]
 rfl
theorem bsp(t:Nat)(h:t<80){ρ:Type}(k:Int→Option ρ):P.qj (t:Int) k=k ((p64.K t).toNat:Int):=by
 rw[P.aqu]
 unfold P.ajd
 rw[bg (by omega),bg (by omega),toNat_cast,K64]
theorem b2n(b:List Int)(hb:In 256 b)(hl:b.length=16*8)(rd:Int)(t0 t1 t2 t3 h1 h2:List Int){ρ:Type}(k0:List Int→Int→Int→Int→Int→List Int→List Int→List Int→List Int→List Int→List Int→List Int→Option ρ) :
    P.aa1 b 8 0 64 rd t0 t1 t2 t3 h1 h2 (Af 16 0) k0=k0 b 8 16 64 rd t0 t1 t2 t3 h1 h2 (cv (og 64 b 16)):=by
 rw[P.ah3]
 unfold P.aed P.b4e P.bxf P.b80
 refine yu (fun i=>(b,8,(i:Int),64,rd,t0,t1,t2,t3,h1,h2,cv (og 64 b i)++Af (16-i) 0)) 16 (by simp[og,cv]) (fun i hi next hn'=>?_) (fun next=>?_) (by omega)
 ·simp only[P.aa3,toNat_cast]
  have e1:Ae.wrap ((i:Int)*8)=((i*8:Nat):Int):=by rw[qc (by omega) (by omega)];omega
  have e2:Ae.wrap (Ae.wrap ((i:Int)+1)*8)=(((i+1)*8:Nat):Int):=by rw[qc (x:=(i:Int)+1) (by omega) (by omega),qc (by omega) (by omega)];omega
  rw[e1,e2]
  simp only[toNat_cast]
  have hlen:((b.take ((i+1)*8)).drop (i*8)).length=8:=by simp;omega
  rw[bg (by omega),bg (by omega),bg (by omega),bg (by omega),uz _ ((hb.take _).drop _) (by omega),bg (by omega),bg (by omega)]
  have e3:((T 8 ((b.take ((i+1)*8)).drop (i*8)).reverse%2^64:Nat):Int)=(((Av 64 (T 8 ((b.take ((i+1)*8)).drop (i*8)).reverse)).toNat:Nat):Int):=by
   rw[Ay]
  have e4:Ae.wrap ((i:Int)+1)=((i+1:Nat):Int):=by rw[qc (by omega) (by omega)];omega
  rw[e3,e4]
  have e5:(cv (og 64 b i)++Af (16-i) (0:Int)).set i (((Av 64 (T 8 ((b.take ((i+1)*8)).drop (i*8)).reverse)).toNat:Nat):Int)=cv (og 64 b (i+1))++Af (16-(i+1)) 0:=by
   rw[Am _ _ (by simp[u7]),zi,u7,Bf,show 16-i=(16-(i+1))+1 by omega,Bj,Az,ayp,←ahi,Ba]
   rfl
  rw[e5]
  exact hn'
 ·simp only[P.aa3]
  rw[dh (by omega)]
  simp
theorem bv0(l v:List (BitVec 64))(hv:v.length=8)(h2 h1:List Int){ρ:Type}(k0:Int→Int→List Int→List Int→List Int→Int→Int→List Int→List Int→List Int→List Int→List Int→Option ρ)(hl:l.length=16) :
    P.xg 80 0 (cv (win p64 l 0)) h2 h1 64 80 [1,8,7] [19,61,6] [28,34,39] [14,18,41] (cv v) k0 =
     k0 80 80 (cv (win p64 l 80)) h2 h1 64 80 [1,8,7] [19,61,6] [28,34,39] [14,18,41] (cv (runs p64 l v 80)):=by
 rw[P.ah0]
 unfold P.ac7 P.b3p P.b0b P.b7x
 refine yu (fun t=>(80,(t:Int),cv (win p64 l t),h2,h1,64,80,[1,8,7],[19,61,6],[28,34,39],[14,18,41],cv (runs p64 l v t))) 80 rfl (fun t ht next hn'=>?_) (fun next=>?_) (by omega)
 ·simp only[P.aak]
  have e1:Ae.wrap ((t:Int)+1)=((t+1:Nat):Int):=by rw[qc (by omega) (by omega)];omega
  have e9:Ae.wrap ((t:Int)+9)=((t+9:Nat):Int):=by rw[qc (by omega) (by omega)];omega
  have e14:Ae.wrap ((t:Int)+14)=((t+14:Nat):Int):=by rw[qc (by omega) (by omega)];omega
  simp only[e1,e9,e14,cdv,toNat_cast,ah4]
  have g0:=awv p64 l t 0 (by omega)
  rw[Nat.add_zero] at g0
  rw[g0,awv p64 l t 1 (by omega),awv p64 l t 9 (by omega),awv p64 l t 14 (by omega)]
  have hV:=v8 _ (ap9 p64 l v hv t)
  rw[bg (by omega),bg (by omega),bg (by omega),bpa,bsp t ht,bnt,bg (by omega),bg (by omega),brl,bg (by omega),bg (by omega),bg (by omega),bg (by omega),br4,bg (by omega),bg (by omega)]
  simp only[aoc,anp,bjx,b3b]
  rw[←bkz p64 l hl t,bb4,bky]
  have hr:cv (runs p64 l v (t+1))=(((Ap 1 (cv (runs p64 l v t))).append (Ap 7 (Ap 7 (A8 0 (cv (runs p64 l v t))))++A8 (1+min 7 (Ap 7 (A8 0 (cv (runs p64 l v t)))).length) (cv (runs p64 l v t)))).set 4
      (((runs p64 l v t).getD 3 0+bw0 p64 t (W p64 l t) (runs p64 l v t)).toNat:Int)).set 0 ((bw0 p64 t (W p64 l t) (runs p64 l v t)+b63 p64 (runs p64 l v t)).toNat:Int):=by
   rw[hV]
   rfl
  have h3:((Ap 1 (cv (runs p64 l v t))).append (Ap 7 (Ap 7 (A8 0 (cv (runs p64 l v t))))++A8 (1+min 7 (Ap 7 (A8 0 (cv (runs p64 l v t)))).length) (cv (runs p64 l v t)))).getD 4 0=(((runs p64 l v t).getD 3 0).toNat:Int):=by
   rw[hV]
   rfl
  rw[h3,aoc]
  rw[hr] at hn'
  exact hn'
 ·simp only[P.aak]
  rw[dh (by omega)]
  rfl
theorem bvo(v u:List (BitVec 64))(hv:v.length=8)(hu:u.length=8)(h2:List Int){ρ:Type}(k0:Int→List Int→List Int→List Int→Option ρ) :
    P.w9 0 (cv v) h2 (cv u) k0=k0 8 (cv v) h2 (cv ((Ac 8).map fun i=>u.getD i 0+v.getD i 0)):=by
 rw[P.ahu]
 unfold P.adf P.b4v P.b07 P.ca7
 have hs:∀i,i≤8→(((Ac i).map fun i=>u.getD i 0+v.getD i 0)++u.drop i).length=8:=fun i hi=>by simp;omega
 refine yu (fun i=>((i:Int),cv v,h2,cv (((Ac i).map fun i=>u.getD i 0+v.getD i 0)++u.drop i))) 8 (by simp) (fun i hi next hn'=>?_) (fun next=>?_) (by omega)
 ·simp only[P.aam,toNat_cast,ah4]
  have e1:Ae.wrap ((i:Int)+1)=((i+1:Nat):Int):=by rw[qc (by omega) (by omega)];omega
  have e2:(((Ac i).map fun i=>u.getD i 0+v.getD i 0)++u.drop i).getD i 0=u.getD i 0:=by
   rw[Ad,A9 (by simp),Bz,Aq,Aj,Ad]
   congr 2
   omega
  rw[e1,e2,aoc,bb4]
  have e3:(((Ac i).map fun i=>u.getD i 0+v.getD i 0)++u.drop i).set i (u.getD i 0+v.getD i 0)=((Ac (i+1)).map fun i=>u.getD i 0+v.getD i 0)++u.drop (i+1):=by
   rw[Am _ _ (by simp),Aq,Aj,Bf,Au,Cj,Ba,Bb (by omega),Az]
   rfl
  rw[e3]
  simp (disch:=omega) only[bg,dh,jd,eu,gu,iw,jo,p9,yg,qc]
  exact hn'
 ·simp only[P.aam]
  rw[dh (by omega),Bp (by omega),Ck]
  rfl
theorem bof(v:List (BitVec 64))(hv:v.length=8)(b:List Int)(hb:In 256 b)(hl:b.length=16*8){ρ:Type}(k:List Int→Option ρ) :
    P.mq 64 80 [1,8,7] [19,61,6] [28,34,39] [14,18,41] (cv v) b k=k (cv (bau p64 v b)):=by
 rw[P.aef]
 unfold P.aau
 rw[show Ae.wrap ((64:Int).tdiv 8)=8 from rfl]
 have:=b2n b hb hl 80 [1,8,7] [19,61,6] [28,34,39] [14,18,41] (cv v) (Af 8 0) (fun (q0:List Int) (q1 q2 q3 q4:Int) (q5 q6 q7 q8 q9 q10 q11:List Int) =>
  P.xg q4 (0:Int) q11 q10 q9 q3 q4 q5 q6 q7 q8 q9
   fun (q12 q13:Int) (q14 q15 q16:List Int) (q17 q18:Int) (q19 q20 q21 q22 q23:List Int) =>
   P.w9 (0:Int) q16 q15 q23 fun (q24:Int) (q25 q26 q27:List Int)=>k q27)
 refine this.trans ?_
 rw[←win_zero p64,bv0 _ v hv _ _ _ (u7 b 16),bvo v _ hv (ap9 _ _ _ hv _)]
 rfl
end Q
end
