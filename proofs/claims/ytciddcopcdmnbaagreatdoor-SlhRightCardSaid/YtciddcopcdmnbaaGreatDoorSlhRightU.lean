/-
  SlhRight, part 21: lemmas for the law.
-/

import Derived.Test.YtciddcopcdmnbaaGreatDoorSlhRightH
import Derived.Laws.Bits64
import Derived.Test.YtciddcopcdmnbaaGreatDoorSlhRightL
import Derived.Test.YtciddcopcdmnbaaGreatDoorSlhRightK
import Derived.Test.YtciddcopcdmnbaaGreatDoorSlhRightI
import Derived.Test.YtciddcopcdmnbaaGreatDoorSlhRightJ
open BitVec renaming ofInt → Aa, toNat_ofInt → Ag, ofNat → Bd, toNat_ofNat → Bj
open Go.IntKind renaming i64 → Ab, u64 → Af, u32 → Bb, signed → Bv, bits → Ce, u8 → Cv, wrap → Cx
open List renaming replicate → Ac, range → Ad, getD_eq_getElem?_getD → Ae, set_append_right → Ah, getElem_range → Ai, set_cons_zero → Aj, length_range → Ak, append_assoc → Al, getD_cons_zero → Am, getD_cons_succ → Ao, range_succ → Ap, length_take → Aq, ext_getElem → Ar, getElem_map → Au, length_append → Av, take → Aw, length_map → Az, drop_eq_getElem_cons → A9, replicate_succ → Ba, take_of_length_le → Bc, drop → Bf, length_replicate → Bh, drop_eq_nil_of_le → Bl, getElem?_append_right → Bo, getElem?_eq_getElem → Bp, map_append → Bq, append_nil → Br, map_congr_left → Bt, length_reverse → Bu, mem_map → Cg, length_drop → Cj, take_length → Ck, getElem?_eq_none → Cn, take_append_drop → Cq, singleton_append → Cr, drop_drop → Ct, mem_range → Cu
open Int renaming eq_ofNat_of_zero_le → Ay, tmod_eq_emod_of_nonneg → Bn, tdiv_eq_ediv_of_nonneg → Ca
open Nat renaming sub_self → A8, min_eq_left → Bg, pow_add → Bw, xor_lt_two_pow → Bz, or_lt_two_pow → Cb, mod_lt → Cc, mul_succ → Ch, mod_eq_of_lt → Ci, zero_le → Cm, mul_le_mul → Co, add_assoc → Cw
set_option linter.unusedVariables false
set_option linter.unusedSimpArgs false

section
/- Small laws for the plain proofs. -/
namespace Q
open Go Go.Abs
def In(m:Int)(l:List Int):Prop:=∀x,x∈l→0≤x∧x<m
theorem wf_u8{n:Int}(h:wfI .u8 n):0≤n∧n<256:=by
 simp[wfI,Lit.wf,IntKind.min,IntKind.max,Bv,Ce] at h;omega
theorem bg9{l:List Int}(h:∀x,x∈l→wfI .u8 x):In 256 l:=fun x hx=>wf_u8 (h x hx)
theorem In.tail{m x:Int}{l:List Int}(h:In m (x::l)):In m l:=fun y hy=>h y (List.mem_cons_of_mem _ hy)
theorem In.app{m:Int}{l r:List Int}(h1:In m l)(h2:In m r):In m (l++r):=fun y hy=>(List.mem_append.1 hy).elim (h1 y) (h2 y)
theorem In.left{m:Int}{l r:List Int}(h:In m (l++r)):In m l:=fun y hy=>h y (List.mem_append_left _ hy)
theorem In.right{m:Int}{l r:List Int}(h:In m (l++r)):In m r:=fun y hy=>h y (List.mem_append_right _ hy)
theorem In.take{m:Int}{l:List Int}(h:In m l)(n:Nat):In m (l.take n):=fun y hy=>h y (List.mem_of_mem_take hy)
theorem In.drop{m:Int}{l:List Int}(h:In m l)(n:Nat):In m (l.drop n):=fun y hy=>h y (List.mem_of_mem_drop hy)
theorem In.nil{m:Int}:In m []:=fun y hy=>by simp at hy
theorem In.rev{m:Int}{l:List Int}(h:In m l):In m l.reverse:=fun y hy=>h y (by simpa using hy)
theorem In.getD{m:Int}{l:List Int}(h:In m l)(i:Nat)(hm:0<m):0≤l.getD i 0∧l.getD i 0<m:=by
 rw[Ae]
 by_cases hi:i<l.length
 ·rw[Bp hi];exact h _ (List.getElem_mem hi)
 ·rw[Cn (by omega)];exact ⟨Int.le_refl 0,hm⟩
theorem In.map{m:Int}{α:Type}{l:List α}{f:α→Int}(h:∀a,a∈l→0≤f a∧f a<m):In m (l.map f):=fun y hy=>by
 obtain ⟨a,ha,rfl⟩:=Cg.1 hy
 exact h a ha
theorem mo{α:Type}{a b:Int}(h:¬a=b)(x y:α):br (a !=b) x y=x:=by rw[bne_iff_ne.2 h];exact yx x y
theorem dx{α:Type}{a b:Int}(h:a=b)(x y:α):br (a !=b) x y=y:=by rw[bne_eq_false_iff_eq.2 h];exact aem x y
theorem jc{α:Type}{a b:Int}(h:a=b)(x y:α):br (a==b) x y=x:=by rw[beq_iff_eq.2 h];exact yx x y
theorem jk{α:Type}{a b:Int}(h:¬a=b)(x y:α):br (a==b) x y=y:=by rw[beq_eq_false_iff_ne.2 h];exact aem x y
theorem uh{α:Type}(b:Bool)(x y:α):br (!b) x y=br b y x:=by cases b<;>simp
theorem boi{X Y ρ:Type}{stp:X→(X→Option ρ)→(Y→Option ρ)→Option ρ}{K:Y→Option ρ}{r:Option ρ}(S:Nat→X)(n:Nat)
    (hstep:∀i,i<n→∀next,next (S (i+1))=r→stp (S i) next K=r) (hend:∀next,stp (S n) next K=r) {i:Nat} (hi:i≤n) (hn:n≤18446744073709551616):lp stp (S i) K=r:=by
 have key:∀m i,m+i=n→lpN stp K m (S i)=r∧∀q,m≤q→lpN stp K q (S i)=r:=by
  intro m
  induction m with
  | zero =>
   intro i hi
   have:i=n:=by omega
   subst this
   refine ⟨hend _,fun q _=>?_⟩
   cases q with
   | zero=>exact hend _
   | succ q=>exact hend _
  | succ m ih =>
   intro i hi
   refine ⟨hstep i (by omega) _ (ih (i+1) (by omega)).1,fun q hq=>?_⟩
   cases q with
   | zero=>omega
   | succ q=>exact hstep i (by omega) _ ((ih (i+1) (by omega)).2 q (by omega))
 exact (key (n-i) i (by omega)).2 FU (by rw[bqf];omega)
theorem getD_lt{α:Type}{l:List α}{d:α}{i:Nat}(h:i<l.length):l.getD i d=l[i]:=by
 rw[Ae,Bp h];rfl
theorem bev{α:Type}{l:List α}{d:α}{i:Nat}(h:l.length≤i):l.getD i d=d:=by
 rw[Ae,Cn h];rfl
theorem toNat_cast(n:Nat):((n:Int)).toNat=n:=Int.toNat_natCast n
theorem bch(f:Nat→Int)(i n:Nat)(h:i<n)(d:Int):((Ad i).map f++Ac (n-i) d).set i (f i)=(Ad (i+1)).map f++Ac (n-(i+1)) d:=by
 rw[Ah _ _ (by simp),show n-i=(n-(i+1))+1 by omega,Ba]
 simp[Ap]
theorem aw7{α:Type}(f:Nat→α)(i:Nat):(Ad i).map f++[f i]=(Ad (i+1)).map f:=by simp[Ap]
theorem am4{α:Type}(l:List α)(d:α)(i:Nat)(h:i<l.length):l.take i++[l.getD i d]=l.take (i+1):=by
 rw[getD_lt h,List.take_add_one,Bp h];rfl
theorem bbv{α:Type}(l:List α)(d:α)(i:Nat)(h:i<l.length):l.drop i=l.getD i d::l.drop (i+1):=by
 rw[getD_lt h];exact A9 h
end Q
end

section
/- The bit operations as numbers. -/
namespace Q
open Go Go.Abs
theorem byq(x y:Nat)(hx:x<256)(hy:y<256):bits .or .u8 (x:Int) (y:Int)=((x ||| y:Nat):Int):=by
 have h1:x ||| y<256:=Cb (n:=8) hx hy
 have e:bits .or .u8 (x:Int) (y:Int)=Cv.wrap ((Aa 8 (x:Int) ||| Aa 8 (y:Int)).toNat:Int):=rfl
 have e2:(Aa 8 (x:Int) ||| Aa 8 (y:Int)).toNat=x ||| y:=by
  rw[BitVec.toNat_or,Ag,Ag];congr 1<;>omega
 rw[e,e2];exact IntWalk.u8_in _ ⟨by omega,by omega⟩
theorem bux(x y:Nat)(hx:x<256)(hy:y<256):bits .xor .u8 (x:Int) (y:Int)=((x ^^^ y:Nat):Int):=by
 have h1:x ^^^ y<256:=Bz (n:=8) hx hy
 have e:bits .xor .u8 (x:Int) (y:Int)=Cv.wrap ((Aa 8 (x:Int) ^^^ Aa 8 (y:Int)).toNat:Int):=rfl
 have e2:(Aa 8 (x:Int) ^^^ Aa 8 (y:Int)).toNat=x ^^^ y:=by
  rw[BitVec.toNat_xor,Ag,Ag];congr 1<;>omega
 rw[e,e2];exact IntWalk.u8_in _ ⟨by omega,by omega⟩
theorem bku(x y:Nat)(hx:x<18446744073709551616)(hy:y<18446744073709551616):bits .or .u64 (x:Int) (y:Int)=((x ||| y:Nat):Int):=by
 have h1:x ||| y<18446744073709551616:=Cb (n:=64) hx hy
 have e:bits .or .u64 (x:Int) (y:Int)=Af.wrap ((Aa 64 (x:Int) ||| Aa 64 (y:Int)).toNat:Int):=rfl
 have e2:(Aa 64 (x:Int) ||| Aa 64 (y:Int)).toNat=x ||| y:=by
  rw[BitVec.toNat_or,Ag,Ag];congr 1<;>omega
 rw[e,e2];exact IntWalk.u64_in _ ⟨by omega,by omega⟩
theorem awx(x y:Nat)(hx:x<18446744073709551616)(hy:y<18446744073709551616):bits .and .u64 (x:Int) (y:Int)=((x &&& y:Nat):Int):=by
 have h1:x &&& y<18446744073709551616:=Nat.and_lt_two_pow (n:=64) x hy
 have e:bits .and .u64 (x:Int) (y:Int)=Af.wrap ((Aa 64 (x:Int) &&& Aa 64 (y:Int)).toNat:Int):=rfl
 have e2:(Aa 64 (x:Int) &&& Aa 64 (y:Int)).toNat=x &&& y:=by
  rw[BitVec.toNat_and,Ag,Ag];congr 1<;>omega
 rw[e,e2];exact IntWalk.u64_in _ ⟨by omega,by omega⟩
theorem bp5(x y:Nat)(hx:x<4294967296)(hy:y<4294967296):bits .and .u32 (x:Int) (y:Int)=((x &&& y:Nat):Int):=by
 have h1:x &&& y<4294967296:=Nat.and_lt_two_pow (n:=32) x hy
 have e:bits .and .u32 (x:Int) (y:Int)=Bb.wrap ((Aa 32 (x:Int) &&& Aa 32 (y:Int)).toNat:Int):=rfl
 have e2:(Aa 32 (x:Int) &&& Aa 32 (y:Int)).toNat=x &&& y:=by
  rw[BitVec.toNat_and,Ag,Ag];congr 1<;>omega
 rw[e,e2];exact IntWalk.u32_in _ ⟨by omega,by omega⟩
theorem u8m(n:Int):Cv.wrap n=n%256:=by simp[Cx,Ce,Bv]
theorem bs7(n:Int):Bb.wrap n=n%4294967296:=by simp[Cx,Ce,Bv]
theorem boz(n:Int):Af.wrap n=n%18446744073709551616:=by simp[Cx,Ce,Bv]
theorem xor_zero{x y:Nat}:x ^^^ y=0↔x=y:=by
 constructor
 ·intro h
  have:(x ^^^ y) ^^^ y=x:=by rw[Nat.xor_assoc,Nat.xor_self,Nat.xor_zero]
  rw[h,Nat.zero_xor] at this
  exact this.symm
 ·rintro rfl;exact Nat.xor_self _
theorem bgw(a x i:Nat)(hx:x<2^i):(a*2^i) ||| x=a*2^i+x:=by
 rw[←Nat.shiftLeft_eq,Nat.shiftLeft_add_eq_or_of_lt hx]
end Q
end

section
/- Numbers and their digits, the lowest first. -/
namespace Q
open Go Go.Abs
def T(w:Nat):List Int→Nat
 | []=>0
 | x::l=>x.toNat%2^w+2^w*T w l
theorem p2(n:Nat):0<2^n:=Nat.pow_pos (by omega)
theorem b27(w:Nat):∀l:List Int,T w l<2^(w*l.length)
 | []=>by simp[T]
 | x::l=>by
  have ih:=b27 w l
  have h1:=Cc x.toNat (p2 w)
  rw[List.length_cons,Ch,Nat.add_comm,Bw]
  simp only[T]
  have:2^w*(T w l+1)≤2^w*2^(w*l.length):=Co (Nat.le_refl _) ih
  rw[Nat.mul_add] at this
  omega
theorem bfq(w:Nat):∀a b:List Int,T w (a++b)=T w a+2^(w*a.length)*T w b
 | [],b=>by simp[T]
 | x::a,b=>by
  rw[List.cons_append,T,T,bfq w a b,List.length_cons,Ch,Nat.add_comm (w*a.length) w,Bw,Nat.mul_add,Nat.mul_assoc]
  omega
theorem bsn(w:Nat)(l:List Int)(k:Nat)(h:k≤l.length):T w l=T w (l.take k)+2^(w*k)*T w (l.drop k):=by
 have:=bfq w (l.take k) (l.drop k)
 rw[Cq,Aq,Bg h] at this
 exact this
theorem bg7(w:Nat)(l:List Int)(k:Nat)(h:k≤l.length):T w (l.drop k)=T w l/2^(w*k):=by
 have:=b27 w (l.take k)
 rw[Aq,Bg h] at this
 rw[bsn w l k h,Nat.add_mul_div_left _ _ (p2 _),Nat.div_eq_of_lt this,Nat.zero_add]
theorem abk{X Y ρ:Type}{stp:X→(X→Option ρ)→(Y→Option ρ)→Option ρ}{K:Y→Option ρ}{r:Option ρ}(S:Nat→X)(n:Nat){x:X}(hx:x=S 0)
    (hstep:∀i,i<n→∀next,next (S (i+1))=r→stp (S i) next K=r) (hend:∀next,stp (S n) next K=r) (hn:n≤18446744073709551616):lp stp x K=r:=by
 rw[hx];exact boi S n hstep hend (Cm _) hn
def bsw(w n X:Nat):List Int:=(Ad n).map fun i=>((X/2^(w*i)%2^w:Nat):Int)
@[simp] theorem af5 (w n X:Nat):(bsw w n X).length=n:=by simp[bsw]
theorem bfr(w n X i:Nat)(h:i<n):(bsw w n X).getD i 0=((X/2^(w*i)%2^w:Nat):Int):=by
 rw[getD_lt (by simpa using h)];simp[bsw]
theorem bnk(w n X:Nat):bsw w (n+1) X=bsw w n X++[((X/2^(w*n)%2^w:Nat):Int)]:=by simp[bsw,Ap]
theorem bfy(w n X:Nat):In (2^w) (bsw w n X):=by
 refine In.map (fun i _=>⟨Int.natCast_nonneg _,?_⟩)
 have:=Cc (X/2^(w*i)) (p2 w)
 have e:((2:Int)^w)=((2^w:Nat):Int):=by simp
 rw[e];omega
theorem bj8(X h w m:Nat)(hm:h+w≤m):X%2^m/2^h%2^w=X/2^h%2^w:=by
 have e:(2:Nat)^m=2^h*(2^w*2^(m-(h+w))):=by rw[←Bw,←Bw];congr 1;omega
 rw[e,Nat.mod_mul_right_div_self,Nat.mod_mul_right_mod]
end Q
end

section
/- bits: Unpack. -/
namespace Q
open Go Go.Abs
def Such(n:Nat)(w c:Int):Prop:=1≤w∧w≤24∧0≤c∧c*w≤n*8
instance (n:Nat) (w c:Int):Decidable (Such n w c):=inferInstanceAs (Decidable (_∧_))
theorem bre(n:Nat)(w c:Int)(hn:n≤1000000){ρ:Type}(k:Bool→Option ρ) :
    br (decide (w≥(1:Int))) (br (decide (w≤(24:Int))) (br (decide (c≥(0:Int))) (br (decide (w=(0:Int))) none
     (k (decide (c≤Ab.wrap ((Ab.wrap ((↑n:Int)*(8:Int))).tdiv w))))) (k false)) (k false)) (k false)=k (decide (Such n w c)):=by
 by_cases h1:w≥1
 ·by_cases h2:w≤24
  ·by_cases h3:c≥0
   ·rw[bf h1,bf h2,bf h3,fq (by omega)]
    congr 1
    have e0:((n:Int)*8).tdiv w=(n:Int)*8/w:=Ca (by omega)
    have e1:(n:Int)*8/w≤n*8:=Int.ediv_le_self _ (by omega)
    have e2:0≤(n:Int)*8/w:=Int.ediv_nonneg (by omega) (by omega)
    rw[wz (x:=(n:Int)*8) (by omega) (by omega),e0,wz (by omega) (by omega)]
    apply decide_eq_decide.2
    rw[Int.le_ediv_iff_mul_le (by omega)]
    unfold Such
    omega
   ·rw[bf h1,bf h2,fq h3,decide_eq_false (fun h=>h3 h.2.2.1)]
  ·rw[bf h1,fq h2,decide_eq_false (fun h=>h2 h.2.1)]
 ·rw[fq h1,decide_eq_false (fun h=>h1 h.1)]
theorem acs(b:List Int)(w c:Int)(hn:b.length≤1000000){ρ:Type}(k:Bool→Option ρ):P.acs b w c k=k (decide (Such b.length w c)):=by
 rw[P.atm];exact bre b.length w c hn k
theorem fdiv_pow(a n m:Nat)(h:n≤m):(a:Int).fdiv ((2:Int)^min n m)=((a/2^n:Nat):Int):=by
 rw[Bg h,show ((2:Int)^n)=((2^n:Nat):Int) by simp,←Int.ofNat_fdiv]
theorem mul_pow(a n m:Nat)(h:n≤m):(a:Int)*((2:Int)^min n m)=((a*2^n:Nat):Int):=by
 rw[Bg h,show ((2:Int)^n)=((2^n:Nat):Int) by simp,←Int.natCast_mul]
theorem an6(a:Nat)(h:a<18446744073709551616):Af.wrap (a:Int)=(a:Int):=by rw[boz];omega
theorem bpx(a:Nat)(h:a<4294967296):Bb.wrap (a:Int)=(a:Int):=by rw[bs7];omega
theorem bn2{a b:Nat}(h:a≤b):2^a≤2^b:=Nat.pow_le_pow_right (by omega) h
theorem bo1(w:Nat)(h:w≤24):Af.wrap (Af.wrap ((1:Int)*(2:Int)^min w 64)-(1:Int))=((2^w-1:Nat):Int):=by
 have h1:=p2 w
 have h2:2^w≤2^24:=bn2 h
 rw[show (1:Int)=((1:Nat):Int) from rfl,mul_pow 1 w 64 (by omega),an6 _ (by omega),show ((1*2^w:Nat):Int)-((1:Nat):Int)=((2^w-1:Nat):Int) by omega,an6 _ (by omega)]
theorem bha(x w:Nat)(hx:x<18446744073709551616)(h:w≤24):bits .and .u64 (x:Int) (Af.wrap (Af.wrap ((1:Int)*(2:Int)^min w 64)-(1:Int)))=((x%2^w:Nat):Int):=by
 have h2:2^w≤2^24:=bn2 h
 rw[bo1 w h,awx _ _ hx (by omega),Nat.and_two_pow_sub_one_eq_mod]
def aa5(n:Nat):Nat:=(n+7)/8
theorem bgq(n:Nat):n≤8*aa5 n:=by unfold aa5;omega
theorem bfn(n:Nat):8*aa5 n<n+8:=by unfold aa5;omega
theorem byte_at{b:List Int}(hb:In 256 b)(t:Nat):∃x:Nat,b.getD t 0=(x:Int)∧x<256∧x=(b.getD t 0).toNat%2^8:=by
 have:=hb.getD t (by omega)
 exact ⟨(b.getD t 0).toNat,by omega,by omega,by omega⟩
end Q
end

section
/- Words of 32 and of 64 bits. -/
namespace Q
open Go Go.Abs
theorem ofI{w:Nat}(x:BitVec w):Aa w (x.toNat:Int)=x:=by simp
theorem bw9(x:BitVec 32):x.toNat<4294967296:=x.isLt
theorem bsr(x:BitVec 64):x.toNat<18446744073709551616:=x.isLt
theorem ay3(x y:BitVec 32):bits .xor .u32 (x.toNat:Int) (y.toNat:Int)=((x ^^^ y).toNat:Int):=by
 have e:bits .xor .u32 (x.toNat:Int) (y.toNat:Int)=Bb.wrap ((Aa 32 (x.toNat:Int) ^^^ Aa 32 (y.toNat:Int)).toNat:Int):=rfl
 rw[e,ofI,ofI,bpx _ (bw9 _)]
theorem b1q(x y:BitVec 32):bits .and .u32 (x.toNat:Int) (y.toNat:Int)=((x &&& y).toNat:Int):=by
 have e:bits .and .u32 (x.toNat:Int) (y.toNat:Int)=Bb.wrap ((Aa 32 (x.toNat:Int) &&& Aa 32 (y.toNat:Int)).toNat:Int):=rfl
 rw[e,ofI,ofI,bpx _ (bw9 _)]
theorem b45(x y:BitVec 32):bits .or .u32 (x.toNat:Int) (y.toNat:Int)=((x ||| y).toNat:Int):=by
 have e:bits .or .u32 (x.toNat:Int) (y.toNat:Int)=Bb.wrap ((Aa 32 (x.toNat:Int) ||| Aa 32 (y.toNat:Int)).toNat:Int):=rfl
 rw[e,ofI,ofI,bpx _ (bw9 _)]
theorem add32(x y:BitVec 32):Bb.wrap ((x.toNat:Int)+(y.toNat:Int))=((x+y).toNat:Int):=by
 rw[bs7,BitVec.toNat_add];omega
theorem ava(x y:BitVec 64):bits .xor .u64 (x.toNat:Int) (y.toNat:Int)=((x ^^^ y).toNat:Int):=by
 have e:bits .xor .u64 (x.toNat:Int) (y.toNat:Int)=Af.wrap ((Aa 64 (x.toNat:Int) ^^^ Aa 64 (y.toNat:Int)).toNat:Int):=rfl
 rw[e,ofI,ofI,an6 _ (bsr _)]
theorem bzl(x y:BitVec 64):bits .and .u64 (x.toNat:Int) (y.toNat:Int)=((x &&& y).toNat:Int):=by
 have e:bits .and .u64 (x.toNat:Int) (y.toNat:Int)=Af.wrap ((Aa 64 (x.toNat:Int) &&& Aa 64 (y.toNat:Int)).toNat:Int):=rfl
 rw[e,ofI,ofI,an6 _ (bsr _)]
theorem byo(x y:BitVec 64):bits .or .u64 (x.toNat:Int) (y.toNat:Int)=((x ||| y).toNat:Int):=by
 have e:bits .or .u64 (x.toNat:Int) (y.toNat:Int)=Af.wrap ((Aa 64 (x.toNat:Int) ||| Aa 64 (y.toNat:Int)).toNat:Int):=rfl
 rw[e,ofI,ofI,an6 _ (bsr _)]
theorem bqk(x y:BitVec 64):Af.wrap ((x.toNat:Int)+(y.toNat:Int))=((x+y).toNat:Int):=by
 rw[boz,BitVec.toNat_add];omega
theorem bi1(x y:Nat)(hx:x<18446744073709551616)(hy:y<18446744073709551616):bits .xor .u64 (x:Int) (y:Int)=((x ^^^ y:Nat):Int):=by
 have:=ava (Bd 64 x) (Bd 64 y)
 rw[BitVec.toNat_xor,Bj,Bj,Ci (by omega),Ci (by omega)] at this
 exact this
/- words of 32 bits as numbers of 64 -/
theorem nlt(x:BitVec 32):x.toNat<18446744073709551616:=by have:=bw9 x;omega
def rr{w:Nat}(x:BitVec w)(n:Nat):BitVec w:=(x >>> n) ||| (x <<< (w-n))
theorem bci{w:Nat}(x:BitVec w)(n:Nat):(x >>> n).toNat=x.toNat/2^n:=by rw[BitVec.toNat_ushiftRight,Nat.shiftRight_eq_div_pow]
theorem bby{w:Nat}(x:BitVec w)(n:Nat):(x <<< n).toNat=x.toNat*2^n%2^w:=by rw[BitVec.toNat_shiftLeft,Nat.shiftLeft_eq]
theorem bq9(x:BitVec 32)(n:Nat)(h:n≤32):(x.toNat:Int).fdiv ((2:Int)^min n 32)=((x >>> n).toNat:Int):=by rw[fdiv_pow _ _ _ h,bci]
theorem b1p(x:BitVec 32)(n:Nat)(h:n≤32):Bb.wrap ((x.toNat:Int)*(2:Int)^min n 32)=((x <<< n).toNat:Int):=by
 rw[mul_pow _ _ _ h,bs7,bby];omega
theorem bmz(x:BitVec 64)(n:Nat)(h:n≤64):(x.toNat:Int).fdiv ((2:Int)^min n 64)=((x >>> n).toNat:Int):=by rw[fdiv_pow _ _ _ h,bci]
theorem bun(x:BitVec 64)(n:Nat)(h:n≤64):Af.wrap ((x.toNat:Int)*(2:Int)^min n 64)=((x <<< n).toNat:Int):=by
 rw[mul_pow _ _ _ h,boz,bby];omega
end Q
end

section
/- keccak: 25 words by a function of their number; the program's round and the document's. -/
namespace QK
open Q
open Go Go.Abs
set_option maxRecDepth 100000
def L25(f:Nat→Int):List Int:=(Ad 25).map f
def X(a b:Int):Int:=bits .xor .u64 a b
def Rl(a:Int)(n:Nat):Int:=bits .or .u64 (Af.wrap (a*2^min n 64)) (a.fdiv (2^min (64-n) 64))
def cP(f:Nat→Int)(j:Nat):Int:=X (X (X (X (f j) (f (j+5))) (f (j+10))) (f (j+15))) (f (j+20))
def thP(f:Nat→Int)(i:Nat):Int:=X (f i) (X (cP f ((i+4)%5)) (Rl (cP f ((i+1)%5)) 1))
def psT:List Nat:=[0,6,12,18,24,3,9,10,16,22,1,7,13,19,20,4,5,11,17,23,2,8,14,15,21]
def rsT:List Nat:=[0,44,43,21,14,28,20,3,45,61,1,6,25,8,18,27,36,10,15,56,62,55,39,41,2]
def piP(f:Nat→Int)(i:Nat):Int:=bif Nat.beq i 0 then f 0 else Rl (f (psT.getD i 0)) (rsT.getD i 0)
def chP(f:Nat→Int)(i:Nat):Int:=X (f i) (bits .andNot .u64 (f (i/5*5+(i+2)%5)) (f (i/5*5+(i+1)%5)))
def s0(x:Int)(f:Nat→Int)(i:Nat):Int:=bif Nat.beq i 0 then x else f i
theorem bny(n:Nat)(h:n≤1000):∃m,FU=m+n:=⟨FU-n,by have:=bqf;omega⟩
theorem b0x(f:Nat→Int)(h1:List Int){ρ:Type}(k:Int→List Int→List Int→List Int→Option ρ) :
    P.ad7 0 h1 (L25 f) [0,0,0,0,0] k=k 5 h1 (L25 f) [cP f 0,cP f 1,cP f 2,cP f 3,cP f 4]:=by
 obtain ⟨m,hm⟩:=bny 6 (by omega)
 rw[P.amh]
 unfold P.ait P.zk3 P.zs3 P.zu3 P.aia lp
 rw[hm]
 kernel_rfl
theorem btn(c:Int)(f:Nat→Int)(h1 h2:List Int){ρ:Type}(k:Int→Int→List Int→List Int→List Int→List Int→Option ρ) :
    P.aeb c 0 (L25 f) h1 h2 [cP f 0,cP f 1,cP f 2,cP f 3,cP f 4] k=k c 5 (L25 (thP f)) h1 h2 [cP f 0,cP f 1,cP f 2,cP f 3,cP f 4]:=by
 obtain ⟨m,hm⟩:=bny 6 (by omega)
 rw[P.ami]
 unfold P.aip P.zk5 P.zs5 P.zu5 P.aiv
 simp only[P.ab8,P.abr,P.zk4,P.zu4,P.abu,P.vw,P.rz,lp,hm];(try delta P.zs4);(try simp only[P.ab8,P.abr,P.zk4,P.zu4,P.abu,P.vw,P.rz,lp,hm]);(try delta P.zs4);(try simp only[P.ab8,P.abr,P.zk4,P.zu4,P.abu,P.vw,P.rz,lp,hm])
 kernel_rfl
theorem rhoP(c:Int)(f:Nat→Int)(h1 h2 h3:List Int){ρ:Type}(k:Int→Int→List Int→Int→List Int→List Int→List Int→List Int→Option ρ) :
    P.ady c ((L25 f).getD 1 0) P.bsb 0 h3 h2 h1 (L25 f) k=k c (f 1) P.bsb 24 h3 h2 h1 (L25 (piP f)):=by
 obtain ⟨m,hm⟩:=bny 25 (by omega)
 rw[P.alg]
 unfold P.ahj P.zk6 P.zs6 P.zu6 P.ahl
 simp only[P.vw,P.rz,lp,hm]
 kernel_rfl
theorem chiP(c:Int)(f:Nat→Int)(h1 h2 h3:List Int){ρ:Type}(k:Int→Int→List Int→List Int→List Int→List Int→Option ρ) :
    P.adz c 0 (L25 f) h1 h2 h3 k=k c 25 (L25 (chP f)) h1 h2 h3:=by
 obtain ⟨m,hm⟩:=bny 6 (by omega)
 rw[P.alq]
 unfold P.ahm P.zk8 P.zs8 P.zu8 P.ahf
 simp only[P.abm,P.aa7,P.zk7,P.zu7,P.aa6,lp,hm];(try delta P.zs7);(try simp only[P.abm,P.aa7,P.zk7,P.zu7,P.aa6,lp,hm]);(try delta P.zs7);(try simp only[P.abm,P.aa7,P.zk7,P.zu7,P.aa6,lp,hm])
 kernel_rfl
theorem set0(x:Int)(f:Nat→Int):(L25 f).set 0 x=L25 (s0 x f):=by kernel_rfl
theorem get0(f:Nat→Int):(L25 f).getD 0 0=f 0:=by kernel_rfl
end QK
end

section
/- keccak: the program's rounds are the document's. -/
namespace QK
open Q
open Go Go.Abs
def U64(x:Int):Prop:=0≤x∧x<18446744073709551616
def Ws(f:Nat→Int):Prop:=∀i,U64 (f i)
theorem U64.bv{x:Int}(h:U64 x):∃b:BitVec 64,x=(b.toNat:Int):=by
 obtain ⟨n,rfl⟩:=Ay h.1
 have h2:=h.2
 refine ⟨Bd 64 n,?_⟩
 rw[Bj,Ci (by omega)]
theorem biw(b:BitVec 64):U64 (b.toNat:Int):=by
 have:=bsr b
 unfold U64
 omega
theorem X_bv(a b:BitVec 64):X (a.toNat:Int) (b.toNat:Int)=((a ^^^ b).toNat:Int):=ava a b
theorem X_U{a b:Int}(ha:U64 a)(hb:U64 b):U64 (X a b):=by
 obtain ⟨x,rfl⟩:=ha.bv
 obtain ⟨y,rfl⟩:=hb.bv
 rw[X_bv]
 exact biw _
theorem b46{a:Int}(ha:U64 a)(n:Nat)(hn:n≤64):U64 (Rl a n):=by
 obtain ⟨x,rfl⟩:=ha.bv
 unfold Rl
 rw[bun x n hn,bmz x (64-n) (by omega),byo]
 exact biw _
theorem bnv(x y:BitVec 64):bits .andNot .u64 (x.toNat:Int) (y.toNat:Int)=((x &&& ~~~y).toNat:Int):=by
 have e:bits .andNot .u64 (x.toNat:Int) (y.toNat:Int)=Af.wrap ((Aa 64 (x.toNat:Int) &&& ~~~Aa 64 (y.toNat:Int)).toNat:Int):=rfl
 rw[e,ofI,ofI,an6 _ (bsr _)]
theorem bof{a b:Int}(ha:U64 a)(hb:U64 b):U64 (bits .andNot .u64 a b):=by
 obtain ⟨x,rfl⟩:=ha.bv
 obtain ⟨y,rfl⟩:=hb.bv
 rw[bnv]
 exact biw _
theorem b43{f:Nat→Int}(h:Ws f)(j:Nat):U64 (cP f j):=X_U (X_U (X_U (X_U (h _) (h _)) (h _)) (h _)) (h _)
theorem byu{f:Nat→Int}(h:Ws f):Ws (thP f):=fun i=>X_U (h i) (X_U (b43 h _) (b46 (b43 h _) 1 (by omega)))
theorem b1v(i:Nat):rsT.getD i 0≤64:=by
 by_cases hi:i<25
 ·have:∀i,i<25→rsT.getD i 0≤64:=by decide
  exact this i hi
 ·rw[bev (by simp[rsT];omega)];omega
theorem b1t{f:Nat→Int}(h:Ws f):Ws (piP f):=fun i=>by
 unfold piP
 cases Nat.beq i 0 with
 | true=>exact h 0
 | false=>exact b46 (h _) _ (b1v i)
theorem b3i{f:Nat→Int}(h:Ws f):Ws (chP f):=fun i=>X_U (h i) (bof (h _) (h _))
theorem s0_U{f:Nat→Int}{x:Int}(h:Ws f)(hx:U64 x):Ws (s0 x f):=fun i=>by
 unfold s0
 cases Nat.beq i 0 with
 | true=>exact hx
 | false=>exact h i
def rnd(c:Int)(f:Nat→Int):Nat→Int:=s0 (X (chP (piP (thP f)) 0) c) (chP (piP (thP f)))
theorem b0q{f:Nat→Int}{c:Int}(h:Ws f)(hc:U64 c):Ws (rnd c f):=by
 have h2:=b3i (b1t (byu h))
 exact s0_U h2 (X_U (h2 0) hc)
def bu1(f:Nat→Int):Nat→Nat→Int
 | 0=>f
 | n+1=>rnd (P.bl7.getD n 0) (bu1 f n)
theorem bt4(n:Nat):U64 (P.bl7.getD n 0):=by
 by_cases hn:n<24
 ·have:∀n,n<24→(0≤P.bl7.getD n 0∧P.bl7.getD n 0<18446744073709551616):=by decide +kernel
  exact this n hn
 ·have hl:P.bl7.length=24:=by decide +kernel
  rw[bev (by omega)]
  exact ⟨by decide,by decide⟩
theorem bpb{f:Nat→Int}(h:Ws f):∀n,Ws (bu1 f n)
 | 0=>h
 | n+1=>b0q (bpb h n) (bt4 n)
theorem jg(f:Nat→Int){ρ:Type}(k:List Int→Option ρ):P.jg (L25 f) k=k (L25 (bu1 f 24)):=by
 rw[P.ak0];unfold P.afa
 rw[P.aod];unfold P.akg P.zk9 P.zs9 P.zu9
 refine abk (fun i=>(P.bl7,(i:Int),L25 (bu1 f i),[(0:Int),0,0,0,0,0,0,0,0,0,0,0,0,0,0,0,0,0,0,0,0,0,0,0,0])) 24 rfl (fun i hi next hn=>?_) (fun next=>?_) (by omega)
 ·simp only[P.afn,toNat_cast]
  rw[bf (by omega),bf (by omega),bf (by omega),b0x,btn,rhoP,chiP,get0,set0,wz (by omega) (by omega)]
  exact hn
 ·simp only[P.afn]
  rw[fq (by omega)]
theorem bl3(f:Nat→Int):(L25 f).length=25:=by simp[L25]
theorem buv(l:List Int)(h:l.length=25):l=L25 fun i=>l.getD i 0:=by
 apply Ar
 ·rw[bl3,h]
 ·intro i h1 h2
  simp only[L25,Au,Ai]
  exact (getD_lt h1).symm
end QK
end

section
/- bits: Unpack, as the document has it. -/
namespace Q
open Go Go.Abs
end Q
end

section
/- bits: Digits. -/
namespace Q
open Go Go.Abs
def dg(w L N:Nat)(i:Nat):Int:=((N/2^(8*L-w*(i+1))%2^w:Nat):Int)
def aao(b:List Int)(w c:Int):List Int:=if Such b.length w c then (Ad c.toNat).map (dg w.toNat b.length (T 8 b.reverse)) else []
theorem bmb(b:List Int)(t:Nat)(h:t≤b.length):T 8 (b.take t).reverse=T 8 b.reverse/2^(8*(b.length-t)):=by
 rw[List.reverse_take,bg7 8 _ _ (by simp)]
theorem be6(b:List Int)(t:Nat)(h:t<b.length):T 8 (b.take (t+1)).reverse=(b.getD t 0).toNat%2^8+256*T 8 (b.take t).reverse:=by
 rw[←am4 b 0 t h,List.reverse_append,List.reverse_singleton,Cr,T]
theorem jl(b:List Int)(w c:Int)(hb:In 256 b)(hn:b.length≤1000000){ρ:Type}(k:List Int→Option ρ):P.jl b w c k=k (aao b w c):=by
 rw[P.ao0]
 unfold P.ai1
 rw[acs b w c hn,uh]
 unfold aao
 by_cases hs:Such b.length w c
 rotate_left
 ·rw[decide_eq_false hs,aem,if_neg hs]
 rw[decide_eq_true hs,yx,if_pos hs]
 obtain ⟨h1,h2,h3,h4⟩:=hs
 obtain ⟨w,rfl⟩:=Ay (show 0≤w by omega)
 obtain ⟨c,rfl⟩:=Ay h3
 have h4:c*w≤b.length*8:=by exact_mod_cast h4
 have hc:c≤c*w:=Nat.le_mul_of_pos_right c (by omega)
 simp only[toNat_cast,Bh]
 simp (disch:=omega) only[bf,fq,mo,dx,jc,jk,uh,yx,aem,wz]
 rw[P.aro]
 unfold P.ao3 P.bwc P.bxm P.bx9
 refine abk (fun i=>(b.drop (aa5 (w*i)),(w:Int),((T 8 (b.take (aa5 (w*i))).reverse%2^64:Nat):Int),((8*aa5 (w*i)-w*i:Nat):Int),(c:Int),(i:Int),((Ad i).map (dg w b.length (T 8 b.reverse)))++Ac (c-i) 0)) c (by simp[aa5,T,bsw]) (fun i hi next hn'=>?_) (fun next=>?_) (by omega)
 ·have hwi:w*(i+1)=w*i+w:=Ch w i
  have hwc:w*(i+1)≤b.length*8:=Nat.le_trans (Co (Nat.le_refl w) hi) (by rw[Nat.mul_comm];exact h4)
  have c1:=bgq (w*i)
  have c2:=bfn (w*i)
  have c3:=bgq (w*(i+1))
  have c4:=bfn (w*(i+1))
  have c5:aa5 (w*i)≤aa5 (w*(i+1)):=by unfold aa5;omega
  simp only[P.aj0]
  rw[bf (by omega),P.ar3]
  unfold P.aoh P.bxw P.bv7 P.b2z
  refine abk (fun j=>(b.drop (aa5 (w*i)+j),(w:Int),((T 8 (b.take (aa5 (w*i)+j)).reverse%2^64:Nat):Int),((8*(aa5 (w*i)+j)-w*i:Nat):Int),(i:Int),(c:Int),(i:Int),((Ad i).map (dg w b.length (T 8 b.reverse)))++Ac (c-i) 0)) (aa5 (w*(i+1))-aa5 (w*i)) rfl (fun j hj next2 hn2=>?_) (fun next2=>?_) (by omega)
  ·have ht:aa5 (w*i)+j<b.length:=by omega
   obtain ⟨x,hx,hx2,hx3⟩:=byte_at hb (aa5 (w*i)+j)
   have est:=be6 b (aa5 (w*i)+j) ht
   rw[←hx3] at est
   simp only[P.ajz,Cj,toNat_cast]
   rw[Bc (l:=b.drop (aa5 (w*i)+j)) (by simp),Ct]
   have e0:(b.drop (aa5 (w*i)+j)).getD 0 0=(x:Int):=by
    rw[←hx,bbv b 0 _ ht];rfl
   have e1:Af.wrap (((T 8 (b.take (aa5 (w*i)+j)).reverse%2^64:Nat):Int)*2^8)=((T 8 (b.take (aa5 (w*i)+j)).reverse%2^56*2^8:Nat):Int):=by
    rw[boz];omega
   rw[e0,e1,an6 x (by omega),bku _ _ (by omega) (by omega),bgw _ _ _ (by omega)]
   simp (disch:=omega) only[bf,fq,mo,dx,jc,jk,uh,yx,aem,wz]
   rw[Cw,show ((8*(aa5 (w*i)+j)-w*i:Nat):Int)+8=((8*(aa5 (w*i)+(j+1))-w*i:Nat):Int) by omega,
    show T 8 (b.take (aa5 (w*i)+j)).reverse%2^56*2^8+x=T 8 (b.take (aa5 (w*i)+(j+1))).reverse%2^64 by rw[←Cw,est];omega]
   exact hn2
  ·have et:aa5 (w*i)+(aa5 (w*(i+1))-aa5 (w*i))=aa5 (w*(i+1)):=by omega
   simp only[P.ajz,toNat_cast]
   rw[et,fq (by omega),show ((8*aa5 (w*(i+1))-w*i:Nat):Int)-(w:Int)=((8*aa5 (w*(i+1))-w*(i+1):Nat):Int) by omega,
    wz (x:=((8*aa5 (w*(i+1))-w*(i+1):Nat):Int)) (by omega) (by omega)]
   simp only[toNat_cast]
   have hq:T 8 (b.take (aa5 (w*(i+1)))).reverse%2^64/2^(8*aa5 (w*(i+1))-w*(i+1))<18446744073709551616:=by
    have:=Nat.div_le_self (T 8 (b.take (aa5 (w*(i+1)))).reverse%2^64) (2^(8*aa5 (w*(i+1))-w*(i+1)))
    omega
   rw[fdiv_pow _ _ 64 (by omega),bha _ w hq (by omega),bj8 _ _ _ _ (by omega)]
   have hw2:2^w≤2^24:=bn2 (by omega)
   have hmod:=Cc (T 8 (b.take (aa5 (w*(i+1)))).reverse/2^(8*aa5 (w*(i+1))-w*(i+1))) (p2 w)
   rw[bpx _ (by omega)]
   have ed:((T 8 (b.take (aa5 (w*(i+1)))).reverse/2^(8*aa5 (w*(i+1))-w*(i+1))%2^w:Nat):Int)=dg w b.length (T 8 b.reverse) i:=by
    unfold dg
    rw[bmb b _ (by omega),Nat.div_div_eq_div_mul,←Bw]
    congr 4;omega
   rw[ed]
   simp only[Av,Az,Ak,Bh]
   simp (disch:=omega) only[bf,fq,mo,dx,jc,jk,uh,yx,aem,wz]
   rw[bch _ _ _ hi]
   exact hn'
 ·simp only[P.aj0]
  rw[fq (by omega),A8]
  simp
end Q
end

section
/- bits: numbers as bytes and back. -/
namespace Q
open Go Go.Abs
theorem bmq(w n m X:Nat)(hm:m≤n)(hX:X<2^(w*m)):bsw w m X++Ac (n-m) 0=bsw w n X:=by
 refine Ar (by simp;omega) (fun i h1 h2=>?_)
 have hi:i<n:=by simpa using h2
 rw[←getD_lt (d:=0) h2,bfr _ _ _ _ hi]
 by_cases him:i<m
 ·rw[List.getElem_append_left (by simpa using him),←getD_lt (d:=0),bfr _ _ _ _ him]
 ·rw[List.getElem_append_right (by simp;omega),List.getElem_replicate,Nat.div_eq_of_lt]
  ·rfl
  ·exact Nat.lt_of_lt_of_le hX (bn2 (Co (Nat.le_refl _) (by omega)))
theorem af7(N s:Nat)(hN:N<18446744073709551616)(hs:s≤65536){ρ:Type}(k:List Int→Option ρ):P.af7 (N:Int) (s:Int) k=k (bsw 8 s N):=by
 rw[P.axk]
 unfold P.ape
 have em:(bif decide ((8:Int)<(s:Int)) then (8:Int) else (s:Int))=((min s 8:Nat):Int):=by
  by_cases h:(8:Int)<(s:Int)
  ·rw[decide_eq_true h];simp only[cond_true];omega
  ·rw[decide_eq_false h];simp only[cond_false];omega
 simp only[toNat_cast]
 rw[em]
 simp (disch:=omega) only[bf,fq,mo,dx,jc,jk,uh,yx,aem,wz]
 rw[P.az1]
 unfold P.axv P.bv1 P.zs12 P.b3s
 refine abk (fun i=>((N:Int),((min s 8:Nat):Int),(i:Int),bsw 8 i N++Ac (s-i) 0)) (min s 8) (by simp[bsw]) (fun i hi next hn'=>?_) (fun next=>?_) (by omega)
 ·simp only[P.ash,Av,af5,Bh,toNat_cast]
  rw[show (8:Int)*(i:Int)=((8*i:Nat):Int) by omega,wz (x:=((8*i:Nat):Int)) (by omega) (by omega)]
  simp only[toNat_cast]
  rw[fdiv_pow N _ 64 (by omega),u8m]
  simp (disch:=omega) only[bf,fq,mo,dx,jc,jk,uh,yx,aem,wz]
  rw[Ah _ _ (by simp),af5,A8,show s-i=(s-(i+1))+1 by omega,Ba,Aj]
  rw[bnk,Al,Cr] at hn'
  exact hn'
 ·simp only[P.ash]
  rw[fq (by omega)]
  by_cases h:s≤8
  ·rw[Bg h,A8];simp
  ·rw[Nat.min_eq_right (by omega),bmq 8 s 8 N (by omega) (by omega)]
theorem bh9{f:Nat→Int}(n q:Nat)(v:Int):((Ad n).map f).set q v=(Ad n).map (fun j=>if j=q then v else f j):=by
 refine Ar (by simp) (fun i h1 h2=>?_)
 simp only[List.getElem_set,Au,Ai]
 by_cases h:q=i
 ·rw[if_pos h,if_pos h.symm]
 ·rw[if_neg h,if_neg (fun e=>h e.symm)]
theorem bf8{f:Nat→Int}(n q:Nat)(h:q<n):((Ad n).map f).getD q 0=f q:=by
 rw[getD_lt (by simpa using h)];simp
theorem bnm(l:List Int):l=(Ad l.length).map (fun j=>l.getD j 0):=by
 refine Ar (by simp) (fun i h1 h2=>?_)
 simp only[Au,Ai]
 rw[getD_lt h1]
theorem xg(N s:Nat)(hN:N<18446744073709551616)(hs:s≤65536){ρ:Type}(k:List Int→Option ρ):P.xg (N:Int) (s:Int) k=k (bsw 8 s N).reverse:=by
 rw[P.axq]
 unfold P.apz
 rw[af7 N s hN hs,P.aw2]
 unfold P.atr P.bwo P.bvv P.bz1
 simp only[af5]
 rw[wz (by omega) (by omega)]
 have hfin:(bsw 8 s N).reverse=(Ad s).map (fun q=>(bsw 8 s N).getD (s-1-q) 0):=by
  refine Ar (by simp) (fun i h1 h2=>?_)
  have hi:i<s:=by simpa using h2
  rw[List.getElem_reverse,Au,Ai,getD_lt (by simp;omega)]
  congr 1;simp
 have h0:bsw 8 s N=(Ad s).map (fun q=>if q<0∨s-0≤q then (bsw 8 s N).getD (s-1-q) 0 else (bsw 8 s N).getD q 0):=by
  have e:=bnm (bsw 8 s N)
  rw[af5] at e
  refine e.trans (Bt (fun q hq=>?_))
  have:=Cu.1 hq
  rw[if_neg (by omega)]
 generalize bsw 8 s N=l at h0 hfin
 refine abk (fun i=>((i:Int),(s:Int)-1-(i:Int),(Ad s).map (fun q=>if q<i∨s-i≤q then l.getD (s-1-q) 0 else l.getD q 0))) (s/2) (by rw[←h0];simp) (fun i hi next hn'=>?_) (fun next=>?_) (by omega)
 ·simp only[P.ang,Az,Ak,List.length_set]
  rw[show (s:Int)-1-(i:Int)=((s-1-i:Nat):Int) by omega]
  simp only[toNat_cast]
  rw[bf8 _ _ (by omega),bf8 _ _ (by omega),if_neg (by omega),if_neg (by omega),bh9,bh9]
  have e:(Ad s).map (fun q=>if q<i+1∨s-(i+1)≤q then l.getD (s-1-q) 0 else l.getD q 0)=(Ad s).map (fun j=>if j=s-1-i then l.getD i 0 else if j=i then l.getD (s-1-i) 0 else if j<i∨s-i≤j then l.getD (s-1-j) 0 else l.getD j 0):=by
   refine Bt (fun q hq=>?_)
   have:=Cu.1 hq
   by_cases a1:q=s-1-i
   ·subst a1;rw[if_pos (by omega),if_pos rfl];congr 1;omega
   ·rw[if_neg a1]
    by_cases a2:q=i
    ·subst a2;rw[if_pos (by omega),if_pos rfl]
    ·rw[if_neg a2]
     by_cases a3:q<i∨s-i≤q
     ·rw[if_pos (by omega),if_pos a3]
     ·rw[if_neg (by omega),if_neg a3]
  rw[e] at hn'
  simp (disch:=omega) only[bf,fq,mo,dx,jc,jk,uh,yx,aem,wz]
  rw[show ((s-1-i:Nat):Int)-1=(s:Int)-1-((i+1:Nat):Int) by omega]
  exact hn'
 ·simp only[P.ang]
  rw[fq (by omega),hfin]
  congr 1
  refine Bt (fun q hq=>?_)
  have:=Cu.1 hq
  by_cases a3:q<s/2∨s-s/2≤q
  ·rw[if_pos a3]
  ·rw[if_neg a3];congr 1;omega
theorem u6(b:List Int)(hb:In 256 b)(hn:b.length≤1000000){ρ:Type}(k:Int→Option ρ):P.u6 b k=k ((T 8 b.reverse%2^64:Nat):Int):=by
 rw[P.avh]
 unfold P.amk
 rw[P.axd]
 unfold P.av4 P.bvn P.bwm P.b2s
 refine abk (fun i=>(((T 8 (b.take i).reverse%2^64:Nat):Int),b,(b.length:Int),(i:Int))) b.length (by simp[T]) (fun i hi next hn'=>?_) (fun next=>?_) (by omega)
 ·obtain ⟨x,hx,hx2,hx3⟩:=byte_at hb i
  have est:=be6 b i hi
  rw[←hx3] at est
  simp only[P.apy,toNat_cast]
  have e1:Af.wrap (((T 8 (b.take i).reverse%2^64:Nat):Int)*2^8)=((T 8 (b.take i).reverse%2^56*2^8:Nat):Int):=by
   rw[boz];omega
  rw[hx,e1,an6 x (by omega),bku _ _ (by omega) (by omega),bgw _ _ _ (by omega),
   show T 8 (b.take i).reverse%2^56*2^8+x=T 8 (b.take (i+1)).reverse%2^64 by rw[est];omega]
  simp (disch:=omega) only[bf,fq,mo,dx,jc,jk,uh,yx,aem,wz]
  exact hn'
 ·simp only[P.apy]
  rw[fq (by omega),Ck]
end Q
end

section
/- keccak: what is taken up, what is given out. -/
namespace QK
open Q
open Go Go.Abs
def W25(w:List Int):Prop:=w.length=25∧In 18446744073709551616 w
theorem W25.ws{w:List Int}(h:W25 w):Ws fun i=>w.getD i 0:=fun i=>h.2.getD i (by omega)
theorem b2y{f:Nat→Int}(h:Ws f):W25 (L25 f):=⟨bl3 f,fun x hx=>by
 simp only[L25,Cg] at hx
 obtain ⟨i,_,rfl⟩:=hx
 exact h i⟩
def perm(w:List Int):List Int:=L25 (bu1 (fun i=>w.getD i 0) 24)
theorem bl1{w:List Int}(h:W25 w):W25 (perm w):=b2y (bpb h.ws 24)
theorem blh{w:List Int}(h:W25 w){ρ:Type}(k:List Int→Option ρ):P.jg w k=k (perm w):=by
 have:=jg (fun i=>w.getD i 0) k
 rw[←buv w h.1] at this
 exact this
def pt(w:List Int)(a:Nat)(c:Int):List Int:=w.set (a/8) (X (w.getD (a/8) 0) (Af.wrap (Af.wrap c*(2:Int)^min (8*(a%8)) 64)))
theorem btv(x:Int):U64 (Af.wrap x):=by
 rw[boz]
 exact ⟨Int.emod_nonneg _ (by omega),Int.emod_lt_of_pos _ (by omega)⟩
theorem bq4{w:List Int}(h:W25 w)(a:Nat)(c:Int):W25 (pt w a c):=by
 refine ⟨by unfold pt;rw[List.length_set];exact h.1,fun x hx=>?_⟩
 rcases List.mem_or_eq_of_mem_set hx with hx | rfl
 ·exact h.2 x hx
 ·exact X_U (h.2.getD _ (by omega)) (btv _)
theorem at8(a:Nat)(h:a<1000000):Ab.wrap ((a:Int).tdiv 8)=((a/8:Nat):Int):=by
 rw[Ca (by omega),wz (by omega) (by omega)]
 omega
theorem am8(a:Nat)(h:a<1000000):Ab.wrap ((8:Int)*(a:Int).tmod 8)=((8*(a%8):Nat):Int):=by
 rw[Bn (by omega),wz (by omega) (by omega)]
 omega
def Rt(kd:Int)(r:Nat):Prop:=(kd=4∧r=136)∨(kd=5∧r=72)∨(kd=6∧r=168)∨(kd=7∧r=136)
theorem Rt.le{kd:Int}{r:Nat}(h:Rt kd r):72≤r∧r≤168:=by
 rcases h with ⟨_,rfl⟩ | ⟨_,rfl⟩ | ⟨_,rfl⟩ | ⟨_,rfl⟩<;>omega
theorem ayc{kd:Int}{r:Nat}(h:Rt kd r){ρ:Type}(k:Int→Option ρ):P.oq kd k=k (r:Int):=by
 rw[P.aol];unfold P.ais
 rcases h with ⟨rfl,rfl⟩ | ⟨rfl,rfl⟩ | ⟨rfl,rfl⟩ | ⟨rfl,rfl⟩<;>simp
def ast(r:Nat)(s:List Int×Nat)(c:Int):List Int×Nat:=if s.2+1=r then (perm (pt s.1 s.2 c),0) else (pt s.1 s.2 c,s.2+1)
def aw5(r:Nat)(s:List Int×Nat)(l:List Int):List Int×Nat:=l.foldl (ast r) s
def Good(r:Nat)(s:List Int×Nat):Prop:=W25 s.1∧s.2<r
theorem bm8{r:Nat}{s:List Int×Nat}(h:Good r s)(c:Int):Good r (ast r s c):=by
 unfold ast Good at *
 split
 ·exact ⟨bl1 (bq4 h.1 _ _),by simp only;omega⟩
 ·exact ⟨bq4 h.1 _ _,by simp only;omega⟩
theorem ako{r:Nat}:∀(l:List Int) {s:List Int×Nat},Good r s→Good r (aw5 r s l)
 | [],s,h=>h
 | c::l,s,h=>ako l (bm8 h c)
theorem bkr(r:Nat)(s:List Int×Nat)(l:List Int)(i:Nat)(hi:i<l.length):aw5 r s (l.take (i+1))=ast r (aw5 r s (l.take i)) (l.getD i 0):=by
 rw[←am4 l 0 i hi]
 unfold aw5
 rw[List.foldl_append]
 rfl
theorem bnb(r:Nat)(s:List Int×Nat)(l m:List Int):aw5 r s (l++m)=aw5 r (aw5 r s l) m:=by
 unfold aw5;rw[List.foldl_append]
abbrev Z25:List Int:=[0,0,0,0,0,0,0,0,0,0,0,0,0,0,0,0,0,0,0,0,0,0,0,0,0]
theorem bs1:W25 Z25:=⟨rfl,fun x hx=>by
 have:x=0:=by simpa [Z25] using hx
 subst this
 decide⟩
def sq0(r:Nat)(s:List Int×Nat):List Int×Nat:=if s.2=r then (perm s.1,0) else s
def sqb(s:List Int×Nat):Int:=Cv.wrap ((s.1.getD (s.2/8) 0).fdiv ((2:Int)^min (8*(s.2%8)) 64))
def sqS(r:Nat)(s:List Int×Nat):Nat→List Int×Nat
 | 0=>s
 | n+1=>((sq0 r (sqS r s n)).1,(sq0 r (sqS r s n)).2+1)
def sqB(r:Nat)(s:List Int×Nat)(n:Nat):Int:=sqb (sq0 r (sqS r s n))
def sqO(r:Nat)(s:List Int×Nat)(m:Nat):List Int:=(Ad m).map (sqB r s)
def Gd(r:Nat)(s:List Int×Nat):Prop:=W25 s.1∧s.2≤r
theorem bgm{r:Nat}(hr:1≤r){s:List Int×Nat}(h:Gd r s):∀n,Gd r (sqS r s n)
 | 0=>h
 | n+1=>by
  have ih:=bgm hr h n
  show Gd r ((sq0 r (sqS r s n)).1,(sq0 r (sqS r s n)).2+1)
  revert ih
  generalize sqS r s n=t
  intro ih
  have h2:=ih.2
  unfold sq0
  by_cases he:t.2=r
  ·rw[if_pos he];exact ⟨bl1 ih.1,by simp only;omega⟩
  ·rw[if_neg he];exact ⟨ih.1,by simp only;omega⟩
theorem bpw(r:Nat)(s:List Int×Nat)(m:Nat):(sqO r s m).length=m:=by simp[sqO]
theorem bs2(r:Nat)(s:List Int×Nat)(m:Nat):In 256 (sqO r s m):=fun x hx=>by
 simp only[sqO,Cg] at hx
 obtain ⟨i,_,rfl⟩:=hx
 unfold sqB sqb
 rw[u8m]
 exact ⟨Int.emod_nonneg _ (by omega),Int.emod_lt_of_pos _ (by omega)⟩
theorem zd:(0:Nat)/8=0:=rfl
theorem zm:min (8*((0:Nat)%8)) 64=0:=rfl
theorem b37{kd:Int}{r:Nat}(hr:Rt kd r)(s:List Int×Nat)(hg:Gd r s)(m:Nat)(hm:m≤100000000)(z:Bool){ρ:Type}(k:Int→Int→Int→List Int→Int→Bool→Int→List Int→Int→Bool→List Int→Option ρ) :
    P.ado (m:Int) 0 kd s.1 (s.2:Int) z 0 Z25 0 false (Ac m 0) k=k (m:Int) (m:Int) kd (sqS r s m).1 ((sqS r s m).2:Int) z 0 Z25 0 false (sqO r s m):=by
 have hr2:=hr.le
 rw[P.aoc];unfold P.aki P.bwy P.bxi P.b3p
 refine abk (fun i=>((m:Int),(i:Int),kd,(sqS r s i).1,((sqS r s i).2:Int),z,(0:Int),Z25,(0:Int),false,sqO r s i++Ac (m-i) 0)) m (by simp[sqO,sqS]) (fun i hi next hnx=>?_) (fun next=>?_) (by omega)
 ·have hg2:=bgm (by omega) hg i
  have hO:sqO r s (i+1)++Ac (m-(i+1)) 0=(sqO r s i++Ac (m-i) 0).set i (sqB r s i):=(bch (sqB r s) i m hi 0).symm
  have hl:(sqO r s i++Ac (m-i) 0).length=m:=by simp[sqO];omega
  rw[hO] at hnx
  unfold sqB at hnx
  simp only[sqS] at hnx
  simp only[P.af0,toNat_cast]
  generalize sqO r s i++Ac (m-i) 0=o at hl hnx ⊢
  generalize sqS r s i=t at hg2 hnx ⊢
  have hlt:=hg2.2
  rw[bf (by omega),ayc hr]
  unfold sq0 sqb at hnx
  by_cases he:t.2=r
  ·rw[if_pos he] at hnx
   rw[jc (by omega),blh hg2.1,bf (by omega),bf (by omega),wz (x:=(i:Int)+1) (by omega) (by omega),wz (x:=(0:Int)+1) (by omega) (by omega)]
   simp only[zd,zm] at hnx
   exact hnx
  ·rw[if_neg he] at hnx
   rw[jk (by omega),at8 _ (by omega),am8 _ (by omega),toNat_cast,toNat_cast,wz (x:=(t.2:Int)+1) (by omega) (by omega),wz (x:=(i:Int)+1) (by omega) (by omega)]
   simp (disch:=omega) only[bf,fq,mo,dx,jc,jk,uh,yx,aem,wz]
   exact hnx
 ·simp only[P.af0]
  rw[fq (by omega)]
  simp
end QK
end

section
/- keccak: sums. -/
namespace QK
open Q
open Go Go.Abs
theorem ow{kd:Int}{r:Nat}(hr:Rt kd r)(w:List Int)(a:Nat)(hg:Good r (w,a))(b:List Int)(hn:b.length<9223372036854775807){ρ:Type}(k:Int→List Int→Int→Bool→Option ρ) :
    P.ow kd w (a:Int) false b k=k kd (aw5 r (w,a) b).1 ((aw5 r (w,a) b).2:Int) false:=by
 have hr2:=hr.le
 rw[P.al5];unfold P.afu
 rw[aem,ayc hr,P.ap4];unfold P.ama P.bxe P.bwk P.bzc
 refine abk (fun i=>(b,(r:Int),(b.length:Int),(i:Int),kd,(aw5 r (w,a) (b.take i)).1,((aw5 r (w,a) (b.take i)).2:Int),false,(0:Int),Z25,(0:Int),false)) b.length (by simp[aw5]) (fun i hi next hnx=>?_) (fun next=>?_) (by omega)
 ·have hg2:=ako (b.take i) hg
  rw[bkr r (w,a) b i hi] at hnx
  simp only[P.aha,toNat_cast]
  generalize aw5 r (w,a) (b.take i)=s at hg2 hnx ⊢
  have hlt:=hg2.2
  rw[at8 _ (by omega),am8 _ (by omega),toNat_cast,toNat_cast,wz (x:=(s.2:Int)+1) (by omega) (by omega),wz (x:=(i:Int)+1) (by omega) (by omega)]
  unfold ast at hnx
  by_cases he:s.2+1=r
  ·rw[if_pos he] at hnx
   simp (disch:=omega) only[bf,fq,mo,dx,jc,jk,uh,yx,aem,wz]
   exact (blh (bq4 hg2.1 _ _) _).trans hnx
  ·rw[if_neg he] at hnx
   simp (disch:=omega) only[bf,fq,mo,dx,jc,jk,uh,yx,aem,wz]
   exact hnx
 ·simp only[P.aha]
  rw[fq (by omega),Ck]
def mark(kd:Int):Int:=if kd=4∨kd=5 then 6 else 31
def trn(kd:Int)(r:Nat)(s:List Int×Nat):List Int:=perm (pt (pt s.1 s.2 (mark kd)) (r-1) 128)
theorem bzs{kd:Int}{r:Nat}{s:List Int×Nat}(h:W25 s.1):W25 (trn kd r s):=bl1 (bq4 (bq4 h _ _) _ _)
theorem xu{kd:Int}{r:Nat}(hr:Rt kd r)(s:List Int×Nat)(hg:Good r s)(z:Bool){ρ:Type}(k:Int→List Int→Int→Bool→Option ρ) :
    P.xu kd s.1 (s.2:Int) z k=k kd (trn kd r s) 0 true:=by
 have hr2:=hr.le
 have h2:=hg.2
 have er:(r:Int)-1=((r-1:Nat):Int):=by omega
 rw[P.al0];unfold P.aga
 rw[at8 _ (by omega),am8 _ (by omega),toNat_cast,toNat_cast]
 rw[ayc hr,ayc hr,wz (x:=(r:Int)-1) (by omega) (by omega),er,at8 _ (by omega),am8 _ (by omega),toNat_cast,toNat_cast]
 have fin:∀c:Int,(P.jg (pt (pt s.1 s.2 c) (r-1) 128) fun q=>k kd q 0 true)=k kd (perm (pt (pt s.1 s.2 c) (r-1) 128)) 0 true:=fun c=>blh (bq4 (bq4 hg.1 _ _) _ _) _
 unfold trn mark
 by_cases h4:kd=4
 ·rw[if_pos (.inl h4)]
  simp (disch:=omega) only[bf,fq,mo,dx,jc,jk,uh,yx,aem,wz]
  exact fin 6
 ·by_cases h5:kd=5
  ·rw[if_pos (.inr h5)]
   simp (disch:=omega) only[bf,fq,mo,dx,jc,jk,uh,yx,aem,wz]
   exact fin 6
  ·rw[if_neg (by omega)]
   simp (disch:=omega) only[bf,fq,mo,dx,jc,jk,uh,yx,aem,wz]
   exact fin 31
theorem qo{kd:Int}{r:Nat}(hr:Rt kd r)(s:List Int×Nat)(hg:Good r s)(m:Nat)(hm:m≤100000000){ρ:Type}(k:Int→List Int→Int→Bool→List Int→Option ρ) :
    P.qo kd s.1 (s.2:Int) false (m:Int) k=k kd (sqS r (trn kd r s,0) m).1 ((sqS r (trn kd r s,0) m).2:Int) true (sqO r (trn kd r s,0) m):=by
 have hr2:=hr.le
 rw[P.aj8];unfold P.ae1
 rw[fq (by omega),uh,aem,xu hr s hg,bf (by omega),bf (by omega),bf (by omega),toNat_cast,Bh]
 exact b37 hr (trn kd r s,0) ⟨bzs hg.1,by simp only;omega⟩ m hm true _
def rOf(kd:Int):Nat:=if kd=4 then 136 else if kd=5 then 72 else if kd=6 then 168 else 136
theorem btt{kd:Int}(h:kd=4∨kd=5∨kd=6∨kd=7):Rt kd (rOf kd):=by
 unfold Rt rOf
 rcases h with rfl | rfl | rfl | rfl<;>simp
def bo2(kd:Int)(b:List Int)(m:Nat):List Int:=sqO (rOf kd) (trn kd (rOf kd) (aw5 (rOf kd) (Z25,0) b),0) m
theorem at7(kd:Int)(b:List Int)(m:Nat):(bo2 kd b m).length=m:=bpw _ _ _
theorem ayz(kd:Int)(b:List Int)(m:Nat):In 256 (bo2 kd b m):=bs2 _ _ _
theorem yt{kd:Int}(h:kd=4∨kd=5∨kd=6∨kd=7)(b:List Int)(hn:b.length<9223372036854775807)(m:Nat)(hm:m≤16777216){ρ:Type}(k:List Int→Int→Option ρ):P.yt kd b (m:Int) k=k (bo2 kd b m) 0:=by
 have hr:=btt h
 have hr2:=hr.le
 have hg:Good (rOf kd) (Z25,0):=⟨bs1,by simp only;omega⟩
 rw[P.arf];unfold P.aju
 rw[P.alp];unfold P.agk
 rw[ayc hr,jk (by omega)]
 dsimp only
 rw[dx rfl,fq (by omega),fq (by omega)]
 exact (ow hr Z25 0 hg b hn _).trans (qo hr _ (ako b hg) m (by omega) _)
end QK
end

section
/- SHA-2: what a block does. -/
namespace Q
open Go Go.Abs
structure Par (w:Nat) where
 rounds:Nat
 a:Nat×Nat×Nat
 b:Nat×Nat×Nat
 c:Nat×Nat×Nat
 d:Nat×Nat×Nat
 K:Nat→BitVec w
section
variable {w:Nat}
def hi(t:Nat×Nat×Nat)(x:BitVec w):BitVec w:=rr x t.1 ^^^ rr x t.2.1 ^^^ rr x t.2.2
def lo(t:Nat×Nat×Nat)(x:BitVec w):BitVec w:=rr x t.1 ^^^ rr x t.2.1 ^^^ (x >>> t.2.2)
def cv(l:List (BitVec w)):List Int:=l.map fun x=>(x.toNat:Int)
@[simp] theorem adh (l:List (BitVec w)):(cv l).length=l.length:=by simp[cv]
theorem arw(l:List (BitVec w))(i:Nat):(cv l).getD i 0=((l.getD i 0).toNat:Int):=by
 unfold cv
 rw[Ae,Ae,List.getElem?_map]
 cases l[i]?<;>simp
theorem bfw(l:List (BitVec w))(i:Nat)(x:BitVec w):(cv l).set i (x.toNat:Int)=cv (l.set i x):=by simp[cv,List.map_set]
theorem aq5(l r:List (BitVec w)):cv l++cv r=cv (l++r):=by simp[cv]
def br8(p:Par w)(t:Nat)(wt:BitVec w)(v:List (BitVec w)):BitVec w :=
 v.getD 7 0+hi p.d (v.getD 4 0)+(v.getD 6 0 ^^^ (v.getD 4 0 &&& (v.getD 5 0 ^^^ v.getD 6 0)))+p.K t+wt
def b2t(p:Par w)(v:List (BitVec w)):BitVec w:=hi p.c (v.getD 0 0)+((v.getD 0 0 &&& v.getD 1 0) ||| (v.getD 2 0 &&& (v.getD 0 0 ||| v.getD 1 0)))
def rnd(p:Par w)(t:Nat)(wt:BitVec w)(v:List (BitVec w)):List (BitVec w) :=
 [br8 p t wt v+b2t p v,v.getD 0 0,v.getD 1 0,v.getD 2 0,v.getD 3 0+br8 p t wt v,v.getD 4 0,v.getD 5 0,v.getD 6 0]
def btz(p:Par w)(l:List (BitVec w)):BitVec w:=lo p.b (l.getD (l.length-2) 0)+l.getD (l.length-7) 0+lo p.a (l.getD (l.length-15) 0)+l.getD (l.length-16) 0
def sched(p:Par w)(l:List (BitVec w)):Nat→List (BitVec w)
 | 0=>l
 | n+1=>sched p l n++[btz p (sched p l n)]
theorem awo(p:Par w)(l:List (BitVec w)):∀n,(sched p l n).length=l.length+n
 | 0=>rfl
 | n+1=>by simp only[sched,Av,awo p l n,List.length_singleton];omega
theorem azv(p:Par w)(l:List (BitVec w))(n i:Nat)(hi:i<l.length+n):∀m,(sched p l (n+m)).getD i 0=(sched p l n).getD i 0
 | 0=>rfl
 | m+1=>by
  rw[←Cw]
  simp only[sched]
  rw[Ae,List.getElem?_append_left (by rw[awo];omega),←Ae,azv p l n i hi m]
def W(p:Par w)(l:List (BitVec w))(t:Nat):BitVec w:=(sched p l t).getD t 0
theorem bsa(p:Par w)(l:List (BitVec w))(hl:0<l.length)(n t:Nat)(h:t<l.length+n):(sched p l n).getD t 0=W p l t:=by
 unfold W
 by_cases hn:n≤t
 ·have:=azv p l n t h (t-n)
  rw[show n+(t-n)=t by omega] at this
  exact this.symm
 ·have:=azv p l t t (by omega) (n-t)
  rw[show t+(n-t)=n by omega] at this
  exact this
theorem bpe(p:Par w)(l:List (BitVec w))(hl:l.length=16)(t:Nat):W p l (t+16)=W p l t+lo p.a (W p l (t+1))+W p l (t+9)+lo p.b (W p l (t+14)):=by
 have e:=bsa p l (by omega) (t+1) (t+16) (by omega)
 rw[←e]
 simp only[sched]
 have hlen:=awo p l t
 rw[Ae,Bo (by rw[hlen];omega),hlen,show t+16-(l.length+t)=0 by omega]
 simp only[List.getElem?_cons_zero,Option.getD_some]
 unfold btz
 rw[hlen,show l.length+t-2=t+14 by omega,show l.length+t-7=t+9 by omega,show l.length+t-15=t+1 by omega,show l.length+t-16=t by omega,
  bsa p l (by omega) t _ (by omega),bsa p l (by omega) t _ (by omega),bsa p l (by omega) t _ (by omega),bsa p l (by omega) t _ (by omega)]
 ac_rfl
def runs(p:Par w)(l:List (BitVec w))(v:List (BitVec w)):Nat→List (BitVec w)
 | 0=>v
 | t+1=>rnd p t (W p l t) (runs p l v t)
theorem auh(p:Par w)(l v:List (BitVec w))(hv:v.length=8):∀t,(runs p l v t).length=8
 | 0=>hv
 | t+1=>rfl
def bo5(p:Par w)(l v:List (BitVec w)):List (BitVec w):=(Ad 8).map fun i=>(runs p l v p.rounds).getD i 0+v.getD i 0
def ad2(w:Nat)(b:List Int)(n:Nat):List (BitVec w):=(Ad n).map fun t=>Bd w (T 8 ((b.take ((t+1)*(w/8))).drop (t*(w/8))).reverse)
def bcv(p:Par w)(v:List (BitVec w))(b:List Int):List (BitVec w):=bo5 p (ad2 w b 16) v
theorem bhg(p:Par w)(v:List (BitVec w))(b:List Int):(bcv p v b).length=8:=by simp[bcv,bo5]
theorem av8(b:List Int)(n:Nat):ad2 w b (n+1)=ad2 w b n++[Bd w (T 8 ((b.take ((n+1)*(w/8))).drop (n*(w/8))).reverse)]:=by simp[ad2,Ap]
theorem abz(b:List Int)(n:Nat):(ad2 w b n).length=n:=by simp[ad2]
def win(p:Par w)(l:List (BitVec w))(t:Nat):List (BitVec w):=(Ad 16).map fun j=>W p l (t+(j+16-t%16)%16)
theorem atq(p:Par w)(l:List (BitVec w))(t i:Nat)(hi:i<16):(win p l t).getD ((t+i)%16) 0=W p l (t+i):=by
 unfold win
 rw[getD_lt (by simp;omega)]
 simp only[Au,Ai]
 congr 1
 omega
theorem bf1(p:Par w)(l:List (BitVec w))(t:Nat):(win p l t).set (t%16) (W p l (t+16))=win p l (t+1):=by
 unfold win
 refine Ar (by simp) (fun j h1 h2=>?_)
 simp only[Az,Ak] at h2
 rw[List.getElem_set]
 by_cases h:t%16=j
 ·rw[if_pos h]
  simp only[Au,Ai]
  congr 1
  omega
 ·rw[if_neg h]
  simp only[Au,Ai]
  congr 1
  omega
theorem win_zero(p:Par w)(b:List Int):win p (ad2 w b 16) 0=ad2 w b 16:=by
 unfold win
 refine Ar (by simp[ad2]) (fun j h1 h2=>?_)
 rw[abz] at h2
 simp only[Au,Ai]
 rw[show 0+(j+16-0%16)%16=j by omega,←bsa p _ (by rw[abz];omega) 0 j (by rw[abz];omega)]
 exact getD_lt (by rw[show sched p (ad2 w b 16) 0=ad2 w b 16 from rfl,abz];exact h2)
end
theorem bdm:∀x,x∈P.roots256→0≤x∧x<4294967296:=by decide +kernel
theorem bew:∀x,x∈P.roots512→0≤x∧x<18446744073709551616:=by decide +kernel
def p32:Par 32:=⟨64,(7,18,3),(17,19,10),(2,13,22),(6,11,25),fun t=>Aa 32 (P.roots256.getD t 0)⟩
def p64:Par 64:=⟨80,(1,8,7),(19,61,6),(28,34,39),(14,18,41),fun t=>Aa 64 (P.roots512.getD t 0)⟩
theorem K32(t:Nat):P.roots256.getD t 0=((p32.K t).toNat:Int):=by
 have:=In.getD (m:=4294967296) bdm t (by omega)
 simp only[p32,Ag]
 omega
theorem K64(t:Nat):P.roots512.getD t 0=((p64.K t).toNat:Int):=by
 have:=In.getD (m:=18446744073709551616) bew t (by omega)
 simp only[p64,Ag]
 omega
end Q
end

section
/- SHA-2: the program's engine of 32 bits. -/
namespace Q
open Go Go.Abs
theorem ajy(rd:Int)(t0 t1 t2 t3:List Int)(x:BitVec 32)(m:Int)(n:Nat)(hm:m=(n:Int))(hn:n≤32){ρ:Type}(k:Int→Option ρ) :
    P.bg 32 rd t0 t1 t2 t3 (x.toNat:Int) m k=k ((rr x n).toNat:Int):=by
 subst hm
 rw[P.acg]
 unfold P.zw
 rw[fq (by omega),wz (by omega) (by omega),fq (by omega),show (32:Int)-(n:Int)=((32-n:Nat):Int) by omega]
 simp only[toNat_cast]
 rw[bq9 _ _ hn,b1p _ _ (by omega),b45]
 rfl
theorem bj4(rd:Int)(x:BitVec 32){ρ:Type}(k:Int→Option ρ):P.j5 32 rd [7,18,3] [17,19,10] [2,13,22] [6,11,25] (x.toNat:Int) 3 k=k ((hi p32.d x).toNat:Int):=by
 rw[P.aa2]
 unfold P.yw
 simp only[Am,Ao]
 rw[fq (by decide),fq (by decide),fq (by decide),bf (by decide),ajy _ _ _ _ _ _ _ 6 (by rfl) (by omega),ajy _ _ _ _ _ _ _ 11 (by rfl) (by omega),ajy _ _ _ _ _ _ _ 25 (by rfl) (by omega),ay3,ay3]
 rfl
theorem bkd(rd:Int)(x:BitVec 32){ρ:Type}(k:Int→Option ρ):P.j5 32 rd [7,18,3] [17,19,10] [2,13,22] [6,11,25] (x.toNat:Int) 2 k=k ((hi p32.c x).toNat:Int):=by
 rw[P.aa2]
 unfold P.yw
 simp only[Am,Ao]
 rw[fq (by decide),fq (by decide),bf (by decide),ajy _ _ _ _ _ _ _ 2 (by rfl) (by omega),ajy _ _ _ _ _ _ _ 13 (by rfl) (by omega),ajy _ _ _ _ _ _ _ 22 (by rfl) (by omega),ay3,ay3]
 rfl
theorem bm2(rd:Int)(x:BitVec 32){ρ:Type}(k:Int→Option ρ):P.mq 32 rd [7,18,3] [17,19,10] [2,13,22] [6,11,25] (x.toNat:Int) 0 k=k ((lo p32.a x).toNat:Int):=by
 rw[P.abf]
 unfold P.ze
 simp only[Am,Ao]
 rw[bf (by decide),ajy _ _ _ _ _ _ _ 7 (by rfl) (by omega),ajy _ _ _ _ _ _ _ 18 (by rfl) (by omega),fq (by decide),ay3,show (3:Int).toNat=3 from rfl,bq9 _ _ (by omega),ay3]
 rfl
theorem bnt(rd:Int)(x:BitVec 32){ρ:Type}(k:Int→Option ρ):P.mq 32 rd [7,18,3] [17,19,10] [2,13,22] [6,11,25] (x.toNat:Int) 1 k=k ((lo p32.b x).toNat:Int):=by
 rw[P.abf]
 unfold P.ze
 simp only[Am,Ao]
 rw[fq (by decide),bf (by decide),ajy _ _ _ _ _ _ _ 17 (by rfl) (by omega),ajy _ _ _ _ _ _ _ 19 (by rfl) (by omega),fq (by decide),ay3,show (10:Int).toNat=10 from rfl,bq9 _ _ (by omega),ay3]
 rfl
theorem bmw(t:Nat)(h:t<64){ρ:Type}(k:Int→Option ρ):P.sw (t:Int) k=k ((p32.K t).toNat:Int):=by
 rw[P.aoq]
 unfold P.aiw
 rw[bf (by omega),bf (by omega),toNat_cast,K32]
theorem v8{w:Nat}(v:List (BitVec w))(hv:v.length=8):v=[v.getD 0 0,v.getD 1 0,v.getD 2 0,v.getD 3 0,v.getD 4 0,v.getD 5 0,v.getD 6 0,v.getD 7 0]:=by
 match v,hv with
 | [a,b,c,d,e,f,g,h],_=>rfl
theorem b5c(t:Nat):((t:Nat):Int).tmod 16=((t%16:Nat):Int):=by
 rw[Bn (by omega)];rfl
theorem bue(b:List Int)(hb:In 256 b)(hl:b.length=16*4)(rd:Int)(t0 t1 t2 t3 h1 h2:List Int){ρ:Type}(k0:List Int→Int→Int→Int→Int→List Int→List Int→List Int→List Int→List Int→List Int→List Int→Option ρ) :
    P.aaw b 4 0 32 rd t0 t1 t2 t3 h1 h2 (Ac 16 0) k0=k0 b 4 16 32 rd t0 t1 t2 t3 h1 h2 (cv (ad2 32 b 16)):=by
 rw[P.ag3]
 unfold P.adu P.bvr P.bvo P.byx
 refine abk (fun i=>(b,4,(i:Int),32,rd,t0,t1,t2,t3,h1,h2,cv (ad2 32 b i)++Ac (16-i) 0)) 16 (by simp[ad2,cv]) (fun i hi next hn'=>?_) (fun next=>?_) (by omega)
 ·simp only[P.aav,toNat_cast]
  have e1:Ab.wrap ((i:Int)*4)=((i*4:Nat):Int):=by rw[wz (by omega) (by omega)];omega
  have e2:Ab.wrap (Ab.wrap ((i:Int)+1)*4)=(((i+1)*4:Nat):Int):=by rw[wz (x:=(i:Int)+1) (by omega) (by omega),wz (by omega) (by omega)];omega
  rw[e1,e2]
  simp only[toNat_cast]
  have hlen:((b.take ((i+1)*4)).drop (i*4)).length=4:=by simp;omega
  rw[bf (by omega),bf (by omega),bf (by omega),bf (by omega),u6 _ ((hb.take _).drop _) (by omega),bf (by omega),bf (by omega)]
  have e3:Bb.wrap ((T 8 ((b.take ((i+1)*4)).drop (i*4)).reverse%2^64:Nat):Int)=(((Bd 32 (T 8 ((b.take ((i+1)*4)).drop (i*4)).reverse)).toNat:Nat):Int):=by
   rw[bs7,Bj];omega
  have e4:Ab.wrap ((i:Int)+1)=((i+1:Nat):Int):=by rw[wz (by omega) (by omega)];omega
  rw[e3,e4]
  have e5:(cv (ad2 32 b i)++Ac (16-i) (0:Int)).set i (((Bd 32 (T 8 ((b.take ((i+1)*4)).drop (i*4)).reverse)).toNat:Nat):Int)=cv (ad2 32 b (i+1))++Ac (16-(i+1)) 0:=by
   rw[Ah _ _ (by simp[abz]),adh,abz,A8,show 16-i=(16-(i+1))+1 by omega,Ba,Aj,av8,←aq5,Al]
   rfl
  rw[e5]
  exact hn'
 ·simp only[P.aav]
  rw[fq (by omega)]
  simp
theorem brq(l v:List (BitVec 32))(hv:v.length=8)(h2 h1:List Int){ρ:Type}(k0:Int→Int→List Int→List Int→List Int→Int→Int→List Int→List Int→List Int→List Int→List Int→Option ρ)(hl:l.length=16) :
    P.xq 64 0 (cv (win p32 l 0)) h2 h1 32 64 [7,18,3] [17,19,10] [2,13,22] [6,11,25] (cv v) k0 =
     k0 64 64 (cv (win p32 l 64)) h2 h1 32 64 [7,18,3] [17,19,10] [2,13,22] [6,11,25] (cv (runs p32 l v 64)):=by
 rw[P.agz]
 unfold P.adb P.bvy P.bwv P.b1o
 refine abk (fun t=>(64,(t:Int),cv (win p32 l t),h2,h1,32,64,[7,18,3],[17,19,10],[2,13,22],[6,11,25],cv (runs p32 l v t))) 64 rfl (fun t ht next hn'=>?_) (fun next=>?_) (by omega)
 ·simp only[P.aai]
  have e1:Ab.wrap ((t:Int)+1)=((t+1:Nat):Int):=by rw[wz (by omega) (by omega)];omega
  have e9:Ab.wrap ((t:Int)+9)=((t+9:Nat):Int):=by rw[wz (by omega) (by omega)];omega
  have e14:Ab.wrap ((t:Int)+14)=((t+14:Nat):Int):=by rw[wz (by omega) (by omega)];omega
  simp only[e1,e9,e14,b5c,toNat_cast,arw]
  have g0:=atq p32 l t 0 (by omega)
  rw[Nat.add_zero] at g0
  rw[g0,atq p32 l t 1 (by omega),atq p32 l t 9 (by omega),atq p32 l t 14 (by omega)]
  have hV:=v8 _ (auh p32 l v hv t)
  rw[bf (by omega),bf (by omega),bf (by omega),bj4,bmw t ht,bkd,bf (by omega),bf (by omega),bm2,bf (by omega),bf (by omega),bf (by omega),bf (by omega),bnt,bf (by omega),bf (by omega)]
  simp only[add32,ay3,b1q,b45]
  rw[←bpe p32 l hl t,bfw,bf1]
  have hr:cv (runs p32 l v (t+1))=(((Aw 1 (cv (runs p32 l v t))).append (Aw 7 (Aw 7 (Bf 0 (cv (runs p32 l v t))))++Bf (1+min 7 (Aw 7 (Bf 0 (cv (runs p32 l v t)))).length) (cv (runs p32 l v t)))).set 4
      (((runs p32 l v t).getD 3 0+br8 p32 t (W p32 l t) (runs p32 l v t)).toNat:Int)).set 0 ((br8 p32 t (W p32 l t) (runs p32 l v t)+b2t p32 (runs p32 l v t)).toNat:Int):=by
   rw[hV]
   rfl
  have h3:((Aw 1 (cv (runs p32 l v t))).append (Aw 7 (Aw 7 (Bf 0 (cv (runs p32 l v t))))++Bf (1+min 7 (Aw 7 (Bf 0 (cv (runs p32 l v t)))).length) (cv (runs p32 l v t)))).getD 4 0=(((runs p32 l v t).getD 3 0).toNat:Int):=by
   rw[hV]
   rfl
  rw[h3,add32]
  rw[hr] at hn'
  exact hn'
 ·simp only[P.aai]
  rw[fq (by omega)]
  rfl
theorem bqw(v u:List (BitVec 32))(hv:v.length=8)(hu:u.length=8)(h2:List Int){ρ:Type}(k0:Int→List Int→List Int→List Int→Option ρ) :
    P.yh 0 (cv v) h2 (cv u) k0=k0 8 (cv v) h2 (cv ((Ad 8).map fun i=>u.getD i 0+v.getD i 0)):=by
 rw[P.agv]
 unfold P.acw P.bv6 P.bvu P.bza
 have hs:∀i,i≤8→(((Ad i).map fun i=>u.getD i 0+v.getD i 0)++u.drop i).length=8:=fun i hi=>by simp;omega
 refine abk (fun i=>((i:Int),cv v,h2,cv (((Ad i).map fun i=>u.getD i 0+v.getD i 0)++u.drop i))) 8 (by simp) (fun i hi next hn'=>?_) (fun next=>?_) (by omega)
 ·simp only[P.aal,toNat_cast,arw]
  have e1:Ab.wrap ((i:Int)+1)=((i+1:Nat):Int):=by rw[wz (by omega) (by omega)];omega
  have e2:(((Ad i).map fun i=>u.getD i 0+v.getD i 0)++u.drop i).getD i 0=u.getD i 0:=by
   rw[Ae,Bo (by simp),List.getElem?_drop,Az,Ak,Ae]
   congr 2
   omega
  rw[e1,e2,add32,bfw]
  have e3:(((Ad i).map fun i=>u.getD i 0+v.getD i 0)++u.drop i).set i (u.getD i 0+v.getD i 0)=((Ad (i+1)).map fun i=>u.getD i 0+v.getD i 0)++u.drop (i+1):=by
   rw[Ah _ _ (by simp),Az,Ak,A8,Ap,Bq,Al,A9 (by omega),Aj]
   rfl
  rw[e3]
  simp (disch:=omega) only[bf,fq,mo,dx,jc,jk,uh,yx,aem,wz]
  exact hn'
 ·simp only[P.aal]
  rw[fq (by omega),Bl (by omega),Br]
  rfl
theorem blj(v:List (BitVec 32))(hv:v.length=8)(b:List Int)(hb:In 256 b)(hl:b.length=16*4){ρ:Type}(k:List Int→Option ρ) :
    P.oz 32 64 [7,18,3] [17,19,10] [2,13,22] [6,11,25] (cv v) b k=k (cv (bcv p32 v b)):=by
 rw[P.adw]
 unfold P.aam
 rw[show Ab.wrap ((32:Int).tdiv 8)=4 from rfl]
 have:=bue b hb hl 64 [7,18,3] [17,19,10] [2,13,22] [6,11,25] (cv v) (Ac 8 0) (fun (q0:List Int) (q1 q2 q3 q4:Int) (q5 q6 q7 q8 q9 q10 q11:List Int) =>
  P.xq q4 (0:Int) q11 q10 q9 q3 q4 q5 q6 q7 q8 q9
   fun (q12 q13:Int) (q14 q15 q16:List Int) (q17 q18:Int) (q19 q20 q21 q22 q23:List Int) =>
   P.yh (0:Int) q16 q15 q23 fun (q24:Int) (q25 q26 q27:List Int)=>k q27)
 refine this.trans ?_
 rw[←win_zero p32,brq _ v hv _ _ _ (abz b 16),bqw v _ hv (auh _ _ _ hv _)]
 rfl
end Q
end

section
/- SHA-2: the document's block of words of 32 bits. -/
namespace Q
open Go Go.Abs
end Q
end

section
/- SHA-2: the program's engine of 64 bits. -/
namespace Q
open Go Go.Abs
theorem ajs(rd:Int)(t0 t1 t2 t3:List Int)(x:BitVec 64)(m:Int)(n:Nat)(hm:m=(n:Int))(hn:n≤64){ρ:Type}(k:Int→Option ρ) :
    P.bn 64 rd t0 t1 t2 t3 (x.toNat:Int) m k=k ((rr x n).toNat:Int):=by
 subst hm
 rw[P.ach]
 unfold P.aad
 rw[fq (by omega),wz (by omega) (by omega),fq (by omega),show (64:Int)-(n:Int)=((64-n:Nat):Int) by omega]
 simp only[toNat_cast]
 rw[bmz _ _ hn,bun _ _ (by omega),byo]
 rfl
theorem bh8(rd:Int)(x:BitVec 64){ρ:Type}(k:Int→Option ρ):P.kg 64 rd [1,8,7] [19,61,6] [28,34,39] [14,18,41] (x.toNat:Int) 3 k=k ((hi p64.d x).toNat:Int):=by
 rw[P.aa4]
 unfold P.yu
 simp only[Am,Ao]
 rw[fq (by decide),fq (by decide),fq (by decide),bf (by decide),ajs _ _ _ _ _ _ _ 14 (by rfl) (by omega),ajs _ _ _ _ _ _ _ 18 (by rfl) (by omega),ajs _ _ _ _ _ _ _ 41 (by rfl) (by omega),ava,ava]
 rfl
theorem bkx(rd:Int)(x:BitVec 64){ρ:Type}(k:Int→Option ρ):P.kg 64 rd [1,8,7] [19,61,6] [28,34,39] [14,18,41] (x.toNat:Int) 2 k=k ((hi p64.c x).toNat:Int):=by
 rw[P.aa4]
 unfold P.yu
 simp only[Am,Ao]
 rw[fq (by decide),fq (by decide),bf (by decide),ajs _ _ _ _ _ _ _ 28 (by rfl) (by omega),ajs _ _ _ _ _ _ _ 34 (by rfl) (by omega),ajs _ _ _ _ _ _ _ 39 (by rfl) (by omega),ava,ava]
 rfl
theorem boa(rd:Int)(x:BitVec 64){ρ:Type}(k:Int→Option ρ):P.ng 64 rd [1,8,7] [19,61,6] [28,34,39] [14,18,41] (x.toNat:Int) 0 k=k ((lo p64.a x).toNat:Int):=by
 rw[P.abe]
 unfold P.zf
 simp only[Am,Ao]
 rw[bf (by decide),ajs _ _ _ _ _ _ _ 1 (by rfl) (by omega),ajs _ _ _ _ _ _ _ 8 (by rfl) (by omega),fq (by decide),ava,show (7:Int).toNat=7 from rfl,bmz _ _ (by omega),ava]
 rfl
theorem bml(rd:Int)(x:BitVec 64){ρ:Type}(k:Int→Option ρ):P.ng 64 rd [1,8,7] [19,61,6] [28,34,39] [14,18,41] (x.toNat:Int) 1 k=k ((lo p64.b x).toNat:Int):=by
 rw[P.abe]
 unfold P.zf
 simp only[Am,Ao]
 rw[fq (by decide),bf (by decide),ajs _ _ _ _ _ _ _ 19 (by rfl) (by omega),ajs _ _ _ _ _ _ _ 61 (by rfl) (by omega),fq (by decide),ava,show (6:Int).toNat=6 from rfl,bmz _ _ (by omega),ava]
 rfl
theorem bnc(t:Nat)(h:t<80){ρ:Type}(k:Int→Option ρ):P.sj (t:Int) k=k ((p64.K t).toNat:Int):=by
 rw[P.aou]
 unfold P.aiz
 rw[bf (by omega),bf (by omega),toNat_cast,K64]
theorem btb(b:List Int)(hb:In 256 b)(hl:b.length=16*8)(rd:Int)(t0 t1 t2 t3 h1 h2:List Int){ρ:Type}(k0:List Int→Int→Int→Int→Int→List Int→List Int→List Int→List Int→List Int→List Int→List Int→Option ρ) :
    P.aau b 8 0 64 rd t0 t1 t2 t3 h1 h2 (Ac 16 0) k0=k0 b 8 16 64 rd t0 t1 t2 t3 h1 h2 (cv (ad2 64 b 16)):=by
 rw[P.ag8]
 unfold P.adt P.bxy P.bvs P.by3
 refine abk (fun i=>(b,8,(i:Int),64,rd,t0,t1,t2,t3,h1,h2,cv (ad2 64 b i)++Ac (16-i) 0)) 16 (by simp[ad2,cv]) (fun i hi next hn'=>?_) (fun next=>?_) (by omega)
 ·simp only[P.aax,toNat_cast]
  have e1:Ab.wrap ((i:Int)*8)=((i*8:Nat):Int):=by rw[wz (by omega) (by omega)];omega
  have e2:Ab.wrap (Ab.wrap ((i:Int)+1)*8)=(((i+1)*8:Nat):Int):=by rw[wz (x:=(i:Int)+1) (by omega) (by omega),wz (by omega) (by omega)];omega
  rw[e1,e2]
  simp only[toNat_cast]
  have hlen:((b.take ((i+1)*8)).drop (i*8)).length=8:=by simp;omega
  rw[bf (by omega),bf (by omega),bf (by omega),bf (by omega),u6 _ ((hb.take _).drop _) (by omega),bf (by omega),bf (by omega)]
  have e3:((T 8 ((b.take ((i+1)*8)).drop (i*8)).reverse%2^64:Nat):Int)=(((Bd 64 (T 8 ((b.take ((i+1)*8)).drop (i*8)).reverse)).toNat:Nat):Int):=by
   rw[Bj]
  have e4:Ab.wrap ((i:Int)+1)=((i+1:Nat):Int):=by rw[wz (by omega) (by omega)];omega
  rw[e3,e4]
  have e5:(cv (ad2 64 b i)++Ac (16-i) (0:Int)).set i (((Bd 64 (T 8 ((b.take ((i+1)*8)).drop (i*8)).reverse)).toNat:Nat):Int)=cv (ad2 64 b (i+1))++Ac (16-(i+1)) 0:=by
   rw[Ah _ _ (by simp[abz]),adh,abz,A8,show 16-i=(16-(i+1))+1 by omega,Ba,Aj,av8,←aq5,Al]
   rfl
  rw[e5]
  exact hn'
 ·simp only[P.aax]
  rw[fq (by omega)]
  simp
theorem br0(l v:List (BitVec 64))(hv:v.length=8)(h2 h1:List Int){ρ:Type}(k0:Int→Int→List Int→List Int→List Int→Int→Int→List Int→List Int→List Int→List Int→List Int→Option ρ)(hl:l.length=16) :
    P.xw 80 0 (cv (win p64 l 0)) h2 h1 64 80 [1,8,7] [19,61,6] [28,34,39] [14,18,41] (cv v) k0 =
     k0 80 80 (cv (win p64 l 80)) h2 h1 64 80 [1,8,7] [19,61,6] [28,34,39] [14,18,41] (cv (runs p64 l v 80)):=by
 rw[P.agn]
 unfold P.ac9 P.bxs P.bxp P.b0s
 refine abk (fun t=>(80,(t:Int),cv (win p64 l t),h2,h1,64,80,[1,8,7],[19,61,6],[28,34,39],[14,18,41],cv (runs p64 l v t))) 80 rfl (fun t ht next hn'=>?_) (fun next=>?_) (by omega)
 ·simp only[P.aah]
  have e1:Ab.wrap ((t:Int)+1)=((t+1:Nat):Int):=by rw[wz (by omega) (by omega)];omega
  have e9:Ab.wrap ((t:Int)+9)=((t+9:Nat):Int):=by rw[wz (by omega) (by omega)];omega
  have e14:Ab.wrap ((t:Int)+14)=((t+14:Nat):Int):=by rw[wz (by omega) (by omega)];omega
  simp only[e1,e9,e14,b5c,toNat_cast,arw]
  have g0:=atq p64 l t 0 (by omega)
  rw[Nat.add_zero] at g0
  rw[g0,atq p64 l t 1 (by omega),atq p64 l t 9 (by omega),atq p64 l t 14 (by omega)]
  have hV:=v8 _ (auh p64 l v hv t)
  rw[bf (by omega),bf (by omega),bf (by omega),bh8,bnc t ht,bkx,bf (by omega),bf (by omega),boa,bf (by omega),bf (by omega),bf (by omega),bf (by omega),bml,bf (by omega),bf (by omega)]
  simp only[bqk,ava,bzl,byo]
  rw[←bpe p64 l hl t,bfw,bf1]
  have hr:cv (runs p64 l v (t+1))=(((Aw 1 (cv (runs p64 l v t))).append (Aw 7 (Aw 7 (Bf 0 (cv (runs p64 l v t))))++Bf (1+min 7 (Aw 7 (Bf 0 (cv (runs p64 l v t)))).length) (cv (runs p64 l v t)))).set 4
      (((runs p64 l v t).getD 3 0+br8 p64 t (W p64 l t) (runs p64 l v t)).toNat:Int)).set 0 ((br8 p64 t (W p64 l t) (runs p64 l v t)+b2t p64 (runs p64 l v t)).toNat:Int):=by
   rw[hV]
   rfl
  have h3:((Aw 1 (cv (runs p64 l v t))).append (Aw 7 (Aw 7 (Bf 0 (cv (runs p64 l v t))))++Bf (1+min 7 (Aw 7 (Bf 0 (cv (runs p64 l v t)))).length) (cv (runs p64 l v t)))).getD 4 0=(((runs p64 l v t).getD 3 0).toNat:Int):=by
   rw[hV]
   rfl
  rw[h3,bqk]
  rw[hr] at hn'
  exact hn'
 ·simp only[P.aah]
  rw[fq (by omega)]
  rfl
theorem bqy(v u:List (BitVec 64))(hv:v.length=8)(hu:u.length=8)(h2:List Int){ρ:Type}(k0:Int→List Int→List Int→List Int→Option ρ) :
    P.xk 0 (cv v) h2 (cv u) k0=k0 8 (cv v) h2 (cv ((Ad 8).map fun i=>u.getD i 0+v.getD i 0)):=by
 rw[P.agp]
 unfold P.acv P.bw8 P.bw6 P.b2m
 have hs:∀i,i≤8→(((Ad i).map fun i=>u.getD i 0+v.getD i 0)++u.drop i).length=8:=fun i hi=>by simp;omega
 refine abk (fun i=>((i:Int),cv v,h2,cv (((Ad i).map fun i=>u.getD i 0+v.getD i 0)++u.drop i))) 8 (by simp) (fun i hi next hn'=>?_) (fun next=>?_) (by omega)
 ·simp only[P.aaj,toNat_cast,arw]
  have e1:Ab.wrap ((i:Int)+1)=((i+1:Nat):Int):=by rw[wz (by omega) (by omega)];omega
  have e2:(((Ad i).map fun i=>u.getD i 0+v.getD i 0)++u.drop i).getD i 0=u.getD i 0:=by
   rw[Ae,Bo (by simp),List.getElem?_drop,Az,Ak,Ae]
   congr 2
   omega
  rw[e1,e2,bqk,bfw]
  have e3:(((Ad i).map fun i=>u.getD i 0+v.getD i 0)++u.drop i).set i (u.getD i 0+v.getD i 0)=((Ad (i+1)).map fun i=>u.getD i 0+v.getD i 0)++u.drop (i+1):=by
   rw[Ah _ _ (by simp),Az,Ak,A8,Ap,Bq,Al,A9 (by omega),Aj]
   rfl
  rw[e3]
  simp (disch:=omega) only[bf,fq,mo,dx,jc,jk,uh,yx,aem,wz]
  exact hn'
 ·simp only[P.aaj]
  rw[fq (by omega),Bl (by omega),Br]
  rfl
theorem bly(v:List (BitVec 64))(hv:v.length=8)(b:List Int)(hb:In 256 b)(hl:b.length=16*8){ρ:Type}(k:List Int→Option ρ) :
    P.ou 64 80 [1,8,7] [19,61,6] [28,34,39] [14,18,41] (cv v) b k=k (cv (bcv p64 v b)):=by
 rw[P.ads]
 unfold P.aaq
 rw[show Ab.wrap ((64:Int).tdiv 8)=8 from rfl]
 have:=btb b hb hl 80 [1,8,7] [19,61,6] [28,34,39] [14,18,41] (cv v) (Ac 8 0) (fun (q0:List Int) (q1 q2 q3 q4:Int) (q5 q6 q7 q8 q9 q10 q11:List Int) =>
  P.xw q4 (0:Int) q11 q10 q9 q3 q4 q5 q6 q7 q8 q9
   fun (q12 q13:Int) (q14 q15 q16:List Int) (q17 q18:Int) (q19 q20 q21 q22 q23:List Int) =>
   P.xk (0:Int) q16 q15 q23 fun (q24:Int) (q25 q26 q27:List Int)=>k q27)
 refine this.trans ?_
 rw[←win_zero p64,br0 _ v hv _ _ _ (abz b 16),bqy v _ hv (auh _ _ _ hv _)]
 rfl
end Q
end

section
/- SHA-2: the document's block of words of 64 bits. -/
namespace Q
open Go Go.Abs
end Q
end

section
/- bits, the first part: texts. -/
namespace Q
open Go Go.Abs
end Q
end

section
/- bits: the law's own test. -/
namespace Q
open Go Go.Abs
end Q
end

section
/- bits: Same, Join. -/
namespace Q
open Go Go.Abs
def diff(a b:List Int)(i:Nat):Int:=(Ad i).foldl (fun acc j=>bits .or .u8 acc (bits .xor .u8 (a.getD j 0) (b.getD j 0))) 0
theorem bc5(a b:List Int)(i:Nat):diff a b (i+1)=bits .or .u8 (diff a b i) (bits .xor .u8 (a.getD i 0) (b.getD i 0)):=by
 simp[diff,Ap]
theorem bdd(a b:List Int)(ha:In 256 a)(hb:In 256 b):∀i,(0≤diff a b i∧diff a b i<256)∧(diff a b i=0↔∀j,j<i→a.getD j 0=b.getD j 0)
 | 0=>⟨⟨by simp[diff],by simp[diff]⟩,by simp[diff]⟩
 | i+1=>by
  obtain ⟨h1,h2⟩:=bdd a b ha hb i
  rw[bc5]
  have hx:=ha.getD i (by omega)
  have hy:=hb.getD i (by omega)
  obtain ⟨d,hd⟩:=Ay h1.1
  obtain ⟨x,hx'⟩:=Ay hx.1
  obtain ⟨y,hy'⟩:=Ay hy.1
  rw[hd,hx',hy',bux x y (by omega) (by omega),byq d _ (by omega) (Bz (n:=8) (show x<2^8 by omega) (show y<2^8 by omega))]
  have hb:d ||| (x ^^^ y)<256:=Cb (n:=8) (show d<2^8 by omega) (Bz (n:=8) (show x<2^8 by omega) (show y<2^8 by omega))
  refine ⟨⟨by omega,by omega⟩,?_⟩
  rw[show (((d ||| (x ^^^ y):Nat):Int)=0↔(d ||| (x ^^^ y))=0) by omega,Nat.or_eq_zero_iff,xor_zero]
  constructor
  ·rintro ⟨h0,hxy⟩ j hj
   by_cases hji:j=i
   ·subst hji;rw[hx',hy',hxy]
   ·exact h2.1 (by omega) j (by omega)
  ·intro h
   refine ⟨?_,?_⟩
   ·have:=h2.2 (fun j hj=>h j (by omega));omega
   ·have:=h i (by omega);rw[hx',hy'] at this;omega
theorem zk(a b:List Int)(ha:In 256 a)(hb:In 256 b)(h:a.length≤140737488355328){ρ:Type}(k:Bool→Option ρ):P.zk a b k=k (decide (a=b)):=by
 rw[P.ata]
 unfold P.ak3
 by_cases hl:a.length=b.length
 ·rw[dx (by omega),P.avk]
  unfold P.asx P.bvm P.bwl P.b0u
  refine boi (fun i=>(a,b,diff a b i,(a.length:Int),(i:Int))) a.length (fun i hi next hn=>?_) (fun next=>?_) (Cm _) (by omega)
  ·simp only[P.ana,toNat_cast]
   simp (disch:=omega) only[bf,fq,mo,dx,jc,jk,uh,yx,aem,wz]
   rw[←bc5]
   exact hn
  ·simp only[P.ana]
   rw[fq (by omega)]
   congr 1
   have:=(bdd a b ha hb a.length).2
   by_cases hab:a=b
   ·rw[decide_eq_true hab,beq_iff_eq,this]
    subst hab;exact fun _ _=>rfl
   ·rw[decide_eq_false hab,beq_eq_false_iff_ne]
    intro h0
    refine hab (Ar hl (fun i h1 h2=>?_))
    have:=this.1 h0 i h1
    rw[getD_lt h1,getD_lt h2] at this
    exact this
 ·rw[mo (by omega),decide_eq_false (fun e=>hl (by rw[e]))]
def joined(l:List (List Int))(i:Nat):List Int:=(l.take i).flatten
theorem av0(l:List (List Int))(i:Nat)(h:i<l.length):joined l (i+1)=joined l i++l.getD i []:=by
 unfold joined
 rw[←am4 l [] i h,List.flatten_append];simp
theorem aya(l:List (List Int)):joined l l.length=l.flatten:=by unfold joined;rw[Ck]
theorem bbu(l:List (List Int))(i:Nat):(joined l i).length≤l.flatten.length:=by
 unfold joined
 have:l.flatten=(l.take i).flatten++(l.drop i).flatten:=by rw[←List.flatten_append,Cq]
 rw[this,Av];omega
theorem tu(n:Nat)(h:n≤140737488355328){ρ:Type}(k:List Int→Option ρ):P.tu (n:Int) k=k []:=by
 rw[P.aic]
 unfold P.ad1
 rw[fq (by omega),show Ab.wrap ((0:Int)-(0:Int))=0 by decide]
 rw[wz (by omega) (by omega)]
 by_cases h0:n=0
 ·subst h0;rw[fq (by omega)]
 ·rw[bf (by omega),bf (by omega),bf (by omega)];rfl
theorem jv(l:List (List Int))(h:l.length≤140737488355328)(h2:l.flatten.length≤140737488355328){ρ:Type}(k:List Int→Option ρ):P.jv l k=k l.flatten:=by
 rw[P.agw]
 unfold P.ab4
 rw[P.akb]
 unfold P.agu P.zk1 P.zs1 P.zu1
 refine boi (fun i=>(l,((joined l i).length:Int),l,(l.length:Int),(i:Int))) l.length (fun i hi next hn=>?_) (fun next=>?_) (Cm _) (by omega)
 ·have e:=av0 l i hi
  have h3:=bbu l (i+1)
  have e2:((joined l i).length:Int)+((l.getD i []).length:Int)=((joined l (i+1)).length:Int):=by rw[e,Av];omega
  simp only[P.ac5,toNat_cast,e2]
  simp (disch:=omega) only[bf,fq,mo,dx,jc,jk,uh,yx,aem,wz]
  exact hn
 ·simp only[P.ac5]
  rw[fq (by omega),aya,tu _ h2,P.ajn]
  unfold P.afg P.zk2 P.zs2 P.zu2
  refine boi (fun i=>(l,(l.length:Int),(i:Int),joined l i)) l.length (fun i hi next hn=>?_) (fun next=>?_) (Cm _) (by omega)
  ·have e:=av0 l i hi
   have h3:=bbu l (i+1)
   rw[e,Av] at h3
   simp only[P.acd,toNat_cast]
   simp (disch:=omega) only[bf,fq,mo,dx,jc,jk,uh,yx,aem,wz]
   rw[←e]
   exact hn
  ·simp only[P.acd]
   rw[fq (by omega),aya]
theorem dz(l:List (List Int))(h:l.length≤140737488355328)(h2:l.flatten.length≤140737488355328){ρ:Type}(k:List Int→Option ρ):P.dz l k=k l.flatten:=by
 rw[P.atp]
 unfold P.alr
 exact jv l h h2 k
end Q
end

section
/- lmots: digits. -/
namespace Q
open Go Go.Abs
def sumTo(D:List Int):Nat→Nat
 | 0=>0
 | i+1=>sumTo D i+(D.getD i 0).toNat
theorem sumTo_le(D:List Int)(w:Nat)(h:In (2^w) D):∀i,sumTo D i≤i*(2^w-1)
 | 0=>by simp[sumTo]
 | i+1=>by
  have ih:=sumTo_le D w h i
  have hp:((2:Int)^w)=((2^w:Nat):Int):=by simp
  have:=h.getD i (by rw[hp];have:=p2 w;omega)
  rw[hp] at this
  rw[Nat.succ_mul];simp only[sumTo];omega
theorem blb(b:List Int)(w c:Int):In (2^w.toNat) (aao b w c):=by
 unfold aao
 split
 ·refine In.map (fun i _=>⟨Int.natCast_nonneg _,?_⟩)
  have:=Cc (T 8 b.reverse/2^(8*b.length-w.toNat*(i+1))) (p2 w.toNat)
  have hp:((2:Int)^w.toNat)=((2^w.toNat:Nat):Int):=by simp
  rw[hp];unfold dg;omega
 ·exact In.nil
def left(w s:Nat)(b:List Int):Nat:=((256/w)*(2^w-1)-sumTo (aao b w ((256/w:Nat):Int)) (256/w))*2^s
theorem axo(b:List Int)(w c:Nat)(h1:1≤w)(h2:w≤24)(h:c*w≤b.length*8):aao b (w:Int) (c:Int)=(Ad c).map (dg w b.length (T 8 b.reverse)):=by
 unfold aao
 rw[if_pos (by refine ⟨by omega,by omega,by omega,?_⟩;rw[←Int.natCast_mul];omega)]
 simp only[toNat_cast]
end Q
end

section
/- SHA-2: blocks one behind the other, words of 32 bits. -/
namespace Q
open Go Go.Abs
def thr{w:Nat}(p:Par w)(v:List (BitVec w))(b:List Int):Nat→List (BitVec w)
 | 0=>v
 | i+1=>bcv p (thr p v b i) ((b.drop ((2*w)*i)).take (2*w))
theorem apk{w:Nat}(p:Par w)(v:List (BitVec w))(hv:v.length=8)(b:List Int):∀i,(thr p v b i).length=8
 | 0=>hv
 | i+1=>bhg _ _ _
def toV(w:Nat)(l:List Int):List (BitVec w):=(Ad 8).map fun i=>Aa w (l.getD i 0)
theorem apc(w:Nat)(l:List Int):(toV w l).length=8:=by simp[toV]
theorem bqe{w:Nat}(l:List (BitVec w)):In (2^w) (cv l):=by
 intro x hx
 obtain ⟨y,_,rfl⟩:=Cg.1 hx
 have:=y.isLt
 have hp:((2:Int)^w)=((2^w:Nat):Int):=by simp
 rw[hp]
 omega
theorem bpa{w:Nat}(l:List (BitVec w))(hl:l.length=8):toV w (cv l)=l:=by
 unfold toV
 refine Ar (by simp[hl]) (fun i h1 h2=>?_)
 simp only[Au,Ai,arw,ofI,getD_lt h2]
theorem azz(x:Int):Bb.wrap x=((Aa 32 x).toNat:Int):=by
 rw[bs7,Ag];omega
def rest(n:Nat)(b:List Int):List Int:=b.drop (n*(b.length/n))
theorem bu4(words b:List Int)(rd:Int)(t0 t1 t2 t3 h1 h2:List Int)(hi:In 18446744073709551616 words){ρ:Type}(k0:List Int→List Int→Int→Int→Int→List Int→List Int→List Int→List Int→List Int→List Int→List Int→Option ρ) :
    P.acn b words 0 32 rd t0 t1 t2 t3 h1 h2 (Ac 8 0) k0=k0 b words 8 32 rd t0 t1 t2 t3 h1 h2 (cv (toV 32 words)):=by
 rw[P.akx]
 unfold P.agq P.bwj P.bw4 P.b09
 refine abk (fun i=>(b,words,(i:Int),32,rd,t0,t1,t2,t3,h1,h2,cv ((Ad i).map fun i=>Aa 32 (words.getD i 0))++Ac (8-i) 0)) 8 (by simp[cv]) (fun i hi' next hn'=>?_) (fun next=>?_) (by omega)
 ·simp only[P.adg,toNat_cast]
  have e4:Ab.wrap ((i:Int)+1)=((i+1:Nat):Int):=by rw[wz (by omega) (by omega)];omega
  have e5:(cv ((Ad i).map fun i=>Aa 32 (words.getD i 0))++Ac (8-i) (0:Int)).set i ((Aa 32 (words.getD i 0)).toNat:Int)=cv ((Ad (i+1)).map fun i=>Aa 32 (words.getD i 0))++Ac (8-(i+1)) 0:=by
   rw[Ah _ _ (by simp),adh,Az,Ak,A8,show 8-i=(8-(i+1))+1 by omega,Ba,Aj,Ap,Bq,←aq5,Al]
   rfl
  rw[bf (by omega),bf (by omega),bf (by omega),bf (by omega),bf (by omega),azz,e5,e4]
  exact hn'
 ·simp only[P.adg]
  rw[fq (by omega)]
  simp[toV]
theorem buc(v:List (BitVec 32))(hv:v.length=8)(b:List Int)(hb:In 256 b)(hn:b.length≤1000000)(h1 h2:List Int){ρ:Type}(k0:List Int→Int→List Int→List Int→List Int→Int→Int→List Int→List Int→List Int→List Int→Option ρ) :
    P.aco b 64 (cv v) h2 h1 32 64 [7,18,3] [17,19,10] [2,13,22] [6,11,25] k0 =
     k0 (rest 64 b) 64 (cv (thr p32 v b (b.length/64))) h2 h1 32 64 [7,18,3] [17,19,10] [2,13,22] [6,11,25]:=by
 rw[P.akt]
 unfold P.agy P.bwi P.bxa P.bzh
 refine abk (fun i=>(b.drop (64*i),64,cv (thr p32 v b i),h2,h1,32,64,[7,18,3],[17,19,10],[2,13,22],[6,11,25])) (b.length/64) (by simp[thr]) (fun i hi next hn'=>?_) (fun next=>?_) (by omega)
 ·simp only[P.acz]
  have hlen:(b.drop (64*i)).length=b.length-64*i:=by simp
  have hge:64≤b.length-64*i:=by omega
  simp only[hlen,show (64:Int).toNat=64 from rfl,toNat_cast,List.drop_zero]
  have hbl:((b.drop (64*i)).take 64).length=16*4:=by rw[Aq,hlen];omega
  rw[bf (by omega),bf (by omega),bf (by omega),blj _ (apk _ _ hv _ _) _ ((hb.drop _).take _) hbl,bf (by omega),bf (by omega),bf (by omega),
   Bc (by rw[hlen];omega),Ct,show 64*i+64=64*(i+1) by omega]
  exact hn'
 ·simp only[P.acz]
  have hlen:(b.drop (64*(b.length/64))).length=b.length-64*(b.length/64):=by simp
  rw[fq (by rw[hlen];omega)]
  rfl
theorem br3(v:List (BitVec 32))(hv:v.length=8)(b:List Int)(words h2:List Int)(hl:words.length=8){ρ:Type}(k0:List Int→List Int→Int→List Int→List Int→Option ρ) :
    P.ab5 b (cv v) 0 words h2 k0=k0 b (cv v) 8 (cv v) h2:=by
 rw[P.ajl]
 unfold P.afi P.bw3 P.bxx P.b0o
 refine abk (fun i=>(b,cv v,(i:Int),(cv v).take i++words.drop i,h2)) 8 (by simp) (fun i hi next hn'=>?_) (fun next=>?_) (by omega)
 ·simp only[P.ab3,toNat_cast]
  have e4:Ab.wrap ((i:Int)+1)=((i+1:Nat):Int):=by rw[wz (by omega) (by omega)];omega
  have e5:((cv v).take i++words.drop i).set i ((cv v).getD i 0)=(cv v).take (i+1)++words.drop (i+1):=by
   rw[Ah _ _ (by rw[Aq];omega),Aq,adh,hv,Bg (by omega),A8,A9 (by omega),Aj,←am4 (cv v) 0 i (by rw[adh];omega),Al]
   rfl
  have e6:Af.wrap ((cv v).getD i 0)=(cv v).getD i 0:=by
   rw[arw];exact an6 _ (nlt _)
  rw[bf (by omega),bf (by omega),bf (by omega),bf (by omega),bf (by omega),e6,e5,e4]
  exact hn'
 ·simp only[P.ab3]
  rw[fq (by omega),Bl (by omega),Br,Bc (by rw[adh];omega)]
  rfl
theorem bdr(words b:List Int)(hl:words.length=8)(hi:In 18446744073709551616 words)(hb:In 256 b)(hn:b.length≤1000000){ρ:Type}(k:List Int→List Int→Option ρ) :
    P.uo 32 64 [7,18,3] [17,19,10] [2,13,22] [6,11,25] words b k=k (cv (thr p32 (toV 32 words) b (b.length/64))) (rest 64 b):=by
 rw[P.agr]
 unfold P.ab9
 refine (bu4 words b 64 [7,18,3] [17,19,10] [2,13,22] [6,11,25] words (Ac 8 0) hi _).trans ?_
 rw[show Ab.wrap ((32:Int)*2)=64 from rfl,buc _ (apc _ _) b hb hn,br3 _ (apk _ _ (apc _ _) _ _) _ _ _ hl]
end Q
end

section
/- SHA-2: blocks one behind the other, words of 64 bits. -/
namespace Q
open Go Go.Abs
theorem bu8(words b:List Int)(rd:Int)(t0 t1 t2 t3 h1 h2:List Int)(hi:In 18446744073709551616 words){ρ:Type}(k0:List Int→List Int→Int→Int→Int→List Int→List Int→List Int→List Int→List Int→List Int→List Int→Option ρ) :
    P.adf b words 0 64 rd t0 t1 t2 t3 h1 h2 (Ac 8 0) k0=k0 b words 8 64 rd t0 t1 t2 t3 h1 h2 (cv (toV 64 words)):=by
 rw[P.aku]
 unfold P.agx P.bwt P.bwr P.bye
 refine abk (fun i=>(b,words,(i:Int),64,rd,t0,t1,t2,t3,h1,h2,cv ((Ad i).map fun i=>Aa 64 (words.getD i 0))++Ac (8-i) 0)) 8 (by simp[cv]) (fun i hi' next hn'=>?_) (fun next=>?_) (by omega)
 ·simp only[P.acj,toNat_cast]
  have e4:Ab.wrap ((i:Int)+1)=((i+1:Nat):Int):=by rw[wz (by omega) (by omega)];omega
  have e6:words.getD i 0=((Aa 64 (words.getD i 0)).toNat:Int):=by
   have:=hi.getD i (by omega)
   rw[Ag]
   omega
  have e5:(cv ((Ad i).map fun i=>Aa 64 (words.getD i 0))++Ac (8-i) (0:Int)).set i ((Aa 64 (words.getD i 0)).toNat:Int)=cv ((Ad (i+1)).map fun i=>Aa 64 (words.getD i 0))++Ac (8-(i+1)) 0:=by
   rw[Ah _ _ (by simp),adh,Az,Ak,A8,show 8-i=(8-(i+1))+1 by omega,Ba,Aj,Ap,Bq,←aq5,Al]
   rfl
  rw[bf (by omega),bf (by omega),bf (by omega),bf (by omega),bf (by omega),e6,e5,e4]
  exact hn'
 ·simp only[P.acj]
  rw[fq (by omega)]
  simp[toV]
theorem btx(v:List (BitVec 64))(hv:v.length=8)(b:List Int)(hb:In 256 b)(hn:b.length≤1000000)(h1 h2:List Int){ρ:Type}(k0:List Int→Int→List Int→List Int→List Int→Int→Int→List Int→List Int→List Int→List Int→Option ρ) :
    P.acr b 128 (cv v) h2 h1 64 80 [1,8,7] [19,61,6] [28,34,39] [14,18,41] k0 =
     k0 (rest 128 b) 128 (cv (thr p64 v b (b.length/128))) h2 h1 64 80 [1,8,7] [19,61,6] [28,34,39] [14,18,41]:=by
 rw[P.akq]
 unfold P.agm P.bv8 P.bxq P.b2u
 refine abk (fun i=>(b.drop (128*i),128,cv (thr p64 v b i),h2,h1,64,80,[1,8,7],[19,61,6],[28,34,39],[14,18,41])) (b.length/128) (by simp[thr]) (fun i hi next hn'=>?_) (fun next=>?_) (by omega)
 ·simp only[P.ac0]
  have hlen:(b.drop (128*i)).length=b.length-128*i:=by simp
  have hge:128≤b.length-128*i:=by omega
  simp only[hlen,show (128:Int).toNat=128 from rfl,toNat_cast,List.drop_zero]
  have hbl:((b.drop (128*i)).take 128).length=16*8:=by rw[Aq,hlen];omega
  rw[bf (by omega),bf (by omega),bf (by omega),bly _ (apk _ _ hv _ _) _ ((hb.drop _).take _) hbl,bf (by omega),bf (by omega),bf (by omega),
   Bc (by rw[hlen];omega),Ct,show 128*i+128=128*(i+1) by omega]
  exact hn'
 ·simp only[P.ac0]
  have hlen:(b.drop (128*(b.length/128))).length=b.length-128*(b.length/128):=by simp
  rw[fq (by rw[hlen];omega)]
  rfl
theorem brp(v:List (BitVec 64))(hv:v.length=8)(b:List Int)(words h2:List Int)(hl:words.length=8){ρ:Type}(k0:List Int→List Int→Int→List Int→List Int→Option ρ) :
    P.ab6 b (cv v) 0 words h2 k0=k0 b (cv v) 8 (cv v) h2:=by
 rw[P.ajw]
 unfold P.afj P.bxh P.bwq P.b22
 refine abk (fun i=>(b,cv v,(i:Int),(cv v).take i++words.drop i,h2)) 8 (by simp) (fun i hi next hn'=>?_) (fun next=>?_) (by omega)
 ·simp only[P.ab7,toNat_cast]
  have e4:Ab.wrap ((i:Int)+1)=((i+1:Nat):Int):=by rw[wz (by omega) (by omega)];omega
  have e5:((cv v).take i++words.drop i).set i ((cv v).getD i 0)=(cv v).take (i+1)++words.drop (i+1):=by
   rw[Ah _ _ (by rw[Aq];omega),Aq,adh,hv,Bg (by omega),A8,A9 (by omega),Aj,←am4 (cv v) 0 i (by rw[adh];omega),Al]
   rfl
  rw[bf (by omega),bf (by omega),bf (by omega),bf (by omega),bf (by omega),e5,e4]
  exact hn'
 ·simp only[P.ab7]
  rw[fq (by omega),Bl (by omega),Br,Bc (by rw[adh];omega)]
  rfl
theorem bez(words b:List Int)(hl:words.length=8)(hi:In 18446744073709551616 words)(hb:In 256 b)(hn:b.length≤1000000){ρ:Type}(k:List Int→List Int→Option ρ) :
    P.um 64 80 [1,8,7] [19,61,6] [28,34,39] [14,18,41] words b k=k (cv (thr p64 (toV 64 words) b (b.length/128))) (rest 128 b):=by
 rw[P.agt]
 unfold P.ace
 refine (bu8 words b 80 [1,8,7] [19,61,6] [28,34,39] [14,18,41] words (Ac 8 0) hi _).trans ?_
 rw[show Ab.wrap ((64:Int)*2)=128 from rfl,btx _ (apc _ _) b hb hn,brp _ (apk _ _ (apc _ _) _ _) _ _ _ hl]
end Q
end

section
/- Are two rows of bytes the same. -/
namespace Q
open Go Go.Abs
end Q
end

section
/- SHA-2: sums that go on, and their ends. -/
namespace Q
open Go Go.Abs
def bsz(kind:Int):Nat:=if kind=1 then 64 else 128
theorem aof(kind:Int):(kind=1∧bsz kind=64)∨(kind≠1∧bsz kind=128):=by
 unfold bsz
 by_cases h:kind=1
 ·exact .inl ⟨h,if_pos h⟩
 ·exact .inr ⟨h,if_neg h⟩
theorem yg(kind:Int){ρ:Type}(k:Int→Option ρ):P.yg kind k=k ((bsz kind:Nat):Int):=by
 rw[P.amd];unfold P.af3
 rcases aof kind with ⟨h,e⟩ | ⟨h,e⟩
 ·rw[jc h,e];rfl
 ·rw[jk h,e];rfl
def awm(kind:Int)(words all:List Int):List Int :=
 if kind=1 then cv (thr p32 (toV 32 words) all (all.length/64)) else cv (thr p64 (toV 64 words) all (all.length/128))
theorem bg1(kind:Int)(words all:List Int):(awm kind words all).length=8:=by
 unfold awm
 split<;>rw[adh,apk _ _ (apc _ _)]
def Wok(kind:Int)(words:List Int):Prop:=words.length=8∧In 18446744073709551616 words∧(kind=1→In 4294967296 words)
theorem azf(kind:Int)(words all:List Int):Wok kind (awm kind words all):=by
 refine ⟨bg1 _ _ _,?_,fun h=>?_⟩
 ·unfold awm
  split
  ·intro x hx
   have:=bqe _ x hx
   omega
  ·intro x hx
   have:=bqe _ x hx
   omega
 ·unfold awm
  rw[if_pos h]
  intro x hx
  have:=bqe _ x hx
  omega
theorem azn(n:Nat)(hn:0<n)(b:List Int):(rest n b).length=b.length%n:=by
 unfold rest
 rw[Cj]
 have:=Nat.div_add_mod b.length n
 omega
theorem bli{n:Nat}{b:List Int}(h:In 256 b):In 256 (rest n b):=h.drop _
theorem ac7{ρ:Type}(k:Int→Int→List Int→List Int→List Int→List Int→Option ρ):P.ac7 k=k 32 64 [7,18,3] [17,19,10] [2,13,22] [6,11,25]:=by rw[P.atg];rfl
theorem ade{ρ:Type}(k:Int→Int→List Int→List Int→List Int→List Int→Option ρ):P.ade k=k 64 80 [1,8,7] [19,61,6] [28,34,39] [14,18,41]:=by rw[P.asv];rfl
theorem y9(kind:Int)(words tail:List Int)(size:Int)(b:List Int)(hl:words.length=8)(hi:In 18446744073709551616 words)(ht:In 256 tail)(hb:In 256 b)(hn:tail.length+b.length≤1000000){ρ:Type}(k:Int→List Int→List Int→Int→Option ρ) :
    P.y9 kind words tail size b k=k kind (awm kind words (tail++b)) (rest (bsz kind) (tail++b)) (Af.wrap (size+Af.wrap (b.length:Int))):=by
 rw[P.aye];unfold P.ao8
 have hf:[tail,b].flatten=tail++b:=by simp
 have hall:(tail++b).length≤1000000:=by rw[Av];exact hn
 have hin:In 256 (tail++b):=ht.app hb
 have hr:∀n,(rest n (tail++b)).length≤1000000:=fun n=>by unfold rest;rw[Cj];omega
 rw[jv _ (by simp) (by rw[hf];omega),hf]
 rcases aof kind with ⟨h,e⟩ | ⟨h,e⟩
 ·rw[jc h,ac7,e]
  rw[bdr words _ hl hi hin hall]
  unfold P.uf awm
  have:=hr 64
  rw[bf (by omega),if_pos h]
 ·rw[jk h,ade,e]
  rw[bez words _ hl hi hin hall]
  unfold P.uf awm
  have:=hr 128
  rw[bf (by omega),if_neg h]
def bon(kind:Int)(tl:Nat):Nat:=if kind=1 then (119-tl)%64 else (239-tl)%128+8
def pad(kind:Int)(tl:Nat)(size:Nat):List Int:=128::Ac (bon kind tl) 0++(bsw 8 8 (size*8%2^64)).reverse
def bl6(n:Nat)(words:List Int)(i:Nat):List Int:=((Ad i).map fun j=>(bsw 8 n (words.getD j 0).toNat).reverse).flatten
theorem awu(n:Nat)(words:List Int)(i:Nat):bl6 n words (i+1)=bl6 n words i++(bsw 8 n (words.getD i 0).toNat).reverse:=by simp[bl6,Ap]
theorem an4(n:Nat)(words:List Int):∀i,(bl6 n words i).length=n*i
 | 0=>by simp[bl6]
 | i+1=>by rw[awu,Av,an4 n words i,Bu,af5,Ch]
theorem bdp(n:Nat)(words:List Int):∀i,In 256 (bl6 n words i)
 | 0=>by simp[bl6,In]
 | i+1=>by rw[awu];exact (bdp n words i).app (bfy 8 n _).rev
def bph(kind:Int)(words tail:List Int)(size:Nat):List Int :=
 let o:=bl6 (bsz kind/16) (awm kind words (tail++pad kind tail.length size)) 8
 if kind=2 then o.take 48 else o
theorem bqs(kind:Int)(words tail:List Int)(size:Nat):In 256 (bph kind words tail size):=by
 unfold bph
 simp only
 split
 ·exact (bdp _ _ _).take _
 ·exact bdp _ _ _
theorem bni(kind:Int)(words tail:List Int)(size:Nat):(bph kind words tail size).length=if kind=1 then 32 else if kind=2 then 48 else 64:=by
 unfold bph
 simp only
 rcases aof kind with ⟨h,e⟩ | ⟨h,e⟩
 ·rw[if_neg (by omega),if_pos h,an4,e]
 ·rw[if_neg h,e]
  split
  ·rw[Aq,an4];decide
  ·rw[an4]
theorem tmN(a b:Nat):((a:Nat):Int).tmod (b:Int)=((a%b:Nat):Int):=by
 rw[Bn (by omega)];rfl
theorem bvj(kind:Int)(tl size:Nat):In 256 (pad kind tl size):=by
 unfold pad
 refine In.app ?_ (bfy 8 8 _).rev
 intro x hx
 rcases List.mem_cons.1 hx with rfl | hx
 ·omega
 ·rw[List.mem_replicate] at hx;omega
theorem brs(kind:Int)(tl size:Nat):(pad kind tl size).length=bon kind tl+9:=by
 unfold pad;simp
theorem bqu(kind:Int)(tl:Nat):bon kind tl≤200:=by
 unfold bon;split<;>omega
theorem bom(n:Nat)(hn:n=64∨n=128)(words:List Int)(hw:In 18446744073709551616 words)(a:Int)(b:List Int)(c:Int)(d:List Int){ρ:Type}(k0:Int→List Int→Int→List Int→Int→List Int→Int→List Int→Option ρ) :
    P.apb (n:Int) words 0 [] a b c d k0=k0 (n:Int) words 8 (bl6 (n/16) words 8) a b c d:=by
 rw[P.aw6]
 unfold P.av7 P.bwx P.bv3 P.b1l
 have e16:Ab.wrap ((n:Int).tdiv 16)=((n/16:Nat):Int):=by rcases hn with rfl | rfl<;>rfl
 refine abk (fun i=>((n:Int),words,(i:Int),bl6 (n/16) words i,a,b,c,d)) 8 rfl (fun i hi next hn'=>?_) (fun next=>?_) (by omega)
 ·simp only[P.aps,toNat_cast]
  have h1:=hw.getD i (by omega)
  have e4:Ab.wrap ((i:Int)+1)=((i+1:Nat):Int):=by rw[wz (by omega) (by omega)];omega
  have e5:words.getD i 0=(((words.getD i 0).toNat:Nat):Int):=by omega
  rw[awu] at hn'
  rw[bf (by omega),bf (by omega),bf (by omega),e16,e5,xg _ _ (by omega) (by omega),e4]
  rw[bf (by rw[an4,Bu,af5];rcases hn with rfl | rfl<;>omega)]
  exact hn'
 ·simp only[P.aps]
  rw[fq (by omega)]
  rfl
theorem shl3(size:Nat):Af.wrap ((size:Int)*(2:Int)^3)=((size*8%2^64:Nat):Int):=by
 rw[boz];omega
theorem ab2(kind:Int)(words tail:List Int)(size:Nat)(hl:words.length=8)(hi:In 18446744073709551616 words)(ht:In 256 tail)(hn:tail.length<bsz kind){ρ:Type}(k:List Int→Option ρ) :
    P.ab2 kind words tail (size:Int) k=k (bph kind words tail size):=by
 rw[P.ax0];unfold P.aph
 rw[yg]
 have hz:Ab.wrap (Ab.wrap ((Ab.wrap (Ab.wrap (Ab.wrap (Ab.wrap ((2:Int)*((bsz kind:Nat):Int))-(1:Int))-Ab.wrap (((bsz kind:Nat):Int).tdiv (8:Int)))-(tail.length:Int))).tmod ((bsz kind:Nat):Int)+Ab.wrap (((bsz kind:Nat):Int).tdiv (8:Int)))-(8:Int))=((bon kind tail.length:Nat):Int):=by
  unfold bon
  rcases aof kind with ⟨h,e⟩ | ⟨h,e⟩
  ·rw[e] at hn ⊢
   rw[if_pos h,show Ab.wrap (Ab.wrap (Ab.wrap ((2:Int)*((64:Nat):Int))-(1:Int))-Ab.wrap (((64:Nat):Int).tdiv (8:Int)))=119 from rfl,wz (x:=(119:Int)-(tail.length:Int)) (by omega) (by omega),
    show (119:Int)-(tail.length:Int)=((119-tail.length:Nat):Int) by omega,tmN,show Ab.wrap (((64:Nat):Int).tdiv (8:Int))=8 from rfl,wz (x:=((((119-tail.length)%64:Nat):Int))+8) (by omega) (by omega),wz (by omega) (by omega)]
   omega
  ·rw[e] at hn ⊢
   rw[if_neg h,show Ab.wrap (Ab.wrap (Ab.wrap ((2:Int)*((128:Nat):Int))-(1:Int))-Ab.wrap (((128:Nat):Int).tdiv (8:Int)))=239 from rfl,wz (x:=(239:Int)-(tail.length:Int)) (by omega) (by omega),
    show (239:Int)-(tail.length:Int)=((239-tail.length:Nat):Int) by omega,tmN,show Ab.wrap (((128:Nat):Int).tdiv (8:Int))=16 from rfl,wz (x:=((((239-tail.length)%128:Nat):Int))+16) (by omega) (by omega),wz (by omega) (by omega)]
   omega
 have hb:bsz kind=64∨bsz kind=128:=by rcases aof kind with ⟨h,e⟩ | ⟨h,e⟩<;>omega
 have hz2:=bqu kind tail.length
 rw[hz]
 simp only[toNat_cast]
 rw[bf (by omega),bf (by omega),fq (by omega),bf (by omega),bf (by omega),shl3,show (8:Int)=((8:Nat):Int) from rfl,xg _ 8 (by omega) (by omega)]
 have hp:(Ac 1 (0:Int)).set 0 (128:Int)++Ac (bon kind tail.length) (0:Int)++(bsw 8 8 (size*8%2^64)).reverse=pad kind tail.length size:=rfl
 rw[bf (by
  show ((Ac (bon kind tail.length) (0:Int)).length+0+1+_)*1≤_
  rw[Bh,Bu,af5];omega),hp]
 have hpl:=brs kind tail.length size
 rw[y9 kind words tail _ _ hl hi ht (bvj _ _ _) (by omega),bom _ hb _ (azf _ _ _).2.1]
 unfold bph
 simp only
 by_cases h2:kind=2
 ·have e:bsz kind=128:=by unfold bsz;rw[if_neg (by omega)]
  rw[jc h2,bf (by rw[an4,e];omega),if_pos h2]
  rfl
 ·rw[jk h2,if_neg h2]
def be3(kind:Int):List Int :=
 if kind=1 then [1779033703,3144134277,1013904242,2773480762,1359893119,2600822924,528734635,1541459225]
 else if kind=2 then [14680500436340154072,7105036623409894663,10473403895298186519,1526699215303891257,7436329637833083697,10282925794625328401,15784041429090275239,5167115440072839076]
 else [7640891576956012808,13503953896175478587,4354685564936845355,11912009170470909681,5840696475078001361,11170449401992604703,2270897969802886507,6620516959819538809]
theorem bh4(kind:Int):Wok kind (be3 kind):=by
 unfold be3 Wok
 by_cases h1:kind=1
 ·simp only[if_pos h1]
  refine ⟨rfl,?_,fun _=>?_⟩
  ·unfold In;decide
  ·unfold In;decide
 ·by_cases h2:kind=2
  ·simp only[if_neg h1,if_pos h2]
   refine ⟨rfl,?_,fun h=>absurd h h1⟩
   unfold In;decide
  ·simp only[if_neg h1,if_neg h2]
   refine ⟨rfl,?_,fun h=>absurd h h1⟩
   unfold In;decide
def K3(kind:Int):Prop:=kind=1∨kind=2∨kind=3
theorem bdt{kind:Int}(h:K3 kind){ρ:Type}(k:List Int→Bool→Option ρ):P.aer kind k=k (be3 kind) true:=by
 rw[P.asj]
 rcases h with rfl | rfl | rfl<;>kernel_rfl
theorem ad8{kind:Int}(h:K3 kind){ρ:Type}(k:Int→List Int→List Int→Int→Int→Option ρ):P.ad8 kind k=k kind (be3 kind) [] 0 0:=by
 rw[P.ayu];unfold P.ap1
 rw[bdt h,uh,yx]
theorem aru(kind:Int):0<bsz kind:=by rcases aof kind with ⟨h,e⟩ | ⟨h,e⟩<;>omega
def bmj(kind:Int)(b:List Int):List Int:=bph kind (awm kind (be3 kind) b) (rest (bsz kind) b) b.length
theorem bgd(b:List Int)(hn:b.length≤1000000):Af.wrap ((0:Int)+Af.wrap (b.length:Int))=((b.length:Nat):Int):=by
 rw[an6 _ (by omega),Int.zero_add,an6 _ (by omega)]
theorem ah7{kind:Int}(h:K3 kind)(b:List Int)(hb:In 256 b)(hn:b.length≤1000000){ρ:Type}(k:List Int→Int→Option ρ):P.ah7 kind b k=k (bmj kind b) 0:=by
 rw[P.ayj];unfold P.apx
 have hw:=bh4 kind
 have hr:=azn _ (aru kind) b
 have hlt:=Cc b.length (aru kind)
 rw[ad8 h,dx (by rfl),y9 kind _ [] _ b hw.1 hw.2.1 In.nil hb (by simpa using hn),List.nil_append,bgd b hn,ab2 kind _ _ _ (bg1 _ _ _) (azf _ _ _).2.1 (bli hb) (by omega)]
 rfl
theorem bj2(kind:Int)(b:List Int):In 256 (bmj kind b):=bqs _ _ _ _
theorem auc(kind:Int)(b:List Int):(bmj kind b).length=if kind=1 then 32 else if kind=2 then 48 else 64:=bni _ _ _ _
end Q
end
