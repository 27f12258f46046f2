/-
  SlhSigns, part 27: lemmas for the law.
-/

import Derived.Test.YtciddcopcdmnbaaGreatDoorSlhSignsZ
import Derived.Test.YtciddcopcdmnbaaGreatDoorSlhSignsL
import Derived.Test.YtciddcopcdmnbaaGreatDoorSlhSignsM
import Derived.Test.YtciddcopcdmnbaaGreatDoorSlhSignsI
import Derived.Test.YtciddcopcdmnbaaGreatDoorSlhSignsK
open Go.IntKind renaming i64 → Aa, u64 → Ad, u32 → A9
open List renaming replicate → Ab, length_append → Ac, length_take → Ae, take_of_length_le → Af, range → Ag, append_assoc → Ah, drop_eq_nil_of_le → Aj, set_append_right → Ak, length_replicate → Al, length_reverse → Am, range_succ → Ao, getD_eq_getElem?_getD → Ap, drop_zero → Aq, set_cons_zero → Au, getElem?_append_right → Av, drop_eq_getElem_cons → Aw, drop_drop → Ay, length_range → A8, length_map → Ba, map_append → Bb, append_nil → Bc, nil_append → Bg, take_append_of_le_length → Bh, ext_getElem → Bo, length_drop → Bp, take → Br, singleton_append → Bu, replicate_succ' → Bv
open BitVec renaming ofInt → Ai, toNat_ofInt → Bl
open Nat renaming sub_self → Ar, and_two_pow_sub_one_eq_mod → Bd, min_eq_left → Bf, le_refl → Bj, le_mul_of_pos_right → Bq, zero_le → Bt, mul_succ → Bw, succ_mul → Bz
open Int renaming eq_ofNat_of_zero_le → Az, emod_eq_of_lt → Bn
set_option linter.unusedVariables false
set_option linter.unusedSimpArgs false

section
/- SHA-2: the document's block of words of 64 bits. -/
namespace Q
open Go Go.Abs
theorem ar8(x:BitVec 64)(m:Int)(n:Nat)(hm:m=(n:Int))(hn:n≤64){ρ:Type}(k:Int→Option ρ):P.abl (x.toNat:Int) m true k=k ((rr x n).toNat:Int):=by
 subst hm
 rw[P.amn]
 unfold P.ag0
 rw[oq,bn (by omega),l7 (by omega) (by omega),bn (by omega),show (64:Int)-(n:Int)=((64-n:Nat):Int) by omega]
 simp only[toNat_cast]
 rw[bu0 _ _ hn,b4x _ _ (by omega),cbb]
 rfl
theorem b1v(x:BitVec 64)(t:Nat×Nat×Nat)(a b c:Int)(ha:a=(t.1:Int))(hb:b=(t.2.1:Int))(hc:c=(t.2.2:Int))(h1:t.1≤64)(h2:t.2.1≤64)(h3:t.2.2≤64){ρ:Type}(k:Int→Option ρ) :
    P.abe (x.toNat:Int) a b c false true k=k ((hi t x).toNat:Int):=by
 rw[P.aic]
 unfold P.aen
 rw[bn (by omega),jv,w9,ar8 _ _ _ hc h3,ar8 _ _ _ ha h1,ar8 _ _ _ hb h2,apy,apy]
 rfl
theorem b1e(x:BitVec 64)(t:Nat×Nat×Nat)(a b c:Int)(ha:a=(t.1:Int))(hb:b=(t.2.1:Int))(hc:c=(t.2.2:Int))(h1:t.1≤64)(h2:t.2.1≤64)(h3:t.2.2≤64){ρ:Type}(k:Int→Option ρ) :
    P.abe (x.toNat:Int) a b c true true k=k ((lo t x).toNat:Int):=by
 rw[P.aic]
 unfold P.aen
 rw[bn (by omega),jv,oq,ar8 _ _ _ ha h1,ar8 _ _ _ hb h2,apy,hc]
 simp only[toNat_cast]
 rw[bu0 _ _ h3,apy]
 rfl
theorem cmr(a b c d:BitVec 64):bits .and .u64 (Ad.wrap (Ad.wrap (Ad.wrap ((a.toNat:Int)+(b.toNat:Int))+(c.toNat:Int))+(d.toNat:Int))) 18446744073709551615=((a+b+c+d).toNat:Int):=by
 rw[ars,ars,ars,b0i _ (b0b _)]
theorem cf9(a b:BitVec 64):bits .and .u64 (Ad.wrap ((a.toNat:Int)+(b.toNat:Int))) 18446744073709551615=((a+b).toNat:Int):=by
 rw[ars,b0i _ (b0b _)]
theorem cmo(d a b c e f:BitVec 64):bits .and .u64 (Ad.wrap ((d.toNat:Int)+Ad.wrap (Ad.wrap (Ad.wrap (Ad.wrap ((a.toNat:Int)+(b.toNat:Int))+(c.toNat:Int))+(e.toNat:Int))+(f.toNat:Int)))) 18446744073709551615=((d+(a+b+c+e+f)).toNat:Int):=by
 rw[ars,ars,ars,ars,ars,b0i _ (b0b _)]
theorem cjt(a b c e f g h:BitVec 64):bits .and .u64 (Ad.wrap (Ad.wrap (Ad.wrap (Ad.wrap (Ad.wrap ((a.toNat:Int)+(b.toNat:Int))+(c.toNat:Int))+(e.toNat:Int))+(f.toNat:Int))+Ad.wrap ((g.toNat:Int)+(h.toNat:Int)))) 18446744073709551615=(((a+b+c+e+f)+(g+h)).toNat:Int):=by
 rw[ars,ars,ars,ars,ars,ars,b0i _ (b0b _)]
theorem cip(e f g:BitVec 64):bits .xor .u64 (bits .and .u64 (e.toNat:Int) (f.toNat:Int)) (bits .and .u64 (bits .xor .u64 18446744073709551615 (e.toNat:Int)) (g.toNat:Int))=((g ^^^ (e &&& (f ^^^ g))).toNat:Int):=by
 rw[show (18446744073709551615:Int)=((BitVec.allOnes 64).toNat:Int) from rfl,brt,apy,brt,apy,b9k]
theorem b58(a b c:BitVec 64):bits .xor .u64 (bits .xor .u64 (bits .and .u64 (a.toNat:Int) (b.toNat:Int)) (bits .and .u64 (a.toNat:Int) (c.toNat:Int))) (bits .and .u64 (b.toNat:Int) (c.toNat:Int))=(((a &&& b) ||| (c &&& (a ||| b))).toNat:Int):=by
 rw[brt,brt,brt,apy,apy,b1w]
def bdj(b:List Int)(t:Nat):List (BitVec 64):=(Ag t).map (W p64 (o9 64 b 16))
theorem bke(b:List Int)(t:Nat):bdj b (t+1)=bdj b t++[W p64 (o9 64 b 16) t]:=by simp[bdj,Ao]
theorem bnl(b:List Int)(t:Nat):(bdj b t).length=t:=by simp[bdj]
theorem ax7(b:List Int)(t i:Nat)(h:i<t):(bdj b t).getD i 0=W p64 (o9 64 b 16) i:=by
 unfold bdj
 rw[getD_lt (by simpa using h)];simp
theorem b29(b:List Int)(t:Nat)(h:t<16):W p64 (o9 64 b 16) t=BitVec.ofNat 64 (T 8 ((b.take ((t+1)*8)).drop (t*8)).reverse):=by
 rw[←b2c p64 _ (by rw[xu];omega) 0 t (by rw[xu];omega),show sched p64 (o9 64 b 16) 0=o9 64 b 16 from rfl,getD_lt (by rw[xu];exact h)]
 simp[o9]
theorem bxp(b:List Int)(hb:In 256 b)(hl:b.length=16*8){ρ:Type}(k:List Int→Option ρ):P.aek b true 80 18446744073709551615 k=k (cv (bdj b 80)):=by
 rw[P.as9]
 unfold P.akn
 rw[oq,P.atp]
 unfold P.aug P.b6l P.b96 P.ces
 refine u7 (fun t=>(b,true,80,18446744073709551615,8,(t:Int),cv (bdj b t))) 80 rfl (fun t ht next hn'=>?_) (fun next=>?_) (by omega)
 ·simp only[P.ajh,toNat_cast]
  have e1:Aa.wrap ((t:Int)+1)=((t+1:Nat):Int):=by rw[l7 (by omega) (by omega)];omega
  rw[bf (by omega)]
  have hlen:=bnl b t
  by_cases h16:t<16
  ·have e2:Aa.wrap ((t:Int)*8)=((t*8:Nat):Int):=by rw[l7 (by omega) (by omega)];omega
   have e3:Aa.wrap (Aa.wrap ((t:Int)*8)+8)=(((t+1)*8:Nat):Int):=by rw[e2,l7 (by omega) (by omega)];omega
   have hl2:((b.take ((t+1)*8)).drop (t*8)).length=8:=by simp;omega
   rw[bf (by omega),e3,e2,bf (by omega),bf (by omega),bf (by omega)]
   simp only[toNat_cast]
   have hT:=b5i 8 ((b.take ((t+1)*8)).drop (t*8)).reverse
   rw[Am,hl2] at hT
   have e4:((T 8 ((b.take ((t+1)*8)).drop (t*8)).reverse%2^64:Nat):Int)=((W p64 (o9 64 b 16) t).toNat:Int):=by
    rw[b29 b t h16,BitVec.toNat_ofNat]
   rw[wm _ ((hb.take _).drop _) (by omega),bf (by rw[aal];omega),e4,e1,show [((W p64 (o9 64 b 16) t).toNat:Int)]=cv [W p64 (o9 64 b 16) t] from rfl,ajf,←bke]
   exact hn'
  ·have e15:Aa.wrap ((t:Int)-15)=((t-15:Nat):Int):=by rw[l7 (by omega) (by omega)];omega
   have e2:Aa.wrap ((t:Int)-2)=((t-2:Nat):Int):=by rw[l7 (by omega) (by omega)];omega
   have e7:Aa.wrap ((t:Int)-7)=((t-7:Nat):Int):=by rw[l7 (by omega) (by omega)];omega
   have e16:Aa.wrap ((t:Int)-16)=((t-16:Nat):Int):=by rw[l7 (by omega) (by omega)];omega
   simp only[e15,e2,e7,e16,toNat_cast,ajt,aal,hlen]
   rw[ax7 b t _ (by omega),ax7 b t _ (by omega),ax7 b t _ (by omega),ax7 b t _ (by omega)]
   obtain ⟨q1,m1⟩:=btn ((W p64 (o9 64 b 16) (t-15)).toNat:Int) 7 18 3 7 18 3 rfl rfl rfl (by omega) (by omega) (by omega)
   obtain ⟨q2,m2⟩:=btn ((W p64 (o9 64 b 16) (t-2)).toNat:Int) 17 19 10 17 19 10 rfl rfl rfl (by omega) (by omega) (by omega)
   rw[bn (by omega),bf (by omega),bf (by omega),m1,bf (by omega),bf (by omega),m2,oq,bf (by omega),bf (by omega),b1e _ p64.a _ _ _ (by rfl) (by rfl) (by rfl) (by decide) (by decide) (by decide),bf (by omega),bf (by omega),b1e _ p64.b _ _ _ (by rfl) (by rfl) (by rfl) (by decide) (by decide) (by decide)]
   have hW:=bt0 p64 (o9 64 b 16) (xu b 16) (t-16)
   rw[show t-16+16=t by omega,show t-16+1=t-15 by omega,show t-16+9=t-7 by omega,show t-16+14=t-2 by omega] at hW
   have hW2:lo p64.b (W p64 (o9 64 b 16) (t-2))+W p64 (o9 64 b 16) (t-7)+lo p64.a (W p64 (o9 64 b 16) (t-15))+W p64 (o9 64 b 16) (t-16)=W p64 (o9 64 b 16) t:=by rw[hW];ac_rfl
   rw[bf (by omega),bf (by omega),bf (by omega),bf (by omega),bf (by omega),cmr,hW2,e1,show [((W p64 (o9 64 b 16) t).toNat:Int)]=cv [W p64 (o9 64 b 16) t] from rfl,ajf,←bke]
   exact hn'
 ·simp only[P.ajh]
  rw[bn (by omega)]
theorem b49(b:List Int)(v:List (BitVec 64))(hv:v.length=8)(h0 h1:List Int){ρ:Type}(k0:Bool→Int→Int→Int→List Int→List Int→List Int→List Int→List Int→List Int→Option ρ) :
    P.ag2 true 80 18446744073709551615 0 h0 h1 P.roots256 P.roots512 (cv (bdj b 80)) (cv v) k0=k0 true 80 18446744073709551615 80 h0 h1 P.roots256 P.roots512 (cv (bdj b 80)) (cv (runs p64 (o9 64 b 16) v 80)):=by
 rw[P.ard]
 unfold P.apf P.b72 P.b8s P.cb1
 refine u7 (fun t=>(true,80,18446744073709551615,(t:Int),h0,h1,P.roots256,P.roots512,cv (bdj b 80),cv (runs p64 (o9 64 b 16) v t))) 80 rfl (fun t ht next hn'=>?_) (fun next=>?_) (by omega)
 ·simp only[P.ahi]
  have e1:Aa.wrap ((t:Int)+1)=((t+1:Nat):Int):=by rw[l7 (by omega) (by omega)];omega
  have hlen:=bnl b 80
  simp only[e1,toNat_cast,ajt,aal,hlen]
  rw[ax7 b 80 t ht,K64]
  obtain ⟨q1,m1⟩:=bxj (((runs p64 (o9 64 b 16) v t).getD 0 0).toNat:Int) 2 13 22 2 13 22 rfl rfl rfl (by omega) (by omega) (by omega)
  obtain ⟨q2,m2⟩:=bxj (((runs p64 (o9 64 b 16) v t).getD 4 0).toNat:Int) 6 11 25 6 11 25 rfl rfl rfl (by omega) (by omega) (by omega)
  rw[bf (by omega),m1,m2,oq,b1v _ p64.c _ _ _ (by rfl) (by rfl) (by rfl) (by decide) (by decide) (by decide),b1v _ p64.d _ _ _ (by rfl) (by rfl) (by rfl) (by decide) (by decide) (by decide)]
  rw[bf (by omega),bf (by omega),bf (by omega),bf (by omega),cip,b58,cjt,cmo]
  exact hn'
 ·simp only[P.ahi]
  rw[bn (by omega)]
  rfl
theorem b3x(v u:List (BitVec 64))(hv:v.length=8)(hu:u.length=8)(h1:List Int){ρ:Type}(k0:Int→Int→List Int→List Int→List Int→Option ρ) :
    P.ahn 18446744073709551615 0 (cv v) h1 (cv u) k0=k0 18446744073709551615 8 (cv v) h1 (cv ((Ag 8).map fun i=>u.getD i 0+v.getD i 0)):=by
 rw[P.arb]
 unfold P.ao7 P.b6w P.b6j P.ca9
 refine u7 (fun i=>(18446744073709551615,(i:Int),cv v,h1,cv (((Ag i).map fun i=>u.getD i 0+v.getD i 0)++u.drop i))) 8 (by simp) (fun i hi next hn'=>?_) (fun next=>?_) (by omega)
 ·simp only[P.agv,toNat_cast,ajt]
  have e1:Aa.wrap ((i:Int)+1)=((i+1:Nat):Int):=by rw[l7 (by omega) (by omega)];omega
  have e2:(((Ag i).map fun i=>u.getD i 0+v.getD i 0)++u.drop i).getD i 0=u.getD i 0:=by
   rw[Ap,Av (by simp),List.getElem?_drop,Ba,A8,Ap]
   congr 2
   omega
  rw[e1,e2,cf9,bjk]
  have e3:(((Ag i).map fun i=>u.getD i 0+v.getD i 0)++u.drop i).set i (u.getD i 0+v.getD i 0)=((Ag (i+1)).map fun i=>u.getD i 0+v.getD i 0)++u.drop (i+1):=by
   rw[Ak _ _ (by simp),Ba,A8,Ar,Ao,Bb,Ah,Aw (by omega),Au]
   rfl
  rw[e3]
  simp (disch:=omega) only[bf,bn,jd,dh,eu,gq,jv,oq,w9,l7]
  exact hn'
 ·simp only[P.agv]
  rw[bn (by omega),Aj (by omega),Bc]
  rfl
theorem bvk(v:List (BitVec 64))(hv:v.length=8)(b:List Int)(hb:In 256 b)(hl:b.length=16*8){ρ:Type}(k:List Int→Option ρ):P.afu (cv v) b true k=k (cv (be2 p64 v b)):=by
 rw[P.atn]
 unfold P.ako
 have hr1:∀(k:List Int→Option ρ),P.aa0 k=k P.roots256:=fun k=>by rw[P.ak2];kernel_rfl
 have hr2:∀(k:List Int→Option ρ),P.aaz k=k P.roots512:=fun k=>by rw[P.ak4];kernel_rfl
 rw[hr1,hr2,oq,bxp b hb hl,b49 b v hv,b3x v _ hv (aur _ _ _ hv _)]
 rfl
end Q
end

section
/- bits, the first part: texts. -/
namespace Q
open Go Go.Abs
theorem bxm{a b:List Int}(hl:a.length=b.length)(hs:a.length≤140737488355328){ρ:Type}(k0:List Int→List Int→Int→Option ρ)(k1:Bool→Option ρ) :
    ∀(m i:Nat),i+m=a.length→∀{stp:(List Int×List Int×Int)→((List Int×List Int×Int)→Option ρ)→((List Int×List Int×Int) ⊕ Bool→Option ρ)→Option ρ} {K:(List Int×List Int×Int) ⊕ Bool→Option ρ},
     (∀(j:Nat) next,stp (a,b,(j:Int)) next K=br (decide ((j:Int)<(a.length:Int))) (br (a.getD j 0 !=b.getD j 0) (k1 false) (next (a,b,((j+1:Nat):Int)))) (k0 a b (j:Int))) →
     lp stp (a,b,(i:Int)) K=if a.drop i=b.drop i then k0 a b (a.length:Int) else k1 false:=by
 intro m i hm stp K hst
 refine b94 (P:=fun x=>∃j:Nat,x=(a,b,(j:Int))∧j≤a.length∧(if a.drop j=b.drop j then k0 a b (a.length:Int) else k1 false)=(if a.drop i=b.drop i then k0 a b (a.length:Int) else k1 false)) (μ:=fun x=>((a.length:Int)-x.2.2).toNat) ?_ ⟨i,rfl,by omega,rfl⟩ (by simp only;omega)
 rintro _ ⟨j,rfl,hj,he⟩ next hn
 rw[hst,←he]
 by_cases hji:j<a.length
 ·rw[bf (by omega),aft a 0 j hji,aft b 0 j (by omega)]
  by_cases hab:a.getD j 0=b.getD j 0
  ·rw[dh hab,hn _ ⟨j+1,rfl,by omega,?_⟩ (by simp only;omega),←he,aft a 0 j hji,aft b 0 j (by omega)]
   ·rw[←he,aft a 0 j hji,aft b 0 j (by omega)]
    simp only[hab,List.cons.injEq,true_and]
  ·rw[jd hab,if_neg (by simp only[List.cons.injEq];exact fun h=>hab h.1)]
 ·have:j=a.length:=by omega
  subst this
  rw[bn (by omega),if_pos (by rw[Aj (Bj _),Aj (by omega)])]
theorem ag5(a b:List Int)(h:a.length≤140737488355328){ρ:Type}(k:Bool→Option ρ):P.ag5 a b k=k (decide (a=b)):=by
 rw[P.bhc]
 unfold P.ato
 by_cases hl:a.length=b.length
 ·rw[dh (by omega),P.bie]
  unfold P.bed P.ca5 P.ccw P.crv
  have:=bxm hl h (fun _ _ _=>k true) k a.length 0 (by omega) (stp:=(fun x next ex=>P.ax1 x.1 x.2.1 x.2.2 (fun v0 v1 v5=>next (v0,v1,v5)) (fun v0 v1 v5=>ex (.inl (v0,v1,v5))) (fun v4=>ex (.inr v4)))) (K:=Sum.elim (fun _=>k true) k) (by
   intro j next
   simp only[P.ax1,Sum.elim_inl,Sum.elim_inr]
   by_cases hj:(j:Int)<(a.length:Int)
   ·simp only[bf hj]
    simp (disch:=omega) only[bf,bn,jd,dh,eu,gq,jv,oq,w9,l7,toNat_cast]
    rfl
   ·simp only[bn hj])
  simp only[Aq] at this
  refine this.trans ?_
  by_cases hab:a=b
  ·rw[if_pos hab,decide_eq_true hab]
  ·rw[if_neg hab,decide_eq_false hab]
 ·rw[jd (by omega),decide_eq_false (fun e=>hl (by rw[e]))]
end Q
end

section
/- bits: the law's own test. -/
namespace Q
open Go Go.Abs
end Q
end

section
/- bits: Same, Join. -/
namespace Q
open Go Go.Abs
def diff(a b:List Int)(i:Nat):Int:=(Ag i).foldl (fun acc j=>bits .or .u8 acc (bits .xor .u8 (a.getD j 0) (b.getD j 0))) 0
theorem bpb(a b:List Int)(i:Nat):diff a b (i+1)=bits .or .u8 (diff a b i) (bits .xor .u8 (a.getD i 0) (b.getD i 0)):=by
 simp[diff,Ao]
theorem bnr(a b:List Int)(ha:In 256 a)(hb:In 256 b):∀i,(0≤diff a b i∧diff a b i<256)∧(diff a b i=0↔∀j,j<i→a.getD j 0=b.getD j 0)
 | 0=>⟨⟨by simp[diff],by simp[diff]⟩,by simp[diff]⟩
 | i+1=>by
  obtain ⟨h1,h2⟩:=bnr a b ha hb i
  rw[bpb]
  have hx:=ha.getD i (by omega)
  have hy:=hb.getD i (by omega)
  obtain ⟨d,hd⟩:=Az h1.1
  obtain ⟨x,hx'⟩:=Az hx.1
  obtain ⟨y,hy'⟩:=Az hy.1
  rw[hd,hx',hy',b92 x y (by omega) (by omega),cjm d _ (by omega) (Nat.xor_lt_two_pow (n:=8) (show x<2^8 by omega) (show y<2^8 by omega))]
  have hb:d ||| (x ^^^ y)<256:=Nat.or_lt_two_pow (n:=8) (show d<2^8 by omega) (Nat.xor_lt_two_pow (n:=8) (show x<2^8 by omega) (show y<2^8 by omega))
  refine ⟨⟨by omega,by omega⟩,?_⟩
  rw[show (((d ||| (x ^^^ y):Nat):Int)=0↔(d ||| (x ^^^ y))=0) by omega,Nat.or_eq_zero_iff,xor_zero]
  constructor
  ·rintro ⟨h0,hxy⟩ j hj
   by_cases hji:j=i
   ·subst hji;rw[hx',hy',hxy]
   ·exact h2.1 (by omega) j (by omega)
  ·intro h
   refine ⟨?_,?_⟩
   ·have:=h2.2 (fun j hj=>h j (by omega));omega
   ·have:=h i (by omega);rw[hx',hy'] at this;omega
theorem aam(a b:List Int)(ha:In 256 a)(hb:In 256 b)(h:a.length≤140737488355328){ρ:Type}(k:Bool→Option ρ):P.aam a b k=k (decide (a=b)):=by
 rw[P.bc4]
 unfold P.ao5
 by_cases hl:a.length=b.length
 ·rw[dh (by omega),P.bg2]
  unfold P.bcz P.cdr P.cer P.cjw
  refine bxz (fun i=>(a,b,diff a b i,(a.length:Int),(i:Int))) a.length (fun i hi next hn=>?_) (fun next=>?_) (Bt _) (by omega)
  ·simp only[P.asz,toNat_cast]
   simp (disch:=omega) only[bf,bn,jd,dh,eu,gq,jv,oq,w9,l7]
   rw[←bpb]
   exact hn
  ·simp only[P.asz]
   rw[bn (by omega)]
   congr 1
   have:=(bnr a b ha hb a.length).2
   by_cases hab:a=b
   ·rw[decide_eq_true hab,beq_iff_eq,this]
    subst hab;exact fun _ _=>rfl
   ·rw[decide_eq_false hab,beq_eq_false_iff_ne]
    intro h0
    refine hab (Bo hl (fun i h1 h2=>?_))
    have:=this.1 h0 i h1
    rw[getD_lt h1,getD_lt h2] at this
    exact this
 ·rw[jd (by omega),decide_eq_false (fun e=>hl (by rw[e]))]
def joined(l:List (List Int))(i:Nat):List Int:=(l.take i).flatten
theorem axa(l:List (List Int))(i:Nat)(h:i<l.length):joined l (i+1)=joined l i++l.getD i []:=by
 unfold joined
 rw[←asv l [] i h,List.flatten_append];simp
theorem ba4(l:List (List Int)):joined l l.length=l.flatten:=by unfold joined;rw[List.take_length]
theorem bhp(l:List (List Int))(i:Nat):(joined l i).length≤l.flatten.length:=by
 unfold joined
 have:l.flatten=(l.take i).flatten++(l.drop i).flatten:=by rw[←List.flatten_append,List.take_append_drop]
 rw[this,Ac];omega
theorem iy(l:List (List Int))(h:l.length≤140737488355328)(h2:l.flatten.length≤140737488355328){ρ:Type}(k:List Int→Option ρ):P.iy l k=k l.flatten:=by
 rw[P.be8]
 unfold P.as8
 rw[P.biu]
 unfold P.bhw P.cam P.cep P.cf3
 refine bxz (fun i=>(l,(i:Int),joined l i)) l.length (fun i hi next hn=>?_) (fun next=>?_) (Bt _) (by omega)
 ·have e:=axa l i hi
  have h3:=bhp l (i+1)
  rw[e,Ac] at h3
  simp only[P.axv,toNat_cast]
  simp (disch:=omega) only[bf,bn,jd,dh,eu,gq,jv,oq,w9,l7]
  rw[←e]
  exact hn
 ·simp only[P.axv]
  rw[bn (by omega),ba4]
theorem uy(n:Nat)(h:n≤140737488355328){ρ:Type}(k:List Int→Option ρ):P.uy (n:Int) k=k []:=by
 rw[P.al8]
 unfold P.afr
 rw[bn (by omega),show Aa.wrap ((0:Int)-(0:Int))=0 by decide]
 rw[l7 (by omega) (by omega)]
 by_cases h0:n=0
 ·subst h0;rw[bn (by omega)]
 ·rw[bf (by omega),bf (by omega),bf (by omega)];rfl
theorem lg(l:List (List Int))(h:l.length≤140737488355328)(h2:l.flatten.length≤140737488355328){ρ:Type}(k:List Int→Option ρ):P.lg l k=k l.flatten:=by
 rw[P.ajm]
 unfold P.ady
 rw[P.an5]
 unfold P.ai9 P.zk1 P.zs1 P.zu1
 refine bxz (fun i=>(l,((joined l i).length:Int),l,(l.length:Int),(i:Int))) l.length (fun i hi next hn=>?_) (fun next=>?_) (Bt _) (by omega)
 ·have e:=axa l i hi
  have h3:=bhp l (i+1)
  have e2:((joined l i).length:Int)+((l.getD i []).length:Int)=((joined l (i+1)).length:Int):=by rw[e,Ac];omega
  simp only[P.aeo,toNat_cast,e2]
  simp (disch:=omega) only[bf,bn,jd,dh,eu,gq,jv,oq,w9,l7]
  exact hn
 ·simp only[P.aeo]
  rw[bn (by omega),ba4,uy _ h2,P.anx]
  unfold P.ahv P.zk2 P.zs2 P.zu2
  refine bxz (fun i=>(l,(l.length:Int),(i:Int),joined l i)) l.length (fun i hi next hn=>?_) (fun next=>?_) (Bt _) (by omega)
  ·have e:=axa l i hi
   have h3:=bhp l (i+1)
   rw[e,Ac] at h3
   simp only[P.adx,toNat_cast]
   simp (disch:=omega) only[bf,bn,jd,dh,eu,gq,jv,oq,w9,l7]
   rw[←e]
   exact hn
  ·simp only[P.adx]
   rw[bn (by omega),ba4]
theorem jc(l:List (List Int))(h:l.length≤140737488355328)(h2:l.flatten.length≤140737488355328){ρ:Type}(k:List Int→Option ρ):P.jc l k=k l.flatten:=by
 rw[P.bde]
 unfold P.apa
 exact lg l h h2 k
end Q
end

section
/- lmots: digits. -/
namespace Q
open Go Go.Abs
theorem yx(N s:Nat)(hN:N<18446744073709551616)(hs:s≤65536){ρ:Type}(k:List Int→Option ρ):P.yx (N:Int) (s:Int) k=k (bsw 8 s N).reverse:=by
 rw[P.bn1]
 unfold P.bav
 simp only[toNat_cast]
 simp (disch:=omega) only[bf,bn,jd,dh,eu,gq,jv,oq,w9,l7]
 rw[P.bpx]
 unfold P.bps P.cea P.ccx P.cih
 refine u7 (fun j=>(((N/2^(8*j):Nat):Int),(s:Int)-1-(j:Int),Ab (s-j) 0++(bsw 8 j N).reverse)) s (by simp[bsw]) (fun j hj next hn'=>?_) (fun next=>?_) (by omega)
 ·simp only[P.bei,Ac,Al,Am,ac0]
  rw[show (s:Int)-1-(j:Int)=((s-1-j:Nat):Int) by omega]
  simp only[toNat_cast]
  have hd:=Nat.div_le_self N (2^(8*j))
  have hb:bits .and .u64 ((N/2^(8*j):Nat):Int) 255=((N/2^(8*j)%2^8:Nat):Int):=by
   rw[show (255:Int)=((2^8-1:Nat):Int) from rfl,apr _ _ (by omega) (by omega),Bd]
  have hd2:(((N/2^(8*j):Nat):Int)).fdiv ((2:Int)^8)=((N/2^(8*(j+1)):Nat):Int):=by
   rw[show ((2:Int)^8)=(2:Int)^min 8 8 from rfl,fdiv_pow _ 8 8 (by omega),Nat.div_div_eq_div_mul,←Nat.pow_add,Bw]
  rw[hb,hd2,u8n _ (by omega)]
  rw[bm0,List.reverse_append,List.reverse_singleton,Bu] at hn'
  have hset:(Ab (s-j) (0:Int)++(bsw 8 j N).reverse).set (s-1-j) ((N/2^(8*j)%2^8:Nat):Int)=Ab (s-(j+1)) 0++((N/2^(8*j)%2^8:Nat):Int)::(bsw 8 j N).reverse:=by
   rw[show s-j=(s-(j+1))+1 by omega,Bv,Ah,Ak _ _ (by simp;omega),Al,show s-1-j-(s-(j+1))=0 by omega]
   rfl
  rw[hset]
  simp (disch:=omega) only[bf,bn,jd,dh,eu,gq,jv,oq,w9,l7]
  rw[show ((s-1-j:Nat):Int)-1=(s:Int)-1-((j+1:Nat):Int) by omega]
  exact hn'
 ·simp only[P.bei]
  rw[bn (by omega),Ar];rfl
def sumTo(D:List Int):Nat→Nat
 | 0=>0
 | i+1=>sumTo D i+(D.getD i 0).toNat
theorem sumTo_le(D:List Int)(w:Nat)(h:In (2^w) D):∀i,sumTo D i≤i*(2^w-1)
 | 0=>by simp[sumTo]
 | i+1=>by
  have ih:=sumTo_le D w h i
  have hp:((2:Int)^w)=((2^w:Nat):Int):=by simp
  have:=h.getD i (by rw[hp];have:=p2 w;omega)
  rw[hp] at this
  rw[Bz];simp only[sumTo];omega
theorem bvh(b:List Int)(w c:Int):In (2^w.toNat) (um b w c):=by
 unfold um
 split
 ·refine In.map (fun i _=>⟨Int.natCast_nonneg _,?_⟩)
  have:=Nat.mod_lt (T 8 b.reverse/2^(8*b.length-w.toNat*(i+1))) (p2 w.toNat)
  have hp:((2:Int)^w.toNat)=((2^w.toNat:Nat):Int):=by simp
  rw[hp];unfold dg;omega
 ·exact In.nil
def left(w s:Nat)(b:List Int):Nat:=((256/w)*(2^w-1)-sumTo (um b w ((256/w:Nat):Int)) (256/w))*2^s
theorem bah(b:List Int)(w c:Nat)(h1:1≤w)(h2:w≤24)(h:c*w≤b.length*8):um b (w:Int) (c:Int)=(Ag c).map (dg w b.length (T 8 b.reverse)):=by
 unfold um
 rw[if_pos (by refine ⟨by omega,by omega,by omega,?_⟩;rw[←Int.natCast_mul];omega)]
 simp only[toNat_cast]
end Q
end

section
/- SHA-2: blocks one behind the other, words of 32 bits. -/
namespace Q
open Go Go.Abs
def thr{w:Nat}(p:Par w)(v:List (BitVec w))(b:List Int):Nat→List (BitVec w)
 | 0=>v
 | i+1=>be2 p (thr p v b i) ((b.drop ((2*w)*i)).take (2*w))
theorem aqj{w:Nat}(p:Par w)(v:List (BitVec w))(hv:v.length=8)(b:List Int):∀i,(thr p v b i).length=8
 | 0=>hv
 | i+1=>buv _ _ _
def toV(w:Nat)(l:List Int):List (BitVec w):=(Ag 8).map fun i=>Ai w (l.getD i 0)
theorem ap0(w:Nat)(l:List Int):(toV w l).length=8:=by simp[toV]
theorem b1t(w:Nat)(l:List Int)(hl:l.length=8)(hi:In (2^w) l):cv (toV w l)=l:=by
 unfold cv toV
 rw[List.map_map]
 refine Bo (by simp[hl]) (fun i h1 h2=>?_)
 have hp:((2:Int)^w)=((2^w:Nat):Int):=by simp
 have:=hi.getD i (by rw[hp];have:=p2 w;omega)
 rw[getD_lt h2] at this
 simp only[List.getElem_map,List.getElem_range,Function.comp,getD_lt h2,Bl]
 rw[hp] at this
 rw[Bn this.1 this.2]
 omega
theorem b27{w:Nat}(l:List (BitVec w)):In (2^w) (cv l):=by
 intro x hx
 obtain ⟨y,_,rfl⟩:=List.mem_map.1 hx
 have:=y.isLt
 have hp:((2:Int)^w)=((2^w:Nat):Int):=by simp
 rw[hp]
 omega
theorem b1p{w:Nat}(l:List (BitVec w))(hl:l.length=8):toV w (cv l)=l:=by
 unfold toV
 refine Bo (by simp[hl]) (fun i h1 h2=>?_)
 simp only[List.getElem_map,List.getElem_range,ajt,ofI,getD_lt h2]
theorem bl2(x:Int):A9.wrap x=((Ai 32 x).toNat:Int):=by
 rw[b6e,Bl];omega
def rest(n:Nat)(b:List Int):List Int:=b.drop (n*(b.length/n))
theorem b8m(words b:List Int)(rd:Int)(t0 t1 t2 t3 h1 h2:List Int)(hi:In 18446744073709551616 words){ρ:Type}(k0:List Int→List Int→Int→Int→Int→List Int→List Int→List Int→List Int→List Int→List Int→List Int→Option ρ) :
    P.aei b words 0 32 rd t0 t1 t2 t3 h1 h2 (Ab 8 0) k0=k0 b words 8 32 rd t0 t1 t2 t3 h1 h2 (cv (toV 32 words)):=by
 rw[P.aov]
 unfold P.ajq P.car P.cc7 P.cl3
 refine u7 (fun i=>(b,words,(i:Int),32,rd,t0,t1,t2,t3,h1,h2,cv ((Ag i).map fun i=>Ai 32 (words.getD i 0))++Ab (8-i) 0)) 8 (by simp[cv]) (fun i hi' next hn'=>?_) (fun next=>?_) (by omega)
 ·simp only[P.aeb,toNat_cast]
  have e4:Aa.wrap ((i:Int)+1)=((i+1:Nat):Int):=by rw[l7 (by omega) (by omega)];omega
  have e5:(cv ((Ag i).map fun i=>Ai 32 (words.getD i 0))++Ab (8-i) (0:Int)).set i ((Ai 32 (words.getD i 0)).toNat:Int)=cv ((Ag (i+1)).map fun i=>Ai 32 (words.getD i 0))++Ab (8-(i+1)) 0:=by
   rw[Ak _ _ (by simp),aal,Ba,A8,Ar,show 8-i=(8-(i+1))+1 by omega,List.replicate_succ,Au,Ao,Bb,←ajf,Ah]
   rfl
  rw[bf (by omega),bf (by omega),bf (by omega),bf (by omega),bf (by omega),bl2,e5,e4]
  exact hn'
 ·simp only[P.aeb]
  rw[bn (by omega)]
  simp[toV]
theorem b90(v:List (BitVec 32))(hv:v.length=8)(b:List Int)(hb:In 256 b)(hn:b.length≤1000000)(h1 h2:List Int){ρ:Type}(k0:List Int→Int→List Int→List Int→List Int→Int→Int→List Int→List Int→List Int→List Int→Option ρ) :
    P.ad8 b 64 (cv v) h2 h1 32 64 [7,18,3] [17,19,10] [2,13,22] [6,11,25] k0 =
     k0 (rest 64 b) 64 (cv (thr p32 v b (b.length/64))) h2 h1 32 64 [7,18,3] [17,19,10] [2,13,22] [6,11,25]:=by
 rw[P.aoj]
 unfold P.aje P.cet P.cc6 P.cgs
 refine u7 (fun i=>(b.drop (64*i),64,cv (thr p32 v b i),h2,h1,32,64,[7,18,3],[17,19,10],[2,13,22],[6,11,25])) (b.length/64) (by simp[thr]) (fun i hi next hn'=>?_) (fun next=>?_) (by omega)
 ·simp only[P.aee]
  have hlen:(b.drop (64*i)).length=b.length-64*i:=by simp
  have hge:64≤b.length-64*i:=by omega
  simp only[hlen,show (64:Int).toNat=64 from rfl,toNat_cast,Aq]
  have hbl:((b.drop (64*i)).take 64).length=16*4:=by rw[Ae,hlen];omega
  rw[bf (by omega),bf (by omega),bf (by omega),bxl _ (aqj _ _ hv _ _) _ ((hb.drop _).take _) hbl,bf (by omega),bf (by omega),bf (by omega),
   Af (by rw[hlen];omega),Ay,show 64*i+64=64*(i+1) by omega]
  exact hn'
 ·simp only[P.aee]
  have hlen:(b.drop (64*(b.length/64))).length=b.length-64*(b.length/64):=by simp
  rw[bn (by rw[hlen];omega)]
  rfl
theorem b34(v:List (BitVec 32))(hv:v.length=8)(b:List Int)(words h2:List Int)(hl:words.length=8){ρ:Type}(k0:List Int→List Int→Int→List Int→List Int→Option ρ) :
    P.adt b (cv v) 0 words h2 k0=k0 b (cv v) 8 (cv v) h2:=by
 rw[P.ani]
 unfold P.ahz P.cda P.ca7 P.cfj
 refine u7 (fun i=>(b,cv v,(i:Int),(cv v).take i++words.drop i,h2)) 8 (by simp) (fun i hi next hn'=>?_) (fun next=>?_) (by omega)
 ·simp only[P.adp,toNat_cast]
  have e4:Aa.wrap ((i:Int)+1)=((i+1:Nat):Int):=by rw[l7 (by omega) (by omega)];omega
  have e5:((cv v).take i++words.drop i).set i ((cv v).getD i 0)=(cv v).take (i+1)++words.drop (i+1):=by
   rw[Ak _ _ (by rw[Ae];omega),Ae,aal,hv,Bf (by omega),Ar,Aw (by omega),Au,←asv (cv v) 0 i (by rw[aal];omega),Ah]
   rfl
  have e6:Ad.wrap ((cv v).getD i 0)=(cv v).getD i 0:=by
   rw[ajt];exact ad3 _ (nlt _)
  rw[bf (by omega),bf (by omega),bf (by omega),bf (by omega),bf (by omega),e6,e5,e4]
  exact hn'
 ·simp only[P.adp]
  rw[bn (by omega),Aj (by omega),Bc,Af (by rw[aal];omega)]
  rfl
theorem bra(words b:List Int)(hl:words.length=8)(hi:In 18446744073709551616 words)(hb:In 256 b)(hn:b.length≤1000000){ρ:Type}(k:List Int→List Int→Option ρ) :
    P.vk 32 64 [7,18,3] [17,19,10] [2,13,22] [6,11,25] words b k=k (cv (thr p32 (toV 32 words) b (b.length/64))) (rest 64 b):=by
 rw[P.ajd]
 unfold P.adq
 refine (b8m words b 64 [7,18,3] [17,19,10] [2,13,22] [6,11,25] words (Ab 8 0) hi _).trans ?_
 rw[show Aa.wrap ((32:Int)*2)=64 from rfl,b90 _ (ap0 _ _) b hb hn,b34 _ (aqj _ _ (ap0 _ _) _ _) _ _ _ hl]
theorem b7o(v:List (BitVec 32))(hv:v.length=8)(b:List Int)(hb:In 256 b)(hn:b.length≤1000000)(kd:Int)(tl:List Int)(sz:Int)(a1:Int)(a2:List Int)(a3:Int){ρ:Type}(k0:Int→List Int→Int→List Int→List Int→Int→Int→List Int→Int→Option ρ) :
    P.aul 64 b kd (cv v) tl sz a1 a2 a3 k0=k0 64 (rest 64 b) kd (cv (thr p32 v b (b.length/64))) tl sz a1 a2 a3:=by
 rw[P.ayc]
 unfold P.bas P.b9y P.b7x P.cdn
 refine u7 (fun i=>(64,b.drop (64*i),kd,cv (thr p32 v b i),tl,sz,a1,a2,a3)) (b.length/64) (by simp[thr]) (fun i hi next hn'=>?_) (fun next=>?_) (by omega)
 ·simp only[P.aow]
  have hlen:(b.drop (64*i)).length=b.length-64*i:=by simp
  have hge:64≤b.length-64*i:=by omega
  simp only[hlen,show (64:Int).toNat=64 from rfl,toNat_cast,Aq]
  have hbl:((b.drop (64*i)).take 64).length=16*4:=by rw[Ae,hlen];omega
  rw[bf (by omega),bf (by omega),bf (by omega),show ((64:Int)==128)=false from rfl,bvp _ (aqj _ _ hv _ _) _ ((hb.drop _).take _) hbl,bf (by omega),bf (by omega),bf (by omega),
   Af (by rw[hlen];omega),Ay,show 64*i+64=64*(i+1) by omega]
  exact hn'
 ·simp only[P.aow]
  have hlen:(b.drop (64*(b.length/64))).length=b.length-64*(b.length/64):=by simp
  rw[bn (by rw[hlen];omega)]
  rfl
end Q
end

section
/- SHA-2: blocks one behind the other, words of 64 bits. -/
namespace Q
open Go Go.Abs
theorem b5z(words b:List Int)(rd:Int)(t0 t1 t2 t3 h1 h2:List Int)(hi:In 18446744073709551616 words){ρ:Type}(k0:List Int→List Int→Int→Int→Int→List Int→List Int→List Int→List Int→List Int→List Int→List Int→Option ρ) :
    P.aep b words 0 64 rd t0 t1 t2 t3 h1 h2 (Ab 8 0) k0=k0 b words 8 64 rd t0 t1 t2 t3 h1 h2 (cv (toV 64 words)):=by
 rw[P.aof]
 unfold P.ajj P.cb5 P.cdg P.cf2
 refine u7 (fun i=>(b,words,(i:Int),64,rd,t0,t1,t2,t3,h1,h2,cv ((Ag i).map fun i=>Ai 64 (words.getD i 0))++Ab (8-i) 0)) 8 (by simp[cv]) (fun i hi' next hn'=>?_) (fun next=>?_) (by omega)
 ·simp only[P.aew,toNat_cast]
  have e4:Aa.wrap ((i:Int)+1)=((i+1:Nat):Int):=by rw[l7 (by omega) (by omega)];omega
  have e6:words.getD i 0=((Ai 64 (words.getD i 0)).toNat:Int):=by
   have:=hi.getD i (by omega)
   rw[Bl]
   omega
  have e5:(cv ((Ag i).map fun i=>Ai 64 (words.getD i 0))++Ab (8-i) (0:Int)).set i ((Ai 64 (words.getD i 0)).toNat:Int)=cv ((Ag (i+1)).map fun i=>Ai 64 (words.getD i 0))++Ab (8-(i+1)) 0:=by
   rw[Ak _ _ (by simp),aal,Ba,A8,Ar,show 8-i=(8-(i+1))+1 by omega,List.replicate_succ,Au,Ao,Bb,←ajf,Ah]
   rfl
  rw[bf (by omega),bf (by omega),bf (by omega),bf (by omega),bf (by omega),e6,e5,e4]
  exact hn'
 ·simp only[P.aew]
  rw[bn (by omega)]
  simp[toV]
theorem b8o(v:List (BitVec 64))(hv:v.length=8)(b:List Int)(hb:In 256 b)(hn:b.length≤1000000)(h1 h2:List Int){ρ:Type}(k0:List Int→Int→List Int→List Int→List Int→Int→Int→List Int→List Int→List Int→List Int→Option ρ) :
    P.aeg b 128 (cv v) h2 h1 64 80 [1,8,7] [19,61,6] [28,34,39] [14,18,41] k0 =
     k0 (rest 128 b) 128 (cv (thr p64 v b (b.length/128))) h2 h1 64 80 [1,8,7] [19,61,6] [28,34,39] [14,18,41]:=by
 rw[P.aol]
 unfold P.ajc P.cdj P.cd3 P.cim
 refine u7 (fun i=>(b.drop (128*i),128,cv (thr p64 v b i),h2,h1,64,80,[1,8,7],[19,61,6],[28,34,39],[14,18,41])) (b.length/128) (by simp[thr]) (fun i hi next hn'=>?_) (fun next=>?_) (by omega)
 ·simp only[P.aej]
  have hlen:(b.drop (128*i)).length=b.length-128*i:=by simp
  have hge:128≤b.length-128*i:=by omega
  simp only[hlen,show (128:Int).toNat=128 from rfl,toNat_cast,Aq]
  have hbl:((b.drop (128*i)).take 128).length=16*8:=by rw[Ae,hlen];omega
  rw[bf (by omega),bf (by omega),bf (by omega),bv6 _ (aqj _ _ hv _ _) _ ((hb.drop _).take _) hbl,bf (by omega),bf (by omega),bf (by omega),
   Af (by rw[hlen];omega),Ay,show 128*i+128=128*(i+1) by omega]
  exact hn'
 ·simp only[P.aej]
  have hlen:(b.drop (128*(b.length/128))).length=b.length-128*(b.length/128):=by simp
  rw[bn (by rw[hlen];omega)]
  rfl
theorem b5b(v:List (BitVec 64))(hv:v.length=8)(b:List Int)(words h2:List Int)(hl:words.length=8){ρ:Type}(k0:List Int→List Int→Int→List Int→List Int→Option ρ) :
    P.adr b (cv v) 0 words h2 k0=k0 b (cv v) 8 (cv v) h2:=by
 rw[P.anr]
 unfold P.ahw P.cdv P.ccr P.cmg
 refine u7 (fun i=>(b,cv v,(i:Int),(cv v).take i++words.drop i,h2)) 8 (by simp) (fun i hi next hn'=>?_) (fun next=>?_) (by omega)
 ·simp only[P.adv,toNat_cast]
  have e4:Aa.wrap ((i:Int)+1)=((i+1:Nat):Int):=by rw[l7 (by omega) (by omega)];omega
  have e5:((cv v).take i++words.drop i).set i ((cv v).getD i 0)=(cv v).take (i+1)++words.drop (i+1):=by
   rw[Ak _ _ (by rw[Ae];omega),Ae,aal,hv,Bf (by omega),Ar,Aw (by omega),Au,←asv (cv v) 0 i (by rw[aal];omega),Ah]
   rfl
  rw[bf (by omega),bf (by omega),bf (by omega),bf (by omega),bf (by omega),e5,e4]
  exact hn'
 ·simp only[P.adv]
  rw[bn (by omega),Aj (by omega),Bc,Af (by rw[aal];omega)]
  rfl
theorem bqq(words b:List Int)(hl:words.length=8)(hi:In 18446744073709551616 words)(hb:In 256 b)(hn:b.length≤1000000){ρ:Type}(k:List Int→List Int→Option ρ) :
    P.vg 64 80 [1,8,7] [19,61,6] [28,34,39] [14,18,41] words b k=k (cv (thr p64 (toV 64 words) b (b.length/128))) (rest 128 b):=by
 rw[P.ajg]
 unfold P.ads
 refine (b5z words b 80 [1,8,7] [19,61,6] [28,34,39] [14,18,41] words (Ab 8 0) hi _).trans ?_
 rw[show Aa.wrap ((64:Int)*2)=128 from rfl,b8o _ (ap0 _ _) b hb hn,b5b _ (aqj _ _ (ap0 _ _) _ _) _ _ _ hl]
theorem b63(v:List (BitVec 64))(hv:v.length=8)(b:List Int)(hb:In 256 b)(hn:b.length≤1000000)(kd:Int)(tl:List Int)(sz:Int)(a1:Int)(a2:List Int)(a3:Int){ρ:Type}(k0:Int→List Int→Int→List Int→List Int→Int→Int→List Int→Int→Option ρ) :
    P.aul 128 b kd (cv v) tl sz a1 a2 a3 k0=k0 128 (rest 128 b) kd (cv (thr p64 v b (b.length/128))) tl sz a1 a2 a3:=by
 rw[P.ayc]
 unfold P.bas P.b9y P.b7x P.cdn
 refine u7 (fun i=>(128,b.drop (128*i),kd,cv (thr p64 v b i),tl,sz,a1,a2,a3)) (b.length/128) (by simp[thr]) (fun i hi next hn'=>?_) (fun next=>?_) (by omega)
 ·simp only[P.aow]
  have hlen:(b.drop (128*i)).length=b.length-128*i:=by simp
  have hge:128≤b.length-128*i:=by omega
  simp only[hlen,show (128:Int).toNat=128 from rfl,toNat_cast,Aq]
  have hbl:((b.drop (128*i)).take 128).length=16*8:=by rw[Ae,hlen];omega
  rw[bf (by omega),bf (by omega),bf (by omega),show ((128:Int)==128)=true from rfl,bvk _ (aqj _ _ hv _ _) _ ((hb.drop _).take _) hbl,bf (by omega),bf (by omega),bf (by omega),
   Af (by rw[hlen];omega),Ay,show 128*i+128=128*(i+1) by omega]
  exact hn'
 ·simp only[P.aow]
  have hlen:(b.drop (128*(b.length/128))).length=b.length-128*(b.length/128):=by simp
  rw[bn (by rw[hlen];omega)]
  rfl
end Q
end

section
/- Are two rows of bytes the same. -/
namespace Q
open Go Go.Abs
end Q
end

section
/- SHA-2: sums that go on, and their ends. -/
namespace Q
open Go Go.Abs
def bsz(kind:Int):Nat:=if kind=1 then 64 else 128
theorem amk(kind:Int):(kind=1∧bsz kind=64)∨(kind≠1∧bsz kind=128):=by
 unfold bsz
 by_cases h:kind=1
 ·exact .inl ⟨h,if_pos h⟩
 ·exact .inr ⟨h,if_neg h⟩
theorem zn(kind:Int){ρ:Type}(k:Int→Option ρ):P.zn kind k=k ((bsz kind:Nat):Int):=by
 rw[P.aq1];unfold P.aix
 rcases amk kind with ⟨h,e⟩ | ⟨h,e⟩
 ·rw[eu h,e];rfl
 ·rw[gq h,e];rfl
theorem zf(kind:Int){ρ:Type}(k:Int→Option ρ):P.zf kind k=k ((bsz kind:Nat):Int):=by
 rw[P.bcq];unfold P.aph
 rcases amk kind with ⟨h,e⟩ | ⟨h,e⟩
 ·rw[eu h,e];rfl
 ·rw[gq h,e];rfl
def azk(kind:Int)(words all:List Int):List Int :=
 if kind=1 then cv (thr p32 (toV 32 words) all (all.length/64)) else cv (thr p64 (toV 64 words) all (all.length/128))
theorem btc(kind:Int)(words all:List Int):(azk kind words all).length=8:=by
 unfold azk
 split<;>rw[aal,aqj _ _ (ap0 _ _)]
def Wok(kind:Int)(words:List Int):Prop:=words.length=8∧In 18446744073709551616 words∧(kind=1→In 4294967296 words)
theorem aw4(kind:Int)(words all:List Int):Wok kind (azk kind words all):=by
 refine ⟨btc _ _ _,?_,fun h=>?_⟩
 ·unfold azk
  split
  ·intro x hx
   have:=b27 _ x hx
   omega
  ·intro x hx
   have:=b27 _ x hx
   omega
 ·unfold azk
  rw[if_pos h]
  intro x hx
  have:=b27 _ x hx
  omega
theorem bd2(n:Nat)(hn:0<n)(b:List Int):(rest n b).length=b.length%n:=by
 unfold rest
 rw[Bp]
 have:=Nat.div_add_mod b.length n
 omega
theorem bqn{n:Nat}{b:List Int}(h:In 256 b):In 256 (rest n b):=h.drop _
theorem ad6{ρ:Type}(k:Int→Int→List Int→List Int→List Int→List Int→Option ρ):P.ad6 k=k 32 64 [7,18,3] [17,19,10] [2,13,22] [6,11,25]:=by rw[P.bcp];rfl
theorem aed{ρ:Type}(k:Int→Int→List Int→List Int→List Int→List Int→Option ρ):P.aed k=k 64 80 [1,8,7] [19,61,6] [28,34,39] [14,18,41]:=by rw[P.bb9];rfl
theorem aaf(kind:Int)(words tail:List Int)(size:Int)(b:List Int)(hl:words.length=8)(hi:In 18446744073709551616 words)(ht:In 256 tail)(hb:In 256 b)(hn:tail.length+b.length≤1000000){ρ:Type}(k:Int→List Int→List Int→Int→Option ρ) :
    P.aaf kind words tail size b k=k kind (azk kind words (tail++b)) (rest (bsz kind) (tail++b)) (Ad.wrap (size+Ad.wrap (b.length:Int))):=by
 rw[P.bi3];unfold P.av7
 have hf:[tail,b].flatten=tail++b:=by simp
 have hall:(tail++b).length≤1000000:=by rw[Ac];exact hn
 have hin:In 256 (tail++b):=ht.app hb
 have hr:∀n,(rest n (tail++b)).length≤1000000:=fun n=>by unfold rest;rw[Bp];omega
 rw[lg _ (by simp) (by rw[hf];omega),hf]
 rcases amk kind with ⟨h,e⟩ | ⟨h,e⟩
 ·rw[eu h,ad6,e]
  rw[bra words _ hl hi hin hall]
  unfold P.uz azk
  have:=hr 64
  rw[bf (by omega),if_pos h]
 ·rw[gq h,aed,e]
  rw[bqq words _ hl hi hin hall]
  unfold P.uz azk
  have:=hr 128
  rw[bf (by omega),if_neg h]
theorem aeu(kind:Int)(words tail:List Int)(size:Int)(b:List Int)(hw:Wok kind words)(ht:In 256 tail)(hb:In 256 b)(hn:tail.length+b.length≤1000000){ρ:Type}(k:Int→List Int→List Int→Int→Option ρ) :
    P.aeu kind words tail size b k=k kind (azk kind words (tail++b)) (rest (bsz kind) (tail++b)) (Ad.wrap (size+Ad.wrap (b.length:Int))):=by
 rw[P.bi8];unfold P.av6
 obtain ⟨hl,hi,h1⟩:=hw
 have hf:[tail,b].flatten=tail++b:=by simp
 have hall:(tail++b).length≤1000000:=by rw[Ac];exact hn
 have hin:In 256 (tail++b):=ht.app hb
 rw[zf,iy _ (by simp) (by rw[hf];omega),hf]
 rcases amk kind with ⟨h,e⟩ | ⟨h,e⟩
 ·have hv:=b1t 32 words hl (h1 h)
  rw[e]
  conv=>lhs;rw[←hv]
  rw[show ((64:Nat):Int)=64 from rfl,b7o _ (ap0 _ _) _ hin hall]
  unfold azk
  rw[if_pos h]
 ·have hv:=b1t 64 words hl hi
  rw[e]
  conv=>lhs;rw[←hv]
  rw[show ((128:Nat):Int)=128 from rfl,b63 _ (ap0 _ _) _ hin hall]
  unfold azk
  rw[if_neg h]
def bt9(kind:Int)(tl:Nat):Nat:=if kind=1 then (119-tl)%64 else (239-tl)%128+8
def pad(kind:Int)(tl:Nat)(size:Nat):List Int:=128::Ab (bt9 kind tl) 0++(bsw 8 8 (size*8%2^64)).reverse
def bqp(n:Nat)(words:List Int)(i:Nat):List Int:=((Ag i).map fun j=>(bsw 8 n (words.getD j 0).toNat).reverse).flatten
theorem ayd(n:Nat)(words:List Int)(i:Nat):bqp n words (i+1)=bqp n words i++(bsw 8 n (words.getD i 0).toNat).reverse:=by simp[bqp,Ao]
theorem ame(n:Nat)(words:List Int):∀i,(bqp n words i).length=n*i
 | 0=>by simp[bqp]
 | i+1=>by rw[ayd,Ac,ame n words i,Am,ac0,Bw]
theorem brl(n:Nat)(words:List Int):∀i,In 256 (bqp n words i)
 | 0=>by simp[bqp,In]
 | i+1=>by rw[ayd];exact (brl n words i).app (bje 8 n _).rev
def bvy(kind:Int)(words tail:List Int)(size:Nat):List Int :=
 let o:=bqp (bsz kind/16) (azk kind words (tail++pad kind tail.length size)) 8
 if kind=2 then o.take 48 else o
theorem b4v(kind:Int)(words tail:List Int)(size:Nat):In 256 (bvy kind words tail size):=by
 unfold bvy
 simp only
 split
 ·exact (brl _ _ _).take _
 ·exact brl _ _ _
theorem b04(kind:Int)(words tail:List Int)(size:Nat):(bvy kind words tail size).length=if kind=1 then 32 else if kind=2 then 48 else 64:=by
 unfold bvy
 simp only
 rcases amk kind with ⟨h,e⟩ | ⟨h,e⟩
 ·rw[if_neg (by omega),if_pos h,ame,e]
 ·rw[if_neg h,e]
  split
  ·rw[Ae,ame];decide
  ·rw[ame]
theorem tmN(a b:Nat):((a:Nat):Int).tmod (b:Int)=((a%b:Nat):Int):=by
 rw[Int.tmod_eq_emod_of_nonneg (by omega)];rfl
theorem bv2(kind:Int)(tl size:Nat):In 256 (pad kind tl size):=by
 unfold pad
 refine In.app ?_ (bje 8 8 _).rev
 intro x hx
 rcases List.mem_cons.1 hx with rfl | hx
 ·omega
 ·rw[List.mem_replicate] at hx;omega
theorem bwt(kind:Int)(tl size:Nat):(pad kind tl size).length=bt9 kind tl+9:=by
 unfold pad;simp
theorem byo(kind:Int)(tl:Nat):bt9 kind tl≤200:=by
 unfold bt9;split<;>omega
theorem b0g(n:Nat)(hn:n=64∨n=128)(words:List Int)(hw:In 18446744073709551616 words)(a:Int)(b:List Int)(c:Int)(d:List Int){ρ:Type}(k0:Int→List Int→Int→List Int→Int→List Int→Int→List Int→Option ρ) :
    P.awk (n:Int) words 0 [] a b c d k0=k0 (n:Int) words 8 (bqp (n/16) words 8) a b c d:=by
 rw[P.bij]
 unfold P.bep P.ccs P.cba P.chy
 have e16:Aa.wrap ((n:Int).tdiv 16)=((n/16:Nat):Int):=by rcases hn with rfl | rfl<;>rfl
 refine u7 (fun i=>((n:Int),words,(i:Int),bqp (n/16) words i,a,b,c,d)) 8 rfl (fun i hi next hn'=>?_) (fun next=>?_) (by omega)
 ·simp only[P.aw5,toNat_cast]
  have h1:=hw.getD i (by omega)
  have e4:Aa.wrap ((i:Int)+1)=((i+1:Nat):Int):=by rw[l7 (by omega) (by omega)];omega
  have e5:words.getD i 0=(((words.getD i 0).toNat:Nat):Int):=by omega
  rw[ayd] at hn'
  rw[bf (by omega),bf (by omega),bf (by omega),e16,e5,y7 _ _ (by omega) (by omega),e4]
  rw[bf (by rw[ame,Am,ac0];rcases hn with rfl | rfl<;>omega)]
  exact hn'
 ·simp only[P.aw5]
  rw[bn (by omega)]
  rfl
theorem shl3(size:Nat):Ad.wrap ((size:Int)*(2:Int)^3)=((size*8%2^64:Nat):Int):=by
 rw[bt6];omega
theorem adw(kind:Int)(words tail:List Int)(size:Nat)(hl:words.length=8)(hi:In 18446744073709551616 words)(ht:In 256 tail)(hn:tail.length<bsz kind){ρ:Type}(k:List Int→Option ρ) :
    P.adw kind words tail (size:Int) k=k (bvy kind words tail size):=by
 rw[P.bjb];unfold P.aw2
 rw[zn]
 have hz:Aa.wrap (Aa.wrap ((Aa.wrap (Aa.wrap (Aa.wrap (Aa.wrap ((2:Int)*((bsz kind:Nat):Int))-(1:Int))-Aa.wrap (((bsz kind:Nat):Int).tdiv (8:Int)))-(tail.length:Int))).tmod ((bsz kind:Nat):Int)+Aa.wrap (((bsz kind:Nat):Int).tdiv (8:Int)))-(8:Int))=((bt9 kind tail.length:Nat):Int):=by
  unfold bt9
  rcases amk kind with ⟨h,e⟩ | ⟨h,e⟩
  ·rw[e] at hn ⊢
   rw[if_pos h,show Aa.wrap (Aa.wrap (Aa.wrap ((2:Int)*((64:Nat):Int))-(1:Int))-Aa.wrap (((64:Nat):Int).tdiv (8:Int)))=119 from rfl,l7 (x:=(119:Int)-(tail.length:Int)) (by omega) (by omega),
    show (119:Int)-(tail.length:Int)=((119-tail.length:Nat):Int) by omega,tmN,show Aa.wrap (((64:Nat):Int).tdiv (8:Int))=8 from rfl,l7 (x:=((((119-tail.length)%64:Nat):Int))+8) (by omega) (by omega),l7 (by omega) (by omega)]
   omega
  ·rw[e] at hn ⊢
   rw[if_neg h,show Aa.wrap (Aa.wrap (Aa.wrap ((2:Int)*((128:Nat):Int))-(1:Int))-Aa.wrap (((128:Nat):Int).tdiv (8:Int)))=239 from rfl,l7 (x:=(239:Int)-(tail.length:Int)) (by omega) (by omega),
    show (239:Int)-(tail.length:Int)=((239-tail.length:Nat):Int) by omega,tmN,show Aa.wrap (((128:Nat):Int).tdiv (8:Int))=16 from rfl,l7 (x:=((((239-tail.length)%128:Nat):Int))+16) (by omega) (by omega),l7 (by omega) (by omega)]
   omega
 have hb:bsz kind=64∨bsz kind=128:=by rcases amk kind with ⟨h,e⟩ | ⟨h,e⟩<;>omega
 have hz2:=byo kind tail.length
 rw[hz]
 simp only[toNat_cast]
 rw[bf (by omega),bf (by omega),bn (by omega),bf (by omega),bf (by omega),shl3,show (8:Int)=((8:Nat):Int) from rfl,y7 _ 8 (by omega) (by omega)]
 have hp:(Ab 1 (0:Int)).set 0 (128:Int)++Ab (bt9 kind tail.length) (0:Int)++(bsw 8 8 (size*8%2^64)).reverse=pad kind tail.length size:=rfl
 rw[bf (by
  show ((Ab (bt9 kind tail.length) (0:Int)).length+0+1+_)*1≤_
  rw[Al,Am,ac0];omega),hp]
 have hpl:=bwt kind tail.length size
 rw[aaf kind words tail _ _ hl hi ht (bv2 _ _ _) (by omega),b0g _ hb _ (aw4 _ _ _).2.1]
 unfold bvy
 simp only
 by_cases h2:kind=2
 ·have e:bsz kind=128:=by unfold bsz;rw[if_neg (by omega)]
  rw[eu h2,bf (by rw[ame,e];omega),if_pos h2]
  rfl
 ·rw[gq h2,if_neg h2]
theorem pads(n:Nat)(hn:n=64∨n=128)(tl:Nat)(ht:tl<200)(z m:Nat)(hm:m<n)(h1:∀i,i<z→(tl+(1+i))%n≠m)(h2:(tl+(1+z))%n=m)(hz:z≤200)(c:Int)(kd:Int)(words tail:List Int)(size:Int)(hl:tail.length=tl)(d:Int)(hd:Aa.wrap ((n:Int)-d)=(m:Int)) :
    (d=8→∀{ρ:Type} (k0:Int→Int→List Int→Int→List Int→List Int→Int→Option ρ),P.az2 (n:Int) c [128] kd words tail size k0=k0 (n:Int) c (128::Ab z 0) kd words tail size) ∧
    (d=16→∀{ρ:Type} (k0:Int→Int→List Int→Int→List Int→List Int→Int→Option ρ),P.ba1 (n:Int) c [128] kd words tail size k0=k0 (n:Int) c (128::Ab z 0) kd words tail size):=by
 have hlen:∀i:Nat,((128:Int)::Ab i 0).length=1+i:=fun i=>by simp;omega
 have hc:∀i:Nat,i≤z→Aa.wrap (((tail.length:Nat):Int)+((((128:Int)::Ab i 0).length:Nat):Int))=((tl+(1+i):Nat):Int):=fun i hi=>by
  rw[hlen,hl,l7 (by omega) (by omega)];omega
 have hs:∀i:Nat,((128:Int)::Ab i 0)++[(0:Int)]=128::Ab (i+1) 0:=fun i=>by
  rw[Bv];rfl
 constructor
 ·rintro rfl ρ k0
  rw[P.bmy]
  unfold P.bjq P.ccl P.cdh P.cou
  refine u7 (fun i=>((n:Int),c,128::Ab i 0,kd,words,tail,size)) z rfl (fun i hi next hn'=>?_) (fun next=>?_) (by omega)
  ·simp only[P.az4]
   have:=h1 i hi
   rw[hc i (by omega),tmN,hd,bn (by omega),jd (by omega),bf (by rw[hlen];omega),hs]
   exact hn'
  ·simp only[P.az4]
   rw[hc z (by omega),tmN,hd,bn (by omega),h2,dh (by rfl)]
 ·rintro rfl ρ k0
  rw[P.blv]
  unfold P.bkv P.cbg P.cdb P.cfv
  refine u7 (fun i=>((n:Int),c,128::Ab i 0,kd,words,tail,size)) z rfl (fun i hi next hn'=>?_) (fun next=>?_) (by omega)
  ·simp only[P.ba5]
   have:=h1 i hi
   rw[hc i (by omega),tmN,hd,bn (by omega),jd (by omega),bf (by rw[hlen];omega),hs]
   exact hn'
  ·simp only[P.ba5]
   rw[hc z (by omega),tmN,hd,bn (by omega),h2,dh (by rfl)]
theorem br8(n:Nat)(hn:n=64∨n=128)(words:List Int)(hw:In 18446744073709551616 words)(a:Int)(b:List Int)(c:Int){ρ:Type}(k0:Int→Int→List Int→Int→List Int→List Int→Int→Option ρ) :
    P.aqf (n:Int) 0 [] a words b c k0=k0 (n:Int) 8 (bqp (n/16) words 8) a words b c:=by
 rw[P.biq]
 unfold P.bf7 P.cdu P.ccv P.chp
 have e16:Aa.wrap ((n:Int).tdiv 16)=((n/16:Nat):Int):=by rcases hn with rfl | rfl<;>rfl
 refine u7 (fun i=>((n:Int),(i:Int),bqp (n/16) words i,a,words,b,c)) 8 rfl (fun i hi next hn'=>?_) (fun next=>?_) (by omega)
 ·simp only[P.awh,toNat_cast]
  have h1:=hw.getD i (by omega)
  have e4:Aa.wrap ((i:Int)+1)=((i+1:Nat):Int):=by rw[l7 (by omega) (by omega)];omega
  have e5:words.getD i 0=(((words.getD i 0).toNat:Nat):Int):=by omega
  rw[ayd] at hn'
  rw[bf (by omega),bf (by omega),bf (by omega),e16,e5,yx _ _ (by omega) (by omega),e4]
  rw[bf (by rw[ame,Am,ac0];rcases hn with rfl | rfl<;>omega)]
  exact hn'
 ·simp only[P.awh]
  rw[bn (by omega)]
  rfl
theorem brz(kind:Int)(words tail:List Int)(size:Nat){ρ:Type}(k:List Int→Option ρ) :
    (br (kind==(2:Int)) (br (decide ((48:Int)≤((bqp (bsz kind/16) (azk kind words (tail++pad kind tail.length size)) 8).length:Int))) (k (Br ((48:Int)-(0:Int)).toNat (bqp (bsz kind/16) (azk kind words (tail++pad kind tail.length size)) 8))) none)
     (k (bqp (bsz kind/16) (azk kind words (tail++pad kind tail.length size)) 8)))=k (bvy kind words tail size):=by
 unfold bvy
 simp only
 by_cases h2:kind=2
 ·have e:bsz kind=128:=by unfold bsz;rw[if_neg (by omega)]
  rw[eu h2,bf (by rw[ame,e];omega),if_pos h2]
  rfl
 ·rw[gq h2,if_neg h2]
theorem al4(kind:Int)(words tail:List Int)(size:Nat)(hw:Wok kind words)(ht:In 256 tail)(hn:tail.length<bsz kind)(hs:size<2305843009213693952){ρ:Type}(k:List Int→Option ρ) :
    P.al4 kind words tail (size:Int) k=k (bvy kind words tail size):=by
 rw[P.bj5];unfold P.axz
 have h8:Ad.wrap ((size:Int)*8)=((size*8%2^64:Nat):Int):=by rw[bt6];omega
 have hpl:=bwt kind tail.length size
 have hz2:=byo kind tail.length
 rw[zf,h8]
 rcases amk kind with ⟨h,e⟩ | ⟨h,e⟩
 ·rw[e] at hn ⊢
  have hp:=(pads 64 (.inl rfl) tail.length (by omega) (bt9 kind tail.length) 56 (by omega) (fun i hi=>by unfold bt9 at hi;rw[if_pos h] at hi;omega) (by unfold bt9;rw[if_pos h];omega) hz2 ((size*8%2^64:Nat):Int) kind words tail (size:Int) rfl 8 rfl).1
  rw[hp rfl,gq (by decide),show (8:Int)=((8:Nat):Int) from rfl,yx _ 8 (by omega) (by omega),bf (by simp;omega)]
  have hpad:(128:Int)::Ab (bt9 kind tail.length) 0++(bsw 8 8 (size*8%2^64)).reverse=pad kind tail.length size:=rfl
  rw[hpad,aeu kind words tail _ _ hw ht (bv2 _ _ _) (by omega),br8 _ (.inl rfl) _ (aw4 _ _ _).2.1]
  have:=brz kind words tail size k
  rw[e] at this
  exact this
 ·rw[e] at hn ⊢
  have hp1:=(pads 128 (.inr rfl) tail.length (by omega) ((247-tail.length)%128) 120 (by omega) (fun i hi=>by omega) (by omega) (by omega) ((size*8%2^64:Nat):Int) kind words tail (size:Int) rfl 8 rfl).1
  have hp2:=(pads 128 (.inr rfl) tail.length (by omega) ((239-tail.length)%128) 112 (by omega) (fun i hi=>by omega) (by omega) (by omega) ((size*8%2^64:Nat):Int) kind words tail (size:Int) rfl 16 rfl).2
  have h61:((size:Nat):Int).fdiv ((2:Int)^61)=((0:Nat):Int):=by
   have:=fdiv_pow size 61 61 (by omega)
   rw[Nat.div_eq_of_lt (by omega)] at this
   exact this
  rw[hp1 rfl,eu (by rfl),hp2 rfl,h61,show (8:Int)=((8:Nat):Int) from rfl,yx _ 8 (by omega) (by omega),bf (by simp;omega),yx _ 8 (by omega) (by omega),bf (by simp;omega)]
  have hpad:(128:Int)::Ab ((239-tail.length)%128) 0++(bsw 8 8 0).reverse++(bsw 8 8 (size*8%2^64)).reverse=pad kind tail.length size:=by
   unfold pad bt9
   rw[if_neg h,←List.replicate_append_replicate]
   rfl
  rw[hpad,aeu kind words tail _ _ hw ht (bv2 _ _ _) (by omega),br8 _ (.inr rfl) _ (aw4 _ _ _).2.1]
  have:=brz kind words tail size k
  rw[e] at this
  exact this
def bpl(kind:Int):List Int :=
 if kind=1 then [1779033703,3144134277,1013904242,2773480762,1359893119,2600822924,528734635,1541459225]
 else if kind=2 then [14680500436340154072,7105036623409894663,10473403895298186519,1526699215303891257,7436329637833083697,10282925794625328401,15784041429090275239,5167115440072839076]
 else [7640891576956012808,13503953896175478587,4354685564936845355,11912009170470909681,5840696475078001361,11170449401992604703,2270897969802886507,6620516959819538809]
theorem bqg(kind:Int):Wok kind (bpl kind):=by
 unfold bpl Wok
 by_cases h1:kind=1
 ·simp only[if_pos h1]
  refine ⟨rfl,?_,fun _=>?_⟩
  ·unfold In;decide
  ·unfold In;decide
 ·by_cases h2:kind=2
  ·simp only[if_neg h1,if_pos h2]
   refine ⟨rfl,?_,fun h=>absurd h h1⟩
   unfold In;decide
  ·simp only[if_neg h1,if_neg h2]
   refine ⟨rfl,?_,fun h=>absurd h h1⟩
   unfold In;decide
def K3(kind:Int):Prop:=kind=1∨kind=2∨kind=3
theorem bqs{kind:Int}(h:K3 kind){ρ:Type}(k:List Int→Bool→Option ρ):P.ahe kind k=k (bpl kind) true:=by
 rw[P.bbz]
 rcases h with rfl | rfl | rfl<;>kernel_rfl
theorem af8{kind:Int}(h:K3 kind){ρ:Type}(k:Int→List Int→List Int→Int→Int→Option ρ):P.af8 kind k=k kind (bpl kind) [] 0 0:=by
 rw[P.bkn];unfold P.axq
 rw[bqs h,jv,oq]
theorem alf{kind:Int}(h:K3 kind){ρ:Type}(k:Int→List Int→List Int→Int→Int→Option ρ):P.alf kind k=k kind (bpl kind) [] 0 0:=by
 rw[P.bk9];unfold P.axk bpl
 rcases h with rfl | rfl | rfl
 ·rw[eu (by rfl)];rfl
 ·rw[gq (by decide),eu (by rfl)];rfl
 ·rw[gq (by decide),gq (by decide),eu (by rfl)];rfl
theorem asy(kind:Int):0<bsz kind:=by rcases amk kind with ⟨h,e⟩ | ⟨h,e⟩<;>omega
def bu9(kind:Int)(b:List Int):List Int:=bvy kind (azk kind (bpl kind) b) (rest (bsz kind) b) b.length
theorem blm(b:List Int)(hn:b.length≤1000000):Ad.wrap ((0:Int)+Ad.wrap (b.length:Int))=((b.length:Nat):Int):=by
 rw[ad3 _ (by omega),Int.zero_add,ad3 _ (by omega)]
theorem alb{kind:Int}(h:K3 kind)(b:List Int)(hb:In 256 b)(hn:b.length≤1000000){ρ:Type}(k:List Int→Int→Option ρ):P.alb kind b k=k (bu9 kind b) 0:=by
 rw[P.bjn];unfold P.awe
 have hw:=bqg kind
 have hr:=bd2 _ (asy kind) b
 have hlt:=Nat.mod_lt b.length (asy kind)
 rw[af8 h,dh (by rfl),aaf kind _ [] _ b hw.1 hw.2.1 In.nil hb (by simpa using hn),Bg,blm b hn,adw kind _ _ _ (btc _ _ _) (aw4 _ _ _).2.1 (bqn hb) (by omega)]
 rfl
theorem abr{kind:Int}(h:K3 kind)(b:List Int)(hb:In 256 b)(hn:b.length≤1000000){ρ:Type}(k:List Int→Int→Option ρ):P.abr kind b k=k (bu9 kind b) 0:=by
 rw[P.bk6];unfold P.awg
 have hw:=bqg kind
 have hr:=bd2 _ (asy kind) b
 have hlt:=Nat.mod_lt b.length (asy kind)
 rw[alf h,dh (by rfl),aeu kind _ [] _ b hw In.nil hb (by simpa using hn),Bg,blm b hn,al4 kind _ _ _ (aw4 _ _ _) (bqn hb) (by omega) (by omega)]
 rfl
theorem bxh(kind:Int)(b:List Int):In 256 (bu9 kind b):=b4v _ _ _ _
theorem bdz(kind:Int)(b:List Int):(bu9 kind b).length=if kind=1 then 32 else if kind=2 then 48 else 64:=b04 _ _ _ _
end Q
end

section
/- SHA-2: which sums can be, which are the same; the examples. -/
namespace Q
open Go Go.Abs
theorem first(p:Nat→Bool):∀n,∃m,m≤n∧(∀i,i<m→p i=true)∧(m=n∨(m<n∧p m=false))
 | 0=>⟨0,by omega,by omega,.inl rfl⟩
 | n+1=>by
  obtain ⟨m,h1,h2,h3⟩:=first p n
  rcases h3 with h3 | ⟨h3,h4⟩
  ·subst h3
   cases hp:p m with
   | true=>exact ⟨m+1,by omega,fun i hi=>by
       by_cases e:i=m
       ·rw[e];exact hp
       ·exact h2 i (by omega),.inl rfl⟩
   | false=>exact ⟨m,by omega,h2,.inr ⟨by omega,hp⟩⟩
  ·exact ⟨m,by omega,h2,.inr ⟨by omega,h4⟩⟩
end Q
end

section
/- mac: digests, with keys and without. -/
namespace Q
open QK
open Go Go.Abs
def K7(kd:Int):Prop:=kd=1∨kd=2∨kd=3∨kd=4∨kd=5∨kd=6∨kd=7
theorem K7.of{kd:Int}(h:1≤kd∧kd≤7):K7 kd:=by unfold K7;omega
def dl(kd:Int):Nat:=if kd=1∨kd=4∨kd=6 then 32 else if kd=2 then 48 else if kd=3∨kd=5∨kd=7 then 64 else 0
theorem avx{kd:Int}(h:K7 kd):32≤dl kd∧dl kd≤64:=by
 rcases h with rfl | rfl | rfl | rfl | rfl | rfl | rfl<;>decide
theorem bzx{kd:Int}(h:¬K7 kd):dl kd=0:=by
 unfold K7 at h
 unfold dl
 rw[if_neg (by omega),if_neg (by omega),if_neg (by omega)]
theorem afc(kd:Int){ρ:Type}(k:Int→Option ρ):P.afc kd k=k ((dl kd:Nat):Int):=by
 rw[P.bhn];unfold P.asg
 by_cases h0:kd<0
 ·rw[bf h0,bzx (by unfold K7;omega)];rfl
 by_cases h8:kd≥8
 ·rw[bn h0,bf h8,bzx (by unfold K7;omega)];rfl
 have:kd=0∨kd=1∨kd=2∨kd=3∨kd=4∨kd=5∨kd=6∨kd=7:=by omega
 rcases this with rfl | rfl | rfl | rfl | rfl | rfl | rfl | rfl<;>simp[dl]
theorem ae9(kd:Int){ρ:Type}(k:Int→Option ρ):P.ae9 kd k=k ((dl kd:Nat):Int):=by
 rw[P.bf2];unfold P.ate
 by_cases h0:kd<0
 ·rw[bf h0,bzx (by unfold K7;omega)];rfl
 by_cases h8:kd>7
 ·rw[bn h0,bf h8,bzx (by unfold K7;omega)];rfl
 have:kd=0∨kd=1∨kd=2∨kd=3∨kd=4∨kd=5∨kd=6∨kd=7:=by omega
 rcases this with rfl | rfl | rfl | rfl | rfl | rfl | rfl | rfl<;>simp[dl]
def dig(kd:Int)(b:List Int):List Int:=if kd≤3 then bu9 kd b else bxs kd b (dl kd)
theorem beu(kd:Int)(b:List Int):In 256 (dig kd b):=by
 unfold dig;split
 ·exact bxh _ _
 ·exact bmf _ _ _
theorem ah1{kd:Int}(h:K7 kd)(b:List Int):(dig kd b).length=dl kd:=by
 unfold dig
 rcases h with rfl | rfl | rfl | rfl | rfl | rfl | rfl
 ·rw[if_pos (by omega),bdz];rfl
 ·rw[if_pos (by omega),bdz];rfl
 ·rw[if_pos (by omega),bdz];rfl
 all_goals rw[if_neg (by omega),bd3]
theorem aad{kd:Int}(h:K7 kd)(b:List Int)(hb:In 256 b)(hn:b.length≤1000000){ρ:Type}(k:List Int→Int→Option ρ):P.aad kd b k=k (dig kd b) 0:=by
 have hd:=avx h
 rw[P.azs];unfold P.ank
 rw[afc,gq (by omega)]
 unfold dig
 by_cases h3:kd≤3
 ·rw[bf h3,if_pos h3,alb (by unfold K7 at h;unfold K3;omega) b hb hn]
 ·rw[bn h3,if_neg h3,afc,zw (by unfold K7 at h;omega) b (by omega) _ (by omega)]
theorem sw{kd:Int}(h:K7 kd)(b:List Int)(hb:In 256 b)(hn:b.length≤1000000){ρ:Type}(k:List Int→Int→Option ρ):P.sw kd b k=k (dig kd b) 0:=by
 have hd:=avx h
 rw[P.ax5];unfold P.anz
 rw[ae9,gq (by omega)]
 unfold dig
 by_cases h3:kd≤3
 ·rw[bf h3,if_pos h3,abr (by unfold K7 at h;unfold K3;omega) b hb hn]
 ·rw[bn h3,if_neg h3,ae9,abk (by unfold K7 at h;omega) b (by omega) _ (by omega)]
theorem az7{kd:Int}(h:K7 kd)(l:List (List Int))(hl:l.length≤1000)(hb:In 256 l.flatten)(hn:l.flatten.length≤1000000){ρ:Type}(k:List Int→Option ρ):P.ng l kd k=k (dig kd l.flatten):=by
 rw[P.aod];unfold P.ag7
 rw[jc l (by omega) (by omega),aad h _ hb hn]
theorem bji(kd:Int){ρ:Type}(k:Int→Option ρ):P.aar kd k=k kd:=by
 rw[P.avr];rfl
def bfo(key:List Int)(n:Nat)(c:Int):List Int:=(Ag n).map fun i=>bits .xor .u8 (key.getD i 0) c
theorem ap5(key:List Int)(n:Nat)(c:Int):(bfo key n c).length=n:=by simp[bfo]
theorem b4k(x c:Int):0≤bits .xor .u8 x c∧bits .xor .u8 x c<256:=by
 have e:bits .xor .u8 x c=IntKind.u8.wrap ((Ai 8 x ^^^ Ai 8 c).toNat:Int):=rfl
 rw[e,u8m]
 exact ⟨Int.emod_nonneg _ (by omega),Int.emod_lt_of_pos _ (by omega)⟩
theorem bm3(key:List Int)(n:Nat)(c:Int):In 256 (bfo key n c):=fun x hx=>by
 simp only[bfo,List.mem_map] at hx
 obtain ⟨i,_,rfl⟩:=hx
 exact b4k _ _
theorem bem(key:List Int)(i:Nat)(c:Int):bfo key i c++[bits .xor .u8 (key.getD i 0) c]=bfo key (i+1) c:=wo (fun i=>bits .xor .u8 (key.getD i 0) c) i
theorem b1s{α:Type}(a b:List α)(x y:α)(i:Nat)(h:a.length=i):(a++x::b).set i y=a++y::b:=by
 subst h
 rw[Ak _ _ (Bj _),Ar]
 rfl
theorem wh(key:List Int)(n:Nat)(c:Int)(hk:key.length≤n)(hn:n≤1000){ρ:Type}(k:List Int→Option ρ):P.wh key (n:Int) c k=k (bfo key n c):=by
 rw[P.ava];unfold P.ak7
 rw[bf (by omega),bf (by omega),bf (by omega),toNat_cast,Al]
 have e0:(Br n key).append (List.drop (0+min n key.length) (Ab n 0))=key++Ab (n-key.length) 0:=by
  show Br n key++_=_
  rw[Af hk,Nat.zero_add,Nat.min_eq_right hk,List.drop_replicate]
 rw[e0]
 generalize hl0:key++Ab (n-key.length) 0=l0
 have hlen:l0.length=n:=by rw[←hl0];simp;omega
 have hget:∀i,l0.getD i 0=key.getD i 0:=by
  intro i
  rw[←hl0]
  by_cases hi:i<key.length
  ·rw[getD_lt (by simp;omega),getD_lt hi,List.getElem_append_left hi]
  ·rw[bh7 (l:=key) (by omega),Ap,Av (by omega),List.getElem?_replicate]
   split<;>rfl
 rw[P.bbh,hlen];unfold P.au6 P.caw P.cc8 P.ckp
 refine u7 (fun i=>(c,(n:Int),(i:Int),bfo key i c++l0.drop i)) n (by simp[bfo]) (fun i hi next hnx=>?_) (fun next=>?_) (by omega)
 ·have hsl:=ap5 key i c
  have hd:=aft l0 0 i (by omega)
  have hL:(bfo key i c++l0.drop i).length=n:=by simp[hsl];omega
  have hG:(bfo key i c++l0.drop i).getD i 0=key.getD i 0:=by
   rw[Ap,Av (by omega),hsl,Ar,hd,hget]
   rfl
  have hS:(bfo key i c++l0.drop i).set i (bits .xor .u8 (key.getD i 0) c)=bfo key (i+1) c++l0.drop (i+1):=by
   rw[hd,b1s _ _ _ _ i hsl,←bem,Ah]
   rfl
  simp only[P.ant,toNat_cast]
  rw[hL,hG,hS]
  simp (disch:=omega) only[bf,bn,jd,dh,eu,gq,jv,oq,w9,l7]
  exact hnx
 ·simp only[P.ant]
  rw[bn (by omega),List.drop_of_length_le (by omega),Bc]
def bk(kd:Int):Nat:=if kd≤3 then bsz kd else rOf kd
theorem b4f{kd:Int}(h:K7 kd):64≤bk kd∧bk kd≤168:=by
 rcases h with rfl | rfl | rfl | rfl | rfl | rfl | rfl<;>decide
theorem aez{kd:Int}(h:K7 kd){ρ:Type}(k:Int→Option ρ):P.aez kd k=k ((bk kd:Nat):Int):=by
 rw[P.bcl];unfold P.ap6 bk
 by_cases h3:kd≤3
 ·rw[bf h3,if_pos h3,zf]
 ·rw[bn h3,if_neg h3,bsm (bvz (by unfold K7 at h;omega))]
def b5f(kd:Int)(key:List Int):List Int:=if bk kd<key.length then dig kd key else key
def hmc(kd:Int)(key b:List Int):List Int:=dig kd (bfo (b5f kd key) (bk kd) 92++dig kd (bfo (b5f kd key) (bk kd) 54++b))
theorem cac(kd:Int)(key b:List Int):In 256 (hmc kd key b):=beu _ _
theorem bq1{kd:Int}(h:K7 kd)(key b:List Int):(hmc kd key b).length=dl kd:=ah1 h _
theorem ahr{kd:Int}(h:1≤kd∧kd≤5)(key b:List Int)(hk:In 256 key)(hb:In 256 b)(nk:key.length≤100000)(nb:b.length≤900000){ρ:Type}(k:List Int→Int→Option ρ):P.ahr kd key b k=k (hmc kd key b) 0:=by
 have hK:K7 kd:=K7.of (by omega)
 have h1:=avx hK
 have h2:=b4f hK
 have lp:∀(key':List Int),In 256 key'→key'.length≤bk kd→(P.amf kd b ((bk kd:Nat):Int) key' 0 [] []
     fun (q3:Int) (q4:List Int) (q5:Int) (q6:List Int) (q7:Int) (q8 q9:List Int) =>
     br (decide ((q8.length+q4.length)*1≤140737488355328))
      (P.sw q3 (q8++q4) fun (q10:List Int) (q11:Int) =>
       br (decide ((q9.length+q10.length)*1≤140737488355328))
        (P.sw q3 (q9++q10) fun (q12:List Int) (q13:Int)=>k q12 q13) none) none) =
     k (dig kd (bfo key' (bk kd) 92++dig kd (bfo key' (bk kd) 54++b))) 0:=by
  intro key' hk' hl'
  rw[P.beb];unfold P.bdd P.cev P.cb2 P.cf8
  refine u7 (fun i=>(kd,b,((bk kd:Nat):Int),key',(i:Int),bfo key' i 54,bfo key' i 92)) (bk kd) (by simp[bfo]) (fun i hi next hnx=>?_) (fun next=>?_) (by omega)
  ·have l1:=ap5 key' i 54
   have l2:=ap5 key' i 92
   rw[←bem,←bem] at hnx
   simp only[P.asl,toNat_cast]
   rw[l7 (x:=(i:Int)+1) (by omega) (by omega)]
   by_cases hi2:i<key'.length
   ·simp (disch:=omega) only[bf,bn,jd,dh,eu,gq,jv,oq,w9,l7]
    exact hnx
   ·rw[bh7 (l:=key') (by omega)] at hnx
    simp (disch:=omega) only[bf,bn,jd,dh,eu,gq,jv,oq,w9,l7]
    exact hnx
  ·simp only[P.asl]
   have l1:=ap5 key' (bk kd) 54
   have l2:=ap5 key' (bk kd) 92
   have l3:=ah1 hK (bfo key' (bk kd) 54++b)
   rw[bn (by omega),bf (by omega),sw hK _ ((bm3 _ _ _).app hb) (by rw[Ac];omega),bf (by omega),sw hK _ ((bm3 _ _ _).app (beu _ _)) (by rw[Ac];omega)]
 rw[P.be6];unfold P.aua
 rw[bn (by omega),bn (by omega),aez hK]
 unfold hmc b5f
 by_cases hg:bk kd<key.length
 ·rw[bf (by omega),if_pos hg,sw hK key hk (by omega)]
  exact lp _ (beu _ _) (by rw[ah1 hK];omega)
 ·rw[bn (by omega),if_neg hg]
  exact lp _ hk (by omega)
theorem b45{kd:Int}(h:K7 kd)(l:List (List Int))(hl:l.length≤1000)(hb:In 256 l.flatten)(hn:l.flatten.length≤900000)(i o:List Int)(hi:In 256 i)(ho:In 256 o)(ni:i.length≤1000)(no:o.length≤1000){ρ:Type}(k:List Int→Option ρ) :
    P.abg l kd o i k=k (dig kd (o++dig kd (i++l.flatten))):=by
 have hd:=avx h
 have hdl:=ah1 h (i++l.flatten)
 have two:∀(x y:List Int),In 256 x→In 256 y→x.length+y.length≤1000000→∀(k:List Int→Option ρ),P.ng [x,y] kd k=k (dig kd (x++y)):=by
  intro x y hx hy hl k
  have e:[x,y].flatten=x++y:=by simp
  rw[az7 h [x,y] (by simp) (by rw[e];exact hx.app hy) (by rw[e,Ac];exact hl),e]
 rw[P.avn];unfold P.ali
 rw[jc l (by omega) (by omega),two _ _ hi hb (by omega),two _ _ ho (beu _ _) (by omega)]
end Q
end

section
/- mac: bytes of keys and of seeds. -/
namespace Q
open QK
open Go Go.Abs
def cat(T:Nat→List Int):Nat→List Int
 | 0=>[]
 | j+1=>cat T j++T j
theorem ab7{T:Nat→List Int}{d:Nat}(h:∀i,(T i).length=d):∀j,(cat T j).length=j*d
 | 0=>by simp[cat]
 | j+1=>by rw[cat,Ac,ab7 h j,h,Bz]
theorem aq6{T:Nat→List Int}(h:∀i,In 256 (T i)):∀j,In 256 (cat T j)
 | 0=>In.nil
 | j+1=>(aq6 h j).app (h j)
def cnt(d n:Nat):Nat:=(n+d-1)/d
theorem cnt_lt{d n i:Nat}(hd:0<d):i<cnt d n↔i*d<n:=by
 unfold cnt
 have:=Nat.le_div_iff_mul_le (x:=i+1) (y:=n+d-1) hd
 rw[Bz] at this
 omega
theorem bp8{d n:Nat}(hd:0<d):n≤cnt d n*d:=by
 have:=cnt_lt (i:=cnt d n) (n:=n) hd
 omega
theorem b1l{d n m:Nat}(h:n≤m*d)(hd:0<d):cnt d n≤m:=by
 have:=cnt_lt (i:=m) (n:=n) hd
 omega
def grow(T:Nat→List Int)(d n:Nat):List Int:=(cat T (cnt d n)).take n
theorem b0s{T:Nat→List Int}{d:Nat}(h:∀i,(T i).length=d)(hd:0<d)(n:Nat):(grow T d n).length=n:=by
 unfold grow
 have:=bp8 (n:=n) hd
 rw[Ae,ab7 h]
 omega
def maT(kd:Int)(seed:List Int)(i:Nat):List Int:=dig kd (seed++(bsw 8 4 i).reverse)
theorem agl{kd:Int}(h:1≤kd∧kd≤3)(seed:List Int)(hs:In 256 seed)(ns:seed.length≤100000)(n:Nat)(hn:n≤10000){ρ:Type}(k:List Int→Int→Option ρ) :
    P.agl kd seed (n:Int) k=k (grow (maT kd seed) (dl kd) n) 0:=by
 have hK:K7 kd:=K7.of (by omega)
 have hd:=avx hK
 have hc:cnt (dl kd) n≤n:=b1l (Bq n (by omega)) (by omega)
 have hcm:=bp8 (n:=n) (d:=dl kd) (by omega)
 have hl:=ab7 (T:=maT kd seed) (fun i=>ah1 hK _)
 rw[P.bet];unfold P.asi
 rw[bn (by omega),bn (by omega),bn (by omega),bn (by omega),P.bir]
 unfold P.bhg P.cek P.cbh P.cjz
 refine u7 (fun i=>(kd,seed,(n:Int),(i:Int),cat (maT kd seed) i)) (cnt (dl kd) n) rfl (fun i hi' next hnx=>?_) (fun next=>?_) (by omega)
 ·have hlt:=(cnt_lt (n:=n) (d:=dl kd) (i:=i) (by omega)).1 hi'
  have hli:=hl i
  have hlen:([seed,(bsw 8 4 i).reverse]:List (List Int)).flatten=seed++(bsw 8 4 i).reverse:=by simp
  simp only[P.axc]
  rw[bf (by omega),show (4:Int)=((4:Nat):Int) from rfl,yx i 4 (by omega) (by omega),iy _ (by simp) (by rw[hlen];simp;omega),hlen,sw hK _ (hs.app (bje 8 4 i).rev) (by simp;omega),bf (by rw[ah1 hK];omega),bt6,Bn (by omega) (by omega)]
  exact hnx
 ·have hlc:=hl (cnt (dl kd) n)
  simp only[P.axc]
  rw[bn (by omega),bf (by omega),bf (by omega),Aq]
  unfold grow
  simp
theorem ag6{kd:Int}(h:1≤kd∧kd≤3)(seed:List Int)(hs:In 256 seed)(ns:seed.length≤100000)(n:Nat)(hn:n≤10000){ρ:Type}(k:List Int→Int→Option ρ) :
    P.ag6 kd seed (n:Int) k=k (grow (maT kd seed) (dl kd) n) 0:=by
 have hK:K7 kd:=K7.of (by omega)
 have hd:=avx hK
 have hc:cnt (dl kd) n≤n:=b1l (Bq n (by omega)) (by omega)
 have hcm:=bp8 (n:=n) (d:=dl kd) (by omega)
 have hl:=ab7 (T:=maT kd seed) (fun i=>ah1 hK _)
 rw[P.bhh];unfold P.asw
 rw[bn (by omega),bn (by omega),bn (by omega),bn (by omega),bji,P.bi1]
 unfold P.bee P.cch P.cdi P.clf
 refine u7 (fun i=>(seed,(n:Int),kd,(i:Int),cat (maT kd seed) i)) (cnt (dl kd) n) rfl (fun i hi' next hnx=>?_) (fun next=>?_) (by omega)
 ·have hlt:=(cnt_lt (n:=n) (d:=dl kd) (i:=i) (by omega)).1 hi'
  have hli:=hl i
  have hlen:([seed,(bsw 8 4 i).reverse]:List (List Int)).flatten=seed++(bsw 8 4 i).reverse:=by simp
  simp only[P.awt]
  rw[bf (by omega),show (4:Int)=((4:Nat):Int) from rfl,y7 i 4 (by omega) (by omega),az7 hK _ (by simp) (by rw[hlen];exact hs.app (bje 8 4 i).rev) (by rw[hlen];simp;omega),hlen,bf (by rw[ah1 hK];omega),bt6,Bn (by omega) (by omega)]
  exact hnx
 ·have hlc:=hl (cnt (dl kd) n)
  simp only[P.awt]
  rw[bn (by omega),bf (by omega),bf (by omega),bf (by omega),bf (by omega),Aq,toNat_cast]
  rfl
end Q
end

section
/- SHA-2: bytes that are added one behind the other. -/
namespace Q
open Go Go.Abs
theorem bjy{w:Nat}(p:Par w)(v:List (BitVec w))(a b:List Int)(m:Nat)(hm:(2*w)*m=a.length):∀i,thr p v (a++b) (m+i)=thr p (thr p v a m) b i∧thr p v (a++b) m=thr p v a m:=by
 have key:∀i,i≤m→thr p v (a++b) i=thr p v a i:=by
  intro i
  induction i with
  | zero=>intro _;rfl
  | succ i ih =>
   intro hi
   have h1:(2*w)*i+2*w≤a.length:=by
    rw[←hm,←Bw]
    exact Nat.mul_le_mul (Bj _) hi
   simp only[thr]
   rw[ih (by omega),List.drop_append_of_le_length (by omega),Bh (by rw[Bp];omega)]
 intro i
 refine ⟨?_,key m (Bj _)⟩
 induction i with
 | zero=>exact key m (Bj _)
 | succ i ih =>
  rw[←Nat.add_assoc]
  simp only[thr]
  rw[ih,Nat.mul_add,hm,List.drop_append,Aj (by omega),Bg,Nat.add_sub_cancel_left]
end Q
end

section
/- lmots: the digits as the program and as the document count them. -/
namespace Q
open Go Go.Abs
theorem brc{w:Nat}{b:List Int}(hb:In (2^w) b)(t:Nat):∃x:Nat,b.getD t 0=(x:Int)∧x<2^w:=by
 have hp:((2:Int)^w)=((2^w:Nat):Int):=by simp
 have:=hb.getD t (by rw[hp];have:=p2 w;omega)
 rw[hp] at this
 exact ⟨(b.getD t 0).toNat,by omega,by omega⟩
end Q
end

section
/- wots: the digits of a text. -/
namespace Q
open Go Go.Abs
def N3(n:Nat):Prop:=n=16∨n=24∨n=32
def wl(n:Nat)(x:List Int):Nat:=15*(2*n)-sumTo (um x 4 ((2*n:Nat):Int)) (2*n)
def wd(n:Nat)(x:List Int):List Int:=um x 4 ((2*n:Nat):Int)++[((wl n x/2^8:Nat):Int),((wl n x/2^4%2^4:Nat):Int),((wl n x%2^4:Nat):Int)]
theorem atq(n:Nat)(x:List Int)(hl:x.length=n):(um x 4 ((2*n:Nat):Int)).length=2*n:=by
 rw[show (4:Int)=((4:Nat):Int) from rfl,bah x 4 (2*n) (by omega) (by omega) (by omega)];simp
theorem bvn(n:Nat)(x:List Int):In (2^4) (um x 4 ((2*n:Nat):Int)):=bvh x 4 _
theorem bts(n:Nat)(x:List Int)(hl:x.length=n):(wd n x).length=2*n+3:=by
 unfold wd;rw[Ac,atq n x hl];rfl
theorem b4z{n:Nat}(h:N3 n)(x:List Int):wl n x<961:=by
 unfold wl;rcases h with rfl | rfl | rfl<;>omega
theorem b39{n:Nat}(hn:N3 n)(x:List Int)(hl:x.length=n){ρ:Type}(k0:Int→Int→Int→List Int→Option ρ) :
    P.adn ((15*(2*n):Nat):Int) ((2*n:Nat):Int) 0 (um x 4 ((2*n:Nat):Int)) k0=k0 ((wl n x:Nat):Int) ((2*n:Nat):Int) ((2*n:Nat):Int) (um x 4 ((2*n:Nat):Int)):=by
 have hn2:n≤32:=by rcases hn with rfl | rfl | rfl<;>omega
 have hlen:=atq n x hl
 rw[P.az1]
 unfold P.au9 P.cdy P.cct P.cgg
 refine u7 (fun i=>(((15*(2*n)-sumTo (um x 4 ((2*n:Nat):Int)) i:Nat):Int),((2*n:Nat):Int),(i:Int),um x 4 ((2*n:Nat):Int))) (2*n) (by simp[sumTo]) (fun i hi next hn'=>?_) (fun next=>?_) (by omega)
 ·obtain ⟨d,hd,hd2⟩:=brc (w:=4) (bvn n x) i
  have hle:=sumTo_le (um x 4 ((2*n:Nat):Int)) 4 (bvn n x) (i+1)
  simp only[sumTo,hd,Int.toNat_natCast] at hn' hle
  simp only[P.anh,toNat_cast]
  rw[hd,show ((15*(2*n)-sumTo (um x 4 ((2*n:Nat):Int)) i:Nat):Int)-(d:Int)=((15*(2*n)-(sumTo (um x 4 ((2*n:Nat):Int)) i+d):Nat):Int) by omega,bv9 _ (by omega)]
  simp (disch:=omega) only[bf,bn,jd,dh,eu,gq,jv,oq,w9,l7,hlen]
  exact hn'
 ·simp only[P.anh]
  rw[bn (by omega)]
  rfl
theorem b8k(a:Nat)(h:a<4294967296):bits .and .u32 (a:Int) 15=((a%2^4:Nat):Int):=by
 rw[show (15:Int)=((2^4-1:Nat):Int) from rfl,b2v _ _ h (by omega),Bd]
theorem bxg{n:Nat}(hn:N3 n)(x:List Int)(hx:In 256 x)(hl:x.length=n){ρ:Type}(k:List Int→Option ρ) :
    (P.jr x (4:Int) (Aa.wrap ((2:Int)*((n:Nat):Int))) fun (q0:List Int) =>
            P.adn (A9.wrap (Aa.wrap ((15:Int)*(↑q0.length:Int)))) (↑q0.length:Int)
             (0:Int) q0 fun (q1 q2 q3:Int) (q4:List Int) =>
             br
              (decide
               ((q4.length +
                     ([bits BinOp.and A9 (q1.fdiv ((2:Int)^4)) (15:Int),
                               bits BinOp.and A9 q1 (15:Int)].length.add
                         0).succ) *
                   4 ≤
                140737488355328))
              (k
               (q4 ++
                [q1.fdiv ((2:Int)^8),
                 bits BinOp.and A9 (q1.fdiv ((2:Int)^4)) (15:Int),
                 bits BinOp.and A9 q1 (15:Int)]))
              none)=k (wd n x):=by
 have hn2:n≤32:=by rcases hn with rfl | rfl | rfl<;>omega
 have hlen:=atq n x hl
 have hlt:=b4z hn x
 rw[l7 (by omega) (by omega),show (2:Int)*(n:Int)=((2*n:Nat):Int) by omega,jr _ _ _ hx (by omega),hlen,l7 (x:=(15:Int)*((2*n:Nat):Int)) (by omega) (by omega),show (15:Int)*((2*n:Nat):Int)=((15*(2*n):Nat):Int) by omega,bv9 _ (by omega),b39 hn x hl,hlen]
 have e8:((wl n x:Nat):Int).fdiv ((2:Int)^8)=((wl n x/2^8:Nat):Int):=fdiv_pow _ 8 8 (by omega)
 have e4:((wl n x:Nat):Int).fdiv ((2:Int)^4)=((wl n x/2^4:Nat):Int):=fdiv_pow _ 4 4 (by omega)
 have hd:=Nat.div_le_self (wl n x) (2^4)
 rw[e8,e4,b8k _ (by omega),b8k _ (by omega),bf (by show (2*n+3)*4≤_;omega)]
 rfl
theorem yu{n:Nat}(hn:N3 n)(x:List Int)(hx:In 256 x)(hl:x.length=n){ρ:Type}(k:List Int→Option ρ):P.yu (n:Int) x k=k (wd n x):=by
 rw[P.av2]
 unfold P.ala
 have ht:=bxg hn x hx hl k
 rcases hn with rfl | rfl | rfl
 ·rw[dh (by rfl),dh (by rw[hl])]
  exact ht
 ·rw[jd (by decide),dh (by rfl),dh (by rw[hl])]
  exact ht
 ·rw[jd (by decide),jd (by decide),dh (by rfl),dh (by rw[hl])]
  exact ht
end Q
end

section
/- wots: kinds, places, digits, by the program and by the document. -/
namespace Q
open QK
open Go Go.Abs
def aak(N H D A K:Int):Prop:=(N=16∨N=24∨N=32)∧1≤D∧H≤68∧D≤H∧H.tmod D=0∧Aa.wrap (H.tdiv D)≤9∧1≤A∧A≤14∧1≤K∧K≤40
instance (N H D A K:Int):Decidable (aak N H D A K):=by unfold aak;infer_instance
theorem bm1(N H D A K:Int)(hN:N=16∨N=24∨N=32){ρ:Type}(k:Bool→Option ρ) :
    (br (decide (D<(1:Int))) (k false) (br (decide (H<D)) (k false) (br (decide (H>(68:Int))) (k false)
     (br (decide (D=(0:Int))) none (br (H.tmod D !=(0:Int)) (k false) (br (decide (D=(0:Int))) none
      (br (decide (Aa.wrap (H.tdiv D)>(9:Int))) (k false) (br (decide (A≥(1:Int)))
       (br (decide (A≤(14:Int))) (br (decide (K≥(1:Int))) (k (decide (K≤(40:Int)))) (k false)) (k false)) (k false)))))))))=k (decide (aak N H D A K)):=by
 by_cases h1:D<1
 ·rw[bf h1,decide_eq_false (by unfold aak;omega)]
 rw[bn h1]
 by_cases h2:H<D
 ·rw[bf h2,decide_eq_false (by unfold aak;omega)]
 rw[bn h2]
 by_cases h3:H>68
 ·rw[bf h3,decide_eq_false (by unfold aak;omega)]
 rw[bn h3,bn (by omega)]
 by_cases h4:H.tmod D=0
 ·rw[dh h4,bn (by omega)]
  by_cases h5:Aa.wrap (H.tdiv D)>9
  ·rw[bf h5,decide_eq_false (by unfold aak;omega)]
  rw[bn h5]
  by_cases h6:A≥1
  ·rw[bf h6]
   by_cases h7:A≤14
   ·rw[bf h7]
    by_cases h8:K≥1
    ·rw[bf h8]
     congr 1
     apply decide_eq_decide.2
     unfold aak
     omega
    ·rw[bn h8,decide_eq_false (by unfold aak;omega)]
   ·rw[bn h7,decide_eq_false (by unfold aak;omega)]
  ·rw[bn h6,decide_eq_false (by unfold aak;omega)]
 ·rw[jd h4,decide_eq_false (by unfold aak;omega)]
theorem jy(N H D A K:Int)(z:Bool){ρ:Type}(k:Bool→Option ρ):P.jy N H D A K z k=k (decide (aak N H D A K)):=by
 rw[P.bf5];unfold P.ar6
 by_cases h1:N=16
 ·rw[dh h1];exact bm1 N H D A K (.inl h1) k
 rw[jd h1]
 by_cases h2:N=24
 ·rw[dh h2];exact bm1 N H D A K (.inr (.inl h2)) k
 rw[jd h2]
 by_cases h3:N=32
 ·rw[dh h3];exact bm1 N H D A K (.inr (.inr h3)) k
 rw[jd h3,decide_eq_false (by unfold aak;omega)]
theorem bhq(N H D A K:Int)(hN:N=16∨N=24∨N=32){ρ:Type}(k:Bool→Option ρ) :
    (br (decide (D≥(1:Int))) (br (decide (H≤(68:Int))) (br (decide (H≥D)) (br (decide (D=(0:Int))) none
       (br (H.tmod D==(0:Int)) (br (decide (D=(0:Int))) none (br (decide (Aa.wrap (H.tdiv D)≤(9:Int)))
          (br (decide (A≥(1:Int))) (br (decide (A≤(14:Int))) (br (decide (K≥(1:Int))) (k (decide (K≤(40:Int)))) (k false)) (k false))
          (k false)) (k false))) (k false))) (k false)) (k false)) (k false))=k (decide (aak N H D A K)):=by
 by_cases h1:D≥1
 ·rw[bf h1]
  by_cases h3:H≤68
  ·rw[bf h3]
   by_cases h2:H≥D
   ·rw[bf h2,bn (by omega)]
    by_cases h4:H.tmod D=0
    ·rw[eu h4,bn (by omega)]
     by_cases h5:Aa.wrap (H.tdiv D)≤9
     ·rw[bf h5]
      by_cases h6:A≥1
      ·rw[bf h6]
       by_cases h7:A≤14
       ·rw[bf h7]
        by_cases h8:K≥1
        ·rw[bf h8]
         congr 1
         apply decide_eq_decide.2
         unfold aak
         omega
        ·rw[bn h8,decide_eq_false (by unfold aak;omega)]
       ·rw[bn h7,decide_eq_false (by unfold aak;omega)]
      ·rw[bn h6,decide_eq_false (by unfold aak;omega)]
     ·rw[bn h5,decide_eq_false (by unfold aak;omega)]
    ·rw[gq h4,decide_eq_false (by unfold aak;omega)]
   ·rw[bn h2,decide_eq_false (by unfold aak;omega)]
  ·rw[bn h3,decide_eq_false (by unfold aak;omega)]
 ·rw[bn h1,decide_eq_false (by unfold aak;omega)]
theorem kg(N H D A K:Int)(z:Bool){ρ:Type}(k:Bool→Option ρ):P.kg N H D A K z k=k (decide (aak N H D A K)):=by
 rw[P.bjm];unfold P.axp
 by_cases h1:N=16
 ·rw[dh h1];exact bhq N H D A K (.inl h1) k
 rw[jd h1]
 by_cases h2:N=24
 ·rw[dh h2];exact bhq N H D A K (.inr (.inl h2)) k
 rw[jd h2]
 by_cases h3:N=32
 ·rw[dh h3];exact bhq N H D A K (.inr (.inr h3)) k
 rw[jd h3,decide_eq_false (by unfold aak;omega)]
def bh9(a:List Int)(i:Nat)(b:List Int):List Int:=a.take i++b++a.drop (i+b.length)
theorem azg(a:List Int)(i:Nat)(b:List Int)(h:i+b.length≤a.length):(bh9 a i b).length=a.length:=by
 unfold bh9;simp;omega
theorem bmm{a:List Int}{i:Nat}{b:List Int}(ha:In 256 a)(hb:In 256 b):In 256 (bh9 a i b):=((ha.take i).app hb).app (ha.drop _)
def be4(n v:Nat):List Int:=(bsw 8 n v).reverse
theorem acz(n v:Nat):(be4 n v).length=n:=by simp[be4]
theorem bt2(n v:Nat):In 256 (be4 n v):=(bje 8 n v).rev
def ahx(a:List Int)(part:Int)(v:Nat):List Int :=
 if part=0 then bh9 a 0 (be4 4 v) else if part=1 then bh9 a 4 (be4 12 v) else if part=2 then bh9 a 16 (be4 4 v++Ab 12 0)
 else if part=3∨part=4∨part=5 then bh9 a (8+4*part.toNat) (be4 4 v) else a
theorem jg{a:List Int}(h:a.length=32)(part:Int)(v:Nat):(ahx a part v).length=32:=by
 unfold ahx
 have h4:=acz 4 v
 have h12:=acz 12 v
 split
 ·rw[azg _ _ _ (by omega),h]
 split
 ·rw[azg _ _ _ (by omega),h]
 split
 ·rw[azg _ _ _ (by rw[Ac,Al];omega),h]
 split
 ·rw[azg _ _ _ (by omega),h]
 exact h
theorem uo{a:List Int}(h:In 256 a)(part:Int)(v:Nat):In 256 (ahx a part v):=by
 unfold ahx
 split
 ·exact bmm h (bt2 _ _)
 split
 ·exact bmm h (bt2 _ _)
 split
 ·exact bmm h ((bt2 _ _).app (fun x hx=>by rw[List.mem_replicate] at hx;omega))
 split
 ·exact bmm h (bt2 _ _)
 exact h
theorem cpy(a:List Int)(i m:Nat)(b:List Int)(hb:b.length≤m):(a.take i).append (b.take m++a.drop (i+min m b.length))=bh9 a i b:=by
 rw[Af hb,Nat.min_eq_right hb]
 show a.take i++(b++_)=_
 rw[←Ah]
 rfl
theorem dz{a:List Int}(h:a.length=32)(part:Int)(v:Nat)(hv:v<18446744073709551616){ρ:Type}(k:List Int→Option ρ):P.dz a part (v:Int) k=k (ahx a part v):=by
 rw[P.bg0];unfold P.at0 ahx
 have h4:(bsw 8 4 v).reverse.length=4:=by simp
 have h12:(bsw 8 12 v).reverse.length=12:=by simp
 have be:∀(k':List Int→Option ρ),P.y7 (v:Int) 4 k'=k' (be4 4 v):=fun k'=>y7 v 4 hv (by omega) k'
 have be':∀(k':List Int→Option ρ),P.y7 (v:Int) 12 k'=k' (be4 12 v):=fun k'=>y7 v 12 hv (by omega) k'
 by_cases h0:part=0
 ·rw[eu h0,if_pos h0,be]
  exact congrArg k (by rw[←cpy a 0 4 (be4 4 v) (by rw[acz];omega)];rfl)
 rw[gq h0,if_neg h0]
 by_cases h1:part=1
 ·rw[eu h1,if_pos h1,be']
  exact congrArg k (cpy a 4 12 _ (by rw[acz];omega))
 rw[gq h1,if_neg h1]
 by_cases h2:part=2
 ·have e:[be4 4 v,Ab 12 (0:Int)].flatten=be4 4 v++Ab 12 0:=by simp
  rw[eu h2,if_pos h2,be,jc _ (by simp) (by rw[e];simp[acz]),e]
  exact congrArg k (cpy a 16 16 _ (by rw[Ac,acz,Al];omega))
 rw[gq h2,if_neg h2]
 have fin:∀(p:Nat),part=(p:Int)→3≤p→p≤5→(br (decide ((0:Int)≤Aa.wrap ((8:Int)+Aa.wrap ((4:Int)*part))))
     (br (decide (Aa.wrap ((8:Int)+Aa.wrap ((4:Int)*part))≤((32:Nat):Int)))
      (P.y7 (v:Int) (4:Int) fun (q4:List Int) =>
       k ((Br (Aa.wrap ((8:Int)+Aa.wrap ((4:Int)*part))).toNat a).append
        (Br (((32:Nat):Int)-Aa.wrap ((8:Int)+Aa.wrap ((4:Int)*part))).toNat q4 ++
         List.drop ((Aa.wrap ((8:Int)+Aa.wrap ((4:Int)*part))).toNat +
          min (((32:Nat):Int)-Aa.wrap ((8:Int)+Aa.wrap ((4:Int)*part))).toNat q4.length) a))) none) none)=k (bh9 a (8+4*part.toNat) (be4 4 v)):=by
  intro p hp h3 h5
  subst hp
  have e:Aa.wrap ((8:Int)+Aa.wrap ((4:Int)*(p:Int)))=((8+4*p:Nat):Int):=by
   rw[l7 (x:=4*(p:Int)) (by omega) (by omega),l7 (by omega) (by omega)];omega
  rw[e,bf (by omega),bf (by omega),be,show (((32:Nat):Int)-((8+4*p:Nat):Int)).toNat=24-4*p by omega,toNat_cast,toNat_cast]
  exact congrArg k (cpy a _ _ _ (by rw[acz];omega))
 by_cases h3:part=3
 ·rw[eu h3,eu h3,if_pos (.inl h3)]
  exact fin 3 h3 (by omega) (by omega)
 rw[gq h3]
 by_cases h4':part=4
 ·rw[eu h4',eu h4',if_pos (.inr (.inl h4'))]
  exact fin 4 h4' (by omega) (by omega)
 rw[gq h4']
 by_cases h5:part=5
 ·rw[eu h5,if_pos (.inr (.inr h5))]
  exact fin 5 h5 (by omega) (by omega)
 rw[gq h5,if_neg (by omega)]
theorem abq{a:List Int}(h:a.length=32)(i:Nat)(b:List Int)(hb:i+b.length≤32){ρ:Type}(k:List Int→Option ρ):P.abq a (i:Int) b k=k (bh9 a i b):=by
 rw[P.bkp];unfold P.av8
 rw[P.bmp];unfold P.bk5 P.cd6 P.cb4 P.clw
 refine u7 (fun j=>((i:Int),b,(j:Int),bh9 a i (b.take j),([0,0,0,0,0,0,0,0,0,0,0,0,0,0,0,0,0,0,0,0,0,0,0,0,0,0,0,0,0,0,0,0]:List Int))) b.length (by simp[bh9]) (fun j hj next hn=>?_) (fun next=>?_) (by omega)
 ·have e1:(bh9 a i (b.take j)).set (i+j) (b.getD j 0)=bh9 a i (b.take (j+1)):=by
    unfold bh9
    rw[Ae,Ae,Bf (by omega),Bf (by omega),aft a 0 (i+j) (by omega),b1s _ _ _ _ (i+j) (by simp;omega),List.take_succ_eq_append_getElem hj,getD_lt hj]
    simp only[Nat.add_assoc,Ah,Bu,Ac,List.length_singleton]
    done
  simp only[P.bag,toNat_cast]
  rw[bf (by omega),bf (by omega),bf (by omega),l7 (x:=(i:Int)+(j:Int)) (by omega) (by omega),bf (by omega),bf (by omega),l7 (by omega) (by omega),show ((i:Int)+(j:Int)).toNat=i+j by omega,e1]
  exact hn
 ·simp only[P.bag]
  rw[bn (by omega),List.take_length]
theorem jf{a:List Int}(h:a.length=32)(part:Int)(v:Nat)(hv:v<18446744073709551616){ρ:Type}(k:List Int→Option ρ):P.jf a part (v:Int) k=k (ahx a part v):=by
 rw[P.blb];unfold P.axm ahx
 have be:∀(k':List Int→Option ρ),P.yx (v:Int) 4 k'=k' (be4 4 v):=fun k'=>yx v 4 hv (by omega) k'
 have be':∀(k':List Int→Option ρ),P.yx (v:Int) 12 k'=k' (be4 12 v):=fun k'=>yx v 12 hv (by omega) k'
 by_cases h0:part=0
 ·rw[eu h0,if_pos h0,be]
  exact abq h 0 _ (by rw[acz];omega) _
 rw[gq h0,if_neg h0]
 by_cases h1:part=1
 ·rw[eu h1,if_pos h1,be']
  exact abq h 4 _ (by rw[acz];omega) _
 rw[gq h1,if_neg h1]
 by_cases h2:part=2
 ·have hl:=azg a 16 (be4 4 v) (by rw[acz];omega)
  rw[eu h2,if_pos h2,be]
  refine (abq h 16 _ (by rw[acz];omega) _).trans ((abq (by rw[hl,h]) 20 _ (by simp) _).trans (congrArg k ?_))
  unfold bh9
  have e1:(a.take 16++be4 4 v).length=20:=by rw[Ac,Ae,acz];omega
  rw[acz,Ac,acz,Al,Bh (by omega),Af (by omega),List.drop_append,Aj (by omega),e1,Ay,Ah (a.take 16)]
  rfl
 rw[gq h2,if_neg h2]
 have fin:∀(p:Nat),part=(p:Int)→3≤p→p≤5→(P.yx (v:Int) (4:Int) fun (q7:List Int)=>P.abq a (Aa.wrap ((8:Int)+Aa.wrap ((4:Int)*part))) q7 fun (q8:List Int)=>k q8)=k (bh9 a (8+4*part.toNat) (be4 4 v)):=by
  intro p hp h3 h5
  subst hp
  have e:Aa.wrap ((8:Int)+Aa.wrap ((4:Int)*(p:Int)))=((8+4*p:Nat):Int):=by
   rw[l7 (x:=4*(p:Int)) (by omega) (by omega),l7 (by omega) (by omega)];omega
  rw[e,be,abq h _ _ (by rw[acz];omega),toNat_cast]
 by_cases h3:part=3
 ·rw[eu h3,eu h3,if_pos (.inl h3)]
  exact fin 3 h3 (by omega) (by omega)
 rw[gq h3]
 by_cases h4':part=4
 ·rw[eu h4',eu h4',if_pos (.inr (.inl h4'))]
  exact fin 4 h4' (by omega) (by omega)
 rw[gq h4']
 by_cases h5:part=5
 ·rw[eu h5,if_pos (.inr (.inr h5))]
  exact fin 5 h5 (by omega) (by omega)
 rw[gq h5,if_neg (by omega)]
theorem b5m{n:Nat}(hn:N3 n)(x:List Int)(hl:x.length=n){ρ:Type}(k0:Int→Int→List Int→Option ρ) :
    P.afh 0 0 (um x 4 ((2*n:Nat):Int)) k0=k0 ((wl n x:Nat):Int) ((2*n:Nat):Int) (um x 4 ((2*n:Nat):Int)):=by
 have hn2:n≤32:=by rcases hn with rfl | rfl | rfl<;>omega
 have hlen:=atq n x hl
 rw[P.bds]
 unfold P.ayz P.cd0 P.cdd P.cme
 refine u7 (fun i=>(((15*i-sumTo (um x 4 ((2*n:Nat):Int)) i:Nat):Int),(i:Int),um x 4 ((2*n:Nat):Int))) (2*n) (by simp[sumTo]) (fun i hi next hn'=>?_) (fun next=>?_) (by omega)
 ·obtain ⟨d,hd,hd2⟩:=brc (w:=4) (bvn n x) i
  have hle:=sumTo_le (um x 4 ((2*n:Nat):Int)) 4 (bvn n x) i
  simp only[sumTo,hd,Int.toNat_natCast] at hn'
  simp only[P.apb,toNat_cast]
  rw[hd,bf (by omega),bf (by omega),bf (by omega),ad3 _ (by omega),l7 (by omega) (by omega),show ((15*i-sumTo (um x 4 ((2*n:Nat):Int)) i:Nat):Int)+(15:Int)=((15*i-sumTo (um x 4 ((2*n:Nat):Int)) i+15:Nat):Int) by omega,ad3 _ (by omega),
   show ((15*i-sumTo (um x 4 ((2*n:Nat):Int)) i+15:Nat):Int)-(d:Int)=((15*(i+1)-(sumTo (um x 4 ((2*n:Nat):Int)) i+d):Nat):Int) by omega,ad3 _ (by omega)]
  exact hn'
 ·simp only[P.apb]
  rw[bn (by omega)]
  rfl
theorem bxc(s:Nat)(h:s<961):um (bsw 8 2 (16*s)).reverse 4 3=[((s/2^8:Nat):Int),((s/2^4%2^4:Nat):Int),((s%2^4:Nat):Int)]:=by
 rw[show (4:Int)=((4:Nat):Int) from rfl,show (3:Int)=((3:Nat):Int) from rfl,bah _ 4 3 (by omega) (by omega) (by simp),List.reverse_reverse,b83]
 simp only[Am,ac0,dg,Ao,List.range_zero,Bg,Bb,List.map_cons,List.map_nil,List.cons_append]
 refine congr (congrArg _ ?_) (congr (congrArg _ ?_) (congrArg (·::[]) ?_))<;>omega
theorem b0j{n:Nat}(hn:N3 n)(x:List Int)(hx:In 256 x)(hl:x.length=n){ρ:Type}(k:List Int→Option ρ) :
    (P.pq x (4:Int) (Aa.wrap ((2:Int)*(n:Int))) fun (q0:List Int) =>
     P.afh (0:Int) (0:Int) q0 fun (q1 q2:Int) (q3:List Int) =>
      P.yx (Ad.wrap ((16:Int)*q1)) (2:Int) fun (q4:List Int) =>
       P.pq q4 (4:Int) (3:Int) fun (q5:List Int) =>
        br (decide ((q3.length+q5.length)*4≤140737488355328)) (k (q3++q5)) none)=k (wd n x):=by
 have hn2:n≤32:=by rcases hn with rfl | rfl | rfl<;>omega
 have hlen:=atq n x hl
 have hlt:=b4z hn x
 rw[l7 (by omega) (by omega),show (2:Int)*(n:Int)=((2*n:Nat):Int) by omega,pq _ _ _ hx (by omega),b5m hn x hl,show (16:Int)*((wl n x:Nat):Int)=((16*wl n x:Nat):Int) by omega,ad3 _ (by omega),show (2:Int)=((2:Nat):Int) from rfl,yx _ 2 (by omega) (by omega),pq _ _ _ (bje 8 2 _).rev (by simp),bxc _ hlt,bf (by rw[hlen];simp only[List.length_cons,List.length_nil];omega)]
 rfl
theorem aag{n:Nat}(hn:N3 n)(x:List Int)(hx:In 256 x)(hl:x.length=n){ρ:Type}(k:List Int→Option ρ):P.aag (n:Int) x k=k (wd n x):=by
 rw[P.azi]
 unfold P.anu
 have ht:=b0j hn x hx hl k
 rcases hn with rfl | rfl | rfl
 ·rw[dh (by rfl),dh (by rw[hl])]
  exact ht
 ·rw[jd (by decide),dh (by rfl),dh (by rw[hl])]
  exact ht
 ·rw[jd (by decide),jd (by decide),dh (by rfl),dh (by rw[hl])]
  exact ht
end Q
end
