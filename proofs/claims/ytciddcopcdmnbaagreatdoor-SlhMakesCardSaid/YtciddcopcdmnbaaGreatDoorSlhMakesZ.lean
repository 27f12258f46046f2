/-
  SlhMakes, part 26: an interpreter of my own over abstract values, the pure functions, the walks and the plain law.
-/

import Derived.Test.YtciddcopcdmnbaaGreatDoorSlhMakesY
import Derived.Test.YtciddcopcdmnbaaGreatDoorSlhMakesM
import Derived.Test.YtciddcopcdmnbaaGreatDoorSlhMakesL
import Derived.Test.YtciddcopcdmnbaaGreatDoorSlhMakesI
import Derived.Test.YtciddcopcdmnbaaGreatDoorSlhMakesK
open Go.IntKind renaming i64 → Aa, u64 → Ad, u32 → Bc
open List renaming replicate → Ab, length_append → Ac, take_of_length_le → Ae, length_take → Af, drop_eq_nil_of_le → Ag, take → Ah, range → Ai, append_assoc → Aj, length_replicate → Ak, set_append_right → Am, drop → Ao, drop_zero → Ap, length_reverse → Aq, getD_eq_getElem?_getD → Ar, range_succ → Av, set_cons_zero → Aw, nil_append → Ay, drop_drop → Az, getElem?_append_right → A8, drop_eq_getElem_cons → A9, length_range → Bb, length_map → Bd, append_nil → Bf, take_append_of_le_length → Bj, mem_replicate → Bo, ext_getElem → Bp, length_drop → Br, drop_append → Bt, map_append → Bu, singleton_append → Bw, replicate_succ' → Bz
open BitVec renaming ofInt → Al, toNat_ofInt → Bn
open Nat renaming sub_self → Au, and_two_pow_sub_one_eq_mod → Bg, min_eq_left → Bh, le_refl → Bl, mul_succ → Bq, zero_le → Bv, mod_lt → Ca, succ_mul → Cb
open Int renaming eq_ofNat_of_zero_le → Ba

section
/- SHA-2: the document's block of words of 64 bits. -/
namespace Q
open Go Go.Abs
set_option linter.unusedVariables false
set_option linter.unusedSimpArgs false
theorem ao5(x:BitVec 64)(m:Int)(n:Nat)(hm:m=(n:Int))(hn:n≤64){ρ:Type}(k:Int→Option ρ):P.aal (x.toNat:Int) m true k=k ((rr x n).toNat:Int):=by
 subst hm
 rw[P.aku]
 unfold P.af6
 rw[p9,dh (by omega),qc (by omega) (by omega),dh (by omega),show (64:Int)-(n:Int)=((64-n:Nat):Int) by omega]
 simp only[toNat_cast]
 rw[bmw _ _ hn,bwb _ _ (by omega),b3b]
 rfl
theorem btl(x:BitVec 64)(t:Nat×Nat×Nat)(a b c:Int)(ha:a=(t.1:Int))(hb:b=(t.2.1:Int))(hc:c=(t.2.2:Int))(h1:t.1≤64)(h2:t.2.1≤64)(h3:t.2.2≤64){ρ:Type}(k:Int→Option ρ) :
    P.aar (x.toNat:Int) a b c false true k=k ((hi t x).toNat:Int):=by
 rw[P.agr]
 unfold P.adn
 rw[dh (by omega),jo,yg,ao5 _ _ _ hc h3,ao5 _ _ _ ha h1,ao5 _ _ _ hb h2,anp,anp]
 rfl
theorem bt5(x:BitVec 64)(t:Nat×Nat×Nat)(a b c:Int)(ha:a=(t.1:Int))(hb:b=(t.2.1:Int))(hc:c=(t.2.2:Int))(h1:t.1≤64)(h2:t.2.1≤64)(h3:t.2.2≤64){ρ:Type}(k:Int→Option ρ) :
    P.aar (x.toNat:Int) a b c true true k=k ((lo t x).toNat:Int):=by
 rw[P.agr]
 unfold P.adn
 rw[dh (by omega),jo,p9,ao5 _ _ _ ha h1,ao5 _ _ _ hb h2,anp,hc]
 simp only[toNat_cast]
 rw[bmw _ _ h3,anp]
 rfl
theorem b6d(a b c d:BitVec 64):bits .and .u64 (Ad.wrap (Ad.wrap (Ad.wrap ((a.toNat:Int)+(b.toNat:Int))+(c.toNat:Int))+(d.toNat:Int))) 18446744073709551615=((a+b+c+d).toNat:Int):=by
 rw[aoc,aoc,aoc,bsx _ (brr _)]
theorem b8d(a b:BitVec 64):bits .and .u64 (Ad.wrap ((a.toNat:Int)+(b.toNat:Int))) 18446744073709551615=((a+b).toNat:Int):=by
 rw[aoc,bsx _ (brr _)]
theorem b9y(d a b c e f:BitVec 64):bits .and .u64 (Ad.wrap ((d.toNat:Int)+Ad.wrap (Ad.wrap (Ad.wrap (Ad.wrap ((a.toNat:Int)+(b.toNat:Int))+(c.toNat:Int))+(e.toNat:Int))+(f.toNat:Int)))) 18446744073709551615=((d+(a+b+c+e+f)).toNat:Int):=by
 rw[aoc,aoc,aoc,aoc,aoc,bsx _ (brr _)]
theorem b7d(a b c e f g h:BitVec 64):bits .and .u64 (Ad.wrap (Ad.wrap (Ad.wrap (Ad.wrap (Ad.wrap ((a.toNat:Int)+(b.toNat:Int))+(c.toNat:Int))+(e.toNat:Int))+(f.toNat:Int))+Ad.wrap ((g.toNat:Int)+(h.toNat:Int)))) 18446744073709551615=(((a+b+c+e+f)+(g+h)).toNat:Int):=by
 rw[aoc,aoc,aoc,aoc,aoc,aoc,bsx _ (brr _)]
theorem cbe(e f g:BitVec 64):bits .xor .u64 (bits .and .u64 (e.toNat:Int) (f.toNat:Int)) (bits .and .u64 (bits .xor .u64 18446744073709551615 (e.toNat:Int)) (g.toNat:Int))=((g ^^^ (e &&& (f ^^^ g))).toNat:Int):=by
 rw[show (18446744073709551615:Int)=((BitVec.allOnes 64).toNat:Int) from rfl,bjx,anp,bjx,anp,bz2]
theorem b21(a b c:BitVec 64):bits .xor .u64 (bits .xor .u64 (bits .and .u64 (a.toNat:Int) (b.toNat:Int)) (bits .and .u64 (a.toNat:Int) (c.toNat:Int))) (bits .and .u64 (b.toNat:Int) (c.toNat:Int))=(((a &&& b) ||| (c &&& (a ||| b))).toNat:Int):=by
 rw[bjx,bjx,bjx,anp,anp,bth]
def axz(b:List Int)(t:Nat):List (BitVec 64):=(Ai t).map (W p64 (og 64 b 16))
theorem bcx(b:List Int)(t:Nat):axz b (t+1)=axz b t++[W p64 (og 64 b 16) t]:=by simp[axz,Av]
theorem bhz(b:List Int)(t:Nat):(axz b t).length=t:=by simp[axz]
theorem aub(b:List Int)(t i:Nat)(h:i<t):(axz b t).getD i 0=W p64 (og 64 b 16) i:=by
 unfold axz
 rw[getD_lt (by simpa using h)];simp
theorem bu2(b:List Int)(t:Nat)(h:t<16):W p64 (og 64 b 16) t=BitVec.ofNat 64 (T 8 ((b.take ((t+1)*8)).drop (t*8)).reverse):=by
 rw[←btb p64 _ (by rw[u7];omega) 0 t (by rw[u7];omega),show sched p64 (og 64 b 16) 0=og 64 b 16 from rfl,getD_lt (by rw[u7];exact h)]
 simp[og]
theorem bpi(b:List Int)(hb:In 256 b)(hl:b.length=16*8){ρ:Type}(k:List Int→Option ρ):P.adt b true 80 18446744073709551615 k=k (cv (axz b 80)):=by
 rw[P.apb]
 unfold P.aiw
 rw[p9,P.ao0]
 unfold P.ap2 P.b04 P.bw9 P.b4g
 refine yu (fun t=>(b,true,80,18446744073709551615,8,(t:Int),cv (axz b t))) 80 rfl (fun t ht next hn'=>?_) (fun next=>?_) (by omega)
 ·simp only[P.aht,toNat_cast]
  have e1:Aa.wrap ((t:Int)+1)=((t+1:Nat):Int):=by rw[qc (by omega) (by omega)];omega
  rw[bg (by omega)]
  have hlen:=bhz b t
  by_cases h16:t<16
  ·have e2:Aa.wrap ((t:Int)*8)=((t*8:Nat):Int):=by rw[qc (by omega) (by omega)];omega
   have e3:Aa.wrap (Aa.wrap ((t:Int)*8)+8)=(((t+1)*8:Nat):Int):=by rw[e2,qc (by omega) (by omega)];omega
   have hl2:((b.take ((t+1)*8)).drop (t*8)).length=8:=by simp;omega
   rw[bg (by omega),e3,e2,bg (by omega),bg (by omega),bg (by omega)]
   simp only[toNat_cast]
   have hT:=b25 8 ((b.take ((t+1)*8)).drop (t*8)).reverse
   rw[Aq,hl2] at hT
   have e4:((T 8 ((b.take ((t+1)*8)).drop (t*8)).reverse%2^64:Nat):Int)=((W p64 (og 64 b 16) t).toNat:Int):=by
    rw[bu2 b t h16,BitVec.toNat_ofNat]
   rw[aek _ ((hb.take _).drop _) (by omega),bg (by rw[zi];omega),e4,e1,show [((W p64 (og 64 b 16) t).toNat:Int)]=cv [W p64 (og 64 b 16) t] from rfl,ahi,←bcx]
   exact hn'
  ·have e15:Aa.wrap ((t:Int)-15)=((t-15:Nat):Int):=by rw[qc (by omega) (by omega)];omega
   have e2:Aa.wrap ((t:Int)-2)=((t-2:Nat):Int):=by rw[qc (by omega) (by omega)];omega
   have e7:Aa.wrap ((t:Int)-7)=((t-7:Nat):Int):=by rw[qc (by omega) (by omega)];omega
   have e16:Aa.wrap ((t:Int)-16)=((t-16:Nat):Int):=by rw[qc (by omega) (by omega)];omega
   simp only[e15,e2,e7,e16,toNat_cast,ah4,zi,hlen]
   rw[aub b t _ (by omega),aub b t _ (by omega),aub b t _ (by omega),aub b t _ (by omega)]
   obtain ⟨q1,m1⟩:=bk7 ((W p64 (og 64 b 16) (t-15)).toNat:Int) 7 18 3 7 18 3 rfl rfl rfl (by omega) (by omega) (by omega)
   obtain ⟨q2,m2⟩:=bk7 ((W p64 (og 64 b 16) (t-2)).toNat:Int) 17 19 10 17 19 10 rfl rfl rfl (by omega) (by omega) (by omega)
   rw[dh (by omega),bg (by omega),bg (by omega),m1,bg (by omega),bg (by omega),m2,p9,bg (by omega),bg (by omega),bt5 _ p64.a _ _ _ (by rfl) (by rfl) (by rfl) (by decide) (by decide) (by decide),bg (by omega),bg (by omega),bt5 _ p64.b _ _ _ (by rfl) (by rfl) (by rfl) (by decide) (by decide) (by decide)]
   have hW:=bkz p64 (og 64 b 16) (u7 b 16) (t-16)
   rw[show t-16+16=t by omega,show t-16+1=t-15 by omega,show t-16+9=t-7 by omega,show t-16+14=t-2 by omega] at hW
   have hW2:lo p64.b (W p64 (og 64 b 16) (t-2))+W p64 (og 64 b 16) (t-7)+lo p64.a (W p64 (og 64 b 16) (t-15))+W p64 (og 64 b 16) (t-16)=W p64 (og 64 b 16) t:=by rw[hW];ac_rfl
   rw[bg (by omega),bg (by omega),bg (by omega),bg (by omega),bg (by omega),b6d,hW2,e1,show [((W p64 (og 64 b 16) t).toNat:Int)]=cv [W p64 (og 64 b 16) t] from rfl,ahi,←bcx]
   exact hn'
 ·simp only[P.aht]
  rw[dh (by omega)]
theorem bui(b:List Int)(v:List (BitVec 64))(hv:v.length=8)(h0 h1:List Int){ρ:Type}(k0:Bool→Int→Int→Int→List Int→List Int→List Int→List Int→List Int→List Int→Option ρ) :
    P.aff true 80 18446744073709551615 0 h0 h1 P.roots256 P.roots512 (cv (axz b 80)) (cv v) k0=k0 true 80 18446744073709551615 80 h0 h1 P.roots256 P.roots512 (cv (axz b 80)) (cv (runs p64 (og 64 b 16) v 80)):=by
 rw[P.an2]
 unfold P.amt P.b0g P.bw6 P.b4r
 refine yu (fun t=>(true,80,18446744073709551615,(t:Int),h0,h1,P.roots256,P.roots512,cv (axz b 80),cv (runs p64 (og 64 b 16) v t))) 80 rfl (fun t ht next hn'=>?_) (fun next=>?_) (by omega)
 ·simp only[P.afl]
  have e1:Aa.wrap ((t:Int)+1)=((t+1:Nat):Int):=by rw[qc (by omega) (by omega)];omega
  have hlen:=bhz b 80
  simp only[e1,toNat_cast,ah4,zi,hlen]
  rw[aub b 80 t ht,K64]
  obtain ⟨q1,m1⟩:=bos (((runs p64 (og 64 b 16) v t).getD 0 0).toNat:Int) 2 13 22 2 13 22 rfl rfl rfl (by omega) (by omega) (by omega)
  obtain ⟨q2,m2⟩:=bos (((runs p64 (og 64 b 16) v t).getD 4 0).toNat:Int) 6 11 25 6 11 25 rfl rfl rfl (by omega) (by omega) (by omega)
  rw[bg (by omega),m1,m2,p9,btl _ p64.c _ _ _ (by rfl) (by rfl) (by rfl) (by decide) (by decide) (by decide),btl _ p64.d _ _ _ (by rfl) (by rfl) (by rfl) (by decide) (by decide) (by decide)]
  rw[bg (by omega),bg (by omega),bg (by omega),bg (by omega),cbe,b21,b7d,b9y]
  exact hn'
 ·simp only[P.afl]
  rw[dh (by omega)]
  rfl
theorem buk(v u:List (BitVec 64))(hv:v.length=8)(hu:u.length=8)(h1:List Int){ρ:Type}(k0:Int→Int→List Int→List Int→List Int→Option ρ) :
    P.afk 18446744073709551615 0 (cv v) h1 (cv u) k0=k0 18446744073709551615 8 (cv v) h1 (cv ((Ai 8).map fun i=>u.getD i 0+v.getD i 0)):=by
 rw[P.aob]
 unfold P.amq P.b0o P.bw2 P.b3i
 refine yu (fun i=>(18446744073709551615,(i:Int),cv v,h1,cv (((Ai i).map fun i=>u.getD i 0+v.getD i 0)++u.drop i))) 8 (by simp) (fun i hi next hn'=>?_) (fun next=>?_) (by omega)
 ·simp only[P.afr,toNat_cast,ah4]
  have e1:Aa.wrap ((i:Int)+1)=((i+1:Nat):Int):=by rw[qc (by omega) (by omega)];omega
  have e2:(((Ai i).map fun i=>u.getD i 0+v.getD i 0)++u.drop i).getD i 0=u.getD i 0:=by
   rw[Ar,A8 (by simp),List.getElem?_drop,Bd,Bb,Ar]
   congr 2
   omega
  rw[e1,e2,b8d,bb4]
  have e3:(((Ai i).map fun i=>u.getD i 0+v.getD i 0)++u.drop i).set i (u.getD i 0+v.getD i 0)=((Ai (i+1)).map fun i=>u.getD i 0+v.getD i 0)++u.drop (i+1):=by
   rw[Am _ _ (by simp),Bd,Bb,Au,Av,Bu,Aj,A9 (by omega),Aw]
   rfl
  rw[e3]
  simp (disch:=omega) only[bg,dh,jd,eu,gu,iw,jo,p9,yg,qc]
  exact hn'
 ·simp only[P.afr]
  rw[dh (by omega),Ag (by omega),Bf]
  rfl
theorem boc(v:List (BitVec 64))(hv:v.length=8)(b:List Int)(hb:In 256 b)(hl:b.length=16*8){ρ:Type}(k:List Int→Option ρ):P.aen (cv v) b true k=k (cv (bau p64 v b)):=by
 rw[P.apx]
 unfold P.ai2
 have hr1:∀(k:List Int→Option ρ),P.aac k=k P.roots256:=fun k=>by rw[P.ajh];kernel_rfl
 have hr2:∀(k:List Int→Option ρ),P.aad k=k P.roots512:=fun k=>by rw[P.akd];kernel_rfl
 rw[hr1,hr2,p9,bpi b hb hl,bui b v hv,buk v _ hv (ap9 _ _ _ hv _)]
 rfl
end Q
end

section
/- bits, the first part: texts. -/
namespace Q
open Go Go.Abs
set_option linter.unusedVariables false
set_option linter.unusedSimpArgs false
theorem bom{a b:List Int}(hl:a.length=b.length)(hs:a.length≤140737488355328){ρ:Type}(k0:List Int→List Int→Int→Option ρ)(k1:Bool→Option ρ) :
    ∀(m i:Nat),i+m=a.length→∀{stp:(List Int×List Int×Int)→((List Int×List Int×Int)→Option ρ)→((List Int×List Int×Int) ⊕ Bool→Option ρ)→Option ρ} {K:(List Int×List Int×Int) ⊕ Bool→Option ρ},
     (∀(j:Nat) next,stp (a,b,(j:Int)) next K=br (decide ((j:Int)<(a.length:Int))) (br (a.getD j 0 !=b.getD j 0) (k1 false) (next (a,b,((j+1:Nat):Int)))) (k0 a b (j:Int))) →
     lp stp (a,b,(i:Int)) K=if a.drop i=b.drop i then k0 a b (a.length:Int) else k1 false:=by
 intro m i hm stp K hst
 refine b8q (P:=fun x=>∃j:Nat,x=(a,b,(j:Int))∧j≤a.length∧(if a.drop j=b.drop j then k0 a b (a.length:Int) else k1 false)=(if a.drop i=b.drop i then k0 a b (a.length:Int) else k1 false)) (μ:=fun x=>((a.length:Int)-x.2.2).toNat) ?_ ⟨i,rfl,by omega,rfl⟩ (by simp only;omega)
 rintro _ ⟨j,rfl,hj,he⟩ next hn
 rw[hst,←he]
 by_cases hji:j<a.length
 ·rw[bg (by omega),afh a 0 j hji,afh b 0 j (by omega)]
  by_cases hab:a.getD j 0=b.getD j 0
  ·rw[eu hab,hn _ ⟨j+1,rfl,by omega,?_⟩ (by simp only;omega),←he,afh a 0 j hji,afh b 0 j (by omega)]
   ·rw[←he,afh a 0 j hji,afh b 0 j (by omega)]
    simp only[hab,List.cons.injEq,true_and]
  ·rw[jd hab,if_neg (by simp only[List.cons.injEq];exact fun h=>hab h.1)]
 ·have:j=a.length:=by omega
  subst this
  rw[dh (by omega),if_pos (by rw[Ag (Bl _),Ag (by omega)])]
theorem ab4(a b:List Int)(h:a.length≤140737488355328){ρ:Type}(k:Bool→Option ρ):P.ab4 a b k=k (decide (a=b)):=by
 rw[P.ayu]
 unfold P.ap3
 by_cases hl:a.length=b.length
 ·rw[eu (by omega),P.bbl]
  unfold P.azv P.b4b P.b2w P.ccz
  have:=bom hl h (fun _ _ _=>k true) k a.length 0 (by omega) (stp:=(fun x next ex=>P.as6 x.1 x.2.1 x.2.2 (fun v0 v1 v5=>next (v0,v1,v5)) (fun v0 v1 v5=>ex (.inl (v0,v1,v5))) (fun v4=>ex (.inr v4)))) (K:=Sum.elim (fun _=>k true) k) (by
   intro j next
   simp only[P.as6,Sum.elim_inl,Sum.elim_inr]
   by_cases hj:(j:Int)<(a.length:Int)
   ·simp only[bg hj]
    simp (disch:=omega) only[bg,dh,jd,eu,gu,iw,jo,p9,yg,qc,toNat_cast]
    rfl
   ·simp only[dh hj])
  simp only[Ap] at this
  refine this.trans ?_
  by_cases hab:a=b
  ·rw[if_pos hab,decide_eq_true hab]
  ·rw[if_neg hab,decide_eq_false hab]
 ·rw[jd (by omega),decide_eq_false (fun e=>hl (by rw[e]))]
end Q
end

section
/- bits: the law's own test. -/
namespace Q
open Go Go.Abs
set_option linter.unusedVariables false
set_option linter.unusedSimpArgs false
end Q
end

section
/- bits: Same, Join. -/
namespace Q
open Go Go.Abs
set_option linter.unusedVariables false
set_option linter.unusedSimpArgs false
def diff(a b:List Int)(i:Nat):Int:=(Ai i).foldl (fun acc j=>bits .or .u8 acc (bits .xor .u8 (a.getD j 0) (b.getD j 0))) 0
theorem bie(a b:List Int)(i:Nat):diff a b (i+1)=bits .or .u8 (diff a b i) (bits .xor .u8 (a.getD i 0) (b.getD i 0)):=by
 simp[diff,Av]
theorem bg2(a b:List Int)(ha:In 256 a)(hb:In 256 b):∀i,(0≤diff a b i∧diff a b i<256)∧(diff a b i=0↔∀j,j<i→a.getD j 0=b.getD j 0)
 | 0=>⟨⟨by simp[diff],by simp[diff]⟩,by simp[diff]⟩
 | i+1=>by
  obtain ⟨h1,h2⟩:=bg2 a b ha hb i
  rw[bie]
  have hx:=ha.getD i (by omega)
  have hy:=hb.getD i (by omega)
  obtain ⟨d,hd⟩:=Ba h1.1
  obtain ⟨x,hx'⟩:=Ba hx.1
  obtain ⟨y,hy'⟩:=Ba hy.1
  rw[hd,hx',hy',bzg x y (by omega) (by omega),cbx d _ (by omega) (Nat.xor_lt_two_pow (n:=8) (show x<2^8 by omega) (show y<2^8 by omega))]
  have hb:d ||| (x ^^^ y)<256:=Nat.or_lt_two_pow (n:=8) (show d<2^8 by omega) (Nat.xor_lt_two_pow (n:=8) (show x<2^8 by omega) (show y<2^8 by omega))
  refine ⟨⟨by omega,by omega⟩,?_⟩
  rw[show (((d ||| (x ^^^ y):Nat):Int)=0↔(d ||| (x ^^^ y))=0) by omega,Nat.or_eq_zero_iff,xor_zero]
  constructor
  ·rintro ⟨h0,hxy⟩ j hj
   by_cases hji:j=i
   ·subst hji;rw[hx',hy',hxy]
   ·exact h2.1 (by omega) j (by omega)
  ·intro h
   refine ⟨?_,?_⟩
   ·have:=h2.2 (fun j hj=>h j (by omega));omega
   ·have:=h i (by omega);rw[hx',hy'] at this;omega
theorem zf(a b:List Int)(ha:In 256 a)(hb:In 256 b)(h:a.length≤140737488355328){ρ:Type}(k:Bool→Option ρ):P.zf a b k=k (decide (a=b)):=by
 rw[P.awt]
 unfold P.amv
 by_cases hl:a.length=b.length
 ·rw[eu (by omega),P.azi]
  unfold P.aw8 P.b4u P.b2r P.b49
  refine bqf (fun i=>(a,b,diff a b i,(a.length:Int),(i:Int))) a.length (fun i hi next hn=>?_) (fun next=>?_) (Bv _) (by omega)
  ·simp only[P.ap5,toNat_cast]
   simp (disch:=omega) only[bg,dh,jd,eu,gu,iw,jo,p9,yg,qc]
   rw[←bie]
   exact hn
  ·simp only[P.ap5]
   rw[dh (by omega)]
   congr 1
   have:=(bg2 a b ha hb a.length).2
   by_cases hab:a=b
   ·rw[decide_eq_true hab,beq_iff_eq,this]
    subst hab;exact fun _ _=>rfl
   ·rw[decide_eq_false hab,beq_eq_false_iff_ne]
    intro h0
    refine hab (Bp hl (fun i h1 h2=>?_))
    have:=this.1 h0 i h1
    rw[getD_lt h1,getD_lt h2] at this
    exact this
 ·rw[jd (by omega),decide_eq_false (fun e=>hl (by rw[e]))]
def joined(l:List (List Int))(i:Nat):List Int:=(l.take i).flatten
theorem asq(l:List (List Int))(i:Nat)(h:i<l.length):joined l (i+1)=joined l i++l.getD i []:=by
 unfold joined
 rw[←apm l [] i h,List.flatten_append];simp
theorem avo(l:List (List Int)):joined l l.length=l.flatten:=by unfold joined;rw[List.take_length]
theorem bak(l:List (List Int))(i:Nat):(joined l i).length≤l.flatten.length:=by
 unfold joined
 have:l.flatten=(l.take i).flatten++(l.drop i).flatten:=by rw[←List.flatten_append,List.take_append_drop]
 rw[this,Ac];omega
theorem oh(l:List (List Int))(h:l.length≤140737488355328)(h2:l.flatten.length≤140737488355328){ρ:Type}(k:List Int→Option ρ):P.oh l k=k l.flatten:=by
 rw[P.azn]
 unfold P.aon
 rw[P.bbq]
 unfold P.ayc P.b4p P.byt P.b5d
 refine bqf (fun i=>(l,(i:Int),joined l i)) l.length (fun i hi next hn=>?_) (fun next=>?_) (Bv _) (by omega)
 ·have e:=asq l i hi
  have h3:=bak l (i+1)
  rw[e,Ac] at h3
  simp only[P.as5,toNat_cast]
  simp (disch:=omega) only[bg,dh,jd,eu,gu,iw,jo,p9,yg,qc]
  rw[←e]
  exact hn
 ·simp only[P.as5]
  rw[dh (by omega),avo]
theorem qo(n:Nat)(h:n≤140737488355328){ρ:Type}(k:List Int→Option ρ):P.qo (n:Int) k=k []:=by
 rw[P.ajg]
 unfold P.aeg
 rw[dh (by omega),show Aa.wrap ((0:Int)-(0:Int))=0 by decide]
 rw[qc (by omega) (by omega)]
 by_cases h0:n=0
 ·subst h0;rw[dh (by omega)]
 ·rw[bg (by omega),bg (by omega),bg (by omega)];rfl
theorem jr(l:List (List Int))(h:l.length≤140737488355328)(h2:l.flatten.length≤140737488355328){ρ:Type}(k:List Int→Option ρ):P.jr l k=k l.flatten:=by
 rw[P.ahh]
 unfold P.ach
 rw[P.al3]
 unfold P.ahk P.zk1 P.zs1 P.zu1
 refine bqf (fun i=>(l,((joined l i).length:Int),l,(l.length:Int),(i:Int))) l.length (fun i hi next hn=>?_) (fun next=>?_) (Bv _) (by omega)
 ·have e:=asq l i hi
  have h3:=bak l (i+1)
  have e2:((joined l i).length:Int)+((l.getD i []).length:Int)=((joined l (i+1)).length:Int):=by rw[e,Ac];omega
  simp only[P.ac2,toNat_cast,e2]
  simp (disch:=omega) only[bg,dh,jd,eu,gu,iw,jo,p9,yg,qc]
  exact hn
 ·simp only[P.ac2]
  rw[dh (by omega),avo,qo _ h2,P.ak7]
  unfold P.agc P.zk2 P.zs2 P.zu2
  refine bqf (fun i=>(l,(l.length:Int),(i:Int),joined l i)) l.length (fun i hi next hn=>?_) (fun next=>?_) (Bv _) (by omega)
  ·have e:=asq l i hi
   have h3:=bak l (i+1)
   rw[e,Ac] at h3
   simp only[P.ace,toNat_cast]
   simp (disch:=omega) only[bg,dh,jd,eu,gu,iw,jo,p9,yg,qc]
   rw[←e]
   exact hn
  ·simp only[P.ace]
   rw[dh (by omega),avo]
theorem jc(l:List (List Int))(h:l.length≤140737488355328)(h2:l.flatten.length≤140737488355328){ρ:Type}(k:List Int→Option ρ):P.jc l k=k l.flatten:=by
 rw[P.axj]
 unfold P.anf
 exact jr l h h2 k
end Q
end

section
/- lmots: digits. -/
namespace Q
open Go Go.Abs
set_option linter.unusedVariables false
set_option linter.unusedSimpArgs false
theorem aay(N s:Nat)(hN:N<18446744073709551616)(hs:s≤65536){ρ:Type}(k:List Int→Option ρ):P.aay (N:Int) (s:Int) k=k (bsw 8 s N).reverse:=by
 rw[P.bh5]
 unfold P.av5
 simp only[toNat_cast]
 simp (disch:=omega) only[bg,dh,jd,eu,gu,iw,jo,p9,yg,qc]
 rw[P.bgp]
 unfold P.bha P.b4a P.b2q P.cce
 refine yu (fun j=>(((N/2^(8*j):Nat):Int),(s:Int)-1-(j:Int),Ab (s-j) 0++(bsw 8 j N).reverse)) s (by simp[bsw]) (fun j hj next hn'=>?_) (fun next=>?_) (by omega)
 ·simp only[P.azl,Ac,Ak,Aq,ad4]
  rw[show (s:Int)-1-(j:Int)=((s-1-j:Nat):Int) by omega]
  simp only[toNat_cast]
  have hd:=Nat.div_le_self N (2^(8*j))
  have hb:bits .and .u64 ((N/2^(8*j):Nat):Int) 255=((N/2^(8*j)%2^8:Nat):Int):=by
   rw[show (255:Int)=((2^8-1:Nat):Int) from rfl,ao6 _ _ (by omega) (by omega),Bg]
  have hd2:(((N/2^(8*j):Nat):Int)).fdiv ((2:Int)^8)=((N/2^(8*(j+1)):Nat):Int):=by
   rw[show ((2:Int)^8)=(2:Int)^min 8 8 from rfl,fdiv_pow _ 8 8 (by omega),Nat.div_div_eq_div_mul,←Nat.pow_add,Bq]
  rw[hb,hd2,u8n _ (by omega)]
  rw[blo,List.reverse_append,List.reverse_singleton,Bw] at hn'
  have hset:(Ab (s-j) (0:Int)++(bsw 8 j N).reverse).set (s-1-j) ((N/2^(8*j)%2^8:Nat):Int)=Ab (s-(j+1)) 0++((N/2^(8*j)%2^8:Nat):Int)::(bsw 8 j N).reverse:=by
   rw[show s-j=(s-(j+1))+1 by omega,Bz,Aj,Am _ _ (by simp;omega),Ak,show s-1-j-(s-(j+1))=0 by omega]
   rfl
  rw[hset]
  simp (disch:=omega) only[bg,dh,jd,eu,gu,iw,jo,p9,yg,qc]
  rw[show ((s-1-j:Nat):Int)-1=(s:Int)-1-((j+1:Nat):Int) by omega]
  exact hn'
 ·simp only[P.azl]
  rw[dh (by omega),Au];rfl
def sumTo(D:List Int):Nat→Nat
 | 0=>0
 | i+1=>sumTo D i+(D.getD i 0).toNat
theorem sumTo_le(D:List Int)(w:Nat)(h:In (2^w) D):∀i,sumTo D i≤i*(2^w-1)
 | 0=>by simp[sumTo]
 | i+1=>by
  have ih:=sumTo_le D w h i
  have hp:((2:Int)^w)=((2^w:Nat):Int):=by simp
  have:=h.getD i (by rw[hp];have:=p2 w;omega)
  rw[hp] at this
  rw[Cb];simp only[sumTo];omega
theorem bqp(b:List Int)(w c:Int):In (2^w.toNat) (abd b w c):=by
 unfold abd
 split
 ·refine In.map (fun i _=>⟨Int.natCast_nonneg _,?_⟩)
  have:=Ca (T 8 b.reverse/2^(8*b.length-w.toNat*(i+1))) (p2 w.toNat)
  have hp:((2:Int)^w.toNat)=((2^w.toNat:Nat):Int):=by simp
  rw[hp];unfold dg;omega
 ·exact In.nil
def left(w s:Nat)(b:List Int):Nat:=((256/w)*(2^w-1)-sumTo (abd b w ((256/w:Nat):Int)) (256/w))*2^s
theorem bda(b:List Int)(w c:Nat)(h1:1≤w)(h2:w≤24)(h:c*w≤b.length*8):abd b (w:Int) (c:Int)=(Ai c).map (dg w b.length (T 8 b.reverse)):=by
 unfold abd
 rw[if_pos (by refine ⟨by omega,by omega,by omega,?_⟩;rw[←Int.natCast_mul];omega)]
 simp only[toNat_cast]
end Q
end

section
/- SHA-2: blocks one behind the other, words of 32 bits. -/
namespace Q
open Go Go.Abs
set_option linter.unusedVariables false
set_option linter.unusedSimpArgs false
def thr{w:Nat}(p:Par w)(v:List (BitVec w))(b:List Int):Nat→List (BitVec w)
 | 0=>v
 | i+1=>bau p (thr p v b i) ((b.drop ((2*w)*i)).take (2*w))
theorem am7{w:Nat}(p:Par w)(v:List (BitVec w))(hv:v.length=8)(b:List Int):∀i,(thr p v b i).length=8
 | 0=>hv
 | i+1=>bnc _ _ _
def toV(w:Nat)(l:List Int):List (BitVec w):=(Ai 8).map fun i=>Al w (l.getD i 0)
theorem amm(w:Nat)(l:List Int):(toV w l).length=8:=by simp[toV]
theorem bs9(w:Nat)(l:List Int)(hl:l.length=8)(hi:In (2^w) l):cv (toV w l)=l:=by
 unfold cv toV
 rw[List.map_map]
 refine Bp (by simp[hl]) (fun i h1 h2=>?_)
 have hp:((2:Int)^w)=((2^w:Nat):Int):=by simp
 have:=hi.getD i (by rw[hp];have:=p2 w;omega)
 rw[getD_lt h2] at this
 simp only[List.getElem_map,List.getElem_range,Function.comp,getD_lt h2,Bn]
 rw[hp] at this
 rw[Int.emod_eq_of_lt this.1 this.2]
 omega
theorem bv1{w:Nat}(l:List (BitVec w)):In (2^w) (cv l):=by
 intro x hx
 obtain ⟨y,_,rfl⟩:=List.mem_map.1 hx
 have:=y.isLt
 have hp:((2:Int)^w)=((2^w:Nat):Int):=by simp
 rw[hp]
 omega
theorem bt7{w:Nat}(l:List (BitVec w))(hl:l.length=8):toV w (cv l)=l:=by
 unfold toV
 refine Bp (by simp[hl]) (fun i h1 h2=>?_)
 simp only[List.getElem_map,List.getElem_range,ah4,ofI,getD_lt h2]
theorem beg(x:Int):Bc.wrap x=((Al 32 x).toNat:Int):=by
 rw[b0a,Bn];omega
def rest(n:Nat)(b:List Int):List Int:=b.drop (n*(b.length/n))
theorem bxm(words b:List Int)(rd:Int)(t0 t1 t2 t3 h1 h2:List Int)(hi:In 18446744073709551616 words){ρ:Type}(k0:List Int→List Int→Int→Int→Int→List Int→List Int→List Int→List Int→List Int→List Int→List Int→Option ρ) :
    P.acw b words 0 32 rd t0 t1 t2 t3 h1 h2 (Ab 8 0) k0=k0 b words 8 32 rd t0 t1 t2 t3 h1 h2 (cv (toV 32 words)):=by
 rw[P.al0]
 unfold P.ahj P.b3y P.bz7 P.b9t
 refine yu (fun i=>(b,words,(i:Int),32,rd,t0,t1,t2,t3,h1,h2,cv ((Ai i).map fun i=>Al 32 (words.getD i 0))++Ab (8-i) 0)) 8 (by simp[cv]) (fun i hi' next hn'=>?_) (fun next=>?_) (by omega)
 ·simp only[P.acz,toNat_cast]
  have e4:Aa.wrap ((i:Int)+1)=((i+1:Nat):Int):=by rw[qc (by omega) (by omega)];omega
  have e5:(cv ((Ai i).map fun i=>Al 32 (words.getD i 0))++Ab (8-i) (0:Int)).set i ((Al 32 (words.getD i 0)).toNat:Int)=cv ((Ai (i+1)).map fun i=>Al 32 (words.getD i 0))++Ab (8-(i+1)) 0:=by
   rw[Am _ _ (by simp),zi,Bd,Bb,Au,show 8-i=(8-(i+1))+1 by omega,List.replicate_succ,Aw,Av,Bu,←ahi,Aj]
   rfl
  rw[bg (by omega),bg (by omega),bg (by omega),bg (by omega),bg (by omega),beg,e5,e4]
  exact hn'
 ·simp only[P.acz]
  rw[dh (by omega)]
  simp[toV]
theorem bxu(v:List (BitVec 32))(hv:v.length=8)(b:List Int)(hb:In 256 b)(hn:b.length≤1000000)(h1 h2:List Int){ρ:Type}(k0:List Int→Int→List Int→List Int→List Int→Int→Int→List Int→List Int→List Int→List Int→Option ρ) :
    P.ado b 64 (cv v) h2 h1 32 64 [7,18,3] [17,19,10] [2,13,22] [6,11,25] k0 =
     k0 (rest 64 b) 64 (cv (thr p32 v b (b.length/64))) h2 h1 32 64 [7,18,3] [17,19,10] [2,13,22] [6,11,25]:=by
 rw[P.alx]
 unfold P.ahz P.b37 P.bxo P.b70
 refine yu (fun i=>(b.drop (64*i),64,cv (thr p32 v b i),h2,h1,32,64,[7,18,3],[17,19,10],[2,13,22],[6,11,25])) (b.length/64) (by simp[thr]) (fun i hi next hn'=>?_) (fun next=>?_) (by omega)
 ·simp only[P.adh]
  have hlen:(b.drop (64*i)).length=b.length-64*i:=by simp
  have hge:64≤b.length-64*i:=by omega
  simp only[hlen,show (64:Int).toNat=64 from rfl,toNat_cast,Ap]
  have hbl:((b.drop (64*i)).take 64).length=16*4:=by rw[Af,hlen];omega
  rw[bg (by omega),bg (by omega),bg (by omega),bn2 _ (am7 _ _ hv _ _) _ ((hb.drop _).take _) hbl,bg (by omega),bg (by omega),bg (by omega),
   Ae (by rw[hlen];omega),Az,show 64*i+64=64*(i+1) by omega]
  exact hn'
 ·simp only[P.adh]
  have hlen:(b.drop (64*(b.length/64))).length=b.length-64*(b.length/64):=by simp
  rw[dh (by rw[hlen];omega)]
  rfl
theorem bup(v:List (BitVec 32))(hv:v.length=8)(b:List Int)(words h2:List Int)(hl:words.length=8){ρ:Type}(k0:List Int→List Int→Int→List Int→List Int→Option ρ) :
    P.aco b (cv v) 0 words h2 k0=k0 b (cv v) 8 (cv v) h2:=by
 rw[P.alj]
 unfold P.agf P.b3l P.byv P.b5q
 refine yu (fun i=>(b,cv v,(i:Int),(cv v).take i++words.drop i,h2)) 8 (by simp) (fun i hi next hn'=>?_) (fun next=>?_) (by omega)
 ·simp only[P.acr,toNat_cast]
  have e4:Aa.wrap ((i:Int)+1)=((i+1:Nat):Int):=by rw[qc (by omega) (by omega)];omega
  have e5:((cv v).take i++words.drop i).set i ((cv v).getD i 0)=(cv v).take (i+1)++words.drop (i+1):=by
   rw[Am _ _ (by rw[Af];omega),Af,zi,hv,Bh (by omega),Au,A9 (by omega),Aw,←apm (cv v) 0 i (by rw[zi];omega),Aj]
   rfl
  have e6:Ad.wrap ((cv v).getD i 0)=(cv v).getD i 0:=by
   rw[ah4];exact ah1 _ (nlt _)
  rw[bg (by omega),bg (by omega),bg (by omega),bg (by omega),bg (by omega),e6,e5,e4]
  exact hn'
 ·simp only[P.acr]
  rw[dh (by omega),Ag (by omega),Bf,Ae (by rw[zi];omega)]
  rfl
theorem bjo(words b:List Int)(hl:words.length=8)(hi:In 18446744073709551616 words)(hb:In 256 b)(hn:b.length≤1000000){ρ:Type}(k:List Int→List Int→Option ρ) :
    P.qy 32 64 [7,18,3] [17,19,10] [2,13,22] [6,11,25] words b k=k (cv (thr p32 (toV 32 words) b (b.length/64))) (rest 64 b):=by
 rw[P.ahp]
 unfold P.acj
 refine (bxm words b 64 [7,18,3] [17,19,10] [2,13,22] [6,11,25] words (Ab 8 0) hi _).trans ?_
 rw[show Aa.wrap ((32:Int)*2)=64 from rfl,bxu _ (amm _ _) b hb hn,bup _ (am7 _ _ (amm _ _) _ _) _ _ _ hl]
theorem by0(v:List (BitVec 32))(hv:v.length=8)(b:List Int)(hb:In 256 b)(hn:b.length≤1000000)(kd:Int)(tl:List Int)(sz:Int)(a1:Int)(a2:List Int)(a3:Int){ρ:Type}(k0:Int→List Int→Int→List Int→List Int→Int→Int→List Int→Int→Option ρ) :
    P.ap6 64 b kd (cv v) tl sz a1 a2 a3 k0=k0 64 (rest 64 b) kd (cv (thr p32 v b (b.length/64))) tl sz a1 a2 a3:=by
 rw[P.auy]
 unfold P.avl P.b0z P.bw4 P.b3t
 refine yu (fun i=>(64,b.drop (64*i),kd,cv (thr p32 v b i),tl,sz,a1,a2,a3)) (b.length/64) (by simp[thr]) (fun i hi next hn'=>?_) (fun next=>?_) (by omega)
 ·simp only[P.al8]
  have hlen:(b.drop (64*i)).length=b.length-64*i:=by simp
  have hge:64≤b.length-64*i:=by omega
  simp only[hlen,show (64:Int).toNat=64 from rfl,toNat_cast,Ap]
  have hbl:((b.drop (64*i)).take 64).length=16*4:=by rw[Af,hlen];omega
  rw[bg (by omega),bg (by omega),bg (by omega),show ((64:Int)==128)=false from rfl,bnw _ (am7 _ _ hv _ _) _ ((hb.drop _).take _) hbl,bg (by omega),bg (by omega),bg (by omega),
   Ae (by rw[hlen];omega),Az,show 64*i+64=64*(i+1) by omega]
  exact hn'
 ·simp only[P.al8]
  have hlen:(b.drop (64*(b.length/64))).length=b.length-64*(b.length/64):=by simp
  rw[dh (by rw[hlen];omega)]
  rfl
end Q
end

section
/- SHA-2: blocks one behind the other, words of 64 bits. -/
namespace Q
open Go Go.Abs
set_option linter.unusedVariables false
set_option linter.unusedSimpArgs false
theorem b2e(words b:List Int)(rd:Int)(t0 t1 t2 t3 h1 h2:List Int)(hi:In 18446744073709551616 words){ρ:Type}(k0:List Int→List Int→Int→Int→Int→List Int→List Int→List Int→List Int→List Int→List Int→List Int→Option ρ) :
    P.adv b words 0 64 rd t0 t1 t2 t3 h1 h2 (Ab 8 0) k0=k0 b words 8 64 rd t0 t1 t2 t3 h1 h2 (cv (toV 64 words)):=by
 rw[P.al2]
 unfold P.ahn P.b3a P.byx P.b7n
 refine yu (fun i=>(b,words,(i:Int),64,rd,t0,t1,t2,t3,h1,h2,cv ((Ai i).map fun i=>Al 64 (words.getD i 0))++Ab (8-i) 0)) 8 (by simp[cv]) (fun i hi' next hn'=>?_) (fun next=>?_) (by omega)
 ·simp only[P.ads,toNat_cast]
  have e4:Aa.wrap ((i:Int)+1)=((i+1:Nat):Int):=by rw[qc (by omega) (by omega)];omega
  have e6:words.getD i 0=((Al 64 (words.getD i 0)).toNat:Int):=by
   have:=hi.getD i (by omega)
   rw[Bn]
   omega
  have e5:(cv ((Ai i).map fun i=>Al 64 (words.getD i 0))++Ab (8-i) (0:Int)).set i ((Al 64 (words.getD i 0)).toNat:Int)=cv ((Ai (i+1)).map fun i=>Al 64 (words.getD i 0))++Ab (8-(i+1)) 0:=by
   rw[Am _ _ (by simp),zi,Bd,Bb,Au,show 8-i=(8-(i+1))+1 by omega,List.replicate_succ,Aw,Av,Bu,←ahi,Aj]
   rfl
  rw[bg (by omega),bg (by omega),bg (by omega),bg (by omega),bg (by omega),e6,e5,e4]
  exact hn'
 ·simp only[P.ads]
  rw[dh (by omega)]
  simp[toV]
theorem bx2(v:List (BitVec 64))(hv:v.length=8)(b:List Int)(hb:In 256 b)(hn:b.length≤1000000)(h1 h2:List Int){ρ:Type}(k0:List Int→Int→List Int→List Int→List Int→Int→Int→List Int→List Int→List Int→List Int→Option ρ) :
    P.ac9 b 128 (cv v) h2 h1 64 80 [1,8,7] [19,61,6] [28,34,39] [14,18,41] k0 =
     k0 (rest 128 b) 128 (cv (thr p64 v b (b.length/128))) h2 h1 64 80 [1,8,7] [19,61,6] [28,34,39] [14,18,41]:=by
 rw[P.amb]
 unfold P.aho P.b4l P.b0n P.b58
 refine yu (fun i=>(b.drop (128*i),128,cv (thr p64 v b i),h2,h1,64,80,[1,8,7],[19,61,6],[28,34,39],[14,18,41])) (b.length/128) (by simp[thr]) (fun i hi next hn'=>?_) (fun next=>?_) (by omega)
 ·simp only[P.ac3]
  have hlen:(b.drop (128*i)).length=b.length-128*i:=by simp
  have hge:128≤b.length-128*i:=by omega
  simp only[hlen,show (128:Int).toNat=128 from rfl,toNat_cast,Ap]
  have hbl:((b.drop (128*i)).take 128).length=16*8:=by rw[Af,hlen];omega
  rw[bg (by omega),bg (by omega),bg (by omega),bof _ (am7 _ _ hv _ _) _ ((hb.drop _).take _) hbl,bg (by omega),bg (by omega),bg (by omega),
   Ae (by rw[hlen];omega),Az,show 128*i+128=128*(i+1) by omega]
  exact hn'
 ·simp only[P.ac3]
  have hlen:(b.drop (128*(b.length/128))).length=b.length-128*(b.length/128):=by simp
  rw[dh (by rw[hlen];omega)]
  rfl
theorem bvn(v:List (BitVec 64))(hv:v.length=8)(b:List Int)(words h2:List Int)(hl:words.length=8){ρ:Type}(k0:List Int→List Int→Int→List Int→List Int→Option ρ) :
    P.aci b (cv v) 0 words h2 k0=k0 b (cv v) 8 (cv v) h2:=by
 rw[P.ak9]
 unfold P.agd P.b3w P.bzu P.b7m
 refine yu (fun i=>(b,cv v,(i:Int),(cv v).take i++words.drop i,h2)) 8 (by simp) (fun i hi next hn'=>?_) (fun next=>?_) (by omega)
 ·simp only[P.acn,toNat_cast]
  have e4:Aa.wrap ((i:Int)+1)=((i+1:Nat):Int):=by rw[qc (by omega) (by omega)];omega
  have e5:((cv v).take i++words.drop i).set i ((cv v).getD i 0)=(cv v).take (i+1)++words.drop (i+1):=by
   rw[Am _ _ (by rw[Af];omega),Af,zi,hv,Bh (by omega),Au,A9 (by omega),Aw,←apm (cv v) 0 i (by rw[zi];omega),Aj]
   rfl
  rw[bg (by omega),bg (by omega),bg (by omega),bg (by omega),bg (by omega),e5,e4]
  exact hn'
 ·simp only[P.acn]
  rw[dh (by omega),Ag (by omega),Bf,Ae (by rw[zi];omega)]
  rfl
theorem bkl(words b:List Int)(hl:words.length=8)(hi:In 18446744073709551616 words)(hb:In 256 b)(hn:b.length≤1000000){ρ:Type}(k:List Int→List Int→Option ρ) :
    P.ru 64 80 [1,8,7] [19,61,6] [28,34,39] [14,18,41] words b k=k (cv (thr p64 (toV 64 words) b (b.length/128))) (rest 128 b):=by
 rw[P.ahs]
 unfold P.acg
 refine (b2e words b 80 [1,8,7] [19,61,6] [28,34,39] [14,18,41] words (Ab 8 0) hi _).trans ?_
 rw[show Aa.wrap ((64:Int)*2)=128 from rfl,bx2 _ (amm _ _) b hb hn,bvn _ (am7 _ _ (amm _ _) _ _) _ _ _ hl]
theorem bza(v:List (BitVec 64))(hv:v.length=8)(b:List Int)(hb:In 256 b)(hn:b.length≤1000000)(kd:Int)(tl:List Int)(sz:Int)(a1:Int)(a2:List Int)(a3:Int){ρ:Type}(k0:Int→List Int→Int→List Int→List Int→Int→Int→List Int→Int→Option ρ) :
    P.ap6 128 b kd (cv v) tl sz a1 a2 a3 k0=k0 128 (rest 128 b) kd (cv (thr p64 v b (b.length/128))) tl sz a1 a2 a3:=by
 rw[P.auy]
 unfold P.avl P.b0z P.bw4 P.b3t
 refine yu (fun i=>(128,b.drop (128*i),kd,cv (thr p64 v b i),tl,sz,a1,a2,a3)) (b.length/128) (by simp[thr]) (fun i hi next hn'=>?_) (fun next=>?_) (by omega)
 ·simp only[P.al8]
  have hlen:(b.drop (128*i)).length=b.length-128*i:=by simp
  have hge:128≤b.length-128*i:=by omega
  simp only[hlen,show (128:Int).toNat=128 from rfl,toNat_cast,Ap]
  have hbl:((b.drop (128*i)).take 128).length=16*8:=by rw[Af,hlen];omega
  rw[bg (by omega),bg (by omega),bg (by omega),show ((128:Int)==128)=true from rfl,boc _ (am7 _ _ hv _ _) _ ((hb.drop _).take _) hbl,bg (by omega),bg (by omega),bg (by omega),
   Ae (by rw[hlen];omega),Az,show 128*i+128=128*(i+1) by omega]
  exact hn'
 ·simp only[P.al8]
  have hlen:(b.drop (128*(b.length/128))).length=b.length-128*(b.length/128):=by simp
  rw[dh (by rw[hlen];omega)]
  rfl
end Q
end

section
/- Are two rows of bytes the same. -/
namespace Q
open Go Go.Abs
set_option linter.unusedVariables false
set_option linter.unusedSimpArgs false
end Q
end

section
/- SHA-2: sums that go on, and their ends. -/
namespace Q
open Go Go.Abs
set_option linter.unusedVariables false
set_option linter.unusedSimpArgs false
def bsz(kind:Int):Nat:=if kind=1 then 64 else 128
theorem aki(kind:Int):(kind=1∧bsz kind=64)∨(kind≠1∧bsz kind=128):=by
 unfold bsz
 by_cases h:kind=1
 ·exact .inl ⟨h,if_pos h⟩
 ·exact .inr ⟨h,if_neg h⟩
theorem x9(kind:Int){ρ:Type}(k:Int→Option ρ):P.x9 kind k=k ((bsz kind:Nat):Int):=by
 rw[P.aoa];unfold P.ag1
 rcases aki kind with ⟨h,e⟩ | ⟨h,e⟩
 ·rw[gu h,e];rfl
 ·rw[iw h,e];rfl
theorem aaw(kind:Int){ρ:Type}(k:Int→Option ρ):P.aaw kind k=k ((bsz kind:Nat):Int):=by
 rw[P.awh];unfold P.amn
 rcases aki kind with ⟨h,e⟩ | ⟨h,e⟩
 ·rw[gu h,e];rfl
 ·rw[iw h,e];rfl
def auf(kind:Int)(words all:List Int):List Int :=
 if kind=1 then cv (thr p32 (toV 32 words) all (all.length/64)) else cv (thr p64 (toV 64 words) all (all.length/128))
theorem blr(kind:Int)(words all:List Int):(auf kind words all).length=8:=by
 unfold auf
 split<;>rw[zi,am7 _ _ (amm _ _)]
def Wok(kind:Int)(words:List Int):Prop:=words.length=8∧In 18446744073709551616 words∧(kind=1→In 4294967296 words)
theorem asy(kind:Int)(words all:List Int):Wok kind (auf kind words all):=by
 refine ⟨blr _ _ _,?_,fun h=>?_⟩
 ·unfold auf
  split
  ·intro x hx
   have:=bv1 _ x hx
   omega
  ·intro x hx
   have:=bv1 _ x hx
   omega
 ·unfold auf
  rw[if_pos h]
  intro x hx
  have:=bv1 _ x hx
  omega
theorem ax9(n:Nat)(hn:0<n)(b:List Int):(rest n b).length=b.length%n:=by
 unfold rest
 rw[Br]
 have:=Nat.div_add_mod b.length n
 omega
theorem bje{n:Nat}{b:List Int}(h:In 256 b):In 256 (rest n b):=h.drop _
theorem adg{ρ:Type}(k:Int→Int→List Int→List Int→List Int→List Int→Option ρ):P.adg k=k 32 64 [7,18,3] [17,19,10] [2,13,22] [6,11,25]:=by rw[P.awp];rfl
theorem ade{ρ:Type}(k:Int→Int→List Int→List Int→List Int→List Int→Option ρ):P.ade k=k 64 80 [1,8,7] [19,61,6] [28,34,39] [14,18,41]:=by rw[P.axc];rfl
theorem y8(kind:Int)(words tail:List Int)(size:Int)(b:List Int)(hl:words.length=8)(hi:In 18446744073709551616 words)(ht:In 256 tail)(hb:In 256 b)(hn:tail.length+b.length≤1000000){ρ:Type}(k:Int→List Int→List Int→Int→Option ρ) :
    P.y8 kind words tail size b k=k kind (auf kind words (tail++b)) (rest (bsz kind) (tail++b)) (Ad.wrap (size+Ad.wrap (b.length:Int))):=by
 rw[P.bd8];unfold P.aru
 have hf:[tail,b].flatten=tail++b:=by simp
 have hall:(tail++b).length≤1000000:=by rw[Ac];exact hn
 have hin:In 256 (tail++b):=ht.app hb
 have hr:∀n,(rest n (tail++b)).length≤1000000:=fun n=>by unfold rest;rw[Br];omega
 rw[jr _ (by simp) (by rw[hf];omega),hf]
 rcases aki kind with ⟨h,e⟩ | ⟨h,e⟩
 ·rw[gu h,adg,e]
  rw[bjo words _ hl hi hin hall]
  unfold P.qw auf
  have:=hr 64
  rw[bg (by omega),if_pos h]
 ·rw[iw h,ade,e]
  rw[bkl words _ hl hi hin hall]
  unfold P.qw auf
  have:=hr 128
  rw[bg (by omega),if_neg h]
theorem adk(kind:Int)(words tail:List Int)(size:Int)(b:List Int)(hw:Wok kind words)(ht:In 256 tail)(hb:In 256 b)(hn:tail.length+b.length≤1000000){ρ:Type}(k:Int→List Int→List Int→Int→Option ρ) :
    P.adk kind words tail size b k=k kind (auf kind words (tail++b)) (rest (bsz kind) (tail++b)) (Ad.wrap (size+Ad.wrap (b.length:Int))):=by
 rw[P.bdx];unfold P.ars
 obtain ⟨hl,hi,h1⟩:=hw
 have hf:[tail,b].flatten=tail++b:=by simp
 have hall:(tail++b).length≤1000000:=by rw[Ac];exact hn
 have hin:In 256 (tail++b):=ht.app hb
 rw[aaw,oh _ (by simp) (by rw[hf];omega),hf]
 rcases aki kind with ⟨h,e⟩ | ⟨h,e⟩
 ·have hv:=bs9 32 words hl (h1 h)
  rw[e]
  conv=>lhs;rw[←hv]
  rw[show ((64:Nat):Int)=64 from rfl,by0 _ (amm _ _) _ hin hall]
  unfold auf
  rw[if_pos h]
 ·have hv:=bs9 64 words hl hi
  rw[e]
  conv=>lhs;rw[←hv]
  rw[show ((128:Nat):Int)=128 from rfl,bza _ (amm _ _) _ hin hall]
  unfold auf
  rw[if_neg h]
def bm7(kind:Int)(tl:Nat):Nat:=if kind=1 then (119-tl)%64 else (239-tl)%128+8
def pad(kind:Int)(tl:Nat)(size:Nat):List Int:=128::Ab (bm7 kind tl) 0++(bsw 8 8 (size*8%2^64)).reverse
def bjf(n:Nat)(words:List Int)(i:Nat):List Int:=((Ai i).map fun j=>(bsw 8 n (words.getD j 0).toNat).reverse).flatten
theorem aug(n:Nat)(words:List Int)(i:Nat):bjf n words (i+1)=bjf n words i++(bsw 8 n (words.getD i 0).toNat).reverse:=by simp[bjf,Av]
theorem akl(n:Nat)(words:List Int):∀i,(bjf n words i).length=n*i
 | 0=>by simp[bjf]
 | i+1=>by rw[aug,Ac,akl n words i,Aq,ad4,Bq]
theorem bju(n:Nat)(words:List Int):∀i,In 256 (bjf n words i)
 | 0=>by simp[bjf,In]
 | i+1=>by rw[aug];exact (bju n words i).app (bl1 8 n _).rev
def boq(kind:Int)(words tail:List Int)(size:Nat):List Int :=
 let o:=bjf (bsz kind/16) (auf kind words (tail++pad kind tail.length size)) 8
 if kind=2 then o.take 48 else o
theorem bud(kind:Int)(words tail:List Int)(size:Nat):In 256 (boq kind words tail size):=by
 unfold boq
 simp only
 split
 ·exact (bju _ _ _).take _
 ·exact bju _ _ _
theorem bsq(kind:Int)(words tail:List Int)(size:Nat):(boq kind words tail size).length=if kind=1 then 32 else if kind=2 then 48 else 64:=by
 unfold boq
 simp only
 rcases aki kind with ⟨h,e⟩ | ⟨h,e⟩
 ·rw[if_neg (by omega),if_pos h,akl,e]
 ·rw[if_neg h,e]
  split
  ·rw[Af,akl];decide
  ·rw[akl]
theorem tmN(a b:Nat):((a:Nat):Int).tmod (b:Int)=((a%b:Nat):Int):=by
 rw[Int.tmod_eq_emod_of_nonneg (by omega)];rfl
theorem bqk(kind:Int)(tl size:Nat):In 256 (pad kind tl size):=by
 unfold pad
 refine In.app ?_ (bl1 8 8 _).rev
 intro x hx
 rcases List.mem_cons.1 hx with rfl | hx
 ·omega
 ·rw[Bo] at hx;omega
theorem bou(kind:Int)(tl size:Nat):(pad kind tl size).length=bm7 kind tl+9:=by
 unfold pad;simp
theorem bqi(kind:Int)(tl:Nat):bm7 kind tl≤200:=by
 unfold bm7;split<;>omega
theorem bqz(n:Nat)(hn:n=64∨n=128)(words:List Int)(hw:In 18446744073709551616 words)(a:Int)(b:List Int)(c:Int)(d:List Int){ρ:Type}(k0:Int→List Int→Int→List Int→Int→List Int→Int→List Int→Option ρ) :
    P.ar7 (n:Int) words 0 [] a b c d k0=k0 (n:Int) words 8 (bjf (n/16) words 8) a b c d:=by
 rw[P.bbw]
 unfold P.ba2 P.b33 P.bxj P.b99
 have e16:Aa.wrap ((n:Int).tdiv 16)=((n/16:Nat):Int):=by rcases hn with rfl | rfl<;>rfl
 refine yu (fun i=>((n:Int),words,(i:Int),bjf (n/16) words i,a,b,c,d)) 8 rfl (fun i hi next hn'=>?_) (fun next=>?_) (by omega)
 ·simp only[P.ar3,toNat_cast]
  have h1:=hw.getD i (by omega)
  have e4:Aa.wrap ((i:Int)+1)=((i+1:Nat):Int):=by rw[qc (by omega) (by omega)];omega
  have e5:words.getD i 0=(((words.getD i 0).toNat:Nat):Int):=by omega
  rw[aug] at hn'
  rw[bg (by omega),bg (by omega),bg (by omega),e16,e5,wu _ _ (by omega) (by omega),e4]
  rw[bg (by rw[akl,Aq,ad4];rcases hn with rfl | rfl<;>omega)]
  exact hn'
 ·simp only[P.ar3]
  rw[dh (by omega)]
  rfl
theorem shl3(size:Nat):Ad.wrap ((size:Int)*(2:Int)^3)=((size*8%2^64:Nat):Int):=by
 rw[bng];omega
theorem acf(kind:Int)(words tail:List Int)(size:Nat)(hl:words.length=8)(hi:In 18446744073709551616 words)(ht:In 256 tail)(hn:tail.length<bsz kind){ρ:Type}(k:List Int→Option ρ) :
    P.acf kind words tail (size:Int) k=k (boq kind words tail size):=by
 rw[P.bc9];unfold P.asv
 rw[x9]
 have hz:Aa.wrap (Aa.wrap ((Aa.wrap (Aa.wrap (Aa.wrap (Aa.wrap ((2:Int)*((bsz kind:Nat):Int))-(1:Int))-Aa.wrap (((bsz kind:Nat):Int).tdiv (8:Int)))-(tail.length:Int))).tmod ((bsz kind:Nat):Int)+Aa.wrap (((bsz kind:Nat):Int).tdiv (8:Int)))-(8:Int))=((bm7 kind tail.length:Nat):Int):=by
  unfold bm7
  rcases aki kind with ⟨h,e⟩ | ⟨h,e⟩
  ·rw[e] at hn ⊢
   rw[if_pos h,show Aa.wrap (Aa.wrap (Aa.wrap ((2:Int)*((64:Nat):Int))-(1:Int))-Aa.wrap (((64:Nat):Int).tdiv (8:Int)))=119 from rfl,qc (x:=(119:Int)-(tail.length:Int)) (by omega) (by omega),
    show (119:Int)-(tail.length:Int)=((119-tail.length:Nat):Int) by omega,tmN,show Aa.wrap (((64:Nat):Int).tdiv (8:Int))=8 from rfl,qc (x:=((((119-tail.length)%64:Nat):Int))+8) (by omega) (by omega),qc (by omega) (by omega)]
   omega
  ·rw[e] at hn ⊢
   rw[if_neg h,show Aa.wrap (Aa.wrap (Aa.wrap ((2:Int)*((128:Nat):Int))-(1:Int))-Aa.wrap (((128:Nat):Int).tdiv (8:Int)))=239 from rfl,qc (x:=(239:Int)-(tail.length:Int)) (by omega) (by omega),
    show (239:Int)-(tail.length:Int)=((239-tail.length:Nat):Int) by omega,tmN,show Aa.wrap (((128:Nat):Int).tdiv (8:Int))=16 from rfl,qc (x:=((((239-tail.length)%128:Nat):Int))+16) (by omega) (by omega),qc (by omega) (by omega)]
   omega
 have hb:bsz kind=64∨bsz kind=128:=by rcases aki kind with ⟨h,e⟩ | ⟨h,e⟩<;>omega
 have hz2:=bqi kind tail.length
 rw[hz]
 simp only[toNat_cast]
 rw[bg (by omega),bg (by omega),dh (by omega),bg (by omega),bg (by omega),shl3,show (8:Int)=((8:Nat):Int) from rfl,wu _ 8 (by omega) (by omega)]
 have hp:(Ab 1 (0:Int)).set 0 (128:Int)++Ab (bm7 kind tail.length) (0:Int)++(bsw 8 8 (size*8%2^64)).reverse=pad kind tail.length size:=rfl
 rw[bg (by
  show ((Ab (bm7 kind tail.length) (0:Int)).length+0+1+_)*1≤_
  rw[Ak,Aq,ad4];omega),hp]
 have hpl:=bou kind tail.length size
 rw[y8 kind words tail _ _ hl hi ht (bqk _ _ _) (by omega),bqz _ hb _ (asy _ _ _).2.1]
 unfold boq
 simp only
 by_cases h2:kind=2
 ·have e:bsz kind=128:=by unfold bsz;rw[if_neg (by omega)]
  rw[gu h2,bg (by rw[akl,e];omega),if_pos h2]
  rfl
 ·rw[iw h2,if_neg h2]
theorem pads(n:Nat)(hn:n=64∨n=128)(tl:Nat)(ht:tl<200)(z m:Nat)(hm:m<n)(h1:∀i,i<z→(tl+(1+i))%n≠m)(h2:(tl+(1+z))%n=m)(hz:z≤200)(c:Int)(kd:Int)(words tail:List Int)(size:Int)(hl:tail.length=tl)(d:Int)(hd:Aa.wrap ((n:Int)-d)=(m:Int)) :
    (d=8→∀{ρ:Type} (k0:Int→Int→List Int→Int→List Int→List Int→Int→Option ρ),P.avb (n:Int) c [128] kd words tail size k0=k0 (n:Int) c (128::Ab z 0) kd words tail size) ∧
    (d=16→∀{ρ:Type} (k0:Int→Int→List Int→Int→List Int→List Int→Int→Option ρ),P.av6 (n:Int) c [128] kd words tail size k0=k0 (n:Int) c (128::Ab z 0) kd words tail size):=by
 have hlen:∀i:Nat,((128:Int)::Ab i 0).length=1+i:=fun i=>by simp;omega
 have hc:∀i:Nat,i≤z→Aa.wrap (((tail.length:Nat):Int)+((((128:Int)::Ab i 0).length:Nat):Int))=((tl+(1+i):Nat):Int):=fun i hi=>by
  rw[hlen,hl,qc (by omega) (by omega)];omega
 have hs:∀i:Nat,((128:Int)::Ab i 0)++[(0:Int)]=128::Ab (i+1) 0:=fun i=>by
  rw[Bz];rfl
 constructor
 ·rintro rfl ρ k0
  rw[P.beh]
  unfold P.bc6 P.b4h P.bz5 P.b7e
  refine yu (fun i=>((n:Int),c,128::Ab i 0,kd,words,tail,size)) z rfl (fun i hi next hn'=>?_) (fun next=>?_) (by omega)
  ·simp only[P.avi]
   have:=h1 i hi
   rw[hc i (by omega),tmN,hd,dh (by omega),jd (by omega),bg (by rw[hlen];omega),hs]
   exact hn'
  ·simp only[P.avi]
   rw[hc z (by omega),tmN,hd,dh (by omega),h2,eu (by rfl)]
 ·rintro rfl ρ k0
  rw[P.be3]
  unfold P.bdn P.b4c P.b06 P.ca9
  refine yu (fun i=>((n:Int),c,128::Ab i 0,kd,words,tail,size)) z rfl (fun i hi next hn'=>?_) (fun next=>?_) (by omega)
  ·simp only[P.av1]
   have:=h1 i hi
   rw[hc i (by omega),tmN,hd,dh (by omega),jd (by omega),bg (by rw[hlen];omega),hs]
   exact hn'
  ·simp only[P.av1]
   rw[hc z (by omega),tmN,hd,dh (by omega),h2,eu (by rfl)]
theorem bkr(n:Nat)(hn:n=64∨n=128)(words:List Int)(hw:In 18446744073709551616 words)(a:Int)(b:List Int)(c:Int){ρ:Type}(k0:Int→Int→List Int→Int→List Int→List Int→Int→Option ρ) :
    P.am1 (n:Int) 0 [] a words b c k0=k0 (n:Int) 8 (bjf (n/16) words 8) a words b c:=by
 rw[P.bbr]
 unfold P.aza P.b4k P.bxe P.b41
 have e16:Aa.wrap ((n:Int).tdiv 16)=((n/16:Nat):Int):=by rcases hn with rfl | rfl<;>rfl
 refine yu (fun i=>((n:Int),(i:Int),bjf (n/16) words i,a,words,b,c)) 8 rfl (fun i hi next hn'=>?_) (fun next=>?_) (by omega)
 ·simp only[P.asu,toNat_cast]
  have h1:=hw.getD i (by omega)
  have e4:Aa.wrap ((i:Int)+1)=((i+1:Nat):Int):=by rw[qc (by omega) (by omega)];omega
  have e5:words.getD i 0=(((words.getD i 0).toNat:Nat):Int):=by omega
  rw[aug] at hn'
  rw[bg (by omega),bg (by omega),bg (by omega),e16,e5,aay _ _ (by omega) (by omega),e4]
  rw[bg (by rw[akl,Aq,ad4];rcases hn with rfl | rfl<;>omega)]
  exact hn'
 ·simp only[P.asu]
  rw[dh (by omega)]
  rfl
theorem bl6(kind:Int)(words tail:List Int)(size:Nat){ρ:Type}(k:List Int→Option ρ) :
    (br (kind==(2:Int)) (br (decide ((48:Int)≤((bjf (bsz kind/16) (auf kind words (tail++pad kind tail.length size)) 8).length:Int))) (k (Ah ((48:Int)-(0:Int)).toNat (bjf (bsz kind/16) (auf kind words (tail++pad kind tail.length size)) 8))) none)
     (k (bjf (bsz kind/16) (auf kind words (tail++pad kind tail.length size)) 8)))=k (boq kind words tail size):=by
 unfold boq
 simp only
 by_cases h2:kind=2
 ·have e:bsz kind=128:=by unfold bsz;rw[if_neg (by omega)]
  rw[gu h2,bg (by rw[akl,e];omega),if_pos h2]
  rfl
 ·rw[iw h2,if_neg h2]
theorem aj2(kind:Int)(words tail:List Int)(size:Nat)(hw:Wok kind words)(ht:In 256 tail)(hn:tail.length<bsz kind)(hs:size<2305843009213693952){ρ:Type}(k:List Int→Option ρ) :
    P.aj2 kind words tail (size:Int) k=k (boq kind words tail size):=by
 rw[P.bb7];unfold P.aso
 have h8:Ad.wrap ((size:Int)*8)=((size*8%2^64:Nat):Int):=by rw[bng];omega
 have hpl:=bou kind tail.length size
 have hz2:=bqi kind tail.length
 rw[aaw,h8]
 rcases aki kind with ⟨h,e⟩ | ⟨h,e⟩
 ·rw[e] at hn ⊢
  have hp:=(pads 64 (.inl rfl) tail.length (by omega) (bm7 kind tail.length) 56 (by omega) (fun i hi=>by unfold bm7 at hi;rw[if_pos h] at hi;omega) (by unfold bm7;rw[if_pos h];omega) hz2 ((size*8%2^64:Nat):Int) kind words tail (size:Int) rfl 8 rfl).1
  rw[hp rfl,iw (by decide),show (8:Int)=((8:Nat):Int) from rfl,aay _ 8 (by omega) (by omega),bg (by simp;omega)]
  have hpad:(128:Int)::Ab (bm7 kind tail.length) 0++(bsw 8 8 (size*8%2^64)).reverse=pad kind tail.length size:=rfl
  rw[hpad,adk kind words tail _ _ hw ht (bqk _ _ _) (by omega),bkr _ (.inl rfl) _ (asy _ _ _).2.1]
  have:=bl6 kind words tail size k
  rw[e] at this
  exact this
 ·rw[e] at hn ⊢
  have hp1:=(pads 128 (.inr rfl) tail.length (by omega) ((247-tail.length)%128) 120 (by omega) (fun i hi=>by omega) (by omega) (by omega) ((size*8%2^64:Nat):Int) kind words tail (size:Int) rfl 8 rfl).1
  have hp2:=(pads 128 (.inr rfl) tail.length (by omega) ((239-tail.length)%128) 112 (by omega) (fun i hi=>by omega) (by omega) (by omega) ((size*8%2^64:Nat):Int) kind words tail (size:Int) rfl 16 rfl).2
  have h61:((size:Nat):Int).fdiv ((2:Int)^61)=((0:Nat):Int):=by
   have:=fdiv_pow size 61 61 (by omega)
   rw[Nat.div_eq_of_lt (by omega)] at this
   exact this
  rw[hp1 rfl,gu (by rfl),hp2 rfl,h61,show (8:Int)=((8:Nat):Int) from rfl,aay _ 8 (by omega) (by omega),bg (by simp;omega),aay _ 8 (by omega) (by omega),bg (by simp;omega)]
  have hpad:(128:Int)::Ab ((239-tail.length)%128) 0++(bsw 8 8 0).reverse++(bsw 8 8 (size*8%2^64)).reverse=pad kind tail.length size:=by
   unfold pad bm7
   rw[if_neg h,←List.replicate_append_replicate]
   rfl
  rw[hpad,adk kind words tail _ _ hw ht (bqk _ _ _) (by omega),bkr _ (.inr rfl) _ (asy _ _ _).2.1]
  have:=bl6 kind words tail size k
  rw[e] at this
  exact this
def bg6(kind:Int):List Int :=
 if kind=1 then [1779033703,3144134277,1013904242,2773480762,1359893119,2600822924,528734635,1541459225]
 else if kind=2 then [14680500436340154072,7105036623409894663,10473403895298186519,1526699215303891257,7436329637833083697,10282925794625328401,15784041429090275239,5167115440072839076]
 else [7640891576956012808,13503953896175478587,4354685564936845355,11912009170470909681,5840696475078001361,11170449401992604703,2270897969802886507,6620516959819538809]
theorem bj8(kind:Int):Wok kind (bg6 kind):=by
 unfold bg6 Wok
 by_cases h1:kind=1
 ·simp only[if_pos h1]
  refine ⟨rfl,?_,fun _=>?_⟩
  ·unfold In;decide
  ·unfold In;decide
 ·by_cases h2:kind=2
  ·simp only[if_neg h1,if_pos h2]
   refine ⟨rfl,?_,fun h=>absurd h h1⟩
   unfold In;decide
  ·simp only[if_neg h1,if_neg h2]
   refine ⟨rfl,?_,fun h=>absurd h h1⟩
   unfold In;decide
def K3(kind:Int):Prop:=kind=1∨kind=2∨kind=3
theorem bkm{kind:Int}(h:K3 kind){ρ:Type}(k:List Int→Bool→Option ρ):P.af0 kind k=k (bg6 kind) true:=by
 rw[P.awj]
 rcases h with rfl | rfl | rfl<;>kernel_rfl
theorem ae1{kind:Int}(h:K3 kind){ρ:Type}(k:Int→List Int→List Int→Int→Int→Option ρ):P.ae1 kind k=k kind (bg6 kind) [] 0 0:=by
 rw[P.bcd];unfold P.atc
 rw[bkm h,jo,p9]
theorem aju{kind:Int}(h:K3 kind){ρ:Type}(k:Int→List Int→List Int→Int→Int→Option ρ):P.aju kind k=k kind (bg6 kind) [] 0 0:=by
 rw[P.bd4];unfold P.ata bg6
 rcases h with rfl | rfl | rfl
 ·rw[gu (by rfl)];rfl
 ·rw[iw (by decide),gu (by rfl)];rfl
 ·rw[iw (by decide),iw (by decide),gu (by rfl)];rfl
theorem apt(kind:Int):0<bsz kind:=by rcases aki kind with ⟨h,e⟩ | ⟨h,e⟩<;>omega
def bp4(kind:Int)(b:List Int):List Int:=boq kind (auf kind (bg6 kind) b) (rest (bsz kind) b) b.length
theorem bfu(b:List Int)(hn:b.length≤1000000):Ad.wrap ((0:Int)+Ad.wrap (b.length:Int))=((b.length:Nat):Int):=by
 rw[ah1 _ (by omega),Int.zero_add,ah1 _ (by omega)]
theorem ajn{kind:Int}(h:K3 kind)(b:List Int)(hb:In 256 b)(hn:b.length≤1000000){ρ:Type}(k:List Int→Int→Option ρ):P.ajn kind b k=k (bp4 kind b) 0:=by
 rw[P.bdo];unfold P.asg
 have hw:=bj8 kind
 have hr:=ax9 _ (apt kind) b
 have hlt:=Ca b.length (apt kind)
 rw[ae1 h,eu (by rfl),y8 kind _ [] _ b hw.1 hw.2.1 In.nil hb (by simpa using hn),Ay,bfu b hn,acf kind _ _ _ (blr _ _ _) (asy _ _ _).2.1 (bje hb) (by omega)]
 rfl
theorem afn{kind:Int}(h:K3 kind)(b:List Int)(hb:In 256 b)(hn:b.length≤1000000){ρ:Type}(k:List Int→Int→Option ρ):P.afn kind b k=k (bp4 kind b) 0:=by
 rw[P.bea];unfold P.asr
 have hw:=bj8 kind
 have hr:=ax9 _ (apt kind) b
 have hlt:=Ca b.length (apt kind)
 rw[aju h,eu (by rfl),adk kind _ [] _ b hw In.nil hb (by simpa using hn),Ay,bfu b hn,aj2 kind _ _ _ (asy _ _ _) (bje hb) (by omega) (by omega)]
 rfl
theorem bn5(kind:Int)(b:List Int):In 256 (bp4 kind b):=bud _ _ _ _
theorem ax5(kind:Int)(b:List Int):(bp4 kind b).length=if kind=1 then 32 else if kind=2 then 48 else 64:=bsq _ _ _ _
end Q
end

section
/- SHA-2: which sums can be, which are the same; the examples. -/
namespace Q
open Go Go.Abs
set_option linter.unusedVariables false
set_option linter.unusedSimpArgs false
theorem first(p:Nat→Bool):∀n,∃m,m≤n∧(∀i,i<m→p i=true)∧(m=n∨(m<n∧p m=false))
 | 0=>⟨0,by omega,by omega,.inl rfl⟩
 | n+1=>by
  obtain ⟨m,h1,h2,h3⟩:=first p n
  rcases h3 with h3 | ⟨h3,h4⟩
  ·subst h3
   cases hp:p m with
   | true=>exact ⟨m+1,by omega,fun i hi=>by
       by_cases e:i=m
       ·rw[e];exact hp
       ·exact h2 i (by omega),.inl rfl⟩
   | false=>exact ⟨m,by omega,h2,.inr ⟨by omega,hp⟩⟩
  ·exact ⟨m,by omega,h2,.inr ⟨by omega,h4⟩⟩
end Q
end

section
/- mac: digests, with keys and without. -/
namespace Q
open QK
open Go Go.Abs
set_option linter.unusedVariables false
set_option linter.unusedSimpArgs false
def K7(kd:Int):Prop:=kd=1∨kd=2∨kd=3∨kd=4∨kd=5∨kd=6∨kd=7
theorem K7.of{kd:Int}(h:1≤kd∧kd≤7):K7 kd:=by unfold K7;omega
def dl(kd:Int):Nat:=if kd=1∨kd=4∨kd=6 then 32 else if kd=2 then 48 else if kd=3∨kd=5∨kd=7 then 64 else 0
theorem blw{kd:Int}(h:K7 kd):32≤dl kd∧dl kd≤64:=by
 rcases h with rfl | rfl | rfl | rfl | rfl | rfl | rfl<;>decide
theorem bym{kd:Int}(h:¬K7 kd):dl kd=0:=by
 unfold K7 at h
 unfold dl
 rw[if_neg (by omega),if_neg (by omega),if_neg (by omega)]
theorem ad9(kd:Int){ρ:Type}(k:Int→Option ρ):P.ad9 kd k=k ((dl kd:Nat):Int):=by
 rw[P.bbf];unfold P.aoj
 by_cases h0:kd<0
 ·rw[bg h0,bym (by unfold K7;omega)];rfl
 by_cases h8:kd≥8
 ·rw[dh h0,bg h8,bym (by unfold K7;omega)];rfl
 have:kd=0∨kd=1∨kd=2∨kd=3∨kd=4∨kd=5∨kd=6∨kd=7:=by omega
 rcases this with rfl | rfl | rfl | rfl | rfl | rfl | rfl | rfl<;>simp[dl]
def dig(kd:Int)(b:List Int):List Int:=if kd≤3 then bp4 kd b else buw kd b (dl kd)
theorem b2b(kd:Int)(b:List Int):In 256 (dig kd b):=by
 unfold dig;split
 ·exact bn5 _ _
 ·exact bn7 _ _ _
theorem ayn{kd:Int}(h:K7 kd)(b:List Int):(dig kd b).length=dl kd:=by
 unfold dig
 rcases h with rfl | rfl | rfl | rfl | rfl | rfl | rfl
 ·rw[if_pos (by omega),ax5];rfl
 ·rw[if_pos (by omega),ax5];rfl
 ·rw[if_pos (by omega),ax5];rfl
 all_goals rw[if_neg (by omega),bli]
theorem zn{kd:Int}(h:K7 kd)(b:List Int)(hb:In 256 b)(hn:b.length≤1000000){ρ:Type}(k:List Int→Int→Option ρ):P.zn kd b k=k (dig kd b) 0:=by
 have hd:=blw h
 rw[P.auw];unfold P.ak6
 rw[ad9,iw (by omega)]
 unfold dig
 by_cases h3:kd≤3
 ·rw[bg h3,if_pos h3,ajn (by unfold K7 at h;unfold K3;omega) b hb hn]
 ·rw[dh h3,if_neg h3,ad9,zl (by unfold K7 at h;omega) b (by omega) _ (by omega)]
theorem avt{kd:Int}(h:K7 kd)(l:List (List Int))(hl:l.length≤1000)(hb:In 256 l.flatten)(hn:l.flatten.length≤1000000){ρ:Type}(k:List Int→Option ρ):P.ku l kd k=k (dig kd l.flatten):=by
 rw[P.alv];unfold P.afe
 rw[jc l (by omega) (by omega),zn h _ hb hn]
theorem bdz(kd:Int){ρ:Type}(k:Int→Option ρ):P.zo kd k=k kd:=by
 rw[P.aqz];rfl
def bij(key:List Int)(n:Nat)(c:Int):List Int:=(Ai n).map fun i=>bits .xor .u8 (key.getD i 0) c
theorem bf3(key:List Int)(n:Nat)(c:Int):(bij key n c).length=n:=by simp[bij]
theorem bvl(x c:Int):0≤bits .xor .u8 x c∧bits .xor .u8 x c<256:=by
 have e:bits .xor .u8 x c=IntKind.u8.wrap ((Al 8 x ^^^ Al 8 c).toNat:Int):=rfl
 rw[e,u8m]
 exact ⟨Int.emod_nonneg _ (by omega),Int.emod_lt_of_pos _ (by omega)⟩
theorem bpb(key:List Int)(n:Nat)(c:Int):In 256 (bij key n c):=fun x hx=>by
 simp only[bij,List.mem_map] at hx
 obtain ⟨i,_,rfl⟩:=hx
 exact bvl _ _
theorem bog(key:List Int)(i:Nat)(c:Int):bij key i c++[bits .xor .u8 (key.getD i 0) c]=bij key (i+1) c:=aep (fun i=>bits .xor .u8 (key.getD i 0) c) i
theorem btg{α:Type}(a b:List α)(x y:α)(i:Nat)(h:a.length=i):(a++x::b).set i y=a++y::b:=by
 subst h
 rw[Am _ _ (Bl _),Au]
 rfl
theorem tu(key:List Int)(n:Nat)(c:Int)(hk:key.length≤n)(hn:n≤1000){ρ:Type}(k:List Int→Option ρ):P.tu key (n:Int) c k=k (bij key n c):=by
 rw[P.aqv];unfold P.ajz
 rw[bg (by omega),bg (by omega),bg (by omega),toNat_cast,Ak]
 have e0:(Ah n key).append (Ao (0+min n key.length) (Ab n 0))=key++Ab (n-key.length) 0:=by
  show Ah n key++_=_
  rw[Ae hk,Nat.zero_add,Nat.min_eq_right hk,List.drop_replicate]
 rw[e0]
 generalize hl0:key++Ab (n-key.length) 0=l0
 have hlen:l0.length=n:=by rw[←hl0];simp;omega
 have hget:∀i,l0.getD i 0=key.getD i 0:=by
  intro i
  rw[←hl0]
  by_cases hi:i<key.length
  ·rw[getD_lt (by simp;omega),getD_lt hi,List.getElem_append_left hi]
  ·rw[bi2 (l:=key) (by omega),Ar,A8 (by omega),List.getElem?_replicate]
   split<;>rfl
 rw[P.avh,hlen];unfold P.aq2 P.b4q P.b0d P.b4z
 refine yu (fun i=>(c,(n:Int),(i:Int),bij key i c++l0.drop i)) n (by simp[bij]) (fun i hi next hnx=>?_) (fun next=>?_) (by omega)
 ·have hsl:=bf3 key i c
  have hd:=afh l0 0 i (by omega)
  have hL:(bij key i c++l0.drop i).length=n:=by simp[hsl];omega
  have hG:(bij key i c++l0.drop i).getD i 0=key.getD i 0:=by
   rw[Ar,A8 (by omega),hsl,Au,hd,hget]
   rfl
  have hS:(bij key i c++l0.drop i).set i (bits .xor .u8 (key.getD i 0) c)=bij key (i+1) c++l0.drop (i+1):=by
   rw[hd,btg _ _ _ _ i hsl,←bog,Aj]
   rfl
  simp only[P.ak0,toNat_cast]
  rw[hL,hG,hS]
  simp (disch:=omega) only[bg,dh,jd,eu,gu,iw,jo,p9,yg,qc]
  exact hnx
 ·simp only[P.ak0]
  rw[dh (by omega),List.drop_of_length_le (by omega),Bf]
def bk(kd:Int):Nat:=if kd≤3 then bsz kd else rOf kd
theorem bx4{kd:Int}(h:K7 kd):64≤bk kd∧bk kd≤168:=by
 rcases h with rfl | rfl | rfl | rfl | rfl | rfl | rfl<;>decide
def b2j(kd:Int)(key:List Int):List Int:=if bk kd<key.length then dig kd key else key
def hmc(kd:Int)(key b:List Int):List Int:=dig kd (bij (b2j kd key) (bk kd) 92++dig kd (bij (b2j kd key) (bk kd) 54++b))
theorem bvm{kd:Int}(h:K7 kd)(l:List (List Int))(hl:l.length≤1000)(hb:In 256 l.flatten)(hn:l.flatten.length≤900000)(i o:List Int)(hi:In 256 i)(ho:In 256 o)(ni:i.length≤1000)(no:o.length≤1000){ρ:Type}(k:List Int→Option ρ) :
    P.aan l kd o i k=k (dig kd (o++dig kd (i++l.flatten))):=by
 have hd:=blw h
 have hdl:=ayn h (i++l.flatten)
 have two:∀(x y:List Int),In 256 x→In 256 y→x.length+y.length≤1000000→∀(k:List Int→Option ρ),P.ku [x,y] kd k=k (dig kd (x++y)):=by
  intro x y hx hy hl k
  have e:[x,y].flatten=x++y:=by simp
  rw[avt h [x,y] (by simp) (by rw[e];exact hx.app hy) (by rw[e,Ac];exact hl),e]
 rw[P.aq6];unfold P.ajk
 rw[jc l (by omega) (by omega),two _ _ hi hb (by omega),two _ _ ho (b2b _ _) (by omega)]
end Q
end

section
/- mac: bytes of keys and of seeds. -/
namespace Q
open QK
open Go Go.Abs
set_option linter.unusedVariables false
set_option linter.unusedSimpArgs false
def cat(T:Nat→List Int):Nat→List Int
 | 0=>[]
 | j+1=>cat T j++T j
theorem bev{T:Nat→List Int}{d:Nat}(h:∀i,(T i).length=d):∀j,(cat T j).length=j*d
 | 0=>by simp[cat]
 | j+1=>by rw[cat,Ac,bev h j,h,Cb]
theorem bhg{T:Nat→List Int}(h:∀i,In 256 (T i)):∀j,In 256 (cat T j)
 | 0=>In.nil
 | j+1=>(bhg h j).app (h j)
def cnt(d n:Nat):Nat:=(n+d-1)/d
theorem cnt_lt{d n i:Nat}(hd:0<d):i<cnt d n↔i*d<n:=by
 unfold cnt
 have:=Nat.le_div_iff_mul_le (x:=i+1) (y:=n+d-1) hd
 rw[Cb] at this
 omega
theorem bv9{d n:Nat}(hd:0<d):n≤cnt d n*d:=by
 have:=cnt_lt (i:=cnt d n) (n:=n) hd
 omega
theorem byd{d n m:Nat}(h:n≤m*d)(hd:0<d):cnt d n≤m:=by
 have:=cnt_lt (i:=m) (n:=n) hd
 omega
def grow(T:Nat→List Int)(d n:Nat):List Int:=(cat T (cnt d n)).take n
def maT(kd:Int)(seed:List Int)(i:Nat):List Int:=dig kd (seed++(bsw 8 4 i).reverse)
theorem ag8{kd:Int}(h:1≤kd∧kd≤3)(seed:List Int)(hs:In 256 seed)(ns:seed.length≤100000)(n:Nat)(hn:n≤10000){ρ:Type}(k:List Int→Int→Option ρ) :
    P.ag8 kd seed (n:Int) k=k (grow (maT kd seed) (dl kd) n) 0:=by
 have hK:K7 kd:=K7.of (by omega)
 have hd:=blw hK
 have hc:cnt (dl kd) n≤n:=byd (Nat.le_mul_of_pos_right n (by omega)) (by omega)
 have hcm:=bv9 (n:=n) (d:=dl kd) (by omega)
 have hl:=bev (T:=maT kd seed) (fun i=>ayn hK _)
 rw[P.azb];unfold P.aot
 rw[dh (by omega),dh (by omega),dh (by omega),dh (by omega),bdz,P.bbo]
 unfold P.ay8 P.b3c P.bxx P.cb0
 refine yu (fun i=>(seed,(n:Int),kd,(i:Int),cat (maT kd seed) i)) (cnt (dl kd) n) rfl (fun i hi' next hnx=>?_) (fun next=>?_) (by omega)
 ·have hlt:=(cnt_lt (n:=n) (d:=dl kd) (i:=i) (by omega)).1 hi'
  have hli:=hl i
  have hlen:([seed,(bsw 8 4 i).reverse]:List (List Int)).flatten=seed++(bsw 8 4 i).reverse:=by simp
  simp only[P.asb]
  rw[bg (by omega),show (4:Int)=((4:Nat):Int) from rfl,wu i 4 (by omega) (by omega),avt hK _ (by simp) (by rw[hlen];exact hs.app (bl1 8 4 i).rev) (by rw[hlen];simp;omega),hlen,bg (by rw[ayn hK];omega),bng,Int.emod_eq_of_lt (by omega) (by omega)]
  exact hnx
 ·have hlc:=hl (cnt (dl kd) n)
  simp only[P.asb]
  rw[dh (by omega),bg (by omega),bg (by omega),bg (by omega),bg (by omega),Ap,toNat_cast]
  rfl
end Q
end

section
/- SHA-2: bytes that are added one behind the other. -/
namespace Q
open Go Go.Abs
set_option linter.unusedVariables false
set_option linter.unusedSimpArgs false
theorem bde{w:Nat}(p:Par w)(v:List (BitVec w))(a b:List Int)(m:Nat)(hm:(2*w)*m=a.length):∀i,thr p v (a++b) (m+i)=thr p (thr p v a m) b i∧thr p v (a++b) m=thr p v a m:=by
 have key:∀i,i≤m→thr p v (a++b) i=thr p v a i:=by
  intro i
  induction i with
  | zero=>intro _;rfl
  | succ i ih =>
   intro hi
   have h1:(2*w)*i+2*w≤a.length:=by
    rw[←hm,←Bq]
    exact Nat.mul_le_mul (Bl _) hi
   simp only[thr]
   rw[ih (by omega),List.drop_append_of_le_length (by omega),Bj (by rw[Br];omega)]
 intro i
 refine ⟨?_,key m (Bl _)⟩
 induction i with
 | zero=>exact key m (Bl _)
 | succ i ih =>
  rw[←Nat.add_assoc]
  simp only[thr]
  rw[ih,Nat.mul_add,hm,Bt,Ag (by omega),Ay,Nat.add_sub_cancel_left]
end Q
end

section
/- lmots: the digits as the program and as the document count them. -/
namespace Q
open Go Go.Abs
set_option linter.unusedVariables false
set_option linter.unusedSimpArgs false
theorem bpc{w:Nat}{b:List Int}(hb:In (2^w) b)(t:Nat):∃x:Nat,b.getD t 0=(x:Int)∧x<2^w:=by
 have hp:((2:Int)^w)=((2^w:Nat):Int):=by simp
 have:=hb.getD t (by rw[hp];have:=p2 w;omega)
 rw[hp] at this
 exact ⟨(b.getD t 0).toNat,by omega,by omega⟩
end Q
end

section
/- wots: the digits of a text. -/
namespace Q
open Go Go.Abs
set_option linter.unusedVariables false
set_option linter.unusedSimpArgs false
def N3(n:Nat):Prop:=n=16∨n=24∨n=32
def wl(n:Nat)(x:List Int):Nat:=15*(2*n)-sumTo (abd x 4 ((2*n:Nat):Int)) (2*n)
def wd(n:Nat)(x:List Int):List Int:=abd x 4 ((2*n:Nat):Int)++[((wl n x/2^8:Nat):Int),((wl n x/2^4%2^4:Nat):Int),((wl n x%2^4:Nat):Int)]
theorem avd(n:Nat)(x:List Int)(hl:x.length=n):(abd x 4 ((2*n:Nat):Int)).length=2*n:=by
 rw[show (4:Int)=((4:Nat):Int) from rfl,bda x 4 (2*n) (by omega) (by omega) (by omega)];simp
theorem bwn(n:Nat)(x:List Int):In (2^4) (abd x 4 ((2*n:Nat):Int)):=bqp x 4 _
theorem bxk(n:Nat)(x:List Int)(hl:x.length=n):(wd n x).length=2*n+3:=by
 unfold wd;rw[Ac,avd n x hl];rfl
theorem b0r{n:Nat}(h:N3 n)(x:List Int):wl n x<961:=by
 unfold wl;rcases h with rfl | rfl | rfl<;>omega
theorem bvk{n:Nat}(hn:N3 n)(x:List Int)(hl:x.length=n){ρ:Type}(k0:Int→Int→Int→List Int→Option ρ) :
    P.acd ((15*(2*n):Nat):Int) ((2*n:Nat):Int) 0 (abd x 4 ((2*n:Nat):Int)) k0=k0 ((wl n x:Nat):Int) ((2*n:Nat):Int) ((2*n:Nat):Int) (abd x 4 ((2*n:Nat):Int)):=by
 have hn2:n≤32:=by rcases hn with rfl | rfl | rfl<;>omega
 have hlen:=avd n x hl
 rw[P.avr]
 unfold P.aqp P.b3f P.b2c P.cax
 refine yu (fun i=>(((15*(2*n)-sumTo (abd x 4 ((2*n:Nat):Int)) i:Nat):Int),((2*n:Nat):Int),(i:Int),abd x 4 ((2*n:Nat):Int))) (2*n) (by simp[sumTo]) (fun i hi next hn'=>?_) (fun next=>?_) (by omega)
 ·obtain ⟨d,hd,hd2⟩:=bpc (w:=4) (bwn n x) i
  have hle:=sumTo_le (abd x 4 ((2*n:Nat):Int)) 4 (bwn n x) (i+1)
  simp only[sumTo,hd,Int.toNat_natCast] at hn' hle
  simp only[P.alk,toNat_cast]
  rw[hd,show ((15*(2*n)-sumTo (abd x 4 ((2*n:Nat):Int)) i:Nat):Int)-(d:Int)=((15*(2*n)-(sumTo (abd x 4 ((2*n:Nat):Int)) i+d):Nat):Int) by omega,bt8 _ (by omega)]
  simp (disch:=omega) only[bg,dh,jd,eu,gu,iw,jo,p9,yg,qc,hlen]
  exact hn'
 ·simp only[P.alk]
  rw[dh (by omega)]
  rfl
theorem b2p(a:Nat)(h:a<4294967296):bits .and .u32 (a:Int) 15=((a%2^4:Nat):Int):=by
 rw[show (15:Int)=((2^4-1:Nat):Int) from rfl,bua _ _ h (by omega),Bg]
theorem bpm{n:Nat}(hn:N3 n)(x:List Int)(hx:In 256 x)(hl:x.length=n){ρ:Type}(k:List Int→Option ρ) :
    (P.nu x (4:Int) (Aa.wrap ((2:Int)*((n:Nat):Int))) fun (q0:List Int) =>
            P.acd (Bc.wrap (Aa.wrap ((15:Int)*(↑q0.length:Int)))) (↑q0.length:Int)
             (0:Int) q0 fun (q1 q2 q3:Int) (q4:List Int) =>
             br
              (decide
               ((q4.length +
                     ([bits BinOp.and Bc (q1.fdiv ((2:Int)^4)) (15:Int),
                               bits BinOp.and Bc q1 (15:Int)].length.add
                         0).succ) *
                   4 ≤
                140737488355328))
              (k
               (q4 ++
                [q1.fdiv ((2:Int)^8),
                 bits BinOp.and Bc (q1.fdiv ((2:Int)^4)) (15:Int),
                 bits BinOp.and Bc q1 (15:Int)]))
              none)=k (wd n x):=by
 have hn2:n≤32:=by rcases hn with rfl | rfl | rfl<;>omega
 have hlen:=avd n x hl
 have hlt:=b0r hn x
 rw[qc (by omega) (by omega),show (2:Int)*(n:Int)=((2*n:Nat):Int) by omega,nu _ _ _ hx (by omega),hlen,qc (x:=(15:Int)*((2*n:Nat):Int)) (by omega) (by omega),show (15:Int)*((2*n:Nat):Int)=((15*(2*n):Nat):Int) by omega,bt8 _ (by omega),bvk hn x hl,hlen]
 have e8:((wl n x:Nat):Int).fdiv ((2:Int)^8)=((wl n x/2^8:Nat):Int):=fdiv_pow _ 8 8 (by omega)
 have e4:((wl n x:Nat):Int).fdiv ((2:Int)^4)=((wl n x/2^4:Nat):Int):=fdiv_pow _ 4 4 (by omega)
 have hd:=Nat.div_le_self (wl n x) (2^4)
 rw[e8,e4,b2p _ (by omega),b2p _ (by omega),bg (by show (2*n+3)*4≤_;omega)]
 rfl
theorem aaf{n:Nat}(hn:N3 n)(x:List Int)(hx:In 256 x)(hl:x.length=n){ρ:Type}(k:List Int→Option ρ):P.aaf (n:Int) x k=k (wd n x):=by
 rw[P.ard]
 unfold P.aj3
 have ht:=bpm hn x hx hl k
 rcases hn with rfl | rfl | rfl
 ·rw[eu (by rfl),eu (by rw[hl])]
  exact ht
 ·rw[jd (by decide),eu (by rfl),eu (by rw[hl])]
  exact ht
 ·rw[jd (by decide),jd (by decide),eu (by rfl),eu (by rw[hl])]
  exact ht
end Q
end

section
/- wots: kinds, places, digits, by the program and by the document. -/
namespace Q
open QK
open Go Go.Abs
set_option linter.unusedVariables false
set_option linter.unusedSimpArgs false
def abv(N H D A K:Int):Prop:=(N=16∨N=24∨N=32)∧1≤D∧H≤68∧D≤H∧H.tmod D=0∧Aa.wrap (H.tdiv D)≤9∧1≤A∧A≤14∧1≤K∧K≤40
instance (N H D A K:Int):Decidable (abv N H D A K):=by unfold abv;infer_instance
theorem bfo(N H D A K:Int)(hN:N=16∨N=24∨N=32){ρ:Type}(k:Bool→Option ρ) :
    (br (decide (D<(1:Int))) (k false) (br (decide (H<D)) (k false) (br (decide (H>(68:Int))) (k false)
     (br (decide (D=(0:Int))) none (br (H.tmod D !=(0:Int)) (k false) (br (decide (D=(0:Int))) none
      (br (decide (Aa.wrap (H.tdiv D)>(9:Int))) (k false) (br (decide (A≥(1:Int)))
       (br (decide (A≤(14:Int))) (br (decide (K≥(1:Int))) (k (decide (K≤(40:Int)))) (k false)) (k false)) (k false)))))))))=k (decide (abv N H D A K)):=by
 by_cases h1:D<1
 ·rw[bg h1,decide_eq_false (by unfold abv;omega)]
 rw[dh h1]
 by_cases h2:H<D
 ·rw[bg h2,decide_eq_false (by unfold abv;omega)]
 rw[dh h2]
 by_cases h3:H>68
 ·rw[bg h3,decide_eq_false (by unfold abv;omega)]
 rw[dh h3,dh (by omega)]
 by_cases h4:H.tmod D=0
 ·rw[eu h4,dh (by omega)]
  by_cases h5:Aa.wrap (H.tdiv D)>9
  ·rw[bg h5,decide_eq_false (by unfold abv;omega)]
  rw[dh h5]
  by_cases h6:A≥1
  ·rw[bg h6]
   by_cases h7:A≤14
   ·rw[bg h7]
    by_cases h8:K≥1
    ·rw[bg h8]
     congr 1
     apply decide_eq_decide.2
     unfold abv
     omega
    ·rw[dh h8,decide_eq_false (by unfold abv;omega)]
   ·rw[dh h7,decide_eq_false (by unfold abv;omega)]
  ·rw[dh h6,decide_eq_false (by unfold abv;omega)]
 ·rw[jd h4,decide_eq_false (by unfold abv;omega)]
theorem jk(N H D A K:Int)(z:Bool){ρ:Type}(k:Bool→Option ρ):P.jk N H D A K z k=k (decide (abv N H D A K)):=by
 rw[P.ayd];unfold P.aok
 by_cases h1:N=16
 ·rw[eu h1];exact bfo N H D A K (.inl h1) k
 rw[jd h1]
 by_cases h2:N=24
 ·rw[eu h2];exact bfo N H D A K (.inr (.inl h2)) k
 rw[jd h2]
 by_cases h3:N=32
 ·rw[eu h3];exact bfo N H D A K (.inr (.inr h3)) k
 rw[jd h3,decide_eq_false (by unfold abv;omega)]
theorem ay3(N H D A K:Int)(hN:N=16∨N=24∨N=32){ρ:Type}(k:Bool→Option ρ) :
    (br (decide (D≥(1:Int))) (br (decide (H≤(68:Int))) (br (decide (H≥D)) (br (decide (D=(0:Int))) none
       (br (H.tmod D==(0:Int)) (br (decide (D=(0:Int))) none (br (decide (Aa.wrap (H.tdiv D)≤(9:Int)))
          (br (decide (A≥(1:Int))) (br (decide (A≤(14:Int))) (br (decide (K≥(1:Int))) (k (decide (K≤(40:Int)))) (k false)) (k false))
          (k false)) (k false))) (k false))) (k false)) (k false)) (k false))=k (decide (abv N H D A K)):=by
 by_cases h1:D≥1
 ·rw[bg h1]
  by_cases h3:H≤68
  ·rw[bg h3]
   by_cases h2:H≥D
   ·rw[bg h2,dh (by omega)]
    by_cases h4:H.tmod D=0
    ·rw[gu h4,dh (by omega)]
     by_cases h5:Aa.wrap (H.tdiv D)≤9
     ·rw[bg h5]
      by_cases h6:A≥1
      ·rw[bg h6]
       by_cases h7:A≤14
       ·rw[bg h7]
        by_cases h8:K≥1
        ·rw[bg h8]
         congr 1
         apply decide_eq_decide.2
         unfold abv
         omega
        ·rw[dh h8,decide_eq_false (by unfold abv;omega)]
       ·rw[dh h7,decide_eq_false (by unfold abv;omega)]
      ·rw[dh h6,decide_eq_false (by unfold abv;omega)]
     ·rw[dh h5,decide_eq_false (by unfold abv;omega)]
    ·rw[iw h4,decide_eq_false (by unfold abv;omega)]
   ·rw[dh h2,decide_eq_false (by unfold abv;omega)]
  ·rw[dh h3,decide_eq_false (by unfold abv;omega)]
 ·rw[dh h1,decide_eq_false (by unfold abv;omega)]
theorem om(N H D A K:Int)(z:Bool){ρ:Type}(k:Bool→Option ρ):P.om N H D A K z k=k (decide (abv N H D A K)):=by
 rw[P.bb9];unfold P.ash
 by_cases h1:N=16
 ·rw[eu h1];exact ay3 N H D A K (.inl h1) k
 rw[jd h1]
 by_cases h2:N=24
 ·rw[eu h2];exact ay3 N H D A K (.inr (.inl h2)) k
 rw[jd h2]
 by_cases h3:N=32
 ·rw[eu h3];exact ay3 N H D A K (.inr (.inr h3)) k
 rw[jd h3,decide_eq_false (by unfold abv;omega)]
def bgt(a:List Int)(i:Nat)(b:List Int):List Int:=a.take i++b++a.drop (i+b.length)
theorem at0(a:List Int)(i:Nat)(b:List Int)(h:i+b.length≤a.length):(bgt a i b).length=a.length:=by
 unfold bgt;simp;omega
theorem beu{a:List Int}{i:Nat}{b:List Int}(ha:In 256 a)(hb:In 256 b):In 256 (bgt a i b):=((ha.take i).app hb).app (ha.drop _)
def be4(n v:Nat):List Int:=(bsw 8 n v).reverse
theorem aez(n v:Nat):(be4 n v).length=n:=by simp[be4]
theorem blv(n v:Nat):In 256 (be4 n v):=(bl1 8 n v).rev
def anb(a:List Int)(part:Int)(v:Nat):List Int :=
 if part=0 then bgt a 0 (be4 4 v) else if part=1 then bgt a 4 (be4 12 v) else if part=2 then bgt a 16 (be4 4 v++Ab 12 0)
 else if part=3∨part=4∨part=5 then bgt a (8+4*part.toNat) (be4 4 v) else a
theorem jm{a:List Int}(h:a.length=32)(part:Int)(v:Nat):(anb a part v).length=32:=by
 unfold anb
 have h4:=aez 4 v
 have h12:=aez 12 v
 split
 ·rw[at0 _ _ _ (by omega),h]
 split
 ·rw[at0 _ _ _ (by omega),h]
 split
 ·rw[at0 _ _ _ (by rw[Ac,Ak];omega),h]
 split
 ·rw[at0 _ _ _ (by omega),h]
 exact h
theorem wm{a:List Int}(h:In 256 a)(part:Int)(v:Nat):In 256 (anb a part v):=by
 unfold anb
 split
 ·exact beu h (blv _ _)
 split
 ·exact beu h (blv _ _)
 split
 ·exact beu h ((blv _ _).app (fun x hx=>by rw[Bo] at hx;omega))
 split
 ·exact beu h (blv _ _)
 exact h
theorem cpy(a:List Int)(i m:Nat)(b:List Int)(hb:b.length≤m):(a.take i).append (b.take m++a.drop (i+min m b.length))=bgt a i b:=by
 rw[Ae hb,Nat.min_eq_right hb]
 show a.take i++(b++_)=_
 rw[←Aj]
 rfl
theorem gy{a:List Int}(h:a.length=32)(part:Int)(v:Nat)(hv:v<18446744073709551616){ρ:Type}(k:List Int→Option ρ):P.gy a part (v:Int) k=k (anb a part v):=by
 rw[P.az6];unfold P.aou anb
 have h4:(bsw 8 4 v).reverse.length=4:=by simp
 have h12:(bsw 8 12 v).reverse.length=12:=by simp
 have be:∀(k':List Int→Option ρ),P.wu (v:Int) 4 k'=k' (be4 4 v):=fun k'=>wu v 4 hv (by omega) k'
 have be':∀(k':List Int→Option ρ),P.wu (v:Int) 12 k'=k' (be4 12 v):=fun k'=>wu v 12 hv (by omega) k'
 by_cases h0:part=0
 ·rw[gu h0,if_pos h0,be]
  exact congrArg k (by rw[←cpy a 0 4 (be4 4 v) (by rw[aez];omega)];rfl)
 rw[iw h0,if_neg h0]
 by_cases h1:part=1
 ·rw[gu h1,if_pos h1,be']
  exact congrArg k (cpy a 4 12 _ (by rw[aez];omega))
 rw[iw h1,if_neg h1]
 by_cases h2:part=2
 ·have e:[be4 4 v,Ab 12 (0:Int)].flatten=be4 4 v++Ab 12 0:=by simp
  rw[gu h2,if_pos h2,be,jc _ (by simp) (by rw[e];simp[aez]),e]
  exact congrArg k (cpy a 16 16 _ (by rw[Ac,aez,Ak];omega))
 rw[iw h2,if_neg h2]
 have fin:∀(p:Nat),part=(p:Int)→3≤p→p≤5→(br (decide ((0:Int)≤Aa.wrap ((8:Int)+Aa.wrap ((4:Int)*part))))
     (br (decide (Aa.wrap ((8:Int)+Aa.wrap ((4:Int)*part))≤((32:Nat):Int)))
      (P.wu (v:Int) (4:Int) fun (q4:List Int) =>
       k ((Ah (Aa.wrap ((8:Int)+Aa.wrap ((4:Int)*part))).toNat a).append
        (Ah (((32:Nat):Int)-Aa.wrap ((8:Int)+Aa.wrap ((4:Int)*part))).toNat q4 ++
         Ao ((Aa.wrap ((8:Int)+Aa.wrap ((4:Int)*part))).toNat +
          min (((32:Nat):Int)-Aa.wrap ((8:Int)+Aa.wrap ((4:Int)*part))).toNat q4.length) a))) none) none)=k (bgt a (8+4*part.toNat) (be4 4 v)):=by
  intro p hp h3 h5
  subst hp
  have e:Aa.wrap ((8:Int)+Aa.wrap ((4:Int)*(p:Int)))=((8+4*p:Nat):Int):=by
   rw[qc (x:=4*(p:Int)) (by omega) (by omega),qc (by omega) (by omega)];omega
  rw[e,bg (by omega),bg (by omega),be,show (((32:Nat):Int)-((8+4*p:Nat):Int)).toNat=24-4*p by omega,toNat_cast,toNat_cast]
  exact congrArg k (cpy a _ _ _ (by rw[aez];omega))
 by_cases h3:part=3
 ·rw[gu h3,gu h3,if_pos (.inl h3)]
  exact fin 3 h3 (by omega) (by omega)
 rw[iw h3]
 by_cases h4':part=4
 ·rw[gu h4',gu h4',if_pos (.inr (.inl h4'))]
  exact fin 4 h4' (by omega) (by omega)
 rw[iw h4']
 by_cases h5:part=5
 ·rw[gu h5,if_pos (.inr (.inr h5))]
  exact fin 5 h5 (by omega) (by omega)
 rw[iw h5,if_neg (by omega)]
theorem aa0{a:List Int}(h:a.length=32)(i:Nat)(b:List Int)(hb:i+b.length≤32){ρ:Type}(k:List Int→Option ρ):P.aa0 a (i:Int) b k=k (bgt a i b):=by
 rw[P.bch];unfold P.asi
 rw[P.bfy];unfold P.bd1 P.b3m P.b2k P.b7o
 refine yu (fun j=>((i:Int),b,(j:Int),bgt a i (b.take j),([0,0,0,0,0,0,0,0,0,0,0,0,0,0,0,0,0,0,0,0,0,0,0,0,0,0,0,0,0,0,0,0]:List Int))) b.length (by simp[bgt]) (fun j hj next hn=>?_) (fun next=>?_) (by omega)
 ·have e1:(bgt a i (b.take j)).set (i+j) (b.getD j 0)=bgt a i (b.take (j+1)):=by
    unfold bgt
    rw[Af,Af,Bh (by omega),Bh (by omega),afh a 0 (i+j) (by omega),btg _ _ _ _ (i+j) (by simp;omega),List.take_succ_eq_append_getElem hj,getD_lt hj]
    simp only[Nat.add_assoc,Aj,Bw,Ac,List.length_singleton]
    done
  simp only[P.av3,toNat_cast]
  rw[bg (by omega),bg (by omega),bg (by omega),qc (x:=(i:Int)+(j:Int)) (by omega) (by omega),bg (by omega),bg (by omega),qc (by omega) (by omega),show ((i:Int)+(j:Int)).toNat=i+j by omega,e1]
  exact hn
 ·simp only[P.av3]
  rw[dh (by omega),List.take_length]
theorem j5{a:List Int}(h:a.length=32)(part:Int)(v:Nat)(hv:v<18446744073709551616){ρ:Type}(k:List Int→Option ρ):P.j5 a part (v:Int) k=k (anb a part v):=by
 rw[P.bdv];unfold P.as8 anb
 have be:∀(k':List Int→Option ρ),P.aay (v:Int) 4 k'=k' (be4 4 v):=fun k'=>aay v 4 hv (by omega) k'
 have be':∀(k':List Int→Option ρ),P.aay (v:Int) 12 k'=k' (be4 12 v):=fun k'=>aay v 12 hv (by omega) k'
 by_cases h0:part=0
 ·rw[gu h0,if_pos h0,be]
  exact aa0 h 0 _ (by rw[aez];omega) _
 rw[iw h0,if_neg h0]
 by_cases h1:part=1
 ·rw[gu h1,if_pos h1,be']
  exact aa0 h 4 _ (by rw[aez];omega) _
 rw[iw h1,if_neg h1]
 by_cases h2:part=2
 ·have hl:=at0 a 16 (be4 4 v) (by rw[aez];omega)
  rw[gu h2,if_pos h2,be]
  refine (aa0 h 16 _ (by rw[aez];omega) _).trans ((aa0 (by rw[hl,h]) 20 _ (by simp) _).trans (congrArg k ?_))
  unfold bgt
  have e1:(a.take 16++be4 4 v).length=20:=by rw[Ac,Af,aez];omega
  rw[aez,Ac,aez,Ak,Bj (by omega),Ae (by omega),Bt,Ag (by omega),e1,Az,Aj (a.take 16)]
  rfl
 rw[iw h2,if_neg h2]
 have fin:∀(p:Nat),part=(p:Int)→3≤p→p≤5→(P.aay (v:Int) (4:Int) fun (q7:List Int)=>P.aa0 a (Aa.wrap ((8:Int)+Aa.wrap ((4:Int)*part))) q7 fun (q8:List Int)=>k q8)=k (bgt a (8+4*part.toNat) (be4 4 v)):=by
  intro p hp h3 h5
  subst hp
  have e:Aa.wrap ((8:Int)+Aa.wrap ((4:Int)*(p:Int)))=((8+4*p:Nat):Int):=by
   rw[qc (x:=4*(p:Int)) (by omega) (by omega),qc (by omega) (by omega)];omega
  rw[e,be,aa0 h _ _ (by rw[aez];omega),toNat_cast]
 by_cases h3:part=3
 ·rw[gu h3,gu h3,if_pos (.inl h3)]
  exact fin 3 h3 (by omega) (by omega)
 rw[iw h3]
 by_cases h4':part=4
 ·rw[gu h4',gu h4',if_pos (.inr (.inl h4'))]
  exact fin 4 h4' (by omega) (by omega)
 rw[iw h4']
 by_cases h5:part=5
 ·rw[gu h5,if_pos (.inr (.inr h5))]
  exact fin 5 h5 (by omega) (by omega)
 rw[iw h5,if_neg (by omega)]
end Q
end

section
/- wots: sums at places. -/
namespace Q
open QK
open Go Go.Abs
set_option linter.unusedVariables false
set_option linter.unusedSimpArgs false
theorem bq3{kind:Int}(w blk b:List Int)(hl:blk.length=bsz kind):auf kind (auf kind w blk) b=auf kind w (blk++b):=by
 unfold auf
 rcases aki kind with ⟨h,e⟩ | ⟨h,e⟩
 ·rw[e] at hl
  have:=(bde p32 (toV 32 w) blk b 1 (by omega) (b.length/64)).1
  simp only[if_pos h]
  rw[bt7 _ (am7 _ _ (amm _ _) _ _),Ac,hl,show (64+b.length)/64=1+b.length/64 by omega,Nat.div_self (by omega),this]
 ·rw[e] at hl
  have:=(bde p64 (toV 64 w) blk b 1 (by omega) (b.length/128)).1
  simp only[if_neg h]
  rw[bt7 _ (am7 _ _ (amm _ _) _ _),Ac,hl,show (128+b.length)/128=1+b.length/128 by omega,Nat.div_self (by omega),this]
theorem bsu{n:Nat}(hn:0<n)(blk b:List Int)(hl:blk.length=n):rest n (blk++b)=rest n b:=by
 unfold rest
 rw[Ac,hl,Nat.add_comm n,Nat.add_div_right _ hn,Bq,Bt,Ag (by omega),Ay,hl,Nat.add_sub_cancel]
def blk(kind:Int)(pub:List Int):List Int:=pub++Ab (bsz kind-pub.length) 0
theorem bi6(kind:Int)(pub:List Int)(h:pub.length≤64):(blk kind pub).length=bsz kind:=by
 unfold blk
 rcases aki kind with ⟨_,e⟩ | ⟨_,e⟩<;>rw[Ac,Ak,e]<;>omega
theorem btn{kind:Int}{pub:List Int}(h:In 256 pub):In 256 (blk kind pub):=h.app (fun x hx=>by rw[Bo] at hx;omega)
theorem y5{kind:Int}(h:K3 kind)(pub:List Int)(hp:In 256 pub)(hn:pub.length≤64)(B:Int)(hB:B=((bsz kind:Nat):Int)){ρ:Type}(k:Int→List Int→List Int→Int→Option ρ) :
    P.y5 kind B pub k=k kind (auf kind (bg6 kind) (blk kind pub)) [] B:=by
 have hb:bsz kind=64∨bsz kind=128:=by rcases aki kind with ⟨_,e⟩ | ⟨_,e⟩<;>omega
 have hw:=bj8 kind
 have e1:[pub].flatten=pub:=by simp
 have e2:Aa.wrap (B-(pub.length:Int))=((bsz kind-pub.length:Nat):Int):=by rw[qc (by omega) (by omega)];omega
 have hl:=bi6 kind pub hn
 have er:rest (bsz kind) (blk kind pub)=[]:=List.eq_nil_of_length_eq_zero (by rw[ax9 _ (apt kind),hl,Nat.mod_self])
 have e3:=bfu (blk kind pub) (by omega)
 rw[P.arl];unfold P.ajx
 rw[ae1 h,jc _ (by simp) (by rw[e1];omega),e1,e2,toNat_cast,bg (by omega),bg (by omega)]
 show P.y8 kind (bg6 kind) [] 0 (blk kind pub) _=_
 rw[y8 kind _ [] _ _ hw.1 hw.2.1 In.nil (btn hp) (by rw[List.length_nil];omega),Ay,er,e3,hl,hB]
def sho(a:List Int):List Int:=(a.drop 3).take 1++((a.drop 8).take 8++(a.drop 19).take 13)
theorem bfz(a:List Int):(sho a).length≤22:=by unfold sho;simp;omega
theorem btj{a:List Int}(h:In 256 a):In 256 (sho a):=((h.drop _).take _).app (((h.drop _).take _).app ((h.drop _).take _))
theorem yx(a:List Int){ρ:Type}(k:List Int→Option ρ):P.yx a k=k (sho a):=by
 have e:[Ah 1 (Ao 3 a),Ah 8 (Ao 8 a),Ah 13 (Ao 19 a)].flatten=sho a:=by unfold sho;simp
 have:=bfz a
 rw[P.aun];unfold P.ak4
 rw[jc _ (by simp) (by rw[e];omega),e]
theorem aa6(a:List Int){ρ:Type}(k:List Int→Option ρ):P.aa6 a k=k (sho a):=by
 have e0:Ah 13 (Ao 19 a)=Ah 1 (Ao 19 a)++Ah 12 (Ao 20 a):=by
  rw[show (13:Nat)=1+12 from rfl,List.take_add,Az]
 have e:[Ah 1 (Ao 3 a),Ah 8 (Ao 8 a),Ah 1 (Ao 19 a),Ah 12 (Ao 20 a)].flatten=sho a:=by unfold sho;rw[e0];simp
 have:=bfz a
 rw[P.axa];unfold P.amr
 rw[oh _ (by simp) (by rw[e];omega),e]
def hk(n:Nat)(t:List Int):Int:=if 16<n∧n<t.length then 3 else 1
def be2(n:Nat)(sh:Bool)(pub a t:List Int):List Int:=if sh then buw 7 (pub++(a++t)) n else (bp4 (hk n t) (blk (hk n t) pub++(sho a++t))).take n
theorem bj5{kd:Int}(h:kd=1∨kd=3)(b:List Int):32≤(bp4 kd b).length:=by
 rw[ax5];rcases h with rfl | rfl<;>simp
theorem hk13(n:Nat)(t:List Int):hk n t=1∨hk n t=3:=by unfold hk;split;exact .inr rfl;exact .inl rfl
theorem ahe{n:Nat}(hn:n≤32)(sh:Bool)(pub a t:List Int):(be2 n sh pub a t).length=n:=by
 unfold be2
 split
 ·exact bli _ _ _
 ·have:=bj5 (hk13 n t) (blk (hk n t) pub++(sho a++t))
  rw[Af];omega
theorem alb(n:Nat)(sh:Bool)(pub a t:List Int):In 256 (be2 n sh pub a t):=by
 unfold be2
 split
 ·exact bn7 _ _ _
 ·exact (bn5 _ _).take _
theorem azf{kind:Int}(h:kind=1∨kind=3){n:Nat}(hn:n≤32)(pub:List Int)(hp:In 256 pub)(np:pub.length≤64)(q:List Int)(hq:In 256 q)(nq:q.length≤100000)(B:Int)(hB:B=((bsz kind:Nat):Int)){ρ:Type}(k:List Int→Option ρ) :
    (P.y8 kind (auf kind (bg6 kind) (blk kind pub)) [] B q fun (q2:Int) (q3 q4:List Int) (q5:Int)=>P.acf q2 q3 q4 q5 fun (q6:List Int) =>
     br (decide ((0:Int)≤(n:Int))) (br (decide ((n:Int)≤(q6.length:Int))) (k (Ah ((n:Int)-(0:Int)).toNat (Ao 0 q6))) none) none)=k ((bp4 kind (blk kind pub++q)).take n):=by
 have hb:bsz kind=64∨bsz kind=128:=by rcases aki kind with ⟨_,e⟩ | ⟨_,e⟩<;>omega
 have hw:=asy kind (bg6 kind) (blk kind pub)
 have hl:=bi6 kind pub np
 have hw2:=asy kind (auf kind (bg6 kind) (blk kind pub)) ([]++q)
 have hr:=ax9 (bsz kind) (apt kind) ([]++q)
 have hm:=Ca ([]++q).length (apt kind)
 have e3:Ad.wrap (B+Ad.wrap (q.length:Int))=(((blk kind pub++q).length:Nat):Int):=by
  rw[ah1 _ (by omega),hB,←Int.natCast_add,ah1 _ (by omega),Ac,hl]
 have hs:=bj5 h (blk kind pub++q)
 rw[y8 kind _ [] _ q hw.1 hw.2.1 In.nil hq (by rw[List.length_nil];omega),e3,acf _ _ _ _ hw2.1 hw2.2.1 (bje (In.nil.app hq)) (by omega)]
 have e4:boq kind (auf kind (auf kind (bg6 kind) (blk kind pub)) ([]++q)) (rest (bsz kind) ([]++q)) (blk kind pub++q).length=bp4 kind (blk kind pub++q):=by
  unfold bp4
  rw[Ay,bq3 _ _ _ hl,bsu (apt kind) _ _ hl]
 rw[e4,bg (by omega),bg (by omega),Ap,Int.sub_zero,toNat_cast]
theorem bpw{n:Nat}(hn:n≤32)(pub a t:List Int)(hp:In 256 pub)(np:pub.length≤64)(ha:In 256 a)(ht:In 256 t)(nt:t.length≤90000){ρ:Type}(k:List Int→Option ρ) :
    P.jf a t 1 (auf 1 (bg6 1) (blk 1 pub)) [] 64 (n:Int) 3 (auf 3 (bg6 3) (blk 3 pub)) [] 128 k=k (be2 n false pub a t):=by
 have e:[sho a,t].flatten=sho a++t:=by simp
 have hs:=bfz a
 have hl:(sho a++t).length≤100000:=by rw[Ac];omega
 have hq:In 256 (sho a++t):=(btj ha).app ht
 rw[P.amf];unfold P.afw be2 hk
 by_cases h1:16<n
 ·rw[bg (by omega)]
  by_cases h2:n<t.length
  ·rw[bg (by omega),if_neg (by simp),if_pos ⟨h1,h2⟩,yx,jc _ (by simp) (by rw[e];omega),e]
   exact azf (.inr rfl) hn pub hp np _ hq hl 128 rfl k
  ·rw[dh (by omega),if_neg (by simp),if_neg (by omega),yx,jc _ (by simp) (by rw[e];omega),e]
   exact azf (.inl rfl) hn pub hp np _ hq hl 64 rfl k
 ·rw[dh (by omega),if_neg (by simp),if_neg (by omega),yx,jc _ (by simp) (by rw[e];omega),e]
  exact azf (.inl rfl) hn pub hp np _ hq hl 64 rfl k
theorem R7t:Rt 7 136:=.inr (.inr (.inr ⟨rfl,rfl⟩))
theorem g0:Good 136 (Z25,0):=⟨buz,by decide⟩
theorem bov{n:Nat}(hn:n≤32)(pub a t:List Int)(la:a.length=32)(nt:t.length≤90000){ρ:Type}(k:List Int→Option ρ) :
    P.jg a t 7 (au7 136 (Z25,0) pub).1 ((au7 136 (Z25,0) pub).2:Int) false (n:Int) k=k (be2 n true pub a t):=by
 have e:[Ah 32 (Ao 0 a),t].flatten=a++t:=by rw[Ap,Ae (by omega)];simp
 have hl:(a++t).length≤100000:=by rw[Ac];omega
 rw[P.alu];unfold P.afm be2
 rw[jc _ (by simp) (by rw[e];omega),e,if_pos rfl]
 refine (mh R7t _ _ (ahl pub g0) (a++t) (by omega) _).trans ?_
 refine (o7 R7t _ (ahl (a++t) (ahl pub g0)) n (by omega) _).trans ?_
 unfold buw
 show k (sqO 136 (trn 7 136 (au7 136 (au7 136 (Z25,0) pub) (a++t)),0) n)=k (sqO 136 (trn 7 136 (au7 136 (Z25,0) (pub++(a++t))),0) n)
 simp only[bs8]
def Sg(n:Nat)(sh:Bool)(pub:List Int)(tg:Nat)(cK:Int)(cW:List Int)(cA:Int)(cO:Bool)(c1 dK:Int)(dW dT:List Int)(dS d1 eK:Int)(eW eT:List Int)(eS:Int):Prop :=
 (sh=true∧tg=1∧cK=7∧cW=(au7 136 (Z25,0) pub).1∧cA=((au7 136 (Z25,0) pub).2:Int)∧cO=false∧c1=(n:Int)) ∨
 (sh=false∧tg=2∧dK=1∧dW=auf 1 (bg6 1) (blk 1 pub)∧dT=[]∧dS=64∧d1=(n:Int)∧eK=3∧eW=auf 3 (bg6 3) (blk 3 pub)∧eT=[]∧eS=128)
theorem call{n:Nat}{sh:Bool}{pub:List Int}{tg:Nat}{cK:Int}{cW:List Int}{cA:Int}{cO:Bool}{c1 dK:Int}{dW dT:List Int}{dS d1 eK:Int}{eW eT:List Int}{eS:Int}(h:Sg n sh pub tg cK cW cA cO c1 dK dW dT dS d1 eK eW eT eS)
    (hn:n≤32) (hp:In 256 pub) (np:pub.length≤64) {a t:List Int} (la:a.length=32) (ha:In 256 a) (ht:In 256 t) (nt:t.length≤90000) {ρ:Type} (k:List Int→Option ρ) :
    br (decide (tg=1)) (P.jg a t cK cW cA cO c1 fun (q:List Int)=>k q) (br (decide (tg=2)) (P.jf a t dK dW dT dS d1 eK eW eT eS fun (q:List Int)=>k q) none)=k (be2 n sh pub a t):=by
 rcases h with ⟨rfl,rfl,rfl,rfl,rfl,rfl,rfl⟩ | ⟨rfl,rfl,rfl,rfl,rfl,rfl,rfl,rfl,rfl,rfl,rfl⟩
 ·rw[bg rfl]
  exact bov hn pub a t la nt k
 ·rw[dh (by omega),bg rfl]
  exact bpw hn pub a t hp np ha ht nt k
theorem bf1{n:Nat}{H D A K:Int}(hf:abv n H D A K)(sh:Bool)(pub:List Int)(hp:In 256 pub)(np:pub.length=n) :
    ∃tg cK cW cA cO c1 dK dW dT dS d1 eK eW eT eS,Sg n sh pub tg cK cW cA cO c1 dK dW dT dS d1 eK eW eT eS ∧
     ∀{ρ:Type} (k:Int→Int→Int→Int→Int→Bool→Nat→Int→(List Int)→Int→Bool→Int→Int→(List Int)→(List Int)→Int→Int→Int→(List Int)→(List Int)→Int→Bool→Option ρ),
      P.y7 n H D A K sh pub k=k n H D A K sh tg cK cW cA cO c1 dK dW dT dS d1 eK eW eT eS true:=by
 have hn:n≤32:=by unfold abv at hf;omega
 cases sh with
 | true =>
  refine ⟨1,7,_,_,false,(n:Int),0,[],[],0,0,0,[],[],0,.inl ⟨rfl,rfl,rfl,rfl,rfl,rfl,rfl⟩,fun k=>?_⟩
  rw[P.ank];unfold P.ahf
  rw[jk,decide_eq_true hf,jo,p9,eu (by omega),p9,P.arh];unfold P.ajf
  rw[P.am0];unfold P.ahc
  rw[bdy R7t,iw (by omega)]
  exact mh R7t Z25 0 g0 pub (by omega) _
 | false =>
  refine ⟨2,0,[],0,false,0,1,_,_,64,(n:Int),3,_,_,128,.inr ⟨rfl,rfl,rfl,rfl,rfl,rfl,rfl,rfl,rfl,rfl,rfl⟩,fun k=>?_⟩
  rw[P.ank];unfold P.ahf
  rw[jk,decide_eq_true hf,jo,p9,eu (by omega),yg,P.aro];unfold P.ajy
  rw[y5 (.inl rfl) pub hp (by omega) 64 rfl,y5 (.inr (.inr rfl)) pub hp (by omega) 128 rfl]
theorem zy{n:Nat}{H D A K:Int}(hf:abv n H D A K)(sh:Bool)(pub:List Int)(hp:In 256 pub)(np:pub.length=n)(a t:List Int)(la:a.length=32)(ha:In 256 a)(ht:In 256 t)(nt:t.length≤90000){ρ:Type}(k:List Int→Option ρ) :
    P.zy n H D A K sh pub a t k=k (be2 n sh pub a t):=by
 have hn:n≤32:=by unfold abv at hf;omega
 obtain ⟨tg,cK,cW,cA,cO,c1,dK,dW,dT,dS,d1,eK,eW,eT,eS,hs,hb⟩:=bf1 hf sh pub hp np
 rw[P.ay7];unfold P.apc
 rw[hb,jo,p9]
 exact call hs hn hp (by omega) la ha ht nt k
theorem aai{n:Nat}{H D A K:Int}(hf:abv n H D A K)(sh:Bool)(pub:List Int)(hp:In 256 pub)(np:pub.length=n)(a t:List Int)(la:a.length=32)(ha:In 256 a)(ht:In 256 t)(nt:t.length≤90000){ρ:Type}(k:List Int→Option ρ) :
    P.aai n H D A K sh pub a t k=k (be2 n sh pub a t):=by
 have hn:n≤32:=by unfold abv at hf;omega
 have hsl:=bfz a
 have path:∀(kind:Int) (h:kind=1∨kind=3) (B:Int),B=((bsz kind:Nat):Int) →
     (br (decide ((0:Int)≤Aa.wrap (B-(n:Int)))) (br (decide (Aa.wrap (B-(n:Int))≤Aa.wrap (B-(n:Int))))
      (br (decide (Aa.wrap (B-(n:Int))*((1:Nat):Int)≤((140737488355328:Nat):Int)))
       (P.aa6 a fun (q4:List Int) =>
        P.oh [pub,Ab (Aa.wrap (B-(n:Int))).toNat (0:Int),q4,t] fun (q5:List Int) =>
         P.afn kind q5 fun (q6:List Int) (q7:Int) =>
          br (decide ((0:Int)≤(n:Int))) (br (decide ((n:Int)≤(q6.length:Int))) (k (Ah ((n:Int)-(0:Int)).toNat (Ao 0 q6))) none) none) none) none) none)=k ((bp4 kind (blk kind pub++(sho a++t))).take n):=by
  intro kind h B hB
  have hb:bsz kind=64∨bsz kind=128:=by rcases aki kind with ⟨_,e⟩ | ⟨_,e⟩<;>omega
  have e:Aa.wrap (B-(n:Int))=((bsz kind-pub.length:Nat):Int):=by rw[qc (by omega) (by omega)];omega
  have ej:[pub,Ab (bsz kind-pub.length) (0:Int),sho a,t].flatten=blk kind pub++(sho a++t):=by unfold blk;simp
  have hl:=bi6 kind pub (by omega)
  have hll:(blk kind pub++(sho a++t)).length≤100000:=by rw[Ac,Ac];omega
  have hs:=bj5 h (blk kind pub++(sho a++t))
  rw[e,bg (by omega),bg (by omega),bg (by omega),aa6,toNat_cast,oh _ (by simp) (by rw[ej];omega),ej,afn (by unfold K3;omega) _ ((btn hp).app ((btj ha).app ht)) (by omega),bg (by omega),bg (by omega),Ap,Int.sub_zero,toNat_cast]
 rw[P.bcw];unfold P.asn
 rw[eu (by omega),om,decide_eq_true hf,jo,p9]
 unfold be2 hk
 cases sh with
 | true =>
  have ej:[pub,Ah 32 (Ao 0 a),t].flatten=pub++(a++t):=by rw[Ap,Ae (by omega)];simp
  have hll:(pub++(a++t)).length≤100000:=by rw[Ac,Ac];omega
  rw[p9,oh _ (by simp) (by rw[ej];omega),ej,akb (by omega) _ (by omega) n (by omega),if_pos rfl]
 | false =>
  rw[yg,if_neg (by simp)]
  by_cases h1:16<n
  ·rw[bg (by omega)]
   by_cases h2:n<t.length
   ·rw[bg (by omega),if_pos ⟨h1,h2⟩]
    exact path 3 (.inr rfl) 128 rfl
   ·rw[dh (by omega),if_neg (by omega)]
    exact path 1 (.inl rfl) 64 rfl
  ·rw[dh (by omega),if_neg (by omega)]
   exact path 1 (.inl rfl) 64 rfl
end Q
end
