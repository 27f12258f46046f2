/-
  SlhVerifies, part 26: an interpreter of my own over abstract values, the pure functions, the walks and the plain law.
-/

import Derived.Test.YtciddcopcdmnbaaGreatDoorSlhVerifiesY
import Derived.Test.YtciddcopcdmnbaaGreatDoorSlhVerifiesM
import Derived.Test.YtciddcopcdmnbaaGreatDoorSlhVerifiesL
import Derived.Test.YtciddcopcdmnbaaGreatDoorSlhVerifiesI
import Derived.Test.YtciddcopcdmnbaaGreatDoorSlhVerifiesK
open Go.IntKind renaming i64 → Aa, u64 → Ad, u32 → A9
open List renaming replicate → Ab, length_append → Ac, length_take → Ae, take_of_length_le → Af, range → Ag, append_assoc → Ah, drop_eq_nil_of_le → Aj, set_append_right → Ak, length_replicate → Al, length_reverse → Am, range_succ → Ao, getD_eq_getElem?_getD → Ap, drop_zero → Aq, set_cons_zero → Au, getElem?_append_right → Av, drop_eq_getElem_cons → Aw, drop_drop → Ay, length_range → A8, length_map → Ba, map_append → Bb, append_nil → Bc, nil_append → Bg, take_append_of_le_length → Bh, ext_getElem → Bo, length_drop → Bp, take → Br, singleton_append → Bu, replicate_succ' → Bv
open BitVec renaming ofInt → Ai, toNat_ofInt → Bl
open Nat renaming sub_self → Ar, and_two_pow_sub_one_eq_mod → Bd, min_eq_left → Bf, le_refl → Bj, le_mul_of_pos_right → Bq, zero_le → Bt, mul_succ → Bw, succ_mul → Bz
open Int renaming eq_ofNat_of_zero_le → Az, emod_eq_of_lt → Bn

section
/- SHA-2: the document's block of words of 64 bits. -/
namespace Q
open Go Go.Abs
set_option linter.unusedVariables false
set_option linter.unusedSimpArgs false
theorem aqj(x:BitVec 64)(m:Int)(n:Nat)(hm:m=(n:Int))(hn:n≤64){ρ:Type}(k:Int→Option ρ):P.aa6 (x.toNat:Int) m true k=k ((rr x n).toNat:Int):=by
 subst hm
 rw[P.alk]
 unfold P.agw
 rw[oz,dh (by omega),nu (by omega) (by omega),dh (by omega),show (64:Int)-(n:Int)=((64-n:Nat):Int) by omega]
 simp only[toNat_cast]
 rw[bpq _ _ hn,bxs _ _ (by omega),b69]
 rfl
theorem bwe(x:BitVec 64)(t:Nat×Nat×Nat)(a b c:Int)(ha:a=(t.1:Int))(hb:b=(t.2.1:Int))(hc:c=(t.2.2:Int))(h1:t.1≤64)(h2:t.2.1≤64)(h3:t.2.2≤64){ρ:Type}(k:Int→Option ρ) :
    P.aav (x.toNat:Int) a b c false true k=k ((hi t x).toNat:Int):=by
 rw[P.ahe]
 unfold P.aea
 rw[dh (by omega),jl,wo,aqj _ _ _ hc h3,aqj _ _ _ ha h1,aqj _ _ _ hb h2,aoy,aoy]
 rfl
theorem bv8(x:BitVec 64)(t:Nat×Nat×Nat)(a b c:Int)(ha:a=(t.1:Int))(hb:b=(t.2.1:Int))(hc:c=(t.2.2:Int))(h1:t.1≤64)(h2:t.2.1≤64)(h3:t.2.2≤64){ρ:Type}(k:Int→Option ρ) :
    P.aav (x.toNat:Int) a b c true true k=k ((lo t x).toNat:Int):=by
 rw[P.ahe]
 unfold P.aea
 rw[dh (by omega),jl,oz,aqj _ _ _ ha h1,aqj _ _ _ hb h2,aoy,hc]
 simp only[toNat_cast]
 rw[bpq _ _ h3,aoy]
 rfl
theorem cdt(a b c d:BitVec 64):bits .and .u64 (Ad.wrap (Ad.wrap (Ad.wrap ((a.toNat:Int)+(b.toNat:Int))+(c.toNat:Int))+(d.toNat:Int))) 18446744073709551615=((a+b+c+d).toNat:Int):=by
 rw[apw,apw,apw,btx _ (bu6 _)]
theorem cd3(a b:BitVec 64):bits .and .u64 (Ad.wrap ((a.toNat:Int)+(b.toNat:Int))) 18446744073709551615=((a+b).toNat:Int):=by
 rw[apw,btx _ (bu6 _)]
theorem b9d(d a b c e f:BitVec 64):bits .and .u64 (Ad.wrap ((d.toNat:Int)+Ad.wrap (Ad.wrap (Ad.wrap (Ad.wrap ((a.toNat:Int)+(b.toNat:Int))+(c.toNat:Int))+(e.toNat:Int))+(f.toNat:Int)))) 18446744073709551615=((d+(a+b+c+e+f)).toNat:Int):=by
 rw[apw,apw,apw,apw,apw,btx _ (bu6 _)]
theorem cdy(a b c e f g h:BitVec 64):bits .and .u64 (Ad.wrap (Ad.wrap (Ad.wrap (Ad.wrap (Ad.wrap ((a.toNat:Int)+(b.toNat:Int))+(c.toNat:Int))+(e.toNat:Int))+(f.toNat:Int))+Ad.wrap ((g.toNat:Int)+(h.toNat:Int)))) 18446744073709551615=(((a+b+c+e+f)+(g+h)).toNat:Int):=by
 rw[apw,apw,apw,apw,apw,apw,btx _ (bu6 _)]
theorem ce7(e f g:BitVec 64):bits .xor .u64 (bits .and .u64 (e.toNat:Int) (f.toNat:Int)) (bits .and .u64 (bits .xor .u64 18446744073709551615 (e.toNat:Int)) (g.toNat:Int))=((g ^^^ (e &&& (f ^^^ g))).toNat:Int):=by
 rw[show (18446744073709551615:Int)=((BitVec.allOnes 64).toNat:Int) from rfl,bli,aoy,bli,aoy,b3y]
theorem b3j(a b c:BitVec 64):bits .xor .u64 (bits .xor .u64 (bits .and .u64 (a.toNat:Int) (b.toNat:Int)) (bits .and .u64 (a.toNat:Int) (c.toNat:Int))) (bits .and .u64 (b.toNat:Int) (c.toNat:Int))=(((a &&& b) ||| (c &&& (a ||| b))).toNat:Int):=by
 rw[bli,bli,bli,aoy,aoy,bwi]
def azx(b:List Int)(t:Nat):List (BitVec 64):=(Ag t).map (W p64 (ou 64 b 16))
theorem bfy(b:List Int)(t:Nat):azx b (t+1)=azx b t++[W p64 (ou 64 b 16) t]:=by simp[azx,Ao]
theorem bje(b:List Int)(t:Nat):(azx b t).length=t:=by simp[azx]
theorem av5(b:List Int)(t i:Nat)(h:i<t):(azx b t).getD i 0=W p64 (ou 64 b 16) i:=by
 unfold azx
 rw[getD_lt (by simpa using h)];simp
theorem bxu(b:List Int)(t:Nat)(h:t<16):W p64 (ou 64 b 16) t=BitVec.ofNat 64 (T 8 ((b.take ((t+1)*8)).drop (t*8)).reverse):=by
 rw[←bwj p64 _ (by rw[vo];omega) 0 t (by rw[vo];omega),show sched p64 (ou 64 b 16) 0=ou 64 b 16 from rfl,getD_lt (by rw[vo];exact h)]
 simp[ou]
theorem brb(b:List Int)(hb:In 256 b)(hl:b.length=16*8){ρ:Type}(k:List Int→Option ρ):P.adt b true 80 18446744073709551615 k=k (cv (azx b 80)):=by
 rw[P.aqu]
 unfold P.ajn
 rw[oz,P.ap3]
 unfold P.aq4 P.b37 P.bzt P.b7s
 refine xu (fun t=>(b,true,80,18446744073709551615,8,(t:Int),cv (azx b t))) 80 rfl (fun t ht next hn'=>?_) (fun next=>?_) (by omega)
 ·simp only[P.aic,toNat_cast]
  have e1:Aa.wrap ((t:Int)+1)=((t+1:Nat):Int):=by rw[nu (by omega) (by omega)];omega
  rw[bf (by omega)]
  have hlen:=bje b t
  by_cases h16:t<16
  ·have e2:Aa.wrap ((t:Int)*8)=((t*8:Nat):Int):=by rw[nu (by omega) (by omega)];omega
   have e3:Aa.wrap (Aa.wrap ((t:Int)*8)+8)=(((t+1)*8:Nat):Int):=by rw[e2,nu (by omega) (by omega)];omega
   have hl2:((b.take ((t+1)*8)).drop (t*8)).length=8:=by simp;omega
   rw[bf (by omega),e3,e2,bf (by omega),bf (by omega),bf (by omega)]
   simp only[toNat_cast]
   have hT:=bzx 8 ((b.take ((t+1)*8)).drop (t*8)).reverse
   rw[Am,hl2] at hT
   have e4:((T 8 ((b.take ((t+1)*8)).drop (t*8)).reverse%2^64:Nat):Int)=((W p64 (ou 64 b 16) t).toNat:Int):=by
    rw[bxu b t h16,BitVec.toNat_ofNat]
   rw[uj _ ((hb.take _).drop _) (by omega),bf (by rw[aae];omega),e4,e1,show [((W p64 (ou 64 b 16) t).toNat:Int)]=cv [W p64 (ou 64 b 16) t] from rfl,aiq,←bfy]
   exact hn'
  ·have e15:Aa.wrap ((t:Int)-15)=((t-15:Nat):Int):=by rw[nu (by omega) (by omega)];omega
   have e2:Aa.wrap ((t:Int)-2)=((t-2:Nat):Int):=by rw[nu (by omega) (by omega)];omega
   have e7:Aa.wrap ((t:Int)-7)=((t-7:Nat):Int):=by rw[nu (by omega) (by omega)];omega
   have e16:Aa.wrap ((t:Int)-16)=((t-16:Nat):Int):=by rw[nu (by omega) (by omega)];omega
   simp only[e15,e2,e7,e16,toNat_cast,aix,aae,hlen]
   rw[av5 b t _ (by omega),av5 b t _ (by omega),av5 b t _ (by omega),av5 b t _ (by omega)]
   obtain ⟨q1,m1⟩:=bor ((W p64 (ou 64 b 16) (t-15)).toNat:Int) 7 18 3 7 18 3 rfl rfl rfl (by omega) (by omega) (by omega)
   obtain ⟨q2,m2⟩:=bor ((W p64 (ou 64 b 16) (t-2)).toNat:Int) 17 19 10 17 19 10 rfl rfl rfl (by omega) (by omega) (by omega)
   rw[dh (by omega),bf (by omega),bf (by omega),m1,bf (by omega),bf (by omega),m2,oz,bf (by omega),bf (by omega),bv8 _ p64.a _ _ _ (by rfl) (by rfl) (by rfl) (by decide) (by decide) (by decide),bf (by omega),bf (by omega),bv8 _ p64.b _ _ _ (by rfl) (by rfl) (by rfl) (by decide) (by decide) (by decide)]
   have hW:=bnt p64 (ou 64 b 16) (vo b 16) (t-16)
   rw[show t-16+16=t by omega,show t-16+1=t-15 by omega,show t-16+9=t-7 by omega,show t-16+14=t-2 by omega] at hW
   have hW2:lo p64.b (W p64 (ou 64 b 16) (t-2))+W p64 (ou 64 b 16) (t-7)+lo p64.a (W p64 (ou 64 b 16) (t-15))+W p64 (ou 64 b 16) (t-16)=W p64 (ou 64 b 16) t:=by rw[hW];ac_rfl
   rw[bf (by omega),bf (by omega),bf (by omega),bf (by omega),bf (by omega),cdt,hW2,e1,show [((W p64 (ou 64 b 16) t).toNat:Int)]=cv [W p64 (ou 64 b 16) t] from rfl,aiq,←bfy]
   exact hn'
 ·simp only[P.aic]
  rw[dh (by omega)]
theorem by0(b:List Int)(v:List (BitVec 64))(hv:v.length=8)(h0 h1:List Int){ρ:Type}(k0:Bool→Int→Int→Int→List Int→List Int→List Int→List Int→List Int→List Int→Option ρ) :
    P.agj true 80 18446744073709551615 0 h0 h1 P.roots256 P.roots512 (cv (azx b 80)) (cv v) k0=k0 true 80 18446744073709551615 80 h0 h1 P.roots256 P.roots512 (cv (azx b 80)) (cv (runs p64 (ou 64 b 16) v 80)):=by
 rw[P.apg]
 unfold P.anw P.b0n P.bzs P.b7a
 refine xu (fun t=>(true,80,18446744073709551615,(t:Int),h0,h1,P.roots256,P.roots512,cv (azx b 80),cv (runs p64 (ou 64 b 16) v t))) 80 rfl (fun t ht next hn'=>?_) (fun next=>?_) (by omega)
 ·simp only[P.afu]
  have e1:Aa.wrap ((t:Int)+1)=((t+1:Nat):Int):=by rw[nu (by omega) (by omega)];omega
  have hlen:=bje b 80
  simp only[e1,toNat_cast,aix,aae,hlen]
  rw[av5 b 80 t ht,K64]
  obtain ⟨q1,m1⟩:=bse (((runs p64 (ou 64 b 16) v t).getD 0 0).toNat:Int) 2 13 22 2 13 22 rfl rfl rfl (by omega) (by omega) (by omega)
  obtain ⟨q2,m2⟩:=bse (((runs p64 (ou 64 b 16) v t).getD 4 0).toNat:Int) 6 11 25 6 11 25 rfl rfl rfl (by omega) (by omega) (by omega)
  rw[bf (by omega),m1,m2,oz,bwe _ p64.c _ _ _ (by rfl) (by rfl) (by rfl) (by decide) (by decide) (by decide),bwe _ p64.d _ _ _ (by rfl) (by rfl) (by rfl) (by decide) (by decide) (by decide)]
  rw[bf (by omega),bf (by omega),bf (by omega),bf (by omega),ce7,b3j,cdy,b9d]
  exact hn'
 ·simp only[P.afu]
  rw[dh (by omega)]
  rfl
theorem bzq(v u:List (BitVec 64))(hv:v.length=8)(hu:u.length=8)(h1:List Int){ρ:Type}(k0:Int→Int→List Int→List Int→List Int→Option ρ) :
    P.ags 18446744073709551615 0 (cv v) h1 (cv u) k0=k0 18446744073709551615 8 (cv v) h1 (cv ((Ag 8).map fun i=>u.getD i 0+v.getD i 0)):=by
 rw[P.apf]
 unfold P.aon P.b2y P.bzw P.b7c
 refine xu (fun i=>(18446744073709551615,(i:Int),cv v,h1,cv (((Ag i).map fun i=>u.getD i 0+v.getD i 0)++u.drop i))) 8 (by simp) (fun i hi next hn'=>?_) (fun next=>?_) (by omega)
 ·simp only[P.agc,toNat_cast,aix]
  have e1:Aa.wrap ((i:Int)+1)=((i+1:Nat):Int):=by rw[nu (by omega) (by omega)];omega
  have e2:(((Ag i).map fun i=>u.getD i 0+v.getD i 0)++u.drop i).getD i 0=u.getD i 0:=by
   rw[Ap,Av (by simp),List.getElem?_drop,Ba,A8,Ap]
   congr 2
   omega
  rw[e1,e2,cd3,bfr]
  have e3:(((Ag i).map fun i=>u.getD i 0+v.getD i 0)++u.drop i).set i (u.getD i 0+v.getD i 0)=((Ag (i+1)).map fun i=>u.getD i 0+v.getD i 0)++u.drop (i+1):=by
   rw[Ak _ _ (by simp),Ba,A8,Ar,Ao,Bb,Ah,Aw (by omega),Au]
   rfl
  rw[e3]
  simp (disch:=omega) only[bf,dh,je,fq,gu,gy,jl,oz,wo,nu]
  exact hn'
 ·simp only[P.agc]
  rw[dh (by omega),Aj (by omega),Bc]
  rfl
theorem brj(v:List (BitVec 64))(hv:v.length=8)(b:List Int)(hb:In 256 b)(hl:b.length=16*8){ρ:Type}(k:List Int→Option ρ):P.ae7 (cv v) b true k=k (cv (bat p64 v b)):=by
 rw[P.aql]
 unfold P.ajw
 have hr1:∀(k:List Int→Option ρ),P.aaq k=k P.roots256:=fun k=>by rw[P.akf];kernel_rfl
 have hr2:∀(k:List Int→Option ρ),P.aar k=k P.roots512:=fun k=>by rw[P.aky];kernel_rfl
 rw[hr1,hr2,oz,brb b hb hl,by0 b v hv,bzq v _ hv (ar0 _ _ _ hv _)]
 rfl
end Q
end

section
/- bits, the first part: texts. -/
namespace Q
open Go Go.Abs
set_option linter.unusedVariables false
set_option linter.unusedSimpArgs false
theorem bqt{a b:List Int}(hl:a.length=b.length)(hs:a.length≤140737488355328){ρ:Type}(k0:List Int→List Int→Int→Option ρ)(k1:Bool→Option ρ) :
    ∀(m i:Nat),i+m=a.length→∀{stp:(List Int×List Int×Int)→((List Int×List Int×Int)→Option ρ)→((List Int×List Int×Int) ⊕ Bool→Option ρ)→Option ρ} {K:(List Int×List Int×Int) ⊕ Bool→Option ρ},
     (∀(j:Nat) next,stp (a,b,(j:Int)) next K=br (decide ((j:Int)<(a.length:Int))) (br (a.getD j 0 !=b.getD j 0) (k1 false) (next (a,b,((j+1:Nat):Int)))) (k0 a b (j:Int))) →
     lp stp (a,b,(i:Int)) K=if a.drop i=b.drop i then k0 a b (a.length:Int) else k1 false:=by
 intro m i hm stp K hst
 refine cfl (P:=fun x=>∃j:Nat,x=(a,b,(j:Int))∧j≤a.length∧(if a.drop j=b.drop j then k0 a b (a.length:Int) else k1 false)=(if a.drop i=b.drop i then k0 a b (a.length:Int) else k1 false)) (μ:=fun x=>((a.length:Int)-x.2.2).toNat) ?_ ⟨i,rfl,by omega,rfl⟩ (by simp only;omega)
 rintro _ ⟨j,rfl,hj,he⟩ next hn
 rw[hst,←he]
 by_cases hji:j<a.length
 ·rw[bf (by omega),ae5 a 0 j hji,ae5 b 0 j (by omega)]
  by_cases hab:a.getD j 0=b.getD j 0
  ·rw[fq hab,hn _ ⟨j+1,rfl,by omega,?_⟩ (by simp only;omega),←he,ae5 a 0 j hji,ae5 b 0 j (by omega)]
   ·rw[←he,ae5 a 0 j hji,ae5 b 0 j (by omega)]
    simp only[hab,List.cons.injEq,true_and]
  ·rw[je hab,if_neg (by simp only[List.cons.injEq];exact fun h=>hab h.1)]
 ·have:j=a.length:=by omega
  subst this
  rw[dh (by omega),if_pos (by rw[Aj (Bj _),Aj (by omega)])]
theorem agt(a b:List Int)(h:a.length≤140737488355328){ρ:Type}(k:Bool→Option ρ):P.agt a b k=k (decide (a=b)):=by
 rw[P.bck]
 unfold P.aq5
 by_cases hl:a.length=b.length
 ·rw[fq (by omega),P.bdq]
  unfold P.bdl P.b7z P.b2k P.cho
  have:=bqt hl h (fun _ _ _=>k true) k a.length 0 (by omega) (stp:=(fun x next ex=>P.auf x.1 x.2.1 x.2.2 (fun v0 v1 v5=>next (v0,v1,v5)) (fun v0 v1 v5=>ex (.inl (v0,v1,v5))) (fun v4=>ex (.inr v4)))) (K:=Sum.elim (fun _=>k true) k) (by
   intro j next
   simp only[P.auf,Sum.elim_inl,Sum.elim_inr]
   by_cases hj:(j:Int)<(a.length:Int)
   ·simp only[bf hj]
    simp (disch:=omega) only[bf,dh,je,fq,gu,gy,jl,oz,wo,nu,toNat_cast]
    rfl
   ·simp only[dh hj])
  simp only[Aq] at this
  refine this.trans ?_
  by_cases hab:a=b
  ·rw[if_pos hab,decide_eq_true hab]
  ·rw[if_neg hab,decide_eq_false hab]
 ·rw[je (by omega),decide_eq_false (fun e=>hl (by rw[e]))]
end Q
end

section
/- bits: the law's own test. -/
namespace Q
open Go Go.Abs
set_option linter.unusedVariables false
set_option linter.unusedSimpArgs false
end Q
end

section
/- bits: Same, Join. -/
namespace Q
open Go Go.Abs
set_option linter.unusedVariables false
set_option linter.unusedSimpArgs false
def diff(a b:List Int)(i:Nat):Int:=(Ag i).foldl (fun acc j=>bits .or .u8 acc (bits .xor .u8 (a.getD j 0) (b.getD j 0))) 0
theorem bjm(a b:List Int)(i:Nat):diff a b (i+1)=bits .or .u8 (diff a b i) (bits .xor .u8 (a.getD i 0) (b.getD i 0)):=by
 simp[diff,Ao]
theorem bj6(a b:List Int)(ha:In 256 a)(hb:In 256 b):∀i,(0≤diff a b i∧diff a b i<256)∧(diff a b i=0↔∀j,j<i→a.getD j 0=b.getD j 0)
 | 0=>⟨⟨by simp[diff],by simp[diff]⟩,by simp[diff]⟩
 | i+1=>by
  obtain ⟨h1,h2⟩:=bj6 a b ha hb i
  rw[bjm]
  have hx:=ha.getD i (by omega)
  have hy:=hb.getD i (by omega)
  obtain ⟨d,hd⟩:=Az h1.1
  obtain ⟨x,hx'⟩:=Az hx.1
  obtain ⟨y,hy'⟩:=Az hy.1
  rw[hd,hx',hy',b4t x y (by omega) (by omega),cgb d _ (by omega) (Nat.xor_lt_two_pow (n:=8) (show x<2^8 by omega) (show y<2^8 by omega))]
  have hb:d ||| (x ^^^ y)<256:=Nat.or_lt_two_pow (n:=8) (show d<2^8 by omega) (Nat.xor_lt_two_pow (n:=8) (show x<2^8 by omega) (show y<2^8 by omega))
  refine ⟨⟨by omega,by omega⟩,?_⟩
  rw[show (((d ||| (x ^^^ y):Nat):Int)=0↔(d ||| (x ^^^ y))=0) by omega,Nat.or_eq_zero_iff,xor_zero]
  constructor
  ·rintro ⟨h0,hxy⟩ j hj
   by_cases hji:j=i
   ·subst hji;rw[hx',hy',hxy]
   ·exact h2.1 (by omega) j (by omega)
  ·intro h
   refine ⟨?_,?_⟩
   ·have:=h2.2 (fun j hj=>h j (by omega));omega
   ·have:=h i (by omega);rw[hx',hy'] at this;omega
theorem aag(a b:List Int)(ha:In 256 a)(hb:In 256 b)(h:a.length≤140737488355328){ρ:Type}(k:Bool→Option ρ):P.aag a b k=k (decide (a=b)):=by
 rw[P.azf]
 unfold P.an3
 by_cases hl:a.length=b.length
 ·rw[fq (by omega),P.bbe]
  unfold P.ay0 P.b61 P.b3f P.b84
  refine btc (fun i=>(a,b,diff a b i,(a.length:Int),(i:Int))) a.length (fun i hi next hn=>?_) (fun next=>?_) (Bt _) (by omega)
  ·simp only[P.aqf,toNat_cast]
   simp (disch:=omega) only[bf,dh,je,fq,gu,gy,jl,oz,wo,nu]
   rw[←bjm]
   exact hn
  ·simp only[P.aqf]
   rw[dh (by omega)]
   congr 1
   have:=(bj6 a b ha hb a.length).2
   by_cases hab:a=b
   ·rw[decide_eq_true hab,beq_iff_eq,this]
    subst hab;exact fun _ _=>rfl
   ·rw[decide_eq_false hab,beq_eq_false_iff_ne]
    intro h0
    refine hab (Bo hl (fun i h1 h2=>?_))
    have:=this.1 h0 i h1
    rw[getD_lt h1,getD_lt h2] at this
    exact this
 ·rw[je (by omega),decide_eq_false (fun e=>hl (by rw[e]))]
def joined(l:List (List Int))(i:Nat):List Int:=(l.take i).flatten
theorem aun(l:List (List Int))(i:Nat)(h:i<l.length):joined l (i+1)=joined l i++l.getD i []:=by
 unfold joined
 rw[←ari l [] i h,List.flatten_append];simp
theorem axo(l:List (List Int)):joined l l.length=l.flatten:=by unfold joined;rw[List.take_length]
theorem bbh(l:List (List Int))(i:Nat):(joined l i).length≤l.flatten.length:=by
 unfold joined
 have:l.flatten=(l.take i).flatten++(l.drop i).flatten:=by rw[←List.flatten_append,List.take_append_drop]
 rw[this,Ac];omega
theorem ji(l:List (List Int))(h:l.length≤140737488355328)(h2:l.flatten.length≤140737488355328){ρ:Type}(k:List Int→Option ρ):P.ji l k=k l.flatten:=by
 rw[P.bbz]
 unfold P.arq
 rw[P.bdu]
 unfold P.bam P.b73 P.b42 P.cf3
 refine btc (fun i=>(l,(i:Int),joined l i)) l.length (fun i hi next hn=>?_) (fun next=>?_) (Bt _) (by omega)
 ·have e:=aun l i hi
  have h3:=bbh l (i+1)
  rw[e,Ac] at h3
  simp only[P.aug,toNat_cast]
  simp (disch:=omega) only[bf,dh,je,fq,gu,gy,jl,oz,wo,nu]
  rw[←e]
  exact hn
 ·simp only[P.aug]
  rw[dh (by omega),axo]
theorem qx(n:Nat)(h:n≤140737488355328){ρ:Type}(k:List Int→Option ρ):P.qx (n:Int) k=k []:=by
 rw[P.aj2]
 unfold P.ae1
 rw[dh (by omega),show Aa.wrap ((0:Int)-(0:Int))=0 by decide]
 rw[nu (by omega) (by omega)]
 by_cases h0:n=0
 ·subst h0;rw[dh (by omega)]
 ·rw[bf (by omega),bf (by omega),bf (by omega)];rfl
theorem j5(l:List (List Int))(h:l.length≤140737488355328)(h2:l.flatten.length≤140737488355328){ρ:Type}(k:List Int→Option ρ):P.j5 l k=k l.flatten:=by
 rw[P.aio]
 unfold P.ac9
 rw[P.ank]
 unfold P.aia P.zk1 P.zs1 P.zu1
 refine btc (fun i=>(l,((joined l i).length:Int),l,(l.length:Int),(i:Int))) l.length (fun i hi next hn=>?_) (fun next=>?_) (Bt _) (by omega)
 ·have e:=aun l i hi
  have h3:=bbh l (i+1)
  have e2:((joined l i).length:Int)+((l.getD i []).length:Int)=((joined l (i+1)).length:Int):=by rw[e,Ac];omega
  simp only[P.adz,toNat_cast,e2]
  simp (disch:=omega) only[bf,dh,je,fq,gu,gy,jl,oz,wo,nu]
  exact hn
 ·simp only[P.adz]
  rw[dh (by omega),axo,qx _ h2,P.ame]
  unfold P.ag5 P.zk2 P.zs2 P.zu2
  refine btc (fun i=>(l,(l.length:Int),(i:Int),joined l i)) l.length (fun i hi next hn=>?_) (fun next=>?_) (Bt _) (by omega)
  ·have e:=aun l i hi
   have h3:=bbh l (i+1)
   rw[e,Ac] at h3
   simp only[P.ac1,toNat_cast]
   simp (disch:=omega) only[bf,dh,je,fq,gu,gy,jl,oz,wo,nu]
   rw[←e]
   exact hn
  ·simp only[P.ac1]
   rw[dh (by omega),axo]
theorem jd(l:List (List Int))(h:l.length≤140737488355328)(h2:l.flatten.length≤140737488355328){ρ:Type}(k:List Int→Option ρ):P.jd l k=k l.flatten:=by
 rw[P.azb]
 unfold P.aob
 exact j5 l h h2 k
end Q
end

section
/- lmots: digits. -/
namespace Q
open Go Go.Abs
set_option linter.unusedVariables false
set_option linter.unusedSimpArgs false
theorem wz(N s:Nat)(hN:N<18446744073709551616)(hs:s≤65536){ρ:Type}(k:List Int→Option ρ):P.wz (N:Int) (s:Int) k=k (bsw 8 s N).reverse:=by
 rw[P.bkm]
 unfold P.ax2
 simp only[toNat_cast]
 simp (disch:=omega) only[bf,dh,je,fq,gu,gy,jl,oz,wo,nu]
 rw[P.bi3]
 unfold P.bkk P.b6t P.b0r P.caz
 refine xu (fun j=>(((N/2^(8*j):Nat):Int),(s:Int)-1-(j:Int),Ab (s-j) 0++(bsw 8 j N).reverse)) s (by simp[bsw]) (fun j hj next hn'=>?_) (fun next=>?_) (by omega)
 ·simp only[P.ba6,Ac,Al,Am,ab5]
  rw[show (s:Int)-1-(j:Int)=((s-1-j:Nat):Int) by omega]
  simp only[toNat_cast]
  have hd:=Nat.div_le_self N (2^(8*j))
  have hb:bits .and .u64 ((N/2^(8*j):Nat):Int) 255=((N/2^(8*j)%2^8:Nat):Int):=by
   rw[show (255:Int)=((2^8-1:Nat):Int) from rfl,aou _ _ (by omega) (by omega),Bd]
  have hd2:(((N/2^(8*j):Nat):Int)).fdiv ((2:Int)^8)=((N/2^(8*(j+1)):Nat):Int):=by
   rw[show ((2:Int)^8)=(2:Int)^min 8 8 from rfl,fdiv_pow _ 8 8 (by omega),Nat.div_div_eq_div_mul,←Nat.pow_add,Bw]
  rw[hb,hd2,u8n _ (by omega)]
  rw[bg7,List.reverse_append,List.reverse_singleton,Bu] at hn'
  have hset:(Ab (s-j) (0:Int)++(bsw 8 j N).reverse).set (s-1-j) ((N/2^(8*j)%2^8:Nat):Int)=Ab (s-(j+1)) 0++((N/2^(8*j)%2^8:Nat):Int)::(bsw 8 j N).reverse:=by
   rw[show s-j=(s-(j+1))+1 by omega,Bv,Ah,Ak _ _ (by simp;omega),Al,show s-1-j-(s-(j+1))=0 by omega]
   rfl
  rw[hset]
  simp (disch:=omega) only[bf,dh,je,fq,gu,gy,jl,oz,wo,nu]
  rw[show ((s-1-j:Nat):Int)-1=(s:Int)-1-((j+1:Nat):Int) by omega]
  exact hn'
 ·simp only[P.ba6]
  rw[dh (by omega),Ar];rfl
def sumTo(D:List Int):Nat→Nat
 | 0=>0
 | i+1=>sumTo D i+(D.getD i 0).toNat
theorem sumTo_le(D:List Int)(w:Nat)(h:In (2^w) D):∀i,sumTo D i≤i*(2^w-1)
 | 0=>by simp[sumTo]
 | i+1=>by
  have ih:=sumTo_le D w h i
  have hp:((2:Int)^w)=((2^w:Nat):Int):=by simp
  have:=h.getD i (by rw[hp];have:=p2 w;omega)
  rw[hp] at this
  rw[Bz];simp only[sumTo];omega
theorem bqn(b:List Int)(w c:Int):In (2^w.toNat) (tq b w c):=by
 unfold tq
 split
 ·refine In.map (fun i _=>⟨Int.natCast_nonneg _,?_⟩)
  have:=Nat.mod_lt (T 8 b.reverse/2^(8*b.length-w.toNat*(i+1))) (p2 w.toNat)
  have hp:((2:Int)^w.toNat)=((2^w.toNat:Nat):Int):=by simp
  rw[hp];unfold dg;omega
 ·exact In.nil
def left(w s:Nat)(b:List Int):Nat:=((256/w)*(2^w-1)-sumTo (tq b w ((256/w:Nat):Int)) (256/w))*2^s
theorem ax0(b:List Int)(w c:Nat)(h1:1≤w)(h2:w≤24)(h:c*w≤b.length*8):tq b (w:Int) (c:Int)=(Ag c).map (dg w b.length (T 8 b.reverse)):=by
 unfold tq
 rw[if_pos (by refine ⟨by omega,by omega,by omega,?_⟩;rw[←Int.natCast_mul];omega)]
 simp only[toNat_cast]
end Q
end

section
/- SHA-2: blocks one behind the other, words of 32 bits. -/
namespace Q
open Go Go.Abs
set_option linter.unusedVariables false
set_option linter.unusedSimpArgs false
def thr{w:Nat}(p:Par w)(v:List (BitVec w))(b:List Int):Nat→List (BitVec w)
 | 0=>v
 | i+1=>bat p (thr p v b i) ((b.drop ((2*w)*i)).take (2*w))
theorem aot{w:Nat}(p:Par w)(v:List (BitVec w))(hv:v.length=8)(b:List Int):∀i,(thr p v b i).length=8
 | 0=>hv
 | i+1=>bo8 _ _ _
def toV(w:Nat)(l:List Int):List (BitVec w):=(Ag 8).map fun i=>Ai w (l.getD i 0)
theorem aor(w:Nat)(l:List Int):(toV w l).length=8:=by simp[toV]
theorem bwl(w:Nat)(l:List Int)(hl:l.length=8)(hi:In (2^w) l):cv (toV w l)=l:=by
 unfold cv toV
 rw[List.map_map]
 refine Bo (by simp[hl]) (fun i h1 h2=>?_)
 have hp:((2:Int)^w)=((2^w:Nat):Int):=by simp
 have:=hi.getD i (by rw[hp];have:=p2 w;omega)
 rw[getD_lt h2] at this
 simp only[List.getElem_map,List.getElem_range,Function.comp,getD_lt h2,Bl]
 rw[hp] at this
 rw[Bn this.1 this.2]
 omega
theorem byy{w:Nat}(l:List (BitVec w)):In (2^w) (cv l):=by
 intro x hx
 obtain ⟨y,_,rfl⟩:=List.mem_map.1 hx
 have:=y.isLt
 have hp:((2:Int)^w)=((2^w:Nat):Int):=by simp
 rw[hp]
 omega
theorem bwo{w:Nat}(l:List (BitVec w))(hl:l.length=8):toV w (cv l)=l:=by
 unfold toV
 refine Bo (by simp[hl]) (fun i h1 h2=>?_)
 simp only[List.getElem_map,List.getElem_range,aix,ofI,getD_lt h2]
theorem bgi(x:Int):A9.wrap x=((Ai 32 x).toNat:Int):=by
 rw[b4j,Bl];omega
def rest(n:Nat)(b:List Int):List Int:=b.drop (n*(b.length/n))
theorem b3k(words b:List Int)(rd:Int)(t0 t1 t2 t3 h1 h2:List Int)(hi:In 18446744073709551616 words){ρ:Type}(k0:List Int→List Int→Int→Int→Int→List Int→List Int→List Int→List Int→List Int→List Int→List Int→Option ρ) :
    P.adg b words 0 32 rd t0 t1 t2 t3 h1 h2 (Ab 8 0) k0=k0 b words 8 32 rd t0 t1 t2 t3 h1 h2 (cv (toV 32 words)):=by
 rw[P.ang]
 unfold P.aie P.b7l P.b2f P.cdv
 refine xu (fun i=>(b,words,(i:Int),32,rd,t0,t1,t2,t3,h1,h2,cv ((Ag i).map fun i=>Ai 32 (words.getD i 0))++Ab (8-i) 0)) 8 (by simp[cv]) (fun i hi' next hn'=>?_) (fun next=>?_) (by omega)
 ·simp only[P.aec,toNat_cast]
  have e4:Aa.wrap ((i:Int)+1)=((i+1:Nat):Int):=by rw[nu (by omega) (by omega)];omega
  have e5:(cv ((Ag i).map fun i=>Ai 32 (words.getD i 0))++Ab (8-i) (0:Int)).set i ((Ai 32 (words.getD i 0)).toNat:Int)=cv ((Ag (i+1)).map fun i=>Ai 32 (words.getD i 0))++Ab (8-(i+1)) 0:=by
   rw[Ak _ _ (by simp),aae,Ba,A8,Ar,show 8-i=(8-(i+1))+1 by omega,List.replicate_succ,Au,Ao,Bb,←aiq,Ah]
   rfl
  rw[bf (by omega),bf (by omega),bf (by omega),bf (by omega),bf (by omega),bgi,e5,e4]
  exact hn'
 ·simp only[P.aec]
  rw[dh (by omega)]
  simp[toV]
theorem b5f(v:List (BitVec 32))(hv:v.length=8)(b:List Int)(hb:In 256 b)(hn:b.length≤1000000)(h1 h2:List Int){ρ:Type}(k0:List Int→Int→List Int→List Int→List Int→Int→Int→List Int→List Int→List Int→List Int→Option ρ) :
    P.adh b 64 (cv v) h2 h1 32 64 [7,18,3] [17,19,10] [2,13,22] [6,11,25] k0 =
     k0 (rest 64 b) 64 (cv (thr p32 v b (b.length/64))) h2 h1 32 64 [7,18,3] [17,19,10] [2,13,22] [6,11,25]:=by
 rw[P.amq]
 unfold P.ail P.b71 P.b4d P.cd0
 refine xu (fun i=>(b.drop (64*i),64,cv (thr p32 v b i),h2,h1,32,64,[7,18,3],[17,19,10],[2,13,22],[6,11,25])) (b.length/64) (by simp[thr]) (fun i hi next hn'=>?_) (fun next=>?_) (by omega)
 ·simp only[P.adv]
  have hlen:(b.drop (64*i)).length=b.length-64*i:=by simp
  have hge:64≤b.length-64*i:=by omega
  simp only[hlen,show (64:Int).toNat=64 from rfl,toNat_cast,Aq]
  have hbl:((b.drop (64*i)).take 64).length=16*4:=by rw[Ae,hlen];omega
  rw[bf (by omega),bf (by omega),bf (by omega),btb _ (aot _ _ hv _ _) _ ((hb.drop _).take _) hbl,bf (by omega),bf (by omega),bf (by omega),
   Af (by rw[hlen];omega),Ay,show 64*i+64=64*(i+1) by omega]
  exact hn'
 ·simp only[P.adv]
  have hlen:(b.drop (64*(b.length/64))).length=b.length-64*(b.length/64):=by simp
  rw[dh (by rw[hlen];omega)]
  rfl
theorem bys(v:List (BitVec 32))(hv:v.length=8)(b:List Int)(words h2:List Int)(hl:words.length=8){ρ:Type}(k0:List Int→List Int→Int→List Int→List Int→Option ρ) :
    P.ac6 b (cv v) 0 words h2 k0=k0 b (cv v) 8 (cv v) h2:=by
 rw[P.amo]
 unfold P.ag6 P.b68 P.b57 P.ccx
 refine xu (fun i=>(b,cv v,(i:Int),(cv v).take i++words.drop i,h2)) 8 (by simp) (fun i hi next hn'=>?_) (fun next=>?_) (by omega)
 ·simp only[P.ac7,toNat_cast]
  have e4:Aa.wrap ((i:Int)+1)=((i+1:Nat):Int):=by rw[nu (by omega) (by omega)];omega
  have e5:((cv v).take i++words.drop i).set i ((cv v).getD i 0)=(cv v).take (i+1)++words.drop (i+1):=by
   rw[Ak _ _ (by rw[Ae];omega),Ae,aae,hv,Bf (by omega),Ar,Aw (by omega),Au,←ari (cv v) 0 i (by rw[aae];omega),Ah]
   rfl
  have e6:Ad.wrap ((cv v).getD i 0)=(cv v).getD i 0:=by
   rw[aix];exact aik _ (nlt _)
  rw[bf (by omega),bf (by omega),bf (by omega),bf (by omega),bf (by omega),e6,e5,e4]
  exact hn'
 ·simp only[P.ac7]
  rw[dh (by omega),Aj (by omega),Bc,Af (by rw[aae];omega)]
  rfl
theorem blx(words b:List Int)(hl:words.length=8)(hi:In 18446744073709551616 words)(hb:In 256 b)(hn:b.length≤1000000){ρ:Type}(k:List Int→List Int→Option ρ) :
    P.rz 32 64 [7,18,3] [17,19,10] [2,13,22] [6,11,25] words b k=k (cv (thr p32 (toV 32 words) b (b.length/64))) (rest 64 b):=by
 rw[P.aif]
 unfold P.ac3
 refine (b3k words b 64 [7,18,3] [17,19,10] [2,13,22] [6,11,25] words (Ab 8 0) hi _).trans ?_
 rw[show Aa.wrap ((32:Int)*2)=64 from rfl,b5f _ (aor _ _) b hb hn,bys _ (aot _ _ (aor _ _) _ _) _ _ _ hl]
theorem b3d(v:List (BitVec 32))(hv:v.length=8)(b:List Int)(hb:In 256 b)(hn:b.length≤1000000)(kd:Int)(tl:List Int)(sz:Int)(a1:Int)(a2:List Int)(a3:Int){ρ:Type}(k0:Int→List Int→Int→List Int→List Int→Int→Int→List Int→Int→Option ρ) :
    P.arx 64 b kd (cv v) tl sz a1 a2 a3 k0=k0 64 (rest 64 b) kd (cv (thr p32 v b (b.length/64))) tl sz a1 a2 a3:=by
 rw[P.awv]
 unfold P.aw9 P.b1u P.bz3 P.b6b
 refine xu (fun i=>(64,b.drop (64*i),kd,cv (thr p32 v b i),tl,sz,a1,a2,a3)) (b.length/64) (by simp[thr]) (fun i hi next hn'=>?_) (fun next=>?_) (by omega)
 ·simp only[P.anh]
  have hlen:(b.drop (64*i)).length=b.length-64*i:=by simp
  have hge:64≤b.length-64*i:=by omega
  simp only[hlen,show (64:Int).toNat=64 from rfl,toNat_cast,Aq]
  have hbl:((b.drop (64*i)).take 64).length=16*4:=by rw[Ae,hlen];omega
  rw[bf (by omega),bf (by omega),bf (by omega),show ((64:Int)==128)=false from rfl,bry _ (aot _ _ hv _ _) _ ((hb.drop _).take _) hbl,bf (by omega),bf (by omega),bf (by omega),
   Af (by rw[hlen];omega),Ay,show 64*i+64=64*(i+1) by omega]
  exact hn'
 ·simp only[P.anh]
  have hlen:(b.drop (64*(b.length/64))).length=b.length-64*(b.length/64):=by simp
  rw[dh (by rw[hlen];omega)]
  rfl
end Q
end

section
/- SHA-2: blocks one behind the other, words of 64 bits. -/
namespace Q
open Go Go.Abs
set_option linter.unusedVariables false
set_option linter.unusedSimpArgs false
theorem b48(words b:List Int)(rd:Int)(t0 t1 t2 t3 h1 h2:List Int)(hi:In 18446744073709551616 words){ρ:Type}(k0:List Int→List Int→Int→Int→Int→List Int→List Int→List Int→List Int→List Int→List Int→List Int→Option ρ) :
    P.adx b words 0 64 rd t0 t1 t2 t3 h1 h2 (Ab 8 0) k0=k0 b words 8 64 rd t0 t1 t2 t3 h1 h2 (cv (toV 64 words)):=by
 rw[P.anl]
 unfold P.aiu P.b62 P.b45 P.b83
 refine xu (fun i=>(b,words,(i:Int),64,rd,t0,t1,t2,t3,h1,h2,cv ((Ag i).map fun i=>Ai 64 (words.getD i 0))++Ab (8-i) 0)) 8 (by simp[cv]) (fun i hi' next hn'=>?_) (fun next=>?_) (by omega)
 ·simp only[P.adr,toNat_cast]
  have e4:Aa.wrap ((i:Int)+1)=((i+1:Nat):Int):=by rw[nu (by omega) (by omega)];omega
  have e6:words.getD i 0=((Ai 64 (words.getD i 0)).toNat:Int):=by
   have:=hi.getD i (by omega)
   rw[Bl]
   omega
  have e5:(cv ((Ag i).map fun i=>Ai 64 (words.getD i 0))++Ab (8-i) (0:Int)).set i ((Ai 64 (words.getD i 0)).toNat:Int)=cv ((Ag (i+1)).map fun i=>Ai 64 (words.getD i 0))++Ab (8-(i+1)) 0:=by
   rw[Ak _ _ (by simp),aae,Ba,A8,Ar,show 8-i=(8-(i+1))+1 by omega,List.replicate_succ,Au,Ao,Bb,←aiq,Ah]
   rfl
  rw[bf (by omega),bf (by omega),bf (by omega),bf (by omega),bf (by omega),e6,e5,e4]
  exact hn'
 ·simp only[P.adr]
  rw[dh (by omega)]
  simp[toV]
theorem b4q(v:List (BitVec 64))(hv:v.length=8)(b:List Int)(hb:In 256 b)(hn:b.length≤1000000)(h1 h2:List Int){ρ:Type}(k0:List Int→Int→List Int→List Int→List Int→Int→Int→List Int→List Int→List Int→List Int→Option ρ) :
    P.ad5 b 128 (cv v) h2 h1 64 80 [1,8,7] [19,61,6] [28,34,39] [14,18,41] k0 =
     k0 (rest 128 b) 128 (cv (thr p64 v b (b.length/128))) h2 h1 64 80 [1,8,7] [19,61,6] [28,34,39] [14,18,41]:=by
 rw[P.ani]
 unfold P.aib P.b6k P.b44 P.cck
 refine xu (fun i=>(b.drop (128*i),128,cv (thr p64 v b i),h2,h1,64,80,[1,8,7],[19,61,6],[28,34,39],[14,18,41])) (b.length/128) (by simp[thr]) (fun i hi next hn'=>?_) (fun next=>?_) (by omega)
 ·simp only[P.ads]
  have hlen:(b.drop (128*i)).length=b.length-128*i:=by simp
  have hge:128≤b.length-128*i:=by omega
  simp only[hlen,show (128:Int).toNat=128 from rfl,toNat_cast,Aq]
  have hbl:((b.drop (128*i)).take 128).length=16*8:=by rw[Ae,hlen];omega
  rw[bf (by omega),bf (by omega),bf (by omega),bte _ (aot _ _ hv _ _) _ ((hb.drop _).take _) hbl,bf (by omega),bf (by omega),bf (by omega),
   Af (by rw[hlen];omega),Ay,show 128*i+128=128*(i+1) by omega]
  exact hn'
 ·simp only[P.ads]
  have hlen:(b.drop (128*(b.length/128))).length=b.length-128*(b.length/128):=by simp
  rw[dh (by rw[hlen];omega)]
  rfl
theorem bye(v:List (BitVec 64))(hv:v.length=8)(b:List Int)(words h2:List Int)(hl:words.length=8){ρ:Type}(k0:List Int→List Int→Int→List Int→List Int→Option ρ) :
    P.ac4 b (cv v) 0 words h2 k0=k0 b (cv v) 8 (cv v) h2:=by
 rw[P.al3]
 unfold P.ag8 P.b7e P.b0y P.cel
 refine xu (fun i=>(b,cv v,(i:Int),(cv v).take i++words.drop i,h2)) 8 (by simp) (fun i hi next hn'=>?_) (fun next=>?_) (by omega)
 ·simp only[P.ada,toNat_cast]
  have e4:Aa.wrap ((i:Int)+1)=((i+1:Nat):Int):=by rw[nu (by omega) (by omega)];omega
  have e5:((cv v).take i++words.drop i).set i ((cv v).getD i 0)=(cv v).take (i+1)++words.drop (i+1):=by
   rw[Ak _ _ (by rw[Ae];omega),Ae,aae,hv,Bf (by omega),Ar,Aw (by omega),Au,←ari (cv v) 0 i (by rw[aae];omega),Ah]
   rfl
  rw[bf (by omega),bf (by omega),bf (by omega),bf (by omega),bf (by omega),e5,e4]
  exact hn'
 ·simp only[P.ada]
  rw[dh (by omega),Aj (by omega),Bc,Af (by rw[aae];omega)]
  rfl
theorem bm0(words b:List Int)(hl:words.length=8)(hi:In 18446744073709551616 words)(hb:In 256 b)(hn:b.length≤1000000){ρ:Type}(k:List Int→List Int→Option ρ) :
    P.sj 64 80 [1,8,7] [19,61,6] [28,34,39] [14,18,41] words b k=k (cv (thr p64 (toV 64 words) b (b.length/128))) (rest 128 b):=by
 rw[P.ais]
 unfold P.ac2
 refine (b48 words b 80 [1,8,7] [19,61,6] [28,34,39] [14,18,41] words (Ab 8 0) hi _).trans ?_
 rw[show Aa.wrap ((64:Int)*2)=128 from rfl,b4q _ (aor _ _) b hb hn,bye _ (aot _ _ (aor _ _) _ _) _ _ _ hl]
theorem b23(v:List (BitVec 64))(hv:v.length=8)(b:List Int)(hb:In 256 b)(hn:b.length≤1000000)(kd:Int)(tl:List Int)(sz:Int)(a1:Int)(a2:List Int)(a3:Int){ρ:Type}(k0:Int→List Int→Int→List Int→List Int→Int→Int→List Int→Int→Option ρ) :
    P.arx 128 b kd (cv v) tl sz a1 a2 a3 k0=k0 128 (rest 128 b) kd (cv (thr p64 v b (b.length/128))) tl sz a1 a2 a3:=by
 rw[P.awv]
 unfold P.aw9 P.b1u P.bz3 P.b6b
 refine xu (fun i=>(128,b.drop (128*i),kd,cv (thr p64 v b i),tl,sz,a1,a2,a3)) (b.length/128) (by simp[thr]) (fun i hi next hn'=>?_) (fun next=>?_) (by omega)
 ·simp only[P.anh]
  have hlen:(b.drop (128*i)).length=b.length-128*i:=by simp
  have hge:128≤b.length-128*i:=by omega
  simp only[hlen,show (128:Int).toNat=128 from rfl,toNat_cast,Aq]
  have hbl:((b.drop (128*i)).take 128).length=16*8:=by rw[Ae,hlen];omega
  rw[bf (by omega),bf (by omega),bf (by omega),show ((128:Int)==128)=true from rfl,brj _ (aot _ _ hv _ _) _ ((hb.drop _).take _) hbl,bf (by omega),bf (by omega),bf (by omega),
   Af (by rw[hlen];omega),Ay,show 128*i+128=128*(i+1) by omega]
  exact hn'
 ·simp only[P.anh]
  have hlen:(b.drop (128*(b.length/128))).length=b.length-128*(b.length/128):=by simp
  rw[dh (by rw[hlen];omega)]
  rfl
end Q
end

section
/- Are two rows of bytes the same. -/
namespace Q
open Go Go.Abs
set_option linter.unusedVariables false
set_option linter.unusedSimpArgs false
end Q
end

section
/- SHA-2: sums that go on, and their ends. -/
namespace Q
open Go Go.Abs
set_option linter.unusedVariables false
set_option linter.unusedSimpArgs false
def bsz(kind:Int):Nat:=if kind=1 then 64 else 128
theorem alj(kind:Int):(kind=1∧bsz kind=64)∨(kind≠1∧bsz kind=128):=by
 unfold bsz
 by_cases h:kind=1
 ·exact .inl ⟨h,if_pos h⟩
 ·exact .inr ⟨h,if_neg h⟩
theorem yc(kind:Int){ρ:Type}(k:Int→Option ρ):P.yc kind k=k ((bsz kind:Nat):Int):=by
 rw[P.apu];unfold P.ahp
 rcases alj kind with ⟨h,e⟩ | ⟨h,e⟩
 ·rw[gu h,e];rfl
 ·rw[gy h,e];rfl
theorem aa2(kind:Int){ρ:Type}(k:Int→Option ρ):P.aa2 kind k=k ((bsz kind:Nat):Int):=by
 rw[P.azh];unfold P.aov
 rcases alj kind with ⟨h,e⟩ | ⟨h,e⟩
 ·rw[gu h,e];rfl
 ·rw[gy h,e];rfl
def awx(kind:Int)(words all:List Int):List Int :=
 if kind=1 then cv (thr p32 (toV 32 words) all (all.length/64)) else cv (thr p64 (toV 64 words) all (all.length/128))
theorem bov(kind:Int)(words all:List Int):(awx kind words all).length=8:=by
 unfold awx
 split<;>rw[aae,aot _ _ (aor _ _)]
def Wok(kind:Int)(words:List Int):Prop:=words.length=8∧In 18446744073709551616 words∧(kind=1→In 4294967296 words)
theorem atp(kind:Int)(words all:List Int):Wok kind (awx kind words all):=by
 refine ⟨bov _ _ _,?_,fun h=>?_⟩
 ·unfold awx
  split
  ·intro x hx
   have:=byy _ x hx
   omega
  ·intro x hx
   have:=byy _ x hx
   omega
 ·unfold awx
  rw[if_pos h]
  intro x hx
  have:=byy _ x hx
  omega
theorem az1(n:Nat)(hn:0<n)(b:List Int):(rest n b).length=b.length%n:=by
 unfold rest
 rw[Bp]
 have:=Nat.div_add_mod b.length n
 omega
theorem bmi{n:Nat}{b:List Int}(h:In 256 b):In 256 (rest n b):=h.drop _
theorem adw{ρ:Type}(k:Int→Int→List Int→List Int→List Int→List Int→Option ρ):P.adw k=k 32 64 [7,18,3] [17,19,10] [2,13,22] [6,11,25]:=by rw[P.ay5];rfl
theorem ad6{ρ:Type}(k:Int→Int→List Int→List Int→List Int→List Int→Option ρ):P.ad6 k=k 64 80 [1,8,7] [19,61,6] [28,34,39] [14,18,41]:=by rw[P.ayq];rfl
theorem zo(kind:Int)(words tail:List Int)(size:Int)(b:List Int)(hl:words.length=8)(hi:In 18446744073709551616 words)(ht:In 256 tail)(hb:In 256 b)(hn:tail.length+b.length≤1000000){ρ:Type}(k:Int→List Int→List Int→Int→Option ρ) :
    P.zo kind words tail size b k=k kind (awx kind words (tail++b)) (rest (bsz kind) (tail++b)) (Ad.wrap (size+Ad.wrap (b.length:Int))):=by
 rw[P.bf5];unfold P.atr
 have hf:[tail,b].flatten=tail++b:=by simp
 have hall:(tail++b).length≤1000000:=by rw[Ac];exact hn
 have hin:In 256 (tail++b):=ht.app hb
 have hr:∀n,(rest n (tail++b)).length≤1000000:=fun n=>by unfold rest;rw[Bp];omega
 rw[j5 _ (by simp) (by rw[hf];omega),hf]
 rcases alj kind with ⟨h,e⟩ | ⟨h,e⟩
 ·rw[gu h,adw,e]
  rw[blx words _ hl hi hin hall]
  unfold P.qz awx
  have:=hr 64
  rw[bf (by omega),if_pos h]
 ·rw[gy h,ad6,e]
  rw[bm0 words _ hl hi hin hall]
  unfold P.qz awx
  have:=hr 128
  rw[bf (by omega),if_neg h]
theorem ady(kind:Int)(words tail:List Int)(size:Int)(b:List Int)(hw:Wok kind words)(ht:In 256 tail)(hb:In 256 b)(hn:tail.length+b.length≤1000000){ρ:Type}(k:Int→List Int→List Int→Int→Option ρ) :
    P.ady kind words tail size b k=k kind (awx kind words (tail++b)) (rest (bsz kind) (tail++b)) (Ad.wrap (size+Ad.wrap (b.length:Int))):=by
 rw[P.bfh];unfold P.atw
 obtain ⟨hl,hi,h1⟩:=hw
 have hf:[tail,b].flatten=tail++b:=by simp
 have hall:(tail++b).length≤1000000:=by rw[Ac];exact hn
 have hin:In 256 (tail++b):=ht.app hb
 rw[aa2,ji _ (by simp) (by rw[hf];omega),hf]
 rcases alj kind with ⟨h,e⟩ | ⟨h,e⟩
 ·have hv:=bwl 32 words hl (h1 h)
  rw[e]
  conv=>lhs;rw[←hv]
  rw[show ((64:Nat):Int)=64 from rfl,b3d _ (aor _ _) _ hin hall]
  unfold awx
  rw[if_pos h]
 ·have hv:=bwl 64 words hl hi
  rw[e]
  conv=>lhs;rw[←hv]
  rw[show ((128:Nat):Int)=128 from rfl,b23 _ (aor _ _) _ hin hall]
  unfold awx
  rw[if_neg h]
def bp2(kind:Int)(tl:Nat):Nat:=if kind=1 then (119-tl)%64 else (239-tl)%128+8
def pad(kind:Int)(tl:Nat)(size:Nat):List Int:=128::Ab (bp2 kind tl) 0++(bsw 8 8 (size*8%2^64)).reverse
def bmx(n:Nat)(words:List Int)(i:Nat):List Int:=((Ag i).map fun j=>(bsw 8 n (words.getD j 0).toNat).reverse).flatten
theorem awp(n:Nat)(words:List Int)(i:Nat):bmx n words (i+1)=bmx n words i++(bsw 8 n (words.getD i 0).toNat).reverse:=by simp[bmx,Ao]
theorem alc(n:Nat)(words:List Int):∀i,(bmx n words i).length=n*i
 | 0=>by simp[bmx]
 | i+1=>by rw[awp,Ac,alc n words i,Am,ab5,Bw]
theorem bmg(n:Nat)(words:List Int):∀i,In 256 (bmx n words i)
 | 0=>by simp[bmx,In]
 | i+1=>by rw[awp];exact (bmg n words i).app (bf0 8 n _).rev
def btd(kind:Int)(words tail:List Int)(size:Nat):List Int :=
 let o:=bmx (bsz kind/16) (awx kind words (tail++pad kind tail.length size)) 8
 if kind=2 then o.take 48 else o
theorem bxp(kind:Int)(words tail:List Int)(size:Nat):In 256 (btd kind words tail size):=by
 unfold btd
 simp only
 split
 ·exact (bmg _ _ _).take _
 ·exact bmg _ _ _
theorem btr(kind:Int)(words tail:List Int)(size:Nat):(btd kind words tail size).length=if kind=1 then 32 else if kind=2 then 48 else 64:=by
 unfold btd
 simp only
 rcases alj kind with ⟨h,e⟩ | ⟨h,e⟩
 ·rw[if_neg (by omega),if_pos h,alc,e]
 ·rw[if_neg h,e]
  split
  ·rw[Ae,alc];decide
  ·rw[alc]
theorem tmN(a b:Nat):((a:Nat):Int).tmod (b:Int)=((a%b:Nat):Int):=by
 rw[Int.tmod_eq_emod_of_nonneg (by omega)];rfl
theorem bqe(kind:Int)(tl size:Nat):In 256 (pad kind tl size):=by
 unfold pad
 refine In.app ?_ (bf0 8 8 _).rev
 intro x hx
 rcases List.mem_cons.1 hx with rfl | hx
 ·omega
 ·rw[List.mem_replicate] at hx;omega
theorem bre(kind:Int)(tl size:Nat):(pad kind tl size).length=bp2 kind tl+9:=by
 unfold pad;simp
theorem brq(kind:Int)(tl:Nat):bp2 kind tl≤200:=by
 unfold bp2;split<;>omega
theorem bvj(n:Nat)(hn:n=64∨n=128)(words:List Int)(hw:In 18446744073709551616 words)(a:Int)(b:List Int)(c:Int)(d:List Int){ρ:Type}(k0:Int→List Int→Int→List Int→Int→List Int→Int→List Int→Option ρ) :
    P.au6 (n:Int) words 0 [] a b c d k0=k0 (n:Int) words 8 (bmx (n/16) words 8) a b c d:=by
 rw[P.bd0]
 unfold P.bai P.b6n P.b1v P.b9e
 have e16:Aa.wrap ((n:Int).tdiv 16)=((n/16:Nat):Int):=by rcases hn with rfl | rfl<;>rfl
 refine xu (fun i=>((n:Int),words,(i:Int),bmx (n/16) words i,a,b,c,d)) 8 rfl (fun i hi next hn'=>?_) (fun next=>?_) (by omega)
 ·simp only[P.aur,toNat_cast]
  have h1:=hw.getD i (by omega)
  have e4:Aa.wrap ((i:Int)+1)=((i+1:Nat):Int):=by rw[nu (by omega) (by omega)];omega
  have e5:words.getD i 0=(((words.getD i 0).toNat:Nat):Int):=by omega
  rw[awp] at hn'
  rw[bf (by omega),bf (by omega),bf (by omega),e16,e5,xq _ _ (by omega) (by omega),e4]
  rw[bf (by rw[alc,Am,ab5];rcases hn with rfl | rfl<;>omega)]
  exact hn'
 ·simp only[P.aur]
  rw[dh (by omega)]
  rfl
theorem shl3(size:Nat):Ad.wrap ((size:Int)*(2:Int)^3)=((size*8%2^64:Nat):Int):=by
 rw[bo9];omega
theorem ac8(kind:Int)(words tail:List Int)(size:Nat)(hl:words.length=8)(hi:In 18446744073709551616 words)(ht:In 256 tail)(hn:tail.length<bsz kind){ρ:Type}(k:List Int→Option ρ) :
    P.ac8 kind words tail (size:Int) k=k (btd kind words tail size):=by
 rw[P.bf1];unfold P.aue
 rw[yc]
 have hz:Aa.wrap (Aa.wrap ((Aa.wrap (Aa.wrap (Aa.wrap (Aa.wrap ((2:Int)*((bsz kind:Nat):Int))-(1:Int))-Aa.wrap (((bsz kind:Nat):Int).tdiv (8:Int)))-(tail.length:Int))).tmod ((bsz kind:Nat):Int)+Aa.wrap (((bsz kind:Nat):Int).tdiv (8:Int)))-(8:Int))=((bp2 kind tail.length:Nat):Int):=by
  unfold bp2
  rcases alj kind with ⟨h,e⟩ | ⟨h,e⟩
  ·rw[e] at hn ⊢
   rw[if_pos h,show Aa.wrap (Aa.wrap (Aa.wrap ((2:Int)*((64:Nat):Int))-(1:Int))-Aa.wrap (((64:Nat):Int).tdiv (8:Int)))=119 from rfl,nu (x:=(119:Int)-(tail.length:Int)) (by omega) (by omega),
    show (119:Int)-(tail.length:Int)=((119-tail.length:Nat):Int) by omega,tmN,show Aa.wrap (((64:Nat):Int).tdiv (8:Int))=8 from rfl,nu (x:=((((119-tail.length)%64:Nat):Int))+8) (by omega) (by omega),nu (by omega) (by omega)]
   omega
  ·rw[e] at hn ⊢
   rw[if_neg h,show Aa.wrap (Aa.wrap (Aa.wrap ((2:Int)*((128:Nat):Int))-(1:Int))-Aa.wrap (((128:Nat):Int).tdiv (8:Int)))=239 from rfl,nu (x:=(239:Int)-(tail.length:Int)) (by omega) (by omega),
    show (239:Int)-(tail.length:Int)=((239-tail.length:Nat):Int) by omega,tmN,show Aa.wrap (((128:Nat):Int).tdiv (8:Int))=16 from rfl,nu (x:=((((239-tail.length)%128:Nat):Int))+16) (by omega) (by omega),nu (by omega) (by omega)]
   omega
 have hb:bsz kind=64∨bsz kind=128:=by rcases alj kind with ⟨h,e⟩ | ⟨h,e⟩<;>omega
 have hz2:=brq kind tail.length
 rw[hz]
 simp only[toNat_cast]
 rw[bf (by omega),bf (by omega),dh (by omega),bf (by omega),bf (by omega),shl3,show (8:Int)=((8:Nat):Int) from rfl,xq _ 8 (by omega) (by omega)]
 have hp:(Ab 1 (0:Int)).set 0 (128:Int)++Ab (bp2 kind tail.length) (0:Int)++(bsw 8 8 (size*8%2^64)).reverse=pad kind tail.length size:=rfl
 rw[bf (by
  show ((Ab (bp2 kind tail.length) (0:Int)).length+0+1+_)*1≤_
  rw[Al,Am,ab5];omega),hp]
 have hpl:=bre kind tail.length size
 rw[zo kind words tail _ _ hl hi ht (bqe _ _ _) (by omega),bvj _ hb _ (atp _ _ _).2.1]
 unfold btd
 simp only
 by_cases h2:kind=2
 ·have e:bsz kind=128:=by unfold bsz;rw[if_neg (by omega)]
  rw[gu h2,bf (by rw[alc,e];omega),if_pos h2]
  rfl
 ·rw[gy h2,if_neg h2]
theorem pads(n:Nat)(hn:n=64∨n=128)(tl:Nat)(ht:tl<200)(z m:Nat)(hm:m<n)(h1:∀i,i<z→(tl+(1+i))%n≠m)(h2:(tl+(1+z))%n=m)(hz:z≤200)(c:Int)(kd:Int)(words tail:List Int)(size:Int)(hl:tail.length=tl)(d:Int)(hd:Aa.wrap ((n:Int)-d)=(m:Int)) :
    (d=8→∀{ρ:Type} (k0:Int→Int→List Int→Int→List Int→List Int→Int→Option ρ),P.axg (n:Int) c [128] kd words tail size k0=k0 (n:Int) c (128::Ab z 0) kd words tail size) ∧
    (d=16→∀{ρ:Type} (k0:Int→Int→List Int→Int→List Int→List Int→Int→Option ρ),P.aya (n:Int) c [128] kd words tail size k0=k0 (n:Int) c (128::Ab z 0) kd words tail size):=by
 have hlen:∀i:Nat,((128:Int)::Ab i 0).length=1+i:=fun i=>by simp;omega
 have hc:∀i:Nat,i≤z→Aa.wrap (((tail.length:Nat):Int)+((((128:Int)::Ab i 0).length:Nat):Int))=((tl+(1+i):Nat):Int):=fun i hi=>by
  rw[hlen,hl,nu (by omega) (by omega)];omega
 have hs:∀i:Nat,((128:Int)::Ab i 0)++[(0:Int)]=128::Ab (i+1) 0:=fun i=>by
  rw[Bv];rfl
 constructor
 ·rintro rfl ρ k0
  rw[P.bhj]
  unfold P.bev P.b7p P.b2p P.b9w
  refine xu (fun i=>((n:Int),c,128::Ab i 0,kd,words,tail,size)) z rfl (fun i hi next hn'=>?_) (fun next=>?_) (by omega)
  ·simp only[P.ax3]
   have:=h1 i hi
   rw[hc i (by omega),tmN,hd,dh (by omega),je (by omega),bf (by rw[hlen];omega),hs]
   exact hn'
  ·simp only[P.ax3]
   rw[hc z (by omega),tmN,hd,dh (by omega),h2,fq (by rfl)]
 ·rintro rfl ρ k0
  rw[P.bg3]
  unfold P.bec P.b6f P.b1g P.b8j
  refine xu (fun i=>((n:Int),c,128::Ab i 0,kd,words,tail,size)) z rfl (fun i hi next hn'=>?_) (fun next=>?_) (by omega)
  ·simp only[P.axz]
   have:=h1 i hi
   rw[hc i (by omega),tmN,hd,dh (by omega),je (by omega),bf (by rw[hlen];omega),hs]
   exact hn'
  ·simp only[P.axz]
   rw[hc z (by omega),tmN,hd,dh (by omega),h2,fq (by rfl)]
theorem bo1(n:Nat)(hn:n=64∨n=128)(words:List Int)(hw:In 18446744073709551616 words)(a:Int)(b:List Int)(c:Int){ρ:Type}(k0:Int→Int→List Int→Int→List Int→List Int→Int→Option ρ) :
    P.anz (n:Int) 0 [] a words b c k0=k0 (n:Int) 8 (bmx (n/16) words 8) a words b c:=by
 rw[P.bdz]
 unfold P.bc6 P.b74 P.b5u P.b9g
 have e16:Aa.wrap ((n:Int).tdiv 16)=((n/16:Nat):Int):=by rcases hn with rfl | rfl<;>rfl
 refine xu (fun i=>((n:Int),(i:Int),bmx (n/16) words i,a,words,b,c)) 8 rfl (fun i hi next hn'=>?_) (fun next=>?_) (by omega)
 ·simp only[P.aus,toNat_cast]
  have h1:=hw.getD i (by omega)
  have e4:Aa.wrap ((i:Int)+1)=((i+1:Nat):Int):=by rw[nu (by omega) (by omega)];omega
  have e5:words.getD i 0=(((words.getD i 0).toNat:Nat):Int):=by omega
  rw[awp] at hn'
  rw[bf (by omega),bf (by omega),bf (by omega),e16,e5,wz _ _ (by omega) (by omega),e4]
  rw[bf (by rw[alc,Am,ab5];rcases hn with rfl | rfl<;>omega)]
  exact hn'
 ·simp only[P.aus]
  rw[dh (by omega)]
  rfl
theorem bni(kind:Int)(words tail:List Int)(size:Nat){ρ:Type}(k:List Int→Option ρ) :
    (br (kind==(2:Int)) (br (decide ((48:Int)≤((bmx (bsz kind/16) (awx kind words (tail++pad kind tail.length size)) 8).length:Int))) (k (Br ((48:Int)-(0:Int)).toNat (bmx (bsz kind/16) (awx kind words (tail++pad kind tail.length size)) 8))) none)
     (k (bmx (bsz kind/16) (awx kind words (tail++pad kind tail.length size)) 8)))=k (btd kind words tail size):=by
 unfold btd
 simp only
 by_cases h2:kind=2
 ·have e:bsz kind=128:=by unfold bsz;rw[if_neg (by omega)]
  rw[gu h2,bf (by rw[alc,e];omega),if_pos h2]
  rfl
 ·rw[gy h2,if_neg h2]
theorem ak6(kind:Int)(words tail:List Int)(size:Nat)(hw:Wok kind words)(ht:In 256 tail)(hn:tail.length<bsz kind)(hs:size<2305843009213693952){ρ:Type}(k:List Int→Option ρ) :
    P.ak6 kind words tail (size:Int) k=k (btd kind words tail size):=by
 rw[P.bfc];unfold P.au8
 have h8:Ad.wrap ((size:Int)*8)=((size*8%2^64:Nat):Int):=by rw[bo9];omega
 have hpl:=bre kind tail.length size
 have hz2:=brq kind tail.length
 rw[aa2,h8]
 rcases alj kind with ⟨h,e⟩ | ⟨h,e⟩
 ·rw[e] at hn ⊢
  have hp:=(pads 64 (.inl rfl) tail.length (by omega) (bp2 kind tail.length) 56 (by omega) (fun i hi=>by unfold bp2 at hi;rw[if_pos h] at hi;omega) (by unfold bp2;rw[if_pos h];omega) hz2 ((size*8%2^64:Nat):Int) kind words tail (size:Int) rfl 8 rfl).1
  rw[hp rfl,gy (by decide),show (8:Int)=((8:Nat):Int) from rfl,wz _ 8 (by omega) (by omega),bf (by simp;omega)]
  have hpad:(128:Int)::Ab (bp2 kind tail.length) 0++(bsw 8 8 (size*8%2^64)).reverse=pad kind tail.length size:=rfl
  rw[hpad,ady kind words tail _ _ hw ht (bqe _ _ _) (by omega),bo1 _ (.inl rfl) _ (atp _ _ _).2.1]
  have:=bni kind words tail size k
  rw[e] at this
  exact this
 ·rw[e] at hn ⊢
  have hp1:=(pads 128 (.inr rfl) tail.length (by omega) ((247-tail.length)%128) 120 (by omega) (fun i hi=>by omega) (by omega) (by omega) ((size*8%2^64:Nat):Int) kind words tail (size:Int) rfl 8 rfl).1
  have hp2:=(pads 128 (.inr rfl) tail.length (by omega) ((239-tail.length)%128) 112 (by omega) (fun i hi=>by omega) (by omega) (by omega) ((size*8%2^64:Nat):Int) kind words tail (size:Int) rfl 16 rfl).2
  have h61:((size:Nat):Int).fdiv ((2:Int)^61)=((0:Nat):Int):=by
   have:=fdiv_pow size 61 61 (by omega)
   rw[Nat.div_eq_of_lt (by omega)] at this
   exact this
  rw[hp1 rfl,gu (by rfl),hp2 rfl,h61,show (8:Int)=((8:Nat):Int) from rfl,wz _ 8 (by omega) (by omega),bf (by simp;omega),wz _ 8 (by omega) (by omega),bf (by simp;omega)]
  have hpad:(128:Int)::Ab ((239-tail.length)%128) 0++(bsw 8 8 0).reverse++(bsw 8 8 (size*8%2^64)).reverse=pad kind tail.length size:=by
   unfold pad bp2
   rw[if_neg h,←List.replicate_append_replicate]
   rfl
  rw[hpad,ady kind words tail _ _ hw ht (bqe _ _ _) (by omega),bo1 _ (.inr rfl) _ (atp _ _ _).2.1]
  have:=bni kind words tail size k
  rw[e] at this
  exact this
def bjj(kind:Int):List Int :=
 if kind=1 then [1779033703,3144134277,1013904242,2773480762,1359893119,2600822924,528734635,1541459225]
 else if kind=2 then [14680500436340154072,7105036623409894663,10473403895298186519,1526699215303891257,7436329637833083697,10282925794625328401,15784041429090275239,5167115440072839076]
 else [7640891576956012808,13503953896175478587,4354685564936845355,11912009170470909681,5840696475078001361,11170449401992604703,2270897969802886507,6620516959819538809]
theorem bm1(kind:Int):Wok kind (bjj kind):=by
 unfold bjj Wok
 by_cases h1:kind=1
 ·simp only[if_pos h1]
  refine ⟨rfl,?_,fun _=>?_⟩
  ·unfold In;decide
  ·unfold In;decide
 ·by_cases h2:kind=2
  ·simp only[if_neg h1,if_pos h2]
   refine ⟨rfl,?_,fun h=>absurd h h1⟩
   unfold In;decide
  ·simp only[if_neg h1,if_neg h2]
   refine ⟨rfl,?_,fun h=>absurd h h1⟩
   unfold In;decide
def K3(kind:Int):Prop:=kind=1∨kind=2∨kind=3
theorem bmq{kind:Int}(h:K3 kind){ρ:Type}(k:List Int→Bool→Option ρ):P.agr kind k=k (bjj kind) true:=by
 rw[P.ayi]
 rcases h with rfl | rfl | rfl<;>kernel_rfl
theorem afn{kind:Int}(h:K3 kind){ρ:Type}(k:Int→List Int→List Int→Int→Int→Option ρ):P.afn kind k=k kind (bjj kind) [] 0 0:=by
 rw[P.bes];unfold P.au3
 rw[bmq h,jl,oz]
theorem ak3{kind:Int}(h:K3 kind){ρ:Type}(k:Int→List Int→List Int→Int→Int→Option ρ):P.ak3 kind k=k kind (bjj kind) [] 0 0:=by
 rw[P.bek];unfold P.atl bjj
 rcases h with rfl | rfl | rfl
 ·rw[gu (by rfl)];rfl
 ·rw[gy (by decide),gu (by rfl)];rfl
 ·rw[gy (by decide),gy (by decide),gu (by rfl)];rfl
theorem ark(kind:Int):0<bsz kind:=by rcases alj kind with ⟨h,e⟩ | ⟨h,e⟩<;>omega
def bp5(kind:Int)(b:List Int):List Int:=btd kind (awx kind (bjj kind) b) (rest (bsz kind) b) b.length
theorem bgy(b:List Int)(hn:b.length≤1000000):Ad.wrap ((0:Int)+Ad.wrap (b.length:Int))=((b.length:Nat):Int):=by
 rw[aik _ (by omega),Int.zero_add,aik _ (by omega)]
theorem akl{kind:Int}(h:K3 kind)(b:List Int)(hb:In 256 b)(hn:b.length≤1000000){ρ:Type}(k:List Int→Int→Option ρ):P.akl kind b k=k (bp5 kind b) 0:=by
 rw[P.be8];unfold P.aum
 have hw:=bm1 kind
 have hr:=az1 _ (ark kind) b
 have hlt:=Nat.mod_lt b.length (ark kind)
 rw[afn h,fq (by rfl),zo kind _ [] _ b hw.1 hw.2.1 In.nil hb (by simpa using hn),Bg,bgy b hn,ac8 kind _ _ _ (bov _ _ _) (atp _ _ _).2.1 (bmi hb) (by omega)]
 rfl
theorem abg{kind:Int}(h:K3 kind)(b:List Int)(hb:In 256 b)(hn:b.length≤1000000){ρ:Type}(k:List Int→Int→Option ρ):P.abg kind b k=k (bp5 kind b) 0:=by
 rw[P.bf8];unfold P.aud
 have hw:=bm1 kind
 have hr:=az1 _ (ark kind) b
 have hlt:=Nat.mod_lt b.length (ark kind)
 rw[ak3 h,fq (by rfl),ady kind _ [] _ b hw In.nil hb (by simpa using hn),Bg,bgy b hn,ak6 kind _ _ _ (atp _ _ _) (bmi hb) (by omega) (by omega)]
 rfl
theorem bsb(kind:Int)(b:List Int):In 256 (bp5 kind b):=bxp _ _ _ _
theorem az6(kind:Int)(b:List Int):(bp5 kind b).length=if kind=1 then 32 else if kind=2 then 48 else 64:=btr _ _ _ _
end Q
end

section
/- SHA-2: which sums can be, which are the same; the examples. -/
namespace Q
open Go Go.Abs
set_option linter.unusedVariables false
set_option linter.unusedSimpArgs false
theorem first(p:Nat→Bool):∀n,∃m,m≤n∧(∀i,i<m→p i=true)∧(m=n∨(m<n∧p m=false))
 | 0=>⟨0,by omega,by omega,.inl rfl⟩
 | n+1=>by
  obtain ⟨m,h1,h2,h3⟩:=first p n
  rcases h3 with h3 | ⟨h3,h4⟩
  ·subst h3
   cases hp:p m with
   | true=>exact ⟨m+1,by omega,fun i hi=>by
       by_cases e:i=m
       ·rw[e];exact hp
       ·exact h2 i (by omega),.inl rfl⟩
   | false=>exact ⟨m,by omega,h2,.inr ⟨by omega,hp⟩⟩
  ·exact ⟨m,by omega,h2,.inr ⟨by omega,h4⟩⟩
end Q
end

section
/- mac: digests, with keys and without. -/
namespace Q
open QK
open Go Go.Abs
set_option linter.unusedVariables false
set_option linter.unusedSimpArgs false
def K7(kd:Int):Prop:=kd=1∨kd=2∨kd=3∨kd=4∨kd=5∨kd=6∨kd=7
theorem K7.of{kd:Int}(h:1≤kd∧kd≤7):K7 kd:=by unfold K7;omega
def dl(kd:Int):Nat:=if kd=1∨kd=4∨kd=6 then 32 else if kd=2 then 48 else if kd=3∨kd=5∨kd=7 then 64 else 0
theorem avo{kd:Int}(h:K7 kd):32≤dl kd∧dl kd≤64:=by
 rcases h with rfl | rfl | rfl | rfl | rfl | rfl | rfl<;>decide
theorem btz{kd:Int}(h:¬K7 kd):dl kd=0:=by
 unfold K7 at h
 unfold dl
 rw[if_neg (by omega),if_neg (by omega),if_neg (by omega)]
theorem aeh(kd:Int){ρ:Type}(k:Int→Option ρ):P.aeh kd k=k ((dl kd:Nat):Int):=by
 rw[P.bca];unfold P.arw
 by_cases h0:kd<0
 ·rw[bf h0,btz (by unfold K7;omega)];rfl
 by_cases h8:kd≥8
 ·rw[dh h0,bf h8,btz (by unfold K7;omega)];rfl
 have:kd=0∨kd=1∨kd=2∨kd=3∨kd=4∨kd=5∨kd=6∨kd=7:=by omega
 rcases this with rfl | rfl | rfl | rfl | rfl | rfl | rfl | rfl<;>simp[dl]
theorem aep(kd:Int){ρ:Type}(k:Int→Option ρ):P.aep kd k=k ((dl kd:Nat):Int):=by
 rw[P.bdg];unfold P.aq1
 by_cases h0:kd<0
 ·rw[bf h0,btz (by unfold K7;omega)];rfl
 by_cases h8:kd>7
 ·rw[dh h0,bf h8,btz (by unfold K7;omega)];rfl
 have:kd=0∨kd=1∨kd=2∨kd=3∨kd=4∨kd=5∨kd=6∨kd=7:=by omega
 rcases this with rfl | rfl | rfl | rfl | rfl | rfl | rfl | rfl<;>simp[dl]
def dig(kd:Int)(b:List Int):List Int:=if kd≤3 then bp5 kd b else btp kd b (dl kd)
theorem bok(kd:Int)(b:List Int):In 256 (dig kd b):=by
 unfold dig;split
 ·exact bsb _ _
 ·exact bmr _ _ _
theorem amm{kd:Int}(h:K7 kd)(b:List Int):(dig kd b).length=dl kd:=by
 unfold dig
 rcases h with rfl | rfl | rfl | rfl | rfl | rfl | rfl
 ·rw[if_pos (by omega),az6];rfl
 ·rw[if_pos (by omega),az6];rfl
 ·rw[if_pos (by omega),az6];rfl
 all_goals rw[if_neg (by omega),bgu]
theorem zx{kd:Int}(h:K7 kd)(b:List Int)(hb:In 256 b)(hn:b.length≤1000000){ρ:Type}(k:List Int→Int→Option ρ):P.zx kd b k=k (dig kd b) 0:=by
 have hd:=avo h
 rw[P.avk];unfold P.al0
 rw[aeh,gy (by omega)]
 unfold dig
 by_cases h3:kd≤3
 ·rw[bf h3,if_pos h3,akl (by unfold K7 at h;unfold K3;omega) b hb hn]
 ·rw[dh h3,if_neg h3,aeh,zq (by unfold K7 at h;omega) b (by omega) _ (by omega)]
theorem ab2{kd:Int}(h:K7 kd)(b:List Int)(hb:In 256 b)(hn:b.length≤1000000){ρ:Type}(k:List Int→Int→Option ρ):P.ab2 kd b k=k (dig kd b) 0:=by
 have hd:=avo h
 rw[P.aw1];unfold P.alu
 rw[aep,gy (by omega)]
 unfold dig
 by_cases h3:kd≤3
 ·rw[bf h3,if_pos h3,abg (by unfold K7 at h;unfold K3;omega) b hb hn]
 ·rw[dh h3,if_neg h3,aep,acg (by unfold K7 at h;omega) b (by omega) _ (by omega)]
theorem ax5{kd:Int}(h:K7 kd)(l:List (List Int))(hl:l.length≤1000)(hb:In 256 l.flatten)(hn:l.flatten.length≤1000000){ρ:Type}(k:List Int→Option ρ):P.l9 l kd k=k (dig kd l.flatten):=by
 rw[P.am4];unfold P.agf
 rw[jd l (by omega) (by omega),zx h _ hb hn]
theorem bf7(kd:Int){ρ:Type}(k:Int→Option ρ):P.aal kd k=k kd:=by
 rw[P.as2];rfl
def bi4(key:List Int)(n:Nat)(c:Int):List Int:=(Ag n).map fun i=>bits .xor .u8 (key.getD i 0) c
theorem bh5(key:List Int)(n:Nat)(c:Int):(bi4 key n c).length=n:=by simp[bi4]
theorem bzk(x c:Int):0≤bits .xor .u8 x c∧bits .xor .u8 x c<256:=by
 have e:bits .xor .u8 x c=IntKind.u8.wrap ((Ai 8 x ^^^ Ai 8 c).toNat:Int):=rfl
 rw[e,u8m]
 exact ⟨Int.emod_nonneg _ (by omega),Int.emod_lt_of_pos _ (by omega)⟩
theorem bro(key:List Int)(n:Nat)(c:Int):In 256 (bi4 key n c):=fun x hx=>by
 simp only[bi4,List.mem_map] at hx
 obtain ⟨i,_,rfl⟩:=hx
 exact bzk _ _
theorem bsh(key:List Int)(i:Nat)(c:Int):bi4 key i c++[bits .xor .u8 (key.getD i 0) c]=bi4 key (i+1) c:=ae6 (fun i=>bits .xor .u8 (key.getD i 0) c) i
theorem bw5{α:Type}(a b:List α)(x y:α)(i:Nat)(h:a.length=i):(a++x::b).set i y=a++y::b:=by
 subst h
 rw[Ak _ _ (Bj _),Ar]
 rfl
theorem uf(key:List Int)(n:Nat)(c:Int)(hk:key.length≤n)(hn:n≤1000){ρ:Type}(k:List Int→Option ρ):P.uf key (n:Int) c k=k (bi4 key n c):=by
 rw[P.asu];unfold P.ajz
 rw[bf (by omega),bf (by omega),bf (by omega),toNat_cast,Al]
 have e0:(Br n key).append (List.drop (0+min n key.length) (Ab n 0))=key++Ab (n-key.length) 0:=by
  show Br n key++_=_
  rw[Af hk,Nat.zero_add,Nat.min_eq_right hk,List.drop_replicate]
 rw[e0]
 generalize hl0:key++Ab (n-key.length) 0=l0
 have hlen:l0.length=n:=by rw[←hl0];simp;omega
 have hget:∀i,l0.getD i 0=key.getD i 0:=by
  intro i
  rw[←hl0]
  by_cases hi:i<key.length
  ·rw[getD_lt (by simp;omega),getD_lt hi,List.getElem_append_left hi]
  ·rw[bhc (l:=key) (by omega),Ap,Av (by omega),List.getElem?_replicate]
   split<;>rfl
 rw[P.axf,hlen];unfold P.asw P.b7n P.b3t P.b95
 refine xu (fun i=>(c,(n:Int),(i:Int),bi4 key i c++l0.drop i)) n (by simp[bi4]) (fun i hi next hnx=>?_) (fun next=>?_) (by omega)
 ·have hsl:=bh5 key i c
  have hd:=ae5 l0 0 i (by omega)
  have hL:(bi4 key i c++l0.drop i).length=n:=by simp[hsl];omega
  have hG:(bi4 key i c++l0.drop i).getD i 0=key.getD i 0:=by
   rw[Ap,Av (by omega),hsl,Ar,hd,hget]
   rfl
  have hS:(bi4 key i c++l0.drop i).set i (bits .xor .u8 (key.getD i 0) c)=bi4 key (i+1) c++l0.drop (i+1):=by
   rw[hd,bw5 _ _ _ _ i hsl,←bsh,Ah]
   rfl
  simp only[P.ami,toNat_cast]
  rw[hL,hG,hS]
  simp (disch:=omega) only[bf,dh,je,fq,gu,gy,jl,oz,wo,nu]
  exact hnx
 ·simp only[P.ami]
  rw[dh (by omega),List.drop_of_length_le (by omega),Bc]
def bk(kd:Int):Nat:=if kd≤3 then bsz kd else rOf kd
theorem b2d{kd:Int}(h:K7 kd):64≤bk kd∧bk kd≤168:=by
 rcases h with rfl | rfl | rfl | rfl | rfl | rfl | rfl<;>decide
def b3n(kd:Int)(key:List Int):List Int:=if bk kd<key.length then dig kd key else key
def hmc(kd:Int)(key b:List Int):List Int:=dig kd (bi4 (b3n kd key) (bk kd) 92++dig kd (bi4 (b3n kd key) (bk kd) 54++b))
theorem bx5{kd:Int}(h:K7 kd)(l:List (List Int))(hl:l.length≤1000)(hb:In 256 l.flatten)(hn:l.flatten.length≤900000)(i o:List Int)(hi:In 256 i)(ho:In 256 o)(ni:i.length≤1000)(no:o.length≤1000){ρ:Type}(k:List Int→Option ρ) :
    P.aa8 l kd o i k=k (dig kd (o++dig kd (i++l.flatten))):=by
 have hd:=avo h
 have hdl:=amm h (i++l.flatten)
 have two:∀(x y:List Int),In 256 x→In 256 y→x.length+y.length≤1000000→∀(k:List Int→Option ρ),P.l9 [x,y] kd k=k (dig kd (x++y)):=by
  intro x y hx hy hl k
  have e:[x,y].flatten=x++y:=by simp
  rw[ax5 h [x,y] (by simp) (by rw[e];exact hx.app hy) (by rw[e,Ac];exact hl),e]
 rw[P.as4];unfold P.aj6
 rw[jd l (by omega) (by omega),two _ _ hi hb (by omega),two _ _ ho (bok _ _) (by omega)]
end Q
end

section
/- mac: bytes of keys and of seeds. -/
namespace Q
open QK
open Go Go.Abs
set_option linter.unusedVariables false
set_option linter.unusedSimpArgs false
def cat(T:Nat→List Int):Nat→List Int
 | 0=>[]
 | j+1=>cat T j++T j
theorem ax8{T:Nat→List Int}{d:Nat}(h:∀i,(T i).length=d):∀j,(cat T j).length=j*d
 | 0=>by simp[cat]
 | j+1=>by rw[cat,Ac,ax8 h j,h,Bz]
theorem bfw{T:Nat→List Int}(h:∀i,In 256 (T i)):∀j,In 256 (cat T j)
 | 0=>In.nil
 | j+1=>(bfw h j).app (h j)
def cnt(d n:Nat):Nat:=(n+d-1)/d
theorem cnt_lt{d n i:Nat}(hd:0<d):i<cnt d n↔i*d<n:=by
 unfold cnt
 have:=Nat.le_div_iff_mul_le (x:=i+1) (y:=n+d-1) hd
 rw[Bz] at this
 omega
theorem bma{d n:Nat}(hd:0<d):n≤cnt d n*d:=by
 have:=cnt_lt (i:=cnt d n) (n:=n) hd
 omega
theorem bw9{d n m:Nat}(h:n≤m*d)(hd:0<d):cnt d n≤m:=by
 have:=cnt_lt (i:=m) (n:=n) hd
 omega
def grow(T:Nat→List Int)(d n:Nat):List Int:=(cat T (cnt d n)).take n
theorem buv{T:Nat→List Int}{d:Nat}(h:∀i,(T i).length=d)(hd:0<d)(n:Nat):(grow T d n).length=n:=by
 unfold grow
 have:=bma (n:=n) hd
 rw[Ae,ax8 h]
 omega
def maT(kd:Int)(seed:List Int)(i:Nat):List Int:=dig kd (seed++(bsw 8 4 i).reverse)
theorem af2{kd:Int}(h:1≤kd∧kd≤3)(seed:List Int)(hs:In 256 seed)(ns:seed.length≤100000)(n:Nat)(hn:n≤10000){ρ:Type}(k:List Int→Int→Option ρ) :
    P.af2 kd seed (n:Int) k=k (grow (maT kd seed) (dl kd) n) 0:=by
 have hK:K7 kd:=K7.of (by omega)
 have hd:=avo hK
 have hc:cnt (dl kd) n≤n:=bw9 (Bq n (by omega)) (by omega)
 have hcm:=bma (n:=n) (d:=dl kd) (by omega)
 have hl:=ax8 (T:=maT kd seed) (fun i=>amm hK _)
 rw[P.bax];unfold P.aqx
 rw[dh (by omega),dh (by omega),dh (by omega),dh (by omega),P.bdw]
 unfold P.bb7 P.b67 P.b49 P.cbs
 refine xu (fun i=>(kd,seed,(n:Int),(i:Int),cat (maT kd seed) i)) (cnt (dl kd) n) rfl (fun i hi' next hnx=>?_) (fun next=>?_) (by omega)
 ·have hlt:=(cnt_lt (n:=n) (d:=dl kd) (i:=i) (by omega)).1 hi'
  have hli:=hl i
  have hlen:([seed,(bsw 8 4 i).reverse]:List (List Int)).flatten=seed++(bsw 8 4 i).reverse:=by simp
  simp only[P.auj]
  rw[bf (by omega),show (4:Int)=((4:Nat):Int) from rfl,wz i 4 (by omega) (by omega),ji _ (by simp) (by rw[hlen];simp;omega),hlen,ab2 hK _ (hs.app (bf0 8 4 i).rev) (by simp;omega),bf (by rw[amm hK];omega),bo9,Bn (by omega) (by omega)]
  exact hnx
 ·have hlc:=hl (cnt (dl kd) n)
  simp only[P.auj]
  rw[dh (by omega),bf (by omega),bf (by omega),Aq]
  unfold grow
  simp
theorem af0{kd:Int}(h:1≤kd∧kd≤3)(seed:List Int)(hs:In 256 seed)(ns:seed.length≤100000)(n:Nat)(hn:n≤10000){ρ:Type}(k:List Int→Int→Option ρ) :
    P.af0 kd seed (n:Int) k=k (grow (maT kd seed) (dl kd) n) 0:=by
 have hK:K7 kd:=K7.of (by omega)
 have hd:=avo hK
 have hc:cnt (dl kd) n≤n:=bw9 (Bq n (by omega)) (by omega)
 have hcm:=bma (n:=n) (d:=dl kd) (by omega)
 have hl:=ax8 (T:=maT kd seed) (fun i=>amm hK _)
 rw[P.az7];unfold P.ap4
 rw[dh (by omega),dh (by omega),dh (by omega),dh (by omega),bf7,P.bds]
 unfold P.ba7 P.b7i P.b2w P.ce9
 refine xu (fun i=>(seed,(n:Int),kd,(i:Int),cat (maT kd seed) i)) (cnt (dl kd) n) rfl (fun i hi' next hnx=>?_) (fun next=>?_) (by omega)
 ·have hlt:=(cnt_lt (n:=n) (d:=dl kd) (i:=i) (by omega)).1 hi'
  have hli:=hl i
  have hlen:([seed,(bsw 8 4 i).reverse]:List (List Int)).flatten=seed++(bsw 8 4 i).reverse:=by simp
  simp only[P.at7]
  rw[bf (by omega),show (4:Int)=((4:Nat):Int) from rfl,xq i 4 (by omega) (by omega),ax5 hK _ (by simp) (by rw[hlen];exact hs.app (bf0 8 4 i).rev) (by rw[hlen];simp;omega),hlen,bf (by rw[amm hK];omega),bo9,Bn (by omega) (by omega)]
  exact hnx
 ·have hlc:=hl (cnt (dl kd) n)
  simp only[P.at7]
  rw[dh (by omega),bf (by omega),bf (by omega),bf (by omega),bf (by omega),Aq,toNat_cast]
  rfl
end Q
end

section
/- SHA-2: bytes that are added one behind the other. -/
namespace Q
open Go Go.Abs
set_option linter.unusedVariables false
set_option linter.unusedSimpArgs false
theorem be2{w:Nat}(p:Par w)(v:List (BitVec w))(a b:List Int)(m:Nat)(hm:(2*w)*m=a.length):∀i,thr p v (a++b) (m+i)=thr p (thr p v a m) b i∧thr p v (a++b) m=thr p v a m:=by
 have key:∀i,i≤m→thr p v (a++b) i=thr p v a i:=by
  intro i
  induction i with
  | zero=>intro _;rfl
  | succ i ih =>
   intro hi
   have h1:(2*w)*i+2*w≤a.length:=by
    rw[←hm,←Bw]
    exact Nat.mul_le_mul (Bj _) hi
   simp only[thr]
   rw[ih (by omega),List.drop_append_of_le_length (by omega),Bh (by rw[Bp];omega)]
 intro i
 refine ⟨?_,key m (Bj _)⟩
 induction i with
 | zero=>exact key m (Bj _)
 | succ i ih =>
  rw[←Nat.add_assoc]
  simp only[thr]
  rw[ih,Nat.mul_add,hm,List.drop_append,Aj (by omega),Bg,Nat.add_sub_cancel_left]
end Q
end

section
/- lmots: the digits as the program and as the document count them. -/
namespace Q
open Go Go.Abs
set_option linter.unusedVariables false
set_option linter.unusedSimpArgs false
theorem bmd{w:Nat}{b:List Int}(hb:In (2^w) b)(t:Nat):∃x:Nat,b.getD t 0=(x:Int)∧x<2^w:=by
 have hp:((2:Int)^w)=((2^w:Nat):Int):=by simp
 have:=hb.getD t (by rw[hp];have:=p2 w;omega)
 rw[hp] at this
 exact ⟨(b.getD t 0).toNat,by omega,by omega⟩
end Q
end

section
/- wots: the digits of a text. -/
namespace Q
open Go Go.Abs
set_option linter.unusedVariables false
set_option linter.unusedSimpArgs false
def N3(n:Nat):Prop:=n=16∨n=24∨n=32
def wl(n:Nat)(x:List Int):Nat:=15*(2*n)-sumTo (tq x 4 ((2*n:Nat):Int)) (2*n)
def wd(n:Nat)(x:List Int):List Int:=tq x 4 ((2*n:Nat):Int)++[((wl n x/2^8:Nat):Int),((wl n x/2^4%2^4:Nat):Int),((wl n x%2^4:Nat):Int)]
theorem ara(n:Nat)(x:List Int)(hl:x.length=n):(tq x 4 ((2*n:Nat):Int)).length=2*n:=by
 rw[show (4:Int)=((4:Nat):Int) from rfl,ax0 x 4 (2*n) (by omega) (by omega) (by omega)];simp
theorem bqa(n:Nat)(x:List Int):In (2^4) (tq x 4 ((2*n:Nat):Int)):=bqn x 4 _
theorem bv5(n:Nat)(x:List Int)(hl:x.length=n):(wd n x).length=2*n+3:=by
 unfold wd;rw[Ac,ara n x hl];rfl
theorem bxt{n:Nat}(h:N3 n)(x:List Int):wl n x<961:=by
 unfold wl;rcases h with rfl | rfl | rfl<;>omega
theorem bzc{n:Nat}(hn:N3 n)(x:List Int)(hl:x.length=n){ρ:Type}(k0:Int→Int→Int→List Int→Option ρ) :
    P.acz ((15*(2*n):Nat):Int) ((2*n:Nat):Int) 0 (tq x 4 ((2*n:Nat):Int)) k0=k0 ((wl n x:Nat):Int) ((2*n:Nat):Int) ((2*n:Nat):Int) (tq x 4 ((2*n:Nat):Int)):=by
 have hn2:n≤32:=by rcases hn with rfl | rfl | rfl<;>omega
 have hlen:=ara n x hl
 rw[P.axb]
 unfold P.atc P.b6w P.b2r P.cfr
 refine xu (fun i=>(((15*(2*n)-sumTo (tq x 4 ((2*n:Nat):Int)) i:Nat):Int),((2*n:Nat):Int),(i:Int),tq x 4 ((2*n:Nat):Int))) (2*n) (by simp[sumTo]) (fun i hi next hn'=>?_) (fun next=>?_) (by omega)
 ·obtain ⟨d,hd,hd2⟩:=bmd (w:=4) (bqa n x) i
  have hle:=sumTo_le (tq x 4 ((2*n:Nat):Int)) 4 (bqa n x) (i+1)
  simp only[sumTo,hd,Int.toNat_natCast] at hn' hle
  simp only[P.amj,toNat_cast]
  rw[hd,show ((15*(2*n)-sumTo (tq x 4 ((2*n:Nat):Int)) i:Nat):Int)-(d:Int)=((15*(2*n)-(sumTo (tq x 4 ((2*n:Nat):Int)) i+d):Nat):Int) by omega,bq1 _ (by omega)]
  simp (disch:=omega) only[bf,dh,je,fq,gu,gy,jl,oz,wo,nu,hlen]
  exact hn'
 ·simp only[P.amj]
  rw[dh (by omega)]
  rfl
theorem b53(a:Nat)(h:a<4294967296):bits .and .u32 (a:Int) 15=((a%2^4:Nat):Int):=by
 rw[show (15:Int)=((2^4-1:Nat):Int) from rfl,bxq _ _ h (by omega),Bd]
theorem bs4{n:Nat}(hn:N3 n)(x:List Int)(hx:In 256 x)(hl:x.length=n){ρ:Type}(k:List Int→Option ρ) :
    (P.ny x (4:Int) (Aa.wrap ((2:Int)*((n:Nat):Int))) fun (q0:List Int) =>
            P.acz (A9.wrap (Aa.wrap ((15:Int)*(↑q0.length:Int)))) (↑q0.length:Int)
             (0:Int) q0 fun (q1 q2 q3:Int) (q4:List Int) =>
             br
              (decide
               ((q4.length +
                     ([bits BinOp.and A9 (q1.fdiv ((2:Int)^4)) (15:Int),
                               bits BinOp.and A9 q1 (15:Int)].length.add
                         0).succ) *
                   4 ≤
                140737488355328))
              (k
               (q4 ++
                [q1.fdiv ((2:Int)^8),
                 bits BinOp.and A9 (q1.fdiv ((2:Int)^4)) (15:Int),
                 bits BinOp.and A9 q1 (15:Int)]))
              none)=k (wd n x):=by
 have hn2:n≤32:=by rcases hn with rfl | rfl | rfl<;>omega
 have hlen:=ara n x hl
 have hlt:=bxt hn x
 rw[nu (by omega) (by omega),show (2:Int)*(n:Int)=((2*n:Nat):Int) by omega,ny _ _ _ hx (by omega),hlen,nu (x:=(15:Int)*((2*n:Nat):Int)) (by omega) (by omega),show (15:Int)*((2*n:Nat):Int)=((15*(2*n):Nat):Int) by omega,bq1 _ (by omega),bzc hn x hl,hlen]
 have e8:((wl n x:Nat):Int).fdiv ((2:Int)^8)=((wl n x/2^8:Nat):Int):=fdiv_pow _ 8 8 (by omega)
 have e4:((wl n x:Nat):Int).fdiv ((2:Int)^4)=((wl n x/2^4:Nat):Int):=fdiv_pow _ 4 4 (by omega)
 have hd:=Nat.div_le_self (wl n x) (2^4)
 rw[e8,e4,b53 _ (by omega),b53 _ (by omega),bf (by show (2*n+3)*4≤_;omega)]
 rfl
theorem aau{n:Nat}(hn:N3 n)(x:List Int)(hx:In 256 x)(hl:x.length=n){ρ:Type}(k:List Int→Option ρ):P.aau (n:Int) x k=k (wd n x):=by
 rw[P.asy]
 unfold P.akq
 have ht:=bs4 hn x hx hl k
 rcases hn with rfl | rfl | rfl
 ·rw[fq (by rfl),fq (by rw[hl])]
  exact ht
 ·rw[je (by decide),fq (by rfl),fq (by rw[hl])]
  exact ht
 ·rw[je (by decide),je (by decide),fq (by rfl),fq (by rw[hl])]
  exact ht
end Q
end

section
/- wots: kinds, places, digits, by the program and by the document. -/
namespace Q
open QK
open Go Go.Abs
set_option linter.unusedVariables false
set_option linter.unusedSimpArgs false
def acf(N H D A K:Int):Prop:=(N=16∨N=24∨N=32)∧1≤D∧H≤68∧D≤H∧H.tmod D=0∧Aa.wrap (H.tdiv D)≤9∧1≤A∧A≤14∧1≤K∧K≤40
instance (N H D A K:Int):Decidable (acf N H D A K):=by unfold acf;infer_instance
theorem bg8(N H D A K:Int)(hN:N=16∨N=24∨N=32){ρ:Type}(k:Bool→Option ρ) :
    (br (decide (D<(1:Int))) (k false) (br (decide (H<D)) (k false) (br (decide (H>(68:Int))) (k false)
     (br (decide (D=(0:Int))) none (br (H.tmod D !=(0:Int)) (k false) (br (decide (D=(0:Int))) none
      (br (decide (Aa.wrap (H.tdiv D)>(9:Int))) (k false) (br (decide (A≥(1:Int)))
       (br (decide (A≤(14:Int))) (br (decide (K≥(1:Int))) (k (decide (K≤(40:Int)))) (k false)) (k false)) (k false)))))))))=k (decide (acf N H D A K)):=by
 by_cases h1:D<1
 ·rw[bf h1,decide_eq_false (by unfold acf;omega)]
 rw[dh h1]
 by_cases h2:H<D
 ·rw[bf h2,decide_eq_false (by unfold acf;omega)]
 rw[dh h2]
 by_cases h3:H>68
 ·rw[bf h3,decide_eq_false (by unfold acf;omega)]
 rw[dh h3,dh (by omega)]
 by_cases h4:H.tmod D=0
 ·rw[fq h4,dh (by omega)]
  by_cases h5:Aa.wrap (H.tdiv D)>9
  ·rw[bf h5,decide_eq_false (by unfold acf;omega)]
  rw[dh h5]
  by_cases h6:A≥1
  ·rw[bf h6]
   by_cases h7:A≤14
   ·rw[bf h7]
    by_cases h8:K≥1
    ·rw[bf h8]
     congr 1
     apply decide_eq_decide.2
     unfold acf
     omega
    ·rw[dh h8,decide_eq_false (by unfold acf;omega)]
   ·rw[dh h7,decide_eq_false (by unfold acf;omega)]
  ·rw[dh h6,decide_eq_false (by unfold acf;omega)]
 ·rw[je h4,decide_eq_false (by unfold acf;omega)]
theorem jv(N H D A K:Int)(z:Bool){ρ:Type}(k:Bool→Option ρ):P.jv N H D A K z k=k (decide (acf N H D A K)):=by
 rw[P.bb8];unfold P.aq2
 by_cases h1:N=16
 ·rw[fq h1];exact bg8 N H D A K (.inl h1) k
 rw[je h1]
 by_cases h2:N=24
 ·rw[fq h2];exact bg8 N H D A K (.inr (.inl h2)) k
 rw[je h2]
 by_cases h3:N=32
 ·rw[fq h3];exact bg8 N H D A K (.inr (.inr h3)) k
 rw[je h3,decide_eq_false (by unfold acf;omega)]
theorem bal(N H D A K:Int)(hN:N=16∨N=24∨N=32){ρ:Type}(k:Bool→Option ρ) :
    (br (decide (D≥(1:Int))) (br (decide (H≤(68:Int))) (br (decide (H≥D)) (br (decide (D=(0:Int))) none
       (br (H.tmod D==(0:Int)) (br (decide (D=(0:Int))) none (br (decide (Aa.wrap (H.tdiv D)≤(9:Int)))
          (br (decide (A≥(1:Int))) (br (decide (A≤(14:Int))) (br (decide (K≥(1:Int))) (k (decide (K≤(40:Int)))) (k false)) (k false))
          (k false)) (k false))) (k false))) (k false)) (k false)) (k false))=k (decide (acf N H D A K)):=by
 by_cases h1:D≥1
 ·rw[bf h1]
  by_cases h3:H≤68
  ·rw[bf h3]
   by_cases h2:H≥D
   ·rw[bf h2,dh (by omega)]
    by_cases h4:H.tmod D=0
    ·rw[gu h4,dh (by omega)]
     by_cases h5:Aa.wrap (H.tdiv D)≤9
     ·rw[bf h5]
      by_cases h6:A≥1
      ·rw[bf h6]
       by_cases h7:A≤14
       ·rw[bf h7]
        by_cases h8:K≥1
        ·rw[bf h8]
         congr 1
         apply decide_eq_decide.2
         unfold acf
         omega
        ·rw[dh h8,decide_eq_false (by unfold acf;omega)]
       ·rw[dh h7,decide_eq_false (by unfold acf;omega)]
      ·rw[dh h6,decide_eq_false (by unfold acf;omega)]
     ·rw[dh h5,decide_eq_false (by unfold acf;omega)]
    ·rw[gy h4,decide_eq_false (by unfold acf;omega)]
   ·rw[dh h2,decide_eq_false (by unfold acf;omega)]
  ·rw[dh h3,decide_eq_false (by unfold acf;omega)]
 ·rw[dh h1,decide_eq_false (by unfold acf;omega)]
theorem lg(N H D A K:Int)(z:Bool){ρ:Type}(k:Bool→Option ρ):P.lg N H D A K z k=k (decide (acf N H D A K)):=by
 rw[P.bew];unfold P.at1
 by_cases h1:N=16
 ·rw[fq h1];exact bal N H D A K (.inl h1) k
 rw[je h1]
 by_cases h2:N=24
 ·rw[fq h2];exact bal N H D A K (.inr (.inl h2)) k
 rw[je h2]
 by_cases h3:N=32
 ·rw[fq h3];exact bal N H D A K (.inr (.inr h3)) k
 rw[je h3,decide_eq_false (by unfold acf;omega)]
def bi1(a:List Int)(i:Nat)(b:List Int):List Int:=a.take i++b++a.drop (i+b.length)
theorem avm(a:List Int)(i:Nat)(b:List Int)(h:i+b.length≤a.length):(bi1 a i b).length=a.length:=by
 unfold bi1;simp;omega
theorem bhi{a:List Int}{i:Nat}{b:List Int}(ha:In 256 a)(hb:In 256 b):In 256 (bi1 a i b):=((ha.take i).app hb).app (ha.drop _)
def be4(n v:Nat):List Int:=(bsw 8 n v).reverse
theorem afl(n v:Nat):(be4 n v).length=n:=by simp[be4]
theorem bny(n v:Nat):In 256 (be4 n v):=(bf0 8 n v).rev
def ak7(a:List Int)(part:Int)(v:Nat):List Int :=
 if part=0 then bi1 a 0 (be4 4 v) else if part=1 then bi1 a 4 (be4 12 v) else if part=2 then bi1 a 16 (be4 4 v++Ab 12 0)
 else if part=3∨part=4∨part=5 then bi1 a (8+4*part.toNat) (be4 4 v) else a
theorem jh{a:List Int}(h:a.length=32)(part:Int)(v:Nat):(ak7 a part v).length=32:=by
 unfold ak7
 have h4:=afl 4 v
 have h12:=afl 12 v
 split
 ·rw[avm _ _ _ (by omega),h]
 split
 ·rw[avm _ _ _ (by omega),h]
 split
 ·rw[avm _ _ _ (by rw[Ac,Al];omega),h]
 split
 ·rw[avm _ _ _ (by omega),h]
 exact h
theorem xk{a:List Int}(h:In 256 a)(part:Int)(v:Nat):In 256 (ak7 a part v):=by
 unfold ak7
 split
 ·exact bhi h (bny _ _)
 split
 ·exact bhi h (bny _ _)
 split
 ·exact bhi h ((bny _ _).app (fun x hx=>by rw[List.mem_replicate] at hx;omega))
 split
 ·exact bhi h (bny _ _)
 exact h
theorem cpy(a:List Int)(i m:Nat)(b:List Int)(hb:b.length≤m):(a.take i).append (b.take m++a.drop (i+min m b.length))=bi1 a i b:=by
 rw[Af hb,Nat.min_eq_right hb]
 show a.take i++(b++_)=_
 rw[←Ah]
 rfl
theorem jc{a:List Int}(h:a.length=32)(part:Int)(v:Nat)(hv:v<18446744073709551616){ρ:Type}(k:List Int→Option ρ):P.jc a part (v:Int) k=k (ak7 a part v):=by
 rw[P.bc9];unfold P.ap5 ak7
 have h4:(bsw 8 4 v).reverse.length=4:=by simp
 have h12:(bsw 8 12 v).reverse.length=12:=by simp
 have be:∀(k':List Int→Option ρ),P.xq (v:Int) 4 k'=k' (be4 4 v):=fun k'=>xq v 4 hv (by omega) k'
 have be':∀(k':List Int→Option ρ),P.xq (v:Int) 12 k'=k' (be4 12 v):=fun k'=>xq v 12 hv (by omega) k'
 by_cases h0:part=0
 ·rw[gu h0,if_pos h0,be]
  exact congrArg k (by rw[←cpy a 0 4 (be4 4 v) (by rw[afl];omega)];rfl)
 rw[gy h0,if_neg h0]
 by_cases h1:part=1
 ·rw[gu h1,if_pos h1,be']
  exact congrArg k (cpy a 4 12 _ (by rw[afl];omega))
 rw[gy h1,if_neg h1]
 by_cases h2:part=2
 ·have e:[be4 4 v,Ab 12 (0:Int)].flatten=be4 4 v++Ab 12 0:=by simp
  rw[gu h2,if_pos h2,be,jd _ (by simp) (by rw[e];simp[afl]),e]
  exact congrArg k (cpy a 16 16 _ (by rw[Ac,afl,Al];omega))
 rw[gy h2,if_neg h2]
 have fin:∀(p:Nat),part=(p:Int)→3≤p→p≤5→(br (decide ((0:Int)≤Aa.wrap ((8:Int)+Aa.wrap ((4:Int)*part))))
     (br (decide (Aa.wrap ((8:Int)+Aa.wrap ((4:Int)*part))≤((32:Nat):Int)))
      (P.xq (v:Int) (4:Int) fun (q4:List Int) =>
       k ((Br (Aa.wrap ((8:Int)+Aa.wrap ((4:Int)*part))).toNat a).append
        (Br (((32:Nat):Int)-Aa.wrap ((8:Int)+Aa.wrap ((4:Int)*part))).toNat q4 ++
         List.drop ((Aa.wrap ((8:Int)+Aa.wrap ((4:Int)*part))).toNat +
          min (((32:Nat):Int)-Aa.wrap ((8:Int)+Aa.wrap ((4:Int)*part))).toNat q4.length) a))) none) none)=k (bi1 a (8+4*part.toNat) (be4 4 v)):=by
  intro p hp h3 h5
  subst hp
  have e:Aa.wrap ((8:Int)+Aa.wrap ((4:Int)*(p:Int)))=((8+4*p:Nat):Int):=by
   rw[nu (x:=4*(p:Int)) (by omega) (by omega),nu (by omega) (by omega)];omega
  rw[e,bf (by omega),bf (by omega),be,show (((32:Nat):Int)-((8+4*p:Nat):Int)).toNat=24-4*p by omega,toNat_cast,toNat_cast]
  exact congrArg k (cpy a _ _ _ (by rw[afl];omega))
 by_cases h3:part=3
 ·rw[gu h3,gu h3,if_pos (.inl h3)]
  exact fin 3 h3 (by omega) (by omega)
 rw[gy h3]
 by_cases h4':part=4
 ·rw[gu h4',gu h4',if_pos (.inr (.inl h4'))]
  exact fin 4 h4' (by omega) (by omega)
 rw[gy h4']
 by_cases h5:part=5
 ·rw[gu h5,if_pos (.inr (.inr h5))]
  exact fin 5 h5 (by omega) (by omega)
 rw[gy h5,if_neg (by omega)]
theorem abh{a:List Int}(h:a.length=32)(i:Nat)(b:List Int)(hb:i+b.length≤32){ρ:Type}(k:List Int→Option ρ):P.abh a (i:Int) b k=k (bi1 a i b):=by
 rw[P.bfl];unfold P.atu
 rw[P.bhw];unfold P.bej P.b7g P.b0g P.cer
 refine xu (fun j=>((i:Int),b,(j:Int),bi1 a i (b.take j),([0,0,0,0,0,0,0,0,0,0,0,0,0,0,0,0,0,0,0,0,0,0,0,0,0,0,0,0,0,0,0,0]:List Int))) b.length (by simp[bi1]) (fun j hj next hn=>?_) (fun next=>?_) (by omega)
 ·have e1:(bi1 a i (b.take j)).set (i+j) (b.getD j 0)=bi1 a i (b.take (j+1)):=by
    unfold bi1
    rw[Ae,Ae,Bf (by omega),Bf (by omega),ae5 a 0 (i+j) (by omega),bw5 _ _ _ _ (i+j) (by simp;omega),List.take_succ_eq_append_getElem hj,getD_lt hj]
    simp only[Nat.add_assoc,Ah,Bu,Ac,List.length_singleton]
    done
  simp only[P.axv,toNat_cast]
  rw[bf (by omega),bf (by omega),bf (by omega),nu (x:=(i:Int)+(j:Int)) (by omega) (by omega),bf (by omega),bf (by omega),nu (by omega) (by omega),show ((i:Int)+(j:Int)).toNat=i+j by omega,e1]
  exact hn
 ·simp only[P.axv]
  rw[dh (by omega),List.take_length]
theorem jg{a:List Int}(h:a.length=32)(part:Int)(v:Nat)(hv:v<18446744073709551616){ρ:Type}(k:List Int→Option ρ):P.jg a part (v:Int) k=k (ak7 a part v):=by
 rw[P.bf2];unfold P.atj ak7
 have be:∀(k':List Int→Option ρ),P.wz (v:Int) 4 k'=k' (be4 4 v):=fun k'=>wz v 4 hv (by omega) k'
 have be':∀(k':List Int→Option ρ),P.wz (v:Int) 12 k'=k' (be4 12 v):=fun k'=>wz v 12 hv (by omega) k'
 by_cases h0:part=0
 ·rw[gu h0,if_pos h0,be]
  exact abh h 0 _ (by rw[afl];omega) _
 rw[gy h0,if_neg h0]
 by_cases h1:part=1
 ·rw[gu h1,if_pos h1,be']
  exact abh h 4 _ (by rw[afl];omega) _
 rw[gy h1,if_neg h1]
 by_cases h2:part=2
 ·have hl:=avm a 16 (be4 4 v) (by rw[afl];omega)
  rw[gu h2,if_pos h2,be]
  refine (abh h 16 _ (by rw[afl];omega) _).trans ((abh (by rw[hl,h]) 20 _ (by simp) _).trans (congrArg k ?_))
  unfold bi1
  have e1:(a.take 16++be4 4 v).length=20:=by rw[Ac,Ae,afl];omega
  rw[afl,Ac,afl,Al,Bh (by omega),Af (by omega),List.drop_append,Aj (by omega),e1,Ay,Ah (a.take 16)]
  rfl
 rw[gy h2,if_neg h2]
 have fin:∀(p:Nat),part=(p:Int)→3≤p→p≤5→(P.wz (v:Int) (4:Int) fun (q7:List Int)=>P.abh a (Aa.wrap ((8:Int)+Aa.wrap ((4:Int)*part))) q7 fun (q8:List Int)=>k q8)=k (bi1 a (8+4*part.toNat) (be4 4 v)):=by
  intro p hp h3 h5
  subst hp
  have e:Aa.wrap ((8:Int)+Aa.wrap ((4:Int)*(p:Int)))=((8+4*p:Nat):Int):=by
   rw[nu (x:=4*(p:Int)) (by omega) (by omega),nu (by omega) (by omega)];omega
  rw[e,be,abh h _ _ (by rw[afl];omega),toNat_cast]
 by_cases h3:part=3
 ·rw[gu h3,gu h3,if_pos (.inl h3)]
  exact fin 3 h3 (by omega) (by omega)
 rw[gy h3]
 by_cases h4':part=4
 ·rw[gu h4',gu h4',if_pos (.inr (.inl h4'))]
  exact fin 4 h4' (by omega) (by omega)
 rw[gy h4']
 by_cases h5:part=5
 ·rw[gu h5,if_pos (.inr (.inr h5))]
  exact fin 5 h5 (by omega) (by omega)
 rw[gy h5,if_neg (by omega)]
theorem b0v{n:Nat}(hn:N3 n)(x:List Int)(hl:x.length=n){ρ:Type}(k0:Int→Int→List Int→Option ρ) :
    P.ael 0 0 (tq x 4 ((2*n:Nat):Int)) k0=k0 ((wl n x:Nat):Int) ((2*n:Nat):Int) (tq x 4 ((2*n:Nat):Int)):=by
 have hn2:n≤32:=by rcases hn with rfl | rfl | rfl<;>omega
 have hlen:=ara n x hl
 rw[P.azn]
 unfold P.awk P.b7w P.b3b P.b8d
 refine xu (fun i=>(((15*i-sumTo (tq x 4 ((2*n:Nat):Int)) i:Nat):Int),(i:Int),tq x 4 ((2*n:Nat):Int))) (2*n) (by simp[sumTo]) (fun i hi next hn'=>?_) (fun next=>?_) (by omega)
 ·obtain ⟨d,hd,hd2⟩:=bmd (w:=4) (bqa n x) i
  have hle:=sumTo_le (tq x 4 ((2*n:Nat):Int)) 4 (bqa n x) i
  simp only[sumTo,hd,Int.toNat_natCast] at hn'
  simp only[P.aoh,toNat_cast]
  rw[hd,bf (by omega),bf (by omega),bf (by omega),aik _ (by omega),nu (by omega) (by omega),show ((15*i-sumTo (tq x 4 ((2*n:Nat):Int)) i:Nat):Int)+(15:Int)=((15*i-sumTo (tq x 4 ((2*n:Nat):Int)) i+15:Nat):Int) by omega,aik _ (by omega),
   show ((15*i-sumTo (tq x 4 ((2*n:Nat):Int)) i+15:Nat):Int)-(d:Int)=((15*(i+1)-(sumTo (tq x 4 ((2*n:Nat):Int)) i+d):Nat):Int) by omega,aik _ (by omega)]
  exact hn'
 ·simp only[P.aoh]
  rw[dh (by omega)]
  rfl
theorem br1(s:Nat)(h:s<961):tq (bsw 8 2 (16*s)).reverse 4 3=[((s/2^8:Nat):Int),((s/2^4%2^4:Nat):Int),((s%2^4:Nat):Int)]:=by
 rw[show (4:Int)=((4:Nat):Int) from rfl,show (3:Int)=((3:Nat):Int) from rfl,ax0 _ 4 3 (by omega) (by omega) (by simp),List.reverse_reverse,b4c]
 simp only[Am,ab5,dg,Ao,List.range_zero,Bg,Bb,List.map_cons,List.map_nil,List.cons_append]
 refine congr (congrArg _ ?_) (congr (congrArg _ ?_) (congrArg (·::[]) ?_))<;>omega
theorem bv4{n:Nat}(hn:N3 n)(x:List Int)(hx:In 256 x)(hl:x.length=n){ρ:Type}(k:List Int→Option ρ) :
    (P.qd x (4:Int) (Aa.wrap ((2:Int)*(n:Int))) fun (q0:List Int) =>
     P.ael (0:Int) (0:Int) q0 fun (q1 q2:Int) (q3:List Int) =>
      P.wz (Ad.wrap ((16:Int)*q1)) (2:Int) fun (q4:List Int) =>
       P.qd q4 (4:Int) (3:Int) fun (q5:List Int) =>
        br (decide ((q3.length+q5.length)*4≤140737488355328)) (k (q3++q5)) none)=k (wd n x):=by
 have hn2:n≤32:=by rcases hn with rfl | rfl | rfl<;>omega
 have hlen:=ara n x hl
 have hlt:=bxt hn x
 rw[nu (by omega) (by omega),show (2:Int)*(n:Int)=((2*n:Nat):Int) by omega,qd _ _ _ hx (by omega),b0v hn x hl,show (16:Int)*((wl n x:Nat):Int)=((16*wl n x:Nat):Int) by omega,aik _ (by omega),show (2:Int)=((2:Nat):Int) from rfl,wz _ 2 (by omega) (by omega),qd _ _ _ (bf0 8 2 _).rev (by simp),br1 _ hlt,bf (by rw[hlen];simp only[List.length_cons,List.length_nil];omega)]
 rfl
theorem ab0{n:Nat}(hn:N3 n)(x:List Int)(hx:In 256 x)(hl:x.length=n){ρ:Type}(k:List Int→Option ρ):P.ab0 (n:Int) x k=k (wd n x):=by
 rw[P.aww]
 unfold P.al4
 have ht:=bv4 hn x hx hl k
 rcases hn with rfl | rfl | rfl
 ·rw[fq (by rfl),fq (by rw[hl])]
  exact ht
 ·rw[je (by decide),fq (by rfl),fq (by rw[hl])]
  exact ht
 ·rw[je (by decide),je (by decide),fq (by rfl),fq (by rw[hl])]
  exact ht
end Q
end
