/-
  SlhRight, part 23: lemmas for the law.
-/

import Derived.Test.YtciddcopcdmnbaaGreatDoorSlhRightV
import Derived.Test.YtciddcopcdmnbaaGreatDoorSlhRightU
import Derived.Test.YtciddcopcdmnbaaGreatDoorSlhRightL
import Derived.Test.YtciddcopcdmnbaaGreatDoorSlhRightI
import Derived.Test.YtciddcopcdmnbaaGreatDoorSlhRightK
open List renaming length_take → Aa, length_append → Ac, length_drop → Ad, drop_zero → Ag, take_length → Ah, take_left → Al, drop_left → Am, append_assoc → Ap
open Nat renaming mul_le_mul → Ab, pow_le_pow_right → Ae, two_pow_pos → Aj, le_refl → Ao, mul_comm → Aq, div_le_self → Ar, add_mul → Au
open Go.IntKind renaming i64 → Af, u64 → Ak
open Eq renaming trans → Ai
set_option linter.unusedVariables false
set_option linter.unusedSimpArgs false

section
/- fors: signatures and what they lead to, by the program and by the document. -/
namespace Q
open QK
open Go Go.Abs
def dF(A:Nat)(t:List Int)(k:Nat):Nat:=T 8 t.reverse/2^(8*t.length-A*(k+1))%2^A
def ixF(A:Nat)(t:List Int)(k:Nat):Nat:=k*2^A+dF A t k
theorem bup(A:Nat)(t:List Int)(k:Nat):dF A t k<2^A:=Nat.mod_lt _ (Aj A)
theorem bo0{A K k:Nat}(t:List Int)(hk:k<K):ixF A t k<K*2^A:=by
 have h1:=bup A t k
 have h2:(k+1)*2^A≤K*2^A:=Ab hk (Ao _)
 rw[Au,Nat.one_mul] at h2
 unfold ixF;omega
theorem bf2{A K:Nat}(t:List Int)(h1:1≤A)(h2:A≤14)(ht:t.length=txF A K):(aao t (A:Int) (K:Int)).length=K∧∀k,k<K→(aao t (A:Int) (K:Int)).getD k 0=((dF A t k:Nat):Int):=by
 rw[axo t A K h1 (by omega) (by unfold txF at ht;omega)]
 refine ⟨by simp,fun k hk=>?_⟩
 rw[List.getD_eq_getElem?_getD,List.getElem?_map,List.getElem?_range hk]
 rfl
theorem bs0{A:Nat}(t:List Int)(k:Nat)(hb:ixF A t k<18446744073709551616)(hA:A≤64):bits .or .u64 (Ak.wrap (Ak.wrap (k:Int)*(2:Int)^min A 64)) (Ak.wrap ((dF A t k:Nat):Int))=((ixF A t k:Nat):Int):=by
 have h1:k*2^A≤ixF A t k:=Nat.le_add_right _ _
 have h2:k≤k*2^A:=Nat.le_mul_of_pos_right _ (Aj A)
 have h3:dF A t k≤ixF A t k:=Nat.le_add_left _ _
 rw[an6 k (by omega),bff k A hA (by omega),an6 _ (by omega),bku _ _ (by omega) (by omega)]
 congr 1
 unfold ixF
 rw[Aq k (2^A),Nat.two_pow_add_eq_or_of_lt (bup A t k)]
def auF(n:Nat)(sh:Bool)(pub sec a:List Int)(i z:Nat):List Int:=fkW n sh pub sec a z ((i/2^z) ^^^ 1)
def sgF(n:Nat)(sh:Bool)(pub sec a:List Int)(A:Nat)(t:List Int)(k:Nat):List Int:=lfF n sh pub sec a (ixF A t k)++cat (auF n sh pub sec a (ixF A t k)) A
theorem biu{n:Nat}(hn:n≤32)(sh:Bool)(pub sec a:List Int)(i z:Nat):(auF n sh pub sec a i z).length=n:=azp hn _ _ _ _ _ _
theorem bt7(n:Nat)(sh:Bool)(pub sec a:List Int)(i z:Nat):In 256 (auF n sh pub sec a i z):=blp _ _ _ _ _ _ _
theorem biq{n:Nat}(hn:n≤32)(sh:Bool)(pub sec a:List Int)(A:Nat)(t:List Int)(k:Nat):(sgF n sh pub sec a A t k).length=n*(A+1):=by
 unfold sgF
 rw[Ac,ay4 hn,ac3 (biu hn sh pub sec a _),Nat.mul_add,Nat.mul_one,Aq A n,Nat.add_comm]
theorem bvk(n:Nat)(sh:Bool)(pub sec a:List Int)(A:Nat)(t:List Int)(k:Nat):In 256 (sgF n sh pub sec a A t k):=(bpl _ _ _ _ _ _).app (aok (bt7 n sh pub sec a _) _)
theorem b24{A K i z:Nat}(hi:i<K*2^A)(hz:z<A):(i/2^z) ^^^ 1<K*2^(A-z):=by
 have h1:i/2^z<K*2^(A-z):=by
  rw[Nat.div_lt_iff_lt_mul (Aj z),Nat.mul_assoc,←Nat.pow_add,Nat.sub_add_cancel (by omega)]
  exact hi
 have h2:K*2^(A-z)=2*(K*2^(A-(z+1))):=by rw[show A-z=A-(z+1)+1 by omega,Nat.pow_succ,←Nat.mul_assoc,Aq]
 rw[b41]
 generalize i/2^z=x at h1 ⊢
 generalize K*2^(A-(z+1))=e at h2
 split<;>omega
def upF(n:Nat)(sh:Bool)(pub a:List Int)(i:Nat)(part:List Int):Nat→List Int
 | 0=>ovF n sh pub a 0 i (part.take n)
 | z+1=>ovF n sh pub a (z+1) (i/2^(z+1)) (if i/2^z%2=1 then (part.drop ((z+1)*n)).take n++upF n sh pub a i part z else upF n sh pub a i part z++(part.drop ((z+1)*n)).take n)
theorem bdo{n:Nat}(hn:n≤32)(sh:Bool)(pub a:List Int)(i:Nat)(part:List Int):∀z,(upF n sh pub a i part z).length=n
 | 0=>abo hn _ _ _ _
 | z+1=>abo hn _ _ _ _
theorem bpd(n:Nat)(sh:Bool)(pub a:List Int)(i:Nat)(part:List Int):∀z,In 256 (upF n sh pub a i part z)
 | 0=>aea _ _ _ _ _
 | z+1=>aea _ _ _ _ _
def ptF(n A:Nat)(sig:List Int)(k:Nat):List Int:=sig.drop (k*(n*(A+1)))
def cdF(n:Nat)(sh:Bool)(pub a:List Int)(A:Nat)(t sig:List Int)(k:Nat):List Int:=upF n sh pub a (ixF A t k) (ptF n A sig k) A
theorem abd{n A K:Nat}{H D:Int}(hf:afl n H D A K)(sh:Bool){sec pub a:List Int}(hsec:In 256 sec)(lsec:sec.length=n)(hp:In 256 pub)(np:pub.length=n)(la:a.length=32)(ha:In 256 a)(t:List Int)(ht:In 256 t)(lt:t.length=txF A K){ρ:Type}(k:List Int→Option ρ):P.abd (n:Int) H D A K sh t sec pub a k=k (cat (sgF n sh pub sec a A t) K):=by
 have hq:=hf
 unfold afl at hq
 have hn:n≤32:=by omega
 have hA:A≤14:=by omega
 have hK:K≤40:=by omega
 have h3:K*A≤40*14:=Ab hK hA
 have hpw:K*2^A≤655360:=by
  have h1:2^A≤2^14:=Ae (by omega) hA
  have:=Ab hK h1
  omega
 have htx:txF A K≤100:=by unfold txF;omega
 obtain ⟨d1,d2⟩:=bf2 (A:=A) (K:=K) t (by omega) hA lt
 have hl:=ac3 (biq hn sh pub sec a A t)
 have hsz:n*(A+1)≤32*15:=Ab hn (by omega)
 rw[P.asl];unfold P.ala
 rw[qz hf,jo hf,decide_eq_true ⟨lsec,np⟩,uh,yx,dx (by omega),jl t A K ht (by omega),d1,P.asf];unfold P.ao7 P.bvt P.bw2 P.bx6
 refine abk (fun j=>((K:Int),(j:Int),cat (sgF n sh pub sec a A t) j,(n:Int),H,D,(A:Int),(K:Int),sh,(n:Int),H,D,(A:Int),(K:Int),sh,sec,pub,a,(n:Int),H,D,(A:Int),(K:Int),sh,sec,pub,a,aao t (A:Int) (K:Int))) K rfl (fun j hj next hnx=>?_) (fun next=>?_) (by omega)
 ·have hix:=bo0 (A:=A) t hj
  have hm:j*(n*(A+1))≤40*(32*15):=Ab (by omega) hsz
  simp only[P.aj4,d1,toNat_cast]
  rw[bf (by omega),bf (by omega),bf (by omega),fq (by omega),d2 j hj,bs0 t j (by omega) (by omega),bck hf sh hp np la ha hsec lsec _ (by omega),bf (by rw[hl,ay4 hn];omega),P.aqi]
  unfold P.amt P.bw5 P.bvx P.by2
  refine abk (fun z=>(((ixF A t j:Nat):Int),(A:Int),(z:Int),cat (sgF n sh pub sec a A t) j++lfF n sh pub sec a (ixF A t j)++cat (auF n sh pub sec a (ixF A t j)) z,(n:Int),H,D,(A:Int),(K:Int),sh,(n:Int),H,D,(A:Int),(K:Int),sh,sec,pub,a,(n:Int),H,D,(A:Int),(K:Int),sh,sec,pub,a,aao t (A:Int) (K:Int))) A (by simp[cat]) (fun z hz next2 hnx2=>?_) (fun next2=>?_) (by omega)
  ·have hau:=b24 hix hz
   have hkb:=bt8 (A:=A) (K:=K) (z:=z) hA hK (by omega) hau
   have hdl:=Ar (ixF A t j) (2^z)
   have l2:=ac3 (biu hn sh pub sec a (ixF A t j)) z
   have hm2:z*n≤14*32:=Ab (by omega) hn
   simp only[P.aij,toNat_cast]
   rw[bf (by omega),fq (by omega),fdiv_pow _ _ _ (by omega),show (1:Int)=((1:Nat):Int) from rfl,bi1 _ _ (by omega) (by omega),biy hf sh hsec lsec hp np la ha z _ (by omega) (by omega),bf (by rw[Ac,Ac,hl,ay4 hn,l2,azp hn];omega),wz (by omega) (by omega),Ap _ (cat _ z)]
   exact hnx2
  ·simp only[P.aij]
   rw[fq (by omega),wz (by omega) (by omega)]
   rw[cat,sgF,←Ap] at hnx
   exact hnx
 ·simp only[P.aj4]
  rw[fq (by omega)]
theorem bq0{n A K:Nat}{H D:Int}(hf:afl n H D A K)(sh:Bool){pub a:List Int}(hp:In 256 pub)(np:pub.length=n)(la:a.length=32)(ha:In 256 a)(sec:List Int)(i:Nat)(hi:i<18446744073709551616)(part:List Int)(ip:In 256 part)(lp':(A+1)*n≤part.length)(lb:part.length≤1000000){ρ:Type}(k:List Int→Option ρ):P.su (n:Int) H D A K sh sec pub a (i:Int) part k=k (upF n sh pub a i part A):=by
 have hq:=hf
 unfold afl at hq
 have hn:n≤32:=by omega
 have hA:A≤14:=by omega
 have hsp:n≤(A+1)*n:=Nat.le_mul_of_pos_left _ (by omega)
 have hf1:[part.take n].flatten=part.take n:=by simp
 have ht1:(part.take n).length=n:=by rw[Aa];omega
 rw[P.al4];unfold P.afq
 rw[bf (by omega),bf (by omega),toNat_cast,Ag,show ∀(x:Int) (l:List (List Int)) (kk:List Int→Option ρ),P.jr (n:Int) H D A K sh sec pub a 0 x l kk=P.jr (n:Int) H D A K sh sec pub a ((0:Nat):Int) x l kk from fun _ _ _=>rfl,
  anc hf sh hp np la ha 0 i (by omega) hi _ (by simp) (by rw[hf1];exact ip.take n) (by rw[hf1];omega),hf1,P.apu]
 unfold P.al6 P.bxr P.bxk P.bx7
 refine abk (fun z=>((i:Int),part.drop (z*n),upF n sh pub a i part z,(A:Int),(z:Int),(n:Int),H,D,(A:Int),(K:Int),sh,sec,pub,a)) A (by simp[upF]) (fun z hz next hnx=>?_) (fun next=>?_) (by omega)
 ·have hd:=Ar i (2^z)
  have hd2:=Ar i (2^(z+1))
  have hz2:(z+2)*n≤(A+1)*n:=Ab (by omega) (Ao _)
  have e2:(z+2)*n=z*n+n+n:=by rw[Au];omega
  have e1:(z+1)*n=z*n+n:=by rw[Au,Nat.one_mul]
  have hl0:(part.drop (z*n)).length=part.length-z*n:=Ad
  have hdd:(part.drop (z*n)).drop n=part.drop ((z+1)*n):=by rw[List.drop_drop,e1]
  have hl1:(part.drop ((z+1)*n)).length=part.length-(z+1)*n:=Ad
  have lu:=bdo hn sh pub a i part z
  have iu:=bpd n sh pub a i part z
  have is':In 256 ((part.drop ((z+1)*n)).take n):=(ip.drop _).take _
  have ls':((part.drop ((z+1)*n)).take n).length≤n:=by rw[Aa];omega
  simp only[P.ag1,toNat_cast,Ah,Ag,hdd]
  rw[bf (by omega),bf (by omega),bf (by omega),bf (by omega),bf (by omega),bf (by omega),fq (by omega),wz (x:=(z:Int)+1) (by omega) (by omega),show (z:Int)+1=((z+1:Nat):Int) by omega,fq (by omega),toNat_cast,fdiv_pow _ _ _ (by omega),fdiv_pow _ _ _ (by omega),show (1:Int)=((1:Nat):Int) from rfl,awx _ _ (by omega) (by omega),Nat.and_one_is_mod]
  rw[upF] at hnx
  by_cases hb:i/2^z%2=1
  ·rw[if_pos hb] at hnx
   have hfl:[(part.drop ((z+1)*n)).take n,upF n sh pub a i part z].flatten=(part.drop ((z+1)*n)).take n++upF n sh pub a i part z:=by simp
   rw[hb,jc rfl,anc hf sh hp np la ha (z+1) _ (by omega) (by omega) _ (by simp) (by rw[hfl];exact is'.app iu) (by rw[hfl,Ac];omega),hfl]
   exact hnx
  ·rw[if_neg hb] at hnx
   have hfl:[upF n sh pub a i part z,(part.drop ((z+1)*n)).take n].flatten=upF n sh pub a i part z++(part.drop ((z+1)*n)).take n:=by simp
   rw[show i/2^z%2=0 by omega,jk (by omega),fq (by omega),anc hf sh hp np la ha (z+1) _ (by omega) (by omega) _ (by simp) (by rw[hfl];exact iu.app is') (by rw[hfl,Ac];omega),hfl]
   exact hnx
 ·simp only[P.ag1]
  rw[fq (by omega)]
theorem ny{n A K:Nat}{H D:Int}(hf:afl n H D A K)(sh:Bool){pub a:List Int}(hp:In 256 pub)(np:pub.length=n)(la:a.length=32)(ha:In 256 a)(t sig:List Int)(ht:In 256 t)(lt:t.length=txF A K)(hsig:In 256 sig)(lsig:sig.length=szF n A K){ρ:Type}(k:List Int→Option ρ):P.ny (n:Int) H D A K sh sig t pub a k=k (kyF n sh pub a (cat (cdF n sh pub a A t sig) K)):=by
 have hq:=hf
 unfold afl at hq
 have hn:n≤32:=by omega
 have hA:A≤14:=by omega
 have hK:K≤40:=by omega
 have h3:K*A≤40*14:=Ab hK hA
 have hpw:K*2^A≤655360:=by
  have h1:2^A≤2^14:=Ae (by omega) hA
  have:=Ab hK h1
  omega
 have htx:txF A K≤100:=by unfold txF;omega
 obtain ⟨d1,d2⟩:=bf2 (A:=A) (K:=K) t (by omega) hA lt
 have hl:=ac3 (T:=cdF n sh pub a A t sig) (fun i=>bdo hn sh pub a _ _ _)
 have hsz:n*(A+1)≤32*15:=Ab hn (by omega)
 have eN:Af.wrap ((n:Int)*Af.wrap ((A:Int)+1))=((n*(A+1):Nat):Int):=by
  rw[wz (x:=(A:Int)+1) (by omega) (by omega),show (A:Int)+1=((A+1:Nat):Int) by omega,←Int.natCast_mul,wz (by omega) (by omega)]
 unfold szF at lsig
 rw[P.aj7];unfold P.aew
 rw[jo hf,ji,decide_eq_true hf,uh,yx,dx (by omega),dx (by omega),dx (by unfold szF;omega),jl t A K ht (by omega),d1,P.amj];unfold P.aiu P.bxd P.bwu P.byp
 refine abk (fun j=>((K:Int),(j:Int),cat (cdF n sh pub a A t sig) j,(n:Int),H,D,(A:Int),(K:Int),sh,ptF n A sig j,(n:Int),H,D,(A:Int),(K:Int),sh,pub,a,(n:Int),H,D,(A:Int),(K:Int),sh,pub,a,aao t (A:Int) (K:Int))) K (by simp[cat,ptF]) (fun j hj next hnx=>?_) (fun next=>?_) (by omega)
 ·have hix:=bo0 (A:=A) t hj
  have hm:j*n≤40*32:=Ab (by omega) hn
  have hj1:(j+1)*(n*(A+1))≤K*(n*(A+1)):=Ab hj (Ao _)
  have e1:(j+1)*(n*(A+1))=j*(n*(A+1))+n*(A+1):=by rw[Au,Nat.one_mul]
  have hKs:K*(n*(A+1))≤40*(32*15):=Ab hK hsz
  have hpl:(ptF n A sig j).length=sig.length-j*(n*(A+1)):=Ad
  have hpn:(ptF n A sig j).drop (n*(A+1))=ptF n A sig (j+1):=by unfold ptF;rw[List.drop_drop,e1]
  simp only[P.ad9,d1,toNat_cast,eN,Ah,hpn]
  rw[bf (by omega),bf (by omega),bf (by omega),fq (by omega),d2 j hj,bs0 t j (by omega) (by omega),bq0 hf sh hp np la ha [] _ (by omega) _ (show In 256 (ptF n A sig j) from hsig.drop _) (by rw[hpl,Aq];omega) (by rw[hpl];omega),bf (by rw[hl,bdo hn];omega),bf (by omega),bf (by omega),bf (by omega),wz (by omega) (by omega)]
  exact hnx
 ·have hm:K*n≤40*32:=Ab (by omega) hn
  simp only[P.ad9]
  rw[fq (by omega),bm3 hf sh hp np la ha _ (aok (T:=cdF n sh pub a A t sig) (fun i=>bpd _ _ _ _ _ _ _) _) (by rw[hl];omega)]
end Q
end

section
/- fors: what any signature is; what is signed leads to the tops. -/
namespace Q
open QK
open Go Go.Abs
end Q
end

section
/- mac: digests with keys, and keys that grow, by the program. -/
namespace Q
open QK
open Go Go.Abs
theorem bsv{kd:Int}(h:1≤kd∧kd≤5):(([0,0,32,64,48,128,64,128,32,136,64,72,32,168,64,136]:List Int).getD (kd.toNat*2+1) 0)=((bk kd:Nat):Int):=by
 have:kd=1∨kd=2∨kd=3∨kd=4∨kd=5:=by omega
 rcases this with rfl | rfl | rfl | rfl | rfl<;>decide
theorem aen{kd:Int}(h:1≤kd∧kd≤5)(key:List Int)(hk:In 256 key)(nk:key.length≤100000){ρ:Type}(k:Int→List Int→List Int→Option ρ):P.aen kd key k=k kd (ba6 (buy kd key) (bk kd) 92) (ba6 (buy kd key) (bk kd) 54):=by
 have hK:K7 kd:=K7.of (by omega)
 have h2:=btf hK
 have hd:=ayi hK
 rw[P.auo];unfold P.anj
 rw[axy,bf (by omega),bf (by omega),bf (by omega),bsv h]
 unfold buy
 by_cases hg:bk kd<key.length
 ·rw[bf (by omega),if_pos hg,arn hK [key] (by simp) (by simpa using hk) (by simp;omega)]
  have e:[key].flatten=key:=by simp
  rw[e,uy _ _ _ (by rw[am0 hK];omega) (by omega),uy _ _ _ (by rw[am0 hK];omega) (by omega)]
 ·rw[fq (by omega),if_neg hg,uy _ _ _ (by omega) (by omega),uy _ _ _ (by omega) (by omega)]
theorem keyed{kd:Int}{ρ:Type}(k:Bool→Option ρ):P.aev kd k=k (decide (1≤kd∧kd≤5)):=by
 rw[P.asz];unfold P.alx
 by_cases h1:kd≥1
 ·rw[bf h1]
  congr 1
  exact decide_eq_decide.2 ⟨fun h=>⟨h1,h⟩,fun h=>h.2⟩
 ·rw[fq h1,decide_eq_false (fun h=>h1 h.1)]
theorem ae3{kd:Int}(h:1≤kd∧kd≤5)(key b:List Int)(hk:In 256 key)(hb:In 256 b)(nk:key.length≤100000)(nb:b.length≤900000){ρ:Type}(k:List Int→Int→Option ρ):P.ae3 kd key b k=k (hmc kd key b) 0:=by
 have hK:K7 kd:=K7.of (by omega)
 have h2:=btf hK
 rw[P.avu];unfold P.am7
 rw[keyed,decide_eq_true h,uh,yx,aen h key hk nk,bqp hK [b] (by simp) (by simpa using hb) (by simp;omega) _ _ (bjk _ _ _) (bjk _ _ _) (by rw[ay5];omega) (by rw[ay5];omega)]
 simp[hmc]
theorem hm1:(hmc 1 [] []).take 4=[182,19,103,154]:=by decide +kernel
end Q
end

section
/- slh: digests, and what they tell, by the program. -/
namespace Q
open QK
open Go Go.Abs
theorem maskN(w:Nat)(hw:w≤64):Ak.wrap (Ak.wrap ((1:Int)*(2:Int)^min w 64)-(1:Int))=((2^w-1:Nat):Int):=by
 by_cases h4:w=64
 ·subst h4;rfl
 ·have h2:2^w≤2^63:=Ae (by omega) (by omega)
  have h1:=Aj w
  rw[Nat.min_eq_left (by omega),Int.one_mul,show ((2:Int)^w)=((2^w:Nat):Int) by simp,an6 _ (by omega),show ((2^w:Nat):Int)-(1:Int)=((2^w-1:Nat):Int) by omega,an6 _ (by omega)]
theorem bjt(x w:Nat)(hx:x<18446744073709551616)(hw:w≤64):bits .and .u64 (x:Int) (Ak.wrap (Ak.wrap ((1:Int)*(2:Int)^min w 64)-(1:Int)))=((x%2^w:Nat):Int):=by
 have h2:2^w≤2^64:=Ae (by omega) hw
 rw[maskN w hw,awx _ _ hx (by omega),Nat.and_two_pow_sub_one_eq_mod]
def by8(w:Nat):Nat:=(w+7)/8
theorem ao1{w:Nat}(h:w≤64):by8 w≤8:=by unfold by8;omega
theorem bj6(w:Nat)(hw:w≤100000):Af.wrap ((Af.wrap ((w:Int)+(7:Int))).tdiv (8:Int))=((by8 w:Nat):Int):=by
 rw[wz (x:=(w:Int)+7) (by omega) (by omega),Int.tdiv_eq_ediv_of_nonneg (by omega),wz (by omega) (by omega)]
 unfold by8
 omega
def nbW(b:List Int)(w:Nat):Nat:=T 8 (b.take (by8 w)).reverse%2^w
theorem bou(b:List Int)(w:Nat):nbW b w<2^w:=Nat.mod_lt _ (Aj w)
theorem bk8(b:List Int)(w:Nat)(hw:w≤64):T 8 (b.take (by8 w)).reverse<18446744073709551616:=by
 have h1:=b27 8 (b.take (by8 w)).reverse
 have h8:=ao1 hw
 have h2:8*((b.take (by8 w)).reverse).length≤64:=by rw[List.length_reverse,Aa];omega
 have h3:2^(8*((b.take (by8 w)).reverse).length)≤2^64:=Ae (by omega) h2
 omega
theorem ba7(b:List Int)(hb:In 256 b)(hbl:b.length≤1000000)(w:Nat)(hw:w≤64)(hl:by8 w≤b.length){ρ:Type}(k:Int→List Int→Option ρ):P.zq b (w:Int) k=k ((nbW b w:Nat):Int) (b.drop (by8 w)):=by
 have ht:=bk8 b w hw
 have h8:=ao1 hw
 rw[P.aqu];unfold P.ajq
 rw[bj6 w (by omega),bf (by omega),bf (by omega),toNat_cast,Ag,u6 _ (hb.take _) (by rw[Aa];omega),Nat.mod_eq_of_lt ht,fq (by omega),bf (by omega),bf (by omega),bf (by omega),toNat_cast,toNat_cast,Ah,bjt _ w ht hw]
 rfl
def kdS(n:Nat):Int:=if n=16 then 1 else 3
theorem brl(n:Nat):1≤kdS n∧kdS n≤3:=by unfold kdS;split<;>omega
theorem dlS{n:Nat}(hn:n=16∨n=24∨n=32):n≤dl (kdS n):=by
 rcases hn with rfl | rfl | rfl<;>decide
def bhz(n:Nat)(sh:Bool)(drawer rnd text:List Int):List Int:=if sh then bo2 7 (drawer++(rnd++text)) n else (hmc (kdS n) drawer (rnd++text)).take n
def bl8(n:Nat)(sh:Bool)(size:Nat)(r pub text:List Int):List Int :=
 if sh then bo2 7 (r++(pub++text)) size else grow (maT (kdS n) (r++(pub.take n++dig (kdS n) (r++(pub++text))))) (dl (kdS n)) size
theorem K7S(n:Nat):K7 (kdS n):=K7.of (by have:=brl n;omega)
theorem auf(n:Nat)(sh:Bool)(size:Nat)(r pub text:List Int):(bl8 n sh size r pub text).length=size:=by
 unfold bl8
 have:=ayi (K7S n)
 split
 ·exact at7 _ _ _
 ·exact bmp (fun i=>am0 (K7S n) _) (by omega) _
theorem bjo(n:Nat)(sh:Bool)(size:Nat)(r pub text:List Int):In 256 (bl8 n sh size r pub text):=by
 unfold bl8
 split
 ·exact ayz _ _ _
 ·exact (aok (fun i=>bga _ _) _).take _
theorem anx{n:Nat}(hn:n=16∨n=24∨n=32)(sh:Bool)(drawer rnd text:List Int):(bhz n sh drawer rnd text).length=n:=by
 have:=dlS hn
 unfold bhz
 split
 ·exact at7 _ _ _
 ·rw[Aa,bk0 (K7S n)];omega
theorem av1(n:Nat)(sh:Bool)(drawer rnd text:List Int):In 256 (bhz n sh drawer rnd text):=by
 unfold bhz
 split
 ·exact ayz _ _ _
 ·exact (btd _ _ _).take _
theorem zu(a b c:List Int):[a,b,c].flatten=a++(b++c):=by simp
theorem auk(a b:List Int):[a,b].flatten=a++b:=by simp
theorem bqo(n:Nat)(hn:n≤32)(H D A K:Int)(s:Bool)(drawer rnd text:List Int)(h1:In 256 drawer)(h2:In 256 rnd)(h3:In 256 text)(l1:drawer.length≤100000)(l2:rnd.length≤100000)(l3:text.length≤100000){ρ:Type}(k:List Int→Option ρ) :
    P.qh drawer rnd text (n:Int) H D A K s k=k (bhz n true drawer rnd text):=by
 rw[P.amc];unfold P.af6
 rw[P.ag6];unfold P.adr
 rw[dz _ (by simp) (by rw[zu];simp;omega),zu,yt (by omega) _ (by simp;omega) n (by omega)]
 rfl
theorem bqv{n:Nat}(hn:n=16∨n=24∨n=32)(H D A K:Int)(s:Bool)(drawer rnd text:List Int)(h1:In 256 drawer)(h2:In 256 rnd)(h3:In 256 text)(l1:drawer.length≤100000)(l2:rnd.length≤100000)(l3:text.length≤100000){ρ:Type}(k:List Int→Option ρ) :
    P.qc drawer rnd text (kdS n) (n:Int) H D A K s k=k (bhz n false drawer rnd text):=by
 have hd:=dlS hn
 have h3':=brl n
 have hl:=bk0 (K7S n) drawer (rnd++text)
 rw[P.al2];unfold P.aft
 rw[dz _ (by simp) (by rw[auk];simp;omega),auk,ae3 (by omega) _ _ h1 (h2.app h3) l1 (by rw[Ac];omega),bf (by omega),bf (by omega),Ag,Int.sub_zero,toNat_cast]
 rfl
theorem bt2(n size:Nat)(hs:size≤10000)(r pub text:List Int)(h1:In 256 r)(h2:In 256 pub)(h3:In 256 text)(l1:r.length≤100000)(l2:pub.length≤100000)(l3:text.length≤100000){ρ:Type}(k:List Int→Option ρ) :
    P.qd (size:Int) r pub text k=k (bl8 n true size r pub text):=by
 rw[P.ame];unfold P.afv
 rw[P.ag6];unfold P.adr
 rw[dz _ (by simp) (by rw[zu];simp;omega),zu,yt (by omega) _ (by simp;omega) size (by omega)]
 rfl
theorem bt1{n:Nat}(hn:n=16∨n=24∨n=32)(size:Nat)(hs:size≤10000)(H D A K:Int)(s:Bool)(r pub text:List Int)(h1:In 256 r)(h2:In 256 pub)(h3:In 256 text)(l1:r.length≤40000)(l2:pub.length≤40000)(np:n≤pub.length)(l3:text.length≤100000){ρ:Type}(k:List Int→Option ρ) :
    P.qb (size:Int) r pub text (kdS n) (n:Int) H D A K s k=k (bl8 n false size r pub text):=by
 have h3':=brl n
 have hK:=K7S n
 have hdp:=ayi hK
 have hdl:=am0 hK (r++(pub++text))
 rw[P.al3];unfold P.afr
 rw[dz _ (by simp) (by rw[zu];simp;omega),zu,y8 hK _ (h1.app (h2.app h3)) (by simp;omega),bf (by omega),bf (by omega),toNat_cast,Ag,dz _ (by simp) (by rw[zu];simp;omega),zu,
  ae6 h3' _ (h1.app ((h2.take _).app (bga _ _))) (by simp;omega) size hs]
 rfl
def ag2(text beside:List Int):List Int:=[0,((beside.length%256:Nat):Int)]++(beside++text)
theorem bja(text beside:List Int)(h1:In 256 text)(h2:In 256 beside):In 256 (ag2 text beside):=by
 refine In.app (fun y hy=>?_) (h2.app h1)
 simp at hy
 omega
theorem bfi(text beside:List Int):(ag2 text beside).length=2+(beside.length+text.length):=by simp[ag2];omega
theorem u8L(n:Nat):IntKind.u8.wrap (n:Int)=((n%256:Nat):Int):=by rw[u8m];omega
theorem aui(text beside:List Int)(h1:text.length≤100000)(h2:beside.length≤100000){ρ:Type}(k:List Int→Option ρ):P.aby text beside k=k (ag2 text beside):=by
 rw[P.as9];unfold P.ale
 rw[u8L,dz _ (by simp) (by rw[zu];simp;omega),zu]
 rfl
def plS(tree leaf:Nat):List Int:=ahq (ahq (ahq Z32 1 tree) 2 3) 3 leaf
theorem bd1(tree leaf:Nat):(plS tree leaf).length=32:=om (om (om rfl _ _) _ _) _ _
theorem bks(tree leaf:Nat):In 256 (plS tree leaf):=aac (aac (aac bjn _ _) _ _) _ _
theorem azc(t:List Int)(tree leaf:Nat)(h1:tree<18446744073709551616)(h2:leaf<18446744073709551616){ρ:Type}(k:List Int→Option ρ):P.og t (tree:Int) (leaf:Int) k=k (plS tree leaf):=by
 rw[P.akd];unfold P.aff
 rw[show P.dh (ρ:=ρ) [0,0,0,0,0,0,0,0,0,0,0,0,0,0,0,0,0,0,0,0,0,0,0,0,0,0,0,0,0,0,0,0]=P.dh Z32 from rfl,dh rfl 1 tree h1,show (3:Int)=((3:Nat):Int) from rfl,dh (om rfl _ _) 2 3 (by omega),dh (om (om rfl _ _) _ _) _ leaf h2]
 rfl
def bap(n:Nat)(sh:Bool)(A K r h:Nat)(R pub all:List Int):List Int:=(bl8 n sh (txF A K+by8 r+by8 h) R pub all).take (txF A K)
def au3(n:Nat)(sh:Bool)(A K r h:Nat)(R pub all:List Int):Nat:=nbW ((bl8 n sh (txF A K+by8 r+by8 h) R pub all).drop (txF A K)) r
def avl(n:Nat)(sh:Bool)(A K r h:Nat)(R pub all:List Int):Nat:=nbW (((bl8 n sh (txF A K+by8 r+by8 h) R pub all).drop (txF A K)).drop (by8 r)) h
end Q
end

section
/- slh: what a digest tells; signatures, by the program. -/
namespace Q
open QK
open Go Go.Abs
structure Ks (n:Nat) (H D A K h r:Nat):Prop where
 kd:Kd n H D A K h
 hr:H=h+r
 r64:r≤64
section
variable {n H D A K h r:Nat}
theorem Ks.f(ks:Ks n H D A K h r):afl n H D A K:=ks.kd.1
theorem Ks.n3(ks:Ks n H D A K h r):n=16∨n=24∨n=32:=by have:=ks.f;unfold afl at this;omega
theorem Ks.nums(ks:Ks n H D A K h r):1≤D∧D≤68∧H≤68∧1≤A∧A≤14∧1≤K∧K≤40∧h≤9∧n≤32:=by
 have:=ks.f
 have h2:=ks.kd.h
 have h3:=ks.kd.n
 unfold afl at this
 omega
theorem bf4(ks:Ks n H D A K h r):txF A K≤71:=by
 obtain ⟨_,_,_,_,a2,_,k2,_,_⟩:=ks.nums
 unfold txF
 have:K*A≤40*14:=Ab k2 a2
 omega
theorem bfk(n:Nat)(sh:Bool)(A K r h:Nat)(R pub all:List Int):(bap n sh A K r h R pub all).length=txF A K:=by
 unfold bap
 rw[Aa,auf]
 omega
theorem bka(n:Nat)(sh:Bool)(A K r h:Nat)(R pub all:List Int):In 256 (bap n sh A K r h R pub all):=(bjo _ _ _ _ _ _).take _
theorem bb7(ks:Ks n H D A K h r)(sh:Bool)(R pub all:List Int){ρ:Type}(k:List Int→Int→Int→Option ρ)(dg:List Int)(hdg:dg=bl8 n sh (txF A K+by8 r+by8 h) R pub all) :
    (P.zq (dg.drop (txF A K)) (r:Int) fun (q3:Int) (q4:List Int)=>P.zq q4 (h:Int) fun (q5:Int) (q6:List Int)=>k (dg.take (txF A K)) q3 q5)=k (bap n sh A K r h R pub all) ((au3 n sh A K r h R pub all:Nat):Int) ((avl n sh A K r h R pub all:Nat):Int):=by
 obtain ⟨_,_,_,_,_,_,_,h9,_⟩:=ks.nums
 have ht:=bf4 ks
 have r64:=ks.r64
 have b1:=ao1 r64
 have b2:=ao1 (w:=h) (by omega)
 have hl:dg.length=txF A K+by8 r+by8 h:=by rw[hdg,auf]
 have hi:In 256 dg:=by rw[hdg];exact bjo _ _ _ _ _ _
 rw[ba7 _ (hi.drop _) (by rw[Ad];omega) r r64 (by rw[Ad];omega),ba7 _ ((hi.drop _).drop _) (by rw[Ad,Ad];omega) h (by omega) (by rw[Ad,Ad];omega)]
 unfold bap au3 avl
 rw[←hdg]
theorem blg(ks:Ks n H D A K h r):Af.wrap (Af.wrap (((txF A K:Nat):Int)+((by8 r:Nat):Int))+((by8 h:Nat):Int))=((txF A K+by8 r+by8 h:Nat):Int):=by
 have ht:=bf4 ks
 obtain ⟨_,_,_,_,_,_,_,h9,_⟩:=ks.nums
 have b1:=ao1 ks.r64
 have b2:=ao1 (w:=h) (by omega)
 rw[wz (x:=((txF A K:Nat):Int)+((by8 r:Nat):Int)) (by omega) (by omega),wz (by omega) (by omega)]
 omega
theorem bkw(ks:Ks n H D A K h r):Af.wrap ((H:Int)-Af.wrap ((H:Int).tdiv (D:Int)))=(r:Int):=by
 have:=ks.hr
 have:=ks.r64
 have:=ks.nums
 rw[ks.kd.2,show (H:Int)-(h:Int)=(r:Int) by omega,wz (by omega) (by omega)]
theorem bo7(ks:Ks n H D A K h r)(s:Bool)(dw:Nat)(c1 c2 c3 c4 c5:Int)(c6:Bool)(d0 d1 d2 d3 d4 d5:Int)(d6:Bool)(e0 e1 e2 e3 e4 e5:Int)(e6:Bool)(R pub all:List Int)(h1:In 256 R)(h2:In 256 pub)(h3:In 256 all)(l1:R.length≤40000)(l2:pub.length≤40000)(l3:all.length≤100000){ρ:Type}(k:List Int→Int→Int→Option ρ) :
    P.qg n H D A K s dw c1 c2 c3 c4 c5 c6 d0 d1 d2 d3 d4 d5 d6 1 e0 e1 e2 e3 e4 e5 e6 R pub all k=k (bap n true A K r h R pub all) ((au3 n true A K r h R pub all:Nat):Int) ((avl n true A K r h R pub all:Nat):Int):=by
 have ht:=bf4 ks
 obtain ⟨_,_,_,_,_,_,_,h9,_⟩:=ks.nums
 have b1:=ao1 ks.r64
 have b2:=ao1 (w:=h) (by omega)
 have hl:=auf n true (txF A K+by8 r+by8 h) R pub all
 rw[P.ae2];unfold P.abp
 rw[jo ks.f,fq ks.kd.d,bf rfl,bkw ks,ks.kd.2,bj6 r (by have:=ks.r64;omega),bj6 h (by omega),blg ks,bt2 n _ (by omega) R pub all h1 h2 h3 (by omega) (by omega) l3,
  bf (by omega),bf (by omega),bf (by omega),bf (by omega),bf (by omega),toNat_cast,List.take_of_length_le (by rw[Ad];omega)]
 rw[show (((txF A K:Nat):Int)-(0:Int)).toNat=txF A K by omega,Ag]
 exact bb7 ks true R pub all k _ rfl
theorem bpp(ks:Ks n H D A K h r)(s:Bool)(dw:Nat)(c1 c2 c3 c4 c5:Int)(c6:Bool)(d0 d1 d2 d3 d4 d5:Int)(d6:Bool)(e2 e3 e4 e5:Int)(e6:Bool)(R pub all:List Int)(h1:In 256 R)(h2:In 256 pub)(h3:In 256 all)(l1:R.length≤40000)(l2:pub.length≤40000)(np:n≤pub.length)(l3:all.length≤100000){ρ:Type}(k:List Int→Int→Int→Option ρ) :
    P.qg n H D A K s dw c1 c2 c3 c4 c5 c6 d0 d1 d2 d3 d4 d5 d6 2 (kdS n) n e2 e3 e4 e5 e6 R pub all k=k (bap n false A K r h R pub all) ((au3 n false A K r h R pub all:Nat):Int) ((avl n false A K r h R pub all:Nat):Int):=by
 have ht:=bf4 ks
 obtain ⟨_,_,_,_,_,_,_,h9,_⟩:=ks.nums
 have b1:=ao1 ks.r64
 have b2:=ao1 (w:=h) (by omega)
 have hl:=auf n false (txF A K+by8 r+by8 h) R pub all
 rw[P.ae2];unfold P.abp
 rw[jo ks.f,fq ks.kd.d,fq (by omega),bf rfl,bkw ks,ks.kd.2,bj6 r (by have:=ks.r64;omega),bj6 h (by omega),blg ks,bt1 ks.n3 _ (by omega) _ _ _ _ _ R pub all h1 h2 h3 l1 l2 np l3,
  bf (by omega),bf (by omega),bf (by omega),bf (by omega),bf (by omega),toNat_cast,toNat_cast,Ah,Ag]
 exact bb7 ks false R pub all k _ rfl
theorem bgx(n H D A K:Int){ρ:Type}(k:Int→Int→Int→Int→Int→Bool→Nat→Int→Int→Int→Int→Int→Bool→Int→Int→Int→Int→Int→Int→Bool→Nat→Int→Int→Int→Int→Int→Int→Bool→Option ρ) :
    P.abh n H D A K true k=k n H D A K true 1 n H D A K true 0 0 0 0 0 0 false 1 0 0 0 0 0 0 false:=by
 rw[P.am5];unfold P.ahw
 rw[yx,P.aqg];unfold P.aj5
 rfl
theorem bgb(n:Nat)(H D A K:Int){ρ:Type}(k:Int→Int→Int→Int→Int→Bool→Nat→Int→Int→Int→Int→Int→Bool→Int→Int→Int→Int→Int→Int→Bool→Nat→Int→Int→Int→Int→Int→Int→Bool→Option ρ) :
    P.abh n H D A K false k=k n H D A K false 2 0 0 0 0 0 false (kdS n) n H D A K false 2 (kdS n) n H D A K false:=by
 rw[P.am5];unfold P.ahw
 rw[aem,P.aq7];unfold P.ajo kdS
 by_cases e:n=16
 ·subst e;rw[jc (by decide),if_pos rfl]
 ·rw[jk (by omega),if_neg e]
def sgZ(n D A K h:Nat):Nat:=n+szF n A K+D*(n*(2*n+3+h))
theorem bcz(ks:Ks n H D A K h r):szF n A K≤20000∧D*(n*(2*n+3+h))≤166000:=by
 obtain ⟨_,d2,_,_,a2,_,k2,h9,n2⟩:=ks.nums
 have e1:n*(A+1)≤32*15:=Ab n2 (by omega)
 have e2:K*(n*(A+1))≤40*(32*15):=Ab k2 e1
 have e3:n*(2*n+3+h)≤32*76:=Ab n2 (by omega)
 have e4:D*(n*(2*n+3+h))≤68*(32*76):=Ab d2 e3
 unfold szF
 omega
theorem aei(ks:Ks n H D A K h r)(sh:Bool){ρ:Type}(k:Int→Int→Int→Option ρ):P.aaf n H D A K sh k=k ((2*n:Nat):Int) ((4*n:Nat):Int) ((sgZ n D A K h:Nat):Int):=by
 obtain ⟨z1,z2⟩:=bcz ks
 obtain ⟨_,d2,_,_,a2,_,k2,h9,n2⟩:=ks.nums
 rw[P.asw];unfold P.alk
 rw[ji,decide_eq_true ks.f,uh,yx,jo ks.f,qj ks.kd,show (D:Int)*((n*(2*n+3+h):Nat):Int)=((D*(n*(2*n+3+h)):Nat):Int) by rw[Int.natCast_mul D]]
 unfold sgZ
 generalize D*(n*(2*n+3+h))=Y at *
 generalize szF n A K=X at *
 rw[wz (x:=(2:Int)*(n:Int)) (by omega) (by omega),wz (x:=(4:Int)*(n:Int)) (by omega) (by omega),wz (x:=(Y:Int)) (by omega) (by omega),wz (x:=(n:Int)+(X:Int)) (by omega) (by omega),wz (by omega) (by omega)]
 congr 1
end
end Q
end

section
/- slh: kinds of numbers; what a digest tells, by the document. -/
namespace Q
open QK
open Go Go.Abs
section
variable {n H D A K h r:Nat}
end
end Q
end

section
/- slh: signatures, and what verifies them. -/
namespace Q
open QK
open Go Go.Abs
section
variable {n H D A K h r:Nat}
theorem Ks.hr'(ks:Ks n H D A K h r):(H:Int)-(h:Int)=(r:Int):=by have:=ks.hr;omega
theorem bd4(n:Nat)(sh:Bool)(A K r h:Nat)(R pub all:List Int):au3 n sh A K r h R pub all<2^r:=bou _ _
theorem bdk(n:Nat)(sh:Bool)(A K r h:Nat)(R pub all:List Int):avl n sh A K r h R pub all<2^h:=bou _ _
def bs9(n:Nat)(priv:List Int):List Int:=priv.take n
def bqh(n:Nat)(priv:List Int):List Int:=(priv.drop n).take n
def br9(n:Nat)(priv:List Int):List Int:=priv.drop (2*n)
def bgj(n:Nat)(sh:Bool)(A K r h:Nat)(sec p2 R all:List Int):List Int :=
 cat (sgF n sh (p2.take n) sec (plS (au3 n sh A K r h R p2 all) (avl n sh A K r h R p2 all)) A (bap n sh A K r h R p2 all)) K
def bkn(n:Nat)(sh:Bool)(A K r h:Nat)(p2 R all few:List Int):List Int :=
 kyF n sh (p2.take n) (plS (au3 n sh A K r h R p2 all) (avl n sh A K r h R p2 all)) (cat (cdF n sh (p2.take n) (plS (au3 n sh A K r h R p2 all) (avl n sh A K r h R p2 all)) A (bap n sh A K r h R p2 all) few) K)
def bbs(n:Nat)(sh:Bool)(A K r h D:Nat)(sec p2 R all key:List Int):List Int :=
 cat (hyS n sh (p2.take n) sec key (au3 n sh A K r h R p2 all) (avl n sh A K r h R p2 all) h) D
def bm7(n:Nat)(sh:Bool)(A K r h D:Nat)(priv text beside rnd:List Int):List Int :=
 bhz n sh (bqh n priv) rnd (ag2 text beside) ++
  (bgj n sh A K r h (bs9 n priv) (br9 n priv) (bhz n sh (bqh n priv) rnd (ag2 text beside)) (ag2 text beside) ++
   bbs n sh A K r h D (bs9 n priv) (br9 n priv) (bhz n sh (bqh n priv) rnd (ag2 text beside)) (ag2 text beside)
    (bkn n sh A K r h (br9 n priv) (bhz n sh (bqh n priv) rnd (ag2 text beside)) (ag2 text beside) (bgj n sh A K r h (bs9 n priv) (br9 n priv) (bhz n sh (bqh n priv) rnd (ag2 text beside)) (ag2 text beside))))
theorem bag(ks:Ks n H D A K h r)(sh:Bool)(sec p2 R all:List Int):(bgj n sh A K r h sec p2 R all).length=szF n A K:=by
 unfold bgj szF
 rw[ac3 (fun i=>biq ks.kd.n sh _ _ _ _ _ i)]
theorem bi5(sh:Bool)(sec p2 R all:List Int):In 256 (bgj n sh A K r h sec p2 R all):=aok (fun i=>bvk _ _ _ _ _ _ _ _) _
theorem azk(ks:Ks n H D A K h r)(sh:Bool)(p2 R all few:List Int):(bkn n sh A K r h p2 R all few).length=n:=bqq ks.kd.n _ _ _ _
theorem bkl(sh:Bool)(p2 R all few:List Int):In 256 (bkn n sh A K r h p2 R all few):=aea _ _ _ _ _
theorem bfh(ks:Ks n H D A K h r)(sh:Bool)(sec p2 R all key:List Int):(bbs n sh A K r h D sec p2 R all key).length=D*(n*(2*n+3+h)):=by
 unfold bbs
 rw[ac3 (ber ks.kd.n sh _ _ _ _ _ _)]
theorem bro(sh:Bool)(sec p2 R all key:List Int):In 256 (bbs n sh A K r h D sec p2 R all key):=aok (fun i=>bs5 _ _ _ _ _ _ _ _ _) _
theorem baj(ks:Ks n H D A K h r)(sh:Bool)(priv text beside rnd:List Int):(bm7 n sh A K r h D priv text beside rnd).length=sgZ n D A K h:=by
 unfold bm7 sgZ
 rw[Ac,Ac,anx ks.n3,bag ks,bfh ks]
 omega
theorem bqg(sh:Bool)(priv text beside rnd:List Int):In 256 (bm7 n sh A K r h D priv text beside rnd):=(av1 _ _ _ _ _).app ((bi5 _ _ _ _ _).app (bro _ _ _ _ _ _))
theorem bor(ks:Ks n H D A K h r)(sh:Bool)(sec p2 R all:List Int)(hsec:In 256 sec)(lsec:sec.length=n)(hp:In 256 p2)(lp:p2.length=2*n)(hR:In 256 R)(lR:R.length=n){ρ:Type}(k:List Int→Option ρ) :
    (P.og (bap n sh A K r h R p2 all) ((au3 n sh A K r h R p2 all:Nat):Int) ((avl n sh A K r h R p2 all:Nat):Int) fun q34=>P.abd n H D A K sh (bap n sh A K r h R p2 all) sec (p2.take n) q34 fun q35 =>
     P.og (bap n sh A K r h R p2 all) ((au3 n sh A K r h R p2 all:Nat):Int) ((avl n sh A K r h R p2 all:Nat):Int) fun q36=>P.ny n H D A K sh q35 (bap n sh A K r h R p2 all) (p2.take n) q36 fun q37 =>
     P.aag n H D A K sh q37 sec (p2.take n) ((au3 n sh A K r h R p2 all:Nat):Int) ((avl n sh A K r h R p2 all:Nat):Int) fun q38=>P.dz [R,q35,q38] k) =
    k (R++(bgj n sh A K r h sec p2 R all++bbs n sh A K r h D sec p2 R all (bkn n sh A K r h p2 R all (bgj n sh A K r h sec p2 R all)))):=by
 obtain ⟨_,d2,_,_,_,_,_,h9,n2⟩:=ks.nums
 obtain ⟨z1,z2⟩:=bcz ks
 have r64:=ks.r64
 have b1:=bd4 n sh A K r h R p2 all
 have b2:=bdk n sh A K r h R p2 all
 have c1:2^r≤2^64:=Ae (by omega) r64
 have c2:2^h≤2^9:=Ae (by omega) h9
 have lt:=bfk n sh A K r h R p2 all
 have it:=bka n sh A K r h R p2 all
 have np:(p2.take n).length=n:=by rw[Aa];omega
 have ip:In 256 (p2.take n):=hp.take _
 have lf:=bag ks sh sec p2 R all
 have lh:=bfh ks sh sec p2 R all (bkn n sh A K r h p2 R all (bgj n sh A K r h sec p2 R all))
 rw[azc _ _ _ (by omega) (by omega),abd ks.f sh hsec lsec ip np (bd1 _ _) (bks _ _) _ it lt,azc _ _ _ (by omega) (by omega),
  show cat (sgF n sh (p2.take n) sec (plS (au3 n sh A K r h R p2 all) (avl n sh A K r h R p2 all)) A (bap n sh A K r h R p2 all)) K=bgj n sh A K r h sec p2 R all from rfl,
  ny ks.f sh ip np (bd1 _ _) (bks _ _) _ _ it lt (bi5 _ _ _ _ _) lf,
  show kyF n sh (p2.take n) (plS (au3 n sh A K r h R p2 all) (avl n sh A K r h R p2 all)) (cat (cdF n sh (p2.take n) (plS (au3 n sh A K r h R p2 all) (avl n sh A K r h R p2 all)) A (bap n sh A K r h R p2 all) (bgj n sh A K r h sec p2 R all)) K)=bkn n sh A K r h p2 R all (bgj n sh A K r h sec p2 R all) from rfl,
  aag ks.kd d2 sh _ _ _ (bkl _ _ _ _ _) (azk ks _ _ _ _ _) hsec lsec ip np r ks.hr' r64 _ _ b1 b2,
  show cat (hyS n sh (p2.take n) sec (bkn n sh A K r h p2 R all (bgj n sh A K r h sec p2 R all)) (au3 n sh A K r h R p2 all) (avl n sh A K r h R p2 all) h) D=bbs n sh A K r h D sec p2 R all (bkn n sh A K r h p2 R all (bgj n sh A K r h sec p2 R all)) from rfl,
  dz _ (by simp) (by rw[zu,Ac,Ac,lf,lh];omega),zu]
theorem avr(ks:Ks n H D A K h r)(sh:Bool)(priv text beside rnd:List Int)(h1:In 256 priv)(h2:In 256 text)(h3:In 256 beside)(h4:In 256 rnd)(l1:priv.length=4*n)(l2:text.length≤1000)(l3:beside.length≤255)(l4:rnd.length=n){ρ:Type}(k:List Int→Int→Option ρ) :
    P.agh n H D A K sh priv text beside rnd k=k (bm7 n sh A K r h D priv text beside rnd) 0:=by
 obtain ⟨_,d2,_,_,_,_,_,h9,n2⟩:=ks.nums
 have e2:Af.wrap ((2:Int)*(n:Int))=((2*n:Nat):Int):=by rw[wz (by omega) (by omega)];omega
 have e4:Af.wrap ((4:Int)*(n:Int))=((4*n:Nat):Int):=by rw[wz (by omega) (by omega)];omega
 have la:(ag2 text beside).length≤2000:=by rw[bfi];omega
 have ia:=bja text beside h2 h3
 have lp2:(priv.drop (2*n)).length=2*n:=by rw[Ad];omega
 have lsec:(priv.take n).length=n:=by rw[Aa];omega
 have ldr:((priv.drop n).take n).length=n:=by rw[Aa,Ad];omega
 have edr:(priv.take (2*n)).drop n=(priv.drop n).take n:=by rw[List.drop_take,show 2*n-n=n by omega]
 rw[P.au6];unfold P.amx
 rw[ji,decide_eq_true ks.f,uh,yx,e4,dx (by omega),dx (by omega),fq (by omega)]
 cases sh with
 | true =>
  rw[bgx,aui _ _ (by omega) (by omega),e2]
  simp only[toNat_cast,Ah,Ag]
  rw[bf (by omega),bf (by omega),bf (by omega),bf (by omega),bf (by omega),bf (by omega),bf (by omega),bf (by omega),bf (by omega),bf (by omega),bf (by trivial),edr,bqo n n2 _ _ _ _ _ _ _ _ ((h1.drop _).take _) h4 ia (by omega) (by omega) (by omega),
   bo7 ks true _ _ _ _ _ _ _ _ _ _ _ _ _ _ _ _ _ _ _ _ _ _ _ _ (av1 _ _ _ _ _) (h1.drop _) ia (by rw[anx ks.n3];omega) (by omega) (by omega)]
  exact bor ks true _ _ _ _ (h1.take _) lsec (h1.drop _) lp2 (av1 _ _ _ _ _) (anx ks.n3 _ _ _ _) (fun q=>k q 0)
 | false =>
  rw[bgb,aui _ _ (by omega) (by omega),e2]
  simp only[toNat_cast,Ah,Ag]
  rw[bf (by omega),bf (by omega),bf (by omega),bf (by omega),bf (by omega),bf (by omega),bf (by omega),bf (by omega),bf (by omega),bf (by omega),fq (by decide),bf (by trivial),edr,bqv ks.n3 _ _ _ _ _ _ _ _ ((h1.drop _).take _) h4 ia (by omega) (by omega) (by omega),
   bpp ks false _ _ _ _ _ _ _ _ _ _ _ _ _ _ _ _ _ _ _ _ _ _ (av1 _ _ _ _ _) (h1.drop _) ia (by rw[anx ks.n3];omega) (by omega) (by omega) (by omega)]
  exact bor ks false _ _ _ _ (h1.take _) lsec (h1.drop _) lp2 (av1 _ _ _ _ _) (anx ks.n3 _ _ _ _) (fun q=>k q 0)
end
end Q
end

section
/- slh: what verifies; keys. -/
namespace Q
open QK
open Go Go.Abs
section
variable {n H D A K h r:Nat}
def bvw(n:Nat)(sh:Bool)(A K r h D:Nat)(p2 sig all:List Int):List Int :=
 vrT n sh (p2.take n) ((sig.drop n).drop (szF n A K)) (bkn n sh A K r h p2 (sig.take n) all ((sig.drop n).take (szF n A K))) (au3 n sh A K r h (sig.take n) p2 all) (avl n sh A K r h (sig.take n) p2 all) h (n*(2*n+3+h)) D
theorem bn8(b:Bool){ρ:Type}(k:Int→Option ρ):br (!b) (k 11) (k 0)=k (if b then 0 else 11):=by cases b<;>simp[uh]
theorem ay2(ks:Ks n H D A K h r)(sh:Bool)(p2 text beside sig:List Int)(h1:In 256 p2)(h2:In 256 text)(h3:In 256 beside)(h4:In 256 sig)(l1:p2.length=2*n)(l2:text.length≤1000)(l3:beside.length≤255)(l4:sig.length=sgZ n D A K h){ρ:Type}(k:Int→Option ρ) :
    P.vv n H D A K sh p2 text beside sig k=k (if decide (bvw n sh A K r h D p2 sig (ag2 text beside)=p2.drop n) then 0 else 11):=by
 obtain ⟨_,d2,_,_,_,_,_,h9,n2⟩:=ks.nums
 obtain ⟨z1,z2⟩:=bcz ks
 have r64:=ks.r64
 have e2:Af.wrap ((2:Int)*(n:Int))=((2*n:Nat):Int):=by rw[wz (by omega) (by omega)];omega
 have la:(ag2 text beside).length≤2000:=by rw[bfi];omega
 have ia:=bja text beside h2 h3
 have lz:sgZ n D A K h=n+szF n A K+D*(n*(2*n+3+h)):=rfl
 have lR:(sig.take n).length=n:=by rw[Aa];omega
 have lrs:(sig.drop n).length=szF n A K+D*(n*(2*n+3+h)):=by rw[Ad];omega
 have lfw:((sig.drop n).take (szF n A K)).length=szF n A K:=by rw[Aa];omega
 have lhy:((sig.drop n).drop (szF n A K)).length=D*(n*(2*n+3+h)):=by rw[Ad];omega
 have np:(p2.take n).length=n:=by rw[Aa];omega
 have lt':(p2.drop n).length=n:=by rw[Ad];omega
 have b1:=bd4 n sh A K r h (sig.take n) p2 (ag2 text beside)
 have b2:=bdk n sh A K r h (sig.take n) p2 (ag2 text beside)
 have c1:2^r≤2^64:=Ae (by omega) r64
 have c2:2^h≤2^9:=Ae (by omega) h9
 have lt:=bfk n sh A K r h (sig.take n) p2 (ag2 text beside)
 have it:=bka n sh A K r h (sig.take n) p2 (ag2 text beside)
 have fin:(P.og (bap n sh A K r h (sig.take n) p2 (ag2 text beside)) ((au3 n sh A K r h (sig.take n) p2 (ag2 text beside):Nat):Int) ((avl n sh A K r h (sig.take n) p2 (ag2 text beside):Nat):Int) fun q38 =>
     P.ny n H D A K sh ((sig.drop n).take (szF n A K)) (bap n sh A K r h (sig.take n) p2 (ag2 text beside)) (p2.take n) q38 fun q39 =>
     P.zy n H D A K sh q39 ((sig.drop n).drop (szF n A K)) (p2.take n) (p2.drop n) ((au3 n sh A K r h (sig.take n) p2 (ag2 text beside):Nat):Int) ((avl n sh A K r h (sig.take n) p2 (ag2 text beside):Nat):Int) fun (q40:Bool)=>br (!q40) (k 11) (k 0)) =
     k (if decide (bvw n sh A K r h D p2 sig (ag2 text beside)=p2.drop n) then 0 else 11):=by
  rw[azc _ _ _ (by omega) (by omega),ny ks.f sh (h1.take _) np (bd1 _ _) (bks _ _) _ _ it lt ((h4.drop _).take _) lfw,
   show kyF n sh (p2.take n) (plS (au3 n sh A K r h (sig.take n) p2 (ag2 text beside)) (avl n sh A K r h (sig.take n) p2 (ag2 text beside))) (cat (cdF n sh (p2.take n) (plS (au3 n sh A K r h (sig.take n) p2 (ag2 text beside)) (avl n sh A K r h (sig.take n) p2 (ag2 text beside))) A (bap n sh A K r h (sig.take n) p2 (ag2 text beside)) ((sig.drop n).take (szF n A K))) K)=bkn n sh A K r h p2 (sig.take n) (ag2 text beside) ((sig.drop n).take (szF n A K)) from rfl,
   zy ks.kd d2 sh _ _ _ _ (bkl _ _ _ _ _) (azk ks _ _ _ _ _) ((h4.drop _).drop _) lhy (h1.take _) np lt' (h1.drop _) r ks.hr' r64 _ _ b1 b2,bn8]
  rfl
 rw[P.ahr];unfold P.ad3
 rw[aei ks,ji,decide_eq_true ks.f,uh,yx,e2,dx (by omega),fq (by omega),dx (by omega),jo ks.f]
 cases sh with
 | true =>
  rw[bgx,aui _ _ (by omega) (by omega)]
  simp only[toNat_cast,Ah,Ag]
  rw[bf (by omega),bf (by omega),bf (by omega),bf (by omega),bf (by omega),bf (by omega),bf (by omega),bf (by omega),bf (by omega),bf (by omega),
   bo7 ks true _ _ _ _ _ _ _ _ _ _ _ _ _ _ _ _ _ _ _ _ _ _ _ _ (h4.take _) h1 ia (by omega) (by omega) (by omega),bf (by omega),bf (by omega)]
  rw[←fin]
  congr 1
  funext q38
  congr 1
  funext q39
  rw[bf (by omega),bf (by omega),bf (by omega)]
 | false =>
  rw[bgb,aui _ _ (by omega) (by omega)]
  simp only[toNat_cast,Ah,Ag]
  rw[bf (by omega),bf (by omega),bf (by omega),bf (by omega),bf (by omega),bf (by omega),bf (by omega),bf (by omega),bf (by omega),bf (by omega),
   bpp ks false _ _ _ _ _ _ _ _ _ _ _ _ _ _ _ _ _ _ _ _ _ _ (h4.take _) h1 ia (by omega) (by omega) (by omega) (by omega),bf (by omega),bf (by omega)]
  rw[←fin]
  congr 1
  funext q38
  congr 1
  funext q39
  rw[bf (by omega),bf (by omega),bf (by omega)]
def akn(n:Nat)(sh:Bool)(h D:Nat)(sec pub:List Int):List Int:=knW n sh pub sec (ahq Z32 0 (D-1)) h 0
theorem awv(ks:Ks n H D A K h r)(sh:Bool)(sec drw pub:List Int)(h1:In 256 sec)(h2:In 256 drw)(h3:In 256 pub)(l1:sec.length=n)(l2:drw.length=n)(l3:pub.length=n){ρ:Type}(k:List Int→List Int→Int→Option ρ) :
    P.agi n H D A K sh sec drw pub k=k (pub++akn n sh h D sec pub) (sec++(drw++(pub++akn n sh h D sec pub))) 0:=by
 obtain ⟨d1,d2,_,_,_,_,_,h9,n2⟩:=ks.nums
 have lk:=ajj n2 sh pub sec (ahq Z32 0 (D-1)) h 0
 have eD:Ak.wrap (Af.wrap ((D:Int)-1))=((D-1:Nat):Int):=by rw[wz (by omega) (by omega),show (D:Int)-1=((D-1:Nat):Int) by omega,an6 _ (by omega)]
 rw[P.auy];unfold P.anq
 rw[ji,decide_eq_true ks.f,uh,yx,dx (by omega),dx (by omega),dx (by omega),eD,show P.dh (ρ:=ρ) [0,0,0,0,0,0,0,0,0,0,0,0,0,0,0,0,0,0,0,0,0,0,0,0,0,0,0,0,0,0,0,0]=P.dh Z32 from rfl,dh rfl 0 _ (by omega),fq ks.kd.d,ks.kd.2]
 rw[show ∀(s p a:List Int) (kk:List Int→Option ρ),P.aa8 (n:Int) H D A K sh s p a (h:Int) 0 kk=P.aa8 (n:Int) H D A K sh s p a (h:Int) ((0:Nat):Int) kk from fun _ _ _ _=>rfl,
  aa8 ks.kd sh _ _ _ h1 l1 h3 l3 (om rfl _ _) (aac bjn _ _) h 0 (Ao h) (Aj _),dz _ (by simp) (by rw[auk];simp[lk];omega),auk,dz _ (by simp) (by rw[zu];simp[lk];omega),zu]
 rfl
end
end Q
end

section
/- hss: a number's digits, each by its own width: pure. -/
namespace Q
open Go Go.Abs
theorem bc4(p:Nat→Prop):∀N,(∀i,i<N→p i)∨∃i,i<N∧¬p i∧∀j,j<i→p j
 | 0=>.inl (fun i h=>by omega)
 | N+1=>by
  rcases bc4 p N with h | ⟨i,h1,h2,h3⟩
  ·by_cases hp:p N
   ·exact .inl (fun i hi=>by
      by_cases e:i=N
      ·rw[e];exact hp
      ·exact h i (by omega))
   ·exact .inr ⟨N,by omega,hp,h⟩
  ·exact .inr ⟨i,by omega,h2,h3⟩
end Q
end

section
/- slh: both together, of any inputs. -/
namespace Q
open QK
open Go Go.Abs
theorem ag9(l:List (List Int))(hl:l.length≤100){ρ:Type}(k:Bool→Option ρ):(P.ag9 l k=k true∧∀i,i<l.length→(l.getD i []).length≤300)∨P.ag9 l k=k false:=by
 rw[P.axh]
 unfold P.ap3
 rw[P.az4]
 unfold P.ayl P.bv5 P.bv4 P.b42
 rcases bc4 (fun i=>(l.getD i []).length≤300) l.length with h | ⟨m,m1,m2,m3⟩
 ·refine .inl ⟨abk (fun i=>(l,(l.length:Int),(i:Int))) l.length rfl (fun i hi next hn'=>?_) (fun next=>?_) (by omega),h⟩
  ·have:=h i hi
   simp only[P.aj9,toNat_cast]
   rw[bf (by omega),bf (by omega),bf (by omega),fq (by omega),wz (by omega) (by omega)]
   exact hn'
  ·simp only[P.aj9]
   rw[fq (by omega)]
   rfl
 ·refine .inr (abk (fun i=>(l,(l.length:Int),(i:Int))) m rfl (fun i hi next hn'=>?_) (fun next=>?_) (by omega))
  ·have:=m3 i hi
   simp only[P.aj9,toNat_cast]
   rw[bf (by omega),bf (by omega),bf (by omega),fq (by omega),wz (by omega) (by omega)]
   exact hn'
  ·simp only[P.aj9,toNat_cast]
   rw[bf (by omega),bf (by omega),bf (by omega),bf (by omega)]
   rfl
end Q
end

section
/- slh: the example. -/
namespace Q
open QK
open Go Go.Abs
theorem ks3:Ks 16 66 22 6 33 3 63:=⟨⟨by decide,by decide⟩,by decide,by decide⟩
theorem zh{ρ:Type}(k:Bool→Option ρ):P.zh k=k true:=by
 rw[P.as6];unfold P.ak1
 have hs:∀(k:Int→Int→Int→Int→Int→Bool→Bool→Option ρ),P.als 3 k=k 16 66 22 6 33 false true:=fun k=>by
  rw[P.axw];unfold P.apl
  rw[fq (by decide),fq (by decide),bf (by decide),bf (by decide),bf (by decide)];rfl
 have hz:=fun (k:Int→Int→Int→Option ρ)=>aei ks3 false k
 have hv:∀(k:Int→Option ρ),P.vv 16 66 22 6 33 false [] [] [] [] k=k 10:=fun k=>by
  rw[P.ahr];unfold P.ad3
  have h1:=aei ks3 false (ρ:=ρ)
  have h2:=ji ((16:Nat):Int) ((66:Nat):Int) ((22:Nat):Int) ((6:Nat):Int) ((33:Nat):Int) false (ρ:=ρ)
  rw[decide_eq_true ks3.f] at h2
  refine Ai (h1 _) (Ai (h2 _) ?_)
  rw[uh,yx,mo (by decide)]
 rw[hs]
 refine Ai (hz _) ?_
 rw[show sgZ 16 22 6 33 3=17088 by decide,yx]
 refine Ai (yx _ _) ?_
 rw[jc (by decide),hv]
 rfl
end Q
end

section
namespace Q
open QK
open Go Go.Abs
theorem bvg(x0:Int)(h:0≤x0):∃n:Nat,Af.wrap ((16:Int)+Af.wrap ((8:Int)*Af.wrap (x0.tmod (3:Int))))=(n:Int)∧N3 n:=by
 rw[Int.tmod_eq_emod_of_nonneg h]
 have:x0%3=0∨x0%3=1∨x0%3=2:=by omega
 rcases this with e | e | e<;>rw[e]
 ·exact ⟨16,rfl,.inl rfl⟩
 ·exact ⟨24,rfl,.inr (.inl rfl)⟩
 ·exact ⟨32,rfl,.inr (.inr rfl)⟩
theorem bcc{n H D A K h r d:Nat}(ks:Ks n H D A K h r)(hD:D=d+1)(hnm:∀num,num<2^r→nmb h num d=0)(hpl:plA d 0=ahq Z32 0 d)(sh:Bool)(sec drw pub rnd text beside:List Int)(h1:In 256 sec)(h2:In 256 drw)(h3:In 256 pub)(h4:In 256 rnd)(h5:In 256 text)(h6:In 256 beside)(l1:sec.length=n)(l2:drw.length=n)(l3:pub.length=n)(l4:rnd.length=n)(l5:text.length≤1000)(l6:beside.length≤255){ρ:Type}(k:Int→Option ρ) :
    P.vv n H D A K sh (pub++akn n sh h D sec pub) text beside (bm7 n sh A K r h D (sec++(drw++(pub++akn n sh h D sec pub))) text beside rnd) k=k 0 ∧
    P.vv n H D A K sh (pub++akn n sh h D sec pub) text beside ((bm7 n sh A K r h D (sec++(drw++(pub++akn n sh h D sec pub))) text beside rnd).take (sgZ n D A K h-1)) k=k 1:=by
 obtain ⟨_,d2,_,_,_,_,_,h9,n2⟩:=ks.nums
 have e2:Af.wrap ((2:Int)*(n:Int))=((2*n:Nat):Int):=by rw[wz (by omega) (by omega)];omega
 have n16:16≤n:=by have:=ks.n3;omega
 have lk:(akn n sh h D sec pub).length=n:=ajj n2 sh pub sec (ahq Z32 0 (D-1)) h 0
 have ik:In 256 (akn n sh h D sec pub):=axm _ _ _ _ _ _ _
 have lp2:(pub++akn n sh h D sec pub).length=2*n:=by rw[Ac];omega
 have ip2:In 256 (pub++akn n sh h D sec pub):=h3.app ik
 have lz:=baj ks sh (sec++(drw++(pub++akn n sh h D sec pub))) text beside rnd
 have iz:=bqg (n:=n) (A:=A) (K:=K) (r:=r) (h:=h) (D:=D) sh (sec++(drw++(pub++akn n sh h D sec pub))) text beside rnd
 have sz0:1≤sgZ n D A K h:=by unfold sgZ;omega
 constructor
 ·rw[ay2 ks sh _ text beside _ ip2 h5 h6 iz lp2 l5 l6 lz]
  have s1:bs9 n (sec++(drw++(pub++akn n sh h D sec pub)))=sec:=by unfold bs9;rw[←l1,Al]
  have s2:bqh n (sec++(drw++(pub++akn n sh h D sec pub)))=drw:=by
   unfold bqh
   have e:(sec++(drw++(pub++akn n sh h D sec pub))).drop n=drw++(pub++akn n sh h D sec pub):=by
    have:=Am (l₁:=sec) (l₂:=drw++(pub++akn n sh h D sec pub))
    rwa [l1] at this
   have e':(drw++(pub++akn n sh h D sec pub)).take n=drw:=by
    have:=Al (l₁:=drw) (l₂:=pub++akn n sh h D sec pub)
    rwa [l2] at this
   rw[e,e']
  have s3:br9 n (sec++(drw++(pub++akn n sh h D sec pub)))=pub++akn n sh h D sec pub:=by
   unfold br9
   have:=Am (l₁:=sec++drw) (l₂:=pub++akn n sh h D sec pub)
   rw[Ac,l1,l2,Ap,show n+n=2*n by omega] at this
   exact this
  have t1:(pub++akn n sh h D sec pub).take n=pub:=by
   have:=Al (l₁:=pub) (l₂:=akn n sh h D sec pub)
   rwa [l3] at this
  have t2:(pub++akn n sh h D sec pub).drop n=akn n sh h D sec pub:=by
   have:=Am (l₁:=pub) (l₂:=akn n sh h D sec pub)
   rwa [l3] at this
  have key:bvw n sh A K r h D (pub++akn n sh h D sec pub) (bm7 n sh A K r h D (sec++(drw++(pub++akn n sh h D sec pub))) text beside rnd) (ag2 text beside)=akn n sh h D sec pub:=by
   unfold bm7
   rw[s1,s2,s3]
   generalize hR:bhz n sh drw rnd (ag2 text beside)=R
   have lR:R.length=n:=by rw[←hR];exact anx ks.n3 _ _ _ _
   generalize hp2:pub++akn n sh h D sec pub=p2 at t1 t2 ⊢
   generalize hfw:bgj n sh A K r h sec p2 R (ag2 text beside)=fw
   have lfw:fw.length=szF n A K:=by rw[←hfw];exact bag ks _ _ _ _ _
   generalize hky:bkn n sh A K r h p2 R (ag2 text beside) fw=ky
   have lky:ky.length=n:=by rw[←hky];exact azk ks _ _ _ _ _
   have a1:(R++(fw++bbs n sh A K r h D sec p2 R (ag2 text beside) ky)).take n=R:=by
    have:=Al (l₁:=R) (l₂:=fw++bbs n sh A K r h D sec p2 R (ag2 text beside) ky)
    rwa [lR] at this
   have a2:(R++(fw++bbs n sh A K r h D sec p2 R (ag2 text beside) ky)).drop n=fw++bbs n sh A K r h D sec p2 R (ag2 text beside) ky:=by
    have:=Am (l₁:=R) (l₂:=fw++bbs n sh A K r h D sec p2 R (ag2 text beside) ky)
    rwa [lR] at this
   have a3:(fw++bbs n sh A K r h D sec p2 R (ag2 text beside) ky).take (szF n A K)=fw:=by
    have:=Al (l₁:=fw) (l₂:=bbs n sh A K r h D sec p2 R (ag2 text beside) ky)
    rwa [lfw] at this
   have a4:(fw++bbs n sh A K r h D sec p2 R (ag2 text beside) ky).drop (szF n A K)=bbs n sh A K r h D sec p2 R (ag2 text beside) ky:=by
    have:=Am (l₁:=fw) (l₂:=bbs n sh A K r h D sec p2 R (ag2 text beside) ky)
    rwa [lfw] at this
   unfold bvw
   rw[a1,a2,a3,a4,hky]
   unfold bbs
   rw[t1,bu0 n2 sh pub sec ky _ _ h D D (Ao _)]
   rw[show hyT n sh pub sec ky (au3 n sh A K r h R p2 (ag2 text beside)) (avl n sh A K r h R p2 (ag2 text beside)) h D=hyT n sh pub sec ky (au3 n sh A K r h R p2 (ag2 text beside)) (avl n sh A K r h R p2 (ag2 text beside)) h (d+1) by rw[hD]]
   rw[bsm ks.n3 sh pub sec ky lky _ _ h d (bdk _ _ _ _ _ _ _ _ _),hnm _ (bd4 _ _ _ _ _ _ _ _ _),hpl]
   unfold akn
   rw[hD,Nat.add_sub_cancel]
  rw[key,t2,decide_eq_true rfl]
  rfl
 ·have lt':((bm7 n sh A K r h D (sec++(drw++(pub++akn n sh h D sec pub))) text beside rnd).take (sgZ n D A K h-1)).length=sgZ n D A K h-1:=by rw[Aa];omega
  rw[P.ahr];unfold P.ad3
  rw[aei ks,ji,decide_eq_true ks.f,uh,yx,e2,dx (by omega),fq (by omega),mo (by omega)]
theorem SlhRight(x0:Int)(x1:Bool)(x2:Bool)(x3:List Int)(x4:List Int)(x5:List Int)(x6:List Int)(x7:List Int)(x8:List Int)(wx0:wfI .u8 x0)(nx3:x3.length=32)(wx3:∀x,x∈x3→wfI .u8 x)(nx4:x4.length=32)(wx4:∀x,x∈x4→wfI .u8 x)(nx5:x5.length=32)(wx5:∀x,x∈x5→wfI .u8 x)(nx6:x6.length=32)(wx6:∀x,x∈x6→wfI .u8 x)(nx7:x7.length≤140737488355328)(wx7:∀x,x∈x7→wfI .u8 x)(nx8:x8.length≤140737488355328)(wx8:∀x,x∈x8→wfI .u8 x){ρ:Type}(k:Bool→Option ρ):P.aa0 x0 x1 x2 x3 x4 x5 x6 x7 x8 k=k true:=by
 have h3:=bg9 wx3
 have h4:=bg9 wx4
 have h5:=bg9 wx5
 have h6:=bg9 wx6
 have h7:=bg9 wx7
 have h8:=bg9 wx8
 have w0:=wf_u8 wx0
 obtain ⟨n,e,hn⟩:=bvg x0 w0.1
 have hn2:16≤n∧n≤32:=by rcases hn with rfl | rfl | rfl<;>omega
 have t3:(x3.take n).length=n:=by rw[Aa];omega
 have t4:(x4.take n).length=n:=by rw[Aa];omega
 have t5:(x5.take n).length=n:=by rw[Aa];omega
 have t6:(x6.take n).length=n:=by rw[Aa];omega
 rw[P.ams];unfold P.ag4
 rcases ag9 [x7,x8] (by simp) (fun (q0:Bool)=>_) with ⟨hf,hl⟩ | hf
 ·rw[hf,uh,yx]
  have l7:x7.length≤300:=hl 0 (by simp)
  by_cases l8:x8.length>255
  ·rw[bf (by omega),zh]
  ·rw[fq (by omega),e]
   simp only[Ag,Int.sub_zero,toNat_cast]
   cases x2 with
   | true =>
    have ks:Ks n 2 2 2 3 1 1:=⟨⟨by rcases hn with rfl | rfl | rfl<;>decide,rfl⟩,by decide,by decide⟩
    obtain ⟨z1,z2⟩:=bcz ks
    have sz0:1≤sgZ n 2 2 3 1:=by unfold sgZ;omega
    have szb:sgZ n 2 2 3 1≤200000:=by unfold sgZ;omega
    have hnm:∀num,num<2^1→nmb 1 num 1=0:=fun num h=>by unfold nmb;exact Nat.div_eq_of_lt h
    have hpl:plA 1 0=ahq Z32 0 1:=by decide +kernel
    have rg:=fun k=>bcc (d:=1) ks rfl hnm hpl x1 (x3.take n) (x4.take n) (x5.take n) (x6.take n) x7 x8 (h3.take n) (h4.take n) (h5.take n) (h6.take n) h7 h8 t3 t4 t5 t6 (by omega) (by omega) (ρ:=ρ) k
    have lk:(akn n x1 1 2 (x3.take n) (x5.take n)).length=n:=ajj hn2.2 x1 _ _ _ 1 0
    have lpr:(x3.take n++(x4.take n++(x5.take n++akn n x1 1 2 (x3.take n) (x5.take n)))).length=4*n:=by simp only[Ac];omega
    have ipr:In 256 (x3.take n++(x4.take n++(x5.take n++akn n x1 1 2 (x3.take n) (x5.take n)))):=(h3.take n).app ((h4.take n).app ((h5.take n).app (axm _ _ _ _ _ _ _)))
    have lz:=baj ks x1 (x3.take n++(x4.take n++(x5.take n++akn n x1 1 2 (x3.take n) (x5.take n)))) x7 x8 (x6.take n)
    rw[yx,bf (by omega),bf (by omega),bf (by omega),bf (by omega),bf (by omega),bf (by omega)]
    refine Ai (awv ks x1 _ _ _ (h3.take n) (h4.take n) (h5.take n) t3 t4 t5 _) ?_
    rw[bf (by omega),bf (by omega)]
    refine Ai (avr ks x1 _ x7 x8 _ ipr h7 h8 (h6.take n) lpr (by omega) (by omega) t6 _) ?_
    refine Ai (aei ks x1 _) ?_
    rw[dx rfl,dx rfl,fq (by omega),dx (by omega)]
    refine Ai (rg _).1 ?_
    rw[dx rfl,wz (x:=((sgZ n 2 2 3 1:Nat):Int)-1) (by omega) (by omega),bf (by omega),bf (by omega),show (((sgZ n 2 2 3 1:Nat):Int)-1).toNat=sgZ n 2 2 3 1-1 by omega]
    refine Ai (rg _).2 ?_
    rw[jc rfl,zh]
   | false =>
    have ks:Ks n 1 1 2 3 1 0:=⟨⟨by rcases hn with rfl | rfl | rfl<;>decide,rfl⟩,by decide,by decide⟩
    obtain ⟨z1,z2⟩:=bcz ks
    have sz0:1≤sgZ n 1 2 3 1:=by unfold sgZ;omega
    have szb:sgZ n 1 2 3 1≤200000:=by unfold sgZ;omega
    have hnm:∀num,num<2^0→nmb 1 num 0=0:=fun num h=>by unfold nmb;exact Nat.div_eq_of_lt h
    have hpl:plA 0 0=ahq Z32 0 0:=by decide +kernel
    have rg:=fun k=>bcc (d:=0) ks rfl hnm hpl x1 (x3.take n) (x4.take n) (x5.take n) (x6.take n) x7 x8 (h3.take n) (h4.take n) (h5.take n) (h6.take n) h7 h8 t3 t4 t5 t6 (by omega) (by omega) (ρ:=ρ) k
    have lk:(akn n x1 1 1 (x3.take n) (x5.take n)).length=n:=ajj hn2.2 x1 _ _ _ 1 0
    have lpr:(x3.take n++(x4.take n++(x5.take n++akn n x1 1 1 (x3.take n) (x5.take n)))).length=4*n:=by simp only[Ac];omega
    have ipr:In 256 (x3.take n++(x4.take n++(x5.take n++akn n x1 1 1 (x3.take n) (x5.take n)))):=(h3.take n).app ((h4.take n).app ((h5.take n).app (axm _ _ _ _ _ _ _)))
    have lz:=baj ks x1 (x3.take n++(x4.take n++(x5.take n++akn n x1 1 1 (x3.take n) (x5.take n)))) x7 x8 (x6.take n)
    rw[aem,bf (by omega),bf (by omega),bf (by omega),bf (by omega),bf (by omega),bf (by omega)]
    refine Ai (awv ks x1 _ _ _ (h3.take n) (h4.take n) (h5.take n) t3 t4 t5 _) ?_
    rw[bf (by omega),bf (by omega)]
    refine Ai (avr ks x1 _ x7 x8 _ ipr h7 h8 (h6.take n) lpr (by omega) (by omega) t6 _) ?_
    refine Ai (aei ks x1 _) ?_
    rw[dx rfl,dx rfl,fq (by omega),dx (by omega)]
    refine Ai (rg _).1 ?_
    rw[dx rfl,wz (x:=((sgZ n 1 2 3 1:Nat):Int)-1) (by omega) (by omega),bf (by omega),bf (by omega),show (((sgZ n 1 2 3 1:Nat):Int)-1).toNat=sgZ n 1 2 3 1-1 by omega]
    refine Ai (rg _).2 ?_
    rw[jc rfl,zh]
 ·rw[hf,uh,aem,zh]
end Q
end
