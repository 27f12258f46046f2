/-
  SlhSigns, part 29: lemmas for the law.
-/

import Derived.Test.YtciddcopcdmnbaaGreatDoorSlhSignsZB
import Derived.Test.YtciddcopcdmnbaaGreatDoorSlhSignsM
import Derived.Test.YtciddcopcdmnbaaGreatDoorSlhSignsI
import Derived.Test.YtciddcopcdmnbaaGreatDoorSlhSignsL
import Derived.Test.YtciddcopcdmnbaaGreatDoorSlhSignsZA
import Derived.Test.YtciddcopcdmnbaaGreatDoorSlhSignsK
import Derived.Test.YtciddcopcdmnbaaGreatDoorSlhSignsZ
open Nat renaming mul_le_mul → Aa, pow_le_pow_right → Ac, two_pow_pos → Ak, div_le_self → Al, mul_comm → Am, mul_assoc → Ao, le_refl → Aq, le_mul_of_pos_right → Au, add_mul → Aw, mod_eq_of_lt → Ay, add_sub_cancel_left → Az, one_mul → A8
open List renaming length_append → Ab, length_take → Ae, length_drop → Af, drop_zero → Ag, take_length → Ah, drop_take → Ar, append_assoc → Av, take_of_length_le → A9, drop_drop → Ba, range → Bb
open Go.IntKind renaming i64 → Ad, u64 → Ai
open Int renaming natCast_mul → Aj, tdiv_eq_ediv_of_nonneg → Ap
set_option linter.unusedVariables false
set_option linter.unusedSimpArgs false

section
/- fors: knots and keys, by the program and by the document. -/
namespace Q
open QK
open Go Go.Abs
theorem aav{n:Nat}{H D A K:Int}(hf:aak n H D A K)(sh:Bool)(sec pub:List Int){ρ:Type}(k:Bool→Option ρ):P.aav (n:Int) H D A K sh sec pub k=k (!decide (sec.length=n∧pub.length=n)):=by
 rw[P.bbt];unfold P.ao3
 rw[kg,decide_eq_true hf,jv,oq]
 by_cases h1:sec.length=n
 ·rw[dh (by omega)]
  by_cases h2:pub.length=n
  ·rw[decide_eq_true ⟨h1,h2⟩,h2];simp
  ·rw[decide_eq_false (fun h=>h2 h.2)]
   congr 1
   have:(pub.length:Int)≠(n:Int):=by omega
   simpa using this
 ·rw[jd (by omega),decide_eq_false (fun h=>h1 h.1)]
  rfl
theorem tu{n:Nat}{H D A K:Int}(hf:aak n H D A K)(sh:Bool)(sec pub a:List Int){ρ:Type}(k:Int→Int→Int→Int→Int→Bool→List Int→List Int→List Int→Bool→Option ρ):P.tu (n:Int) H D A K sh sec pub a k=k n H D A K sh sec pub a (decide (sec.length=n∧pub.length=n)):=by
 rw[P.ar4];unfold P.ajw
 rw[jy,decide_eq_true hf,oq]
 by_cases h1:sec.length=n
 ·rw[eu (by omega)]
  by_cases h2:pub.length=n
  ·rw[decide_eq_true ⟨h1,h2⟩,h2];simp
  ·rw[decide_eq_false (fun h=>h2 h.2)]
   congr 1
   have:(pub.length:Int)≠(n:Int):=by omega
   simpa using this
 ·rw[gq (by omega),decide_eq_false (fun h=>h1 h.1)]
def szF(n A K:Nat):Nat:=K*(n*(A+1))
def txF(A K:Nat):Nat:=(K*A+7)/8
theorem bi6{n A K:Nat}(hn:n≤32)(hA:A≤14)(hK:K≤40):Ad.wrap (Ad.wrap ((n:Int)*(K:Int))*Ad.wrap ((A:Int)+(1:Int)))=((szF n A K:Nat):Int)∧Ad.wrap ((Ad.wrap (Ad.wrap ((K:Int)*(A:Int))+(7:Int))).tdiv (8:Int))=((txF A K:Nat):Int):=by
 have h1:n*K≤32*40:=Aa hn hK
 have h2:n*K*(A+1)≤32*40*15:=Aa h1 (by omega)
 have h3:K*A≤40*14:=Aa hK hA
 constructor
 ·rw[show (n:Int)*(K:Int)=((n*K:Nat):Int) by rw[Aj],l7 (x:=((n*K:Nat):Int)) (by omega) (by omega),l7 (x:=(A:Int)+1) (by omega) (by omega),show (A:Int)+1=((A+1:Nat):Int) by omega,←Aj,l7 (by omega) (by omega)]
  congr 1
  unfold szF
  rw[Am n K,Ao]
 ·rw[show (K:Int)*(A:Int)=((K*A:Nat):Int) by rw[Aj],l7 (x:=((K*A:Nat):Int)) (by omega) (by omega),l7 (x:=((K*A:Nat):Int)+7) (by omega) (by omega),Ap (by omega),l7 (by omega) (by omega)]
  unfold txF
  omega
theorem ku{n A K:Nat}{H D:Int}(hf:aak n H D A K)(sh:Bool){ρ:Type}(k:Int→Int→Option ρ):P.ku (n:Int) H D A K sh k=k (szF n A K:Nat) (txF A K:Nat):=by
 have hq:=hf
 unfold aak at hq
 obtain ⟨e1,e2⟩:=bi6 (n:=n) (A:=A) (K:=K) (by omega) (by omega) (by omega)
 rw[P.bck];unfold P.apj
 rw[jy,decide_eq_true hf,jv,oq,e1,e2]
theorem aax{n A K:Nat}{H D:Int}(hf:aak n H D A K)(sh:Bool){ρ:Type}(k:Int→Int→Option ρ):P.aax (n:Int) H D A K sh k=k (szF n A K:Nat) (txF A K:Nat):=by
 have hq:=hf
 unfold aak at hq
 obtain ⟨e1,e2⟩:=bi6 (n:=n) (A:=A) (K:=K) (by omega) (by omega) (by omega)
 rw[P.bg8];unfold P.ash
 rw[kg,decide_eq_true hf,jv,oq,e1,e2]
theorem cqg{A K z:Nat}(hA:A≤14)(hK:K≤40):K*2^(A-z)≤655360:=by
 have h1:2^(A-z)≤2^14:=Ac (by omega) (by omega)
 have:=Aa hK h1
 omega
theorem b82{A K z i:Nat}(hA:A≤14)(hK:K≤40)(hz:z≤A)(hi:i<K*2^(A-z)):(i+1)*2^z≤655360:=by
 have h1:(i+1)*2^z≤K*2^(A-z)*2^z:=Aa hi (Aq _)
 rw[Ao,←Nat.pow_add,Nat.sub_add_cancel hz] at h1
 have h2:2^A≤2^14:=Ac (by omega) hA
 have:=Aa hK h2
 omega
theorem ac8{n A K:Nat}{H D:Int}(hf:aak n H D A K)(sh:Bool){sec pub a:List Int}(hsec:In 256 sec)(lsec:sec.length=n)(hp:In 256 pub)(np:pub.length=n)(la:a.length=32)(ha:In 256 a):∀(z i m:Nat),z<m→z≤A→i<K*2^(A-z)→∀{ρ:Type} (k:List Int→Option ρ),P.ac8 m (n:Int) H D A K sh sec pub a (z:Int) (i:Int) k=k (fkW n sh pub sec a z i)
 | z,i,0,hm,hz,hi,ρ,k=>by omega
 | 0,i,m+1,hm,hz,hi,ρ,k=>by
  have hq:=hf
  unfold aak at hq
  have hk:=cqg (A:=A) (K:=K) (z:=0) (by omega) (by omega)
  rw[P.aw7];unfold P.amq
  rw[aav hf,decide_eq_true ⟨lsec,np⟩,show (!true)=false from rfl,w9,bn (by omega),bn (by omega),l7 (x:=(A:Int)-((0:Nat):Int)) (by omega) (by omega),bn (by omega),show ((A:Int)-((0:Nat):Int)).toNat=A-0 by omega,ad3 K (by omega),aqu K (A-0) (by omega) (by omega),bn (by omega),eu (show ((0:Nat):Int)=0 from rfl),
   show P.aac (ρ:=ρ) a 3 0 (i:Int)=P.aac a ((3:Nat):Int) ((0:Nat):Int) (i:Int) from rfl,aac hf hp np la ha 3 0 i (by omega) (by omega) (by omega),show ahx (ahx (ofA a 3) 4 0) 5 i=ktA a 0 i from rfl,ada hf sh hp np la ha hsec lsec i (by omega),su hf sh pub hp np _ _ (bat la 0 i) (blc ha 0 i) (bxf _ _ _ _ _ _) (by rw[bgu (by omega)];omega)]
  rfl
 | z+1,i,m+1,hm,hz,hi,ρ,k=>by
  have hq:=hf
  unfold aak at hq
  have hn:n≤32:=by omega
  have hk:=cqg (A:=A) (K:=K) (z:=z+1) (by omega) (by omega)
  have e2:K*2^(A-z)=2*(K*2^(A-(z+1))):=by rw[show A-z=A-(z+1)+1 by omega,Nat.pow_succ,←Ao,Am]
  rw[P.aw7];unfold P.amq
  have hfl:[fkW n sh pub sec a z (2*i),fkW n sh pub sec a z (2*i+1)].flatten=fkW n sh pub sec a z (2*i)++fkW n sh pub sec a z (2*i+1):=by simp
  rw[aav hf,decide_eq_true ⟨lsec,np⟩,show (!true)=false from rfl,w9,bn (by omega),bn (by omega),l7 (x:=(A:Int)-((z+1:Nat):Int)) (by omega) (by omega),bn (by omega),show ((A:Int)-((z+1:Nat):Int)).toNat=A-(z+1) by omega,ad3 K (by omega),aqu K (A-(z+1)) (by omega) (by omega),bn (by omega),gq (by omega),
   show ((z+1:Nat):Int)-1=(z:Int) by omega,l7 (by omega) (by omega),show (2:Int)*(i:Int)=((2*i:Nat):Int) by omega,ad3 (2*i) (by omega),show ((2*i:Nat):Int)+1=((2*i+1:Nat):Int) by omega,ad3 (2*i+1) (by omega),
   ac8 hf sh hsec lsec hp np la ha z (2*i) m (by omega) (by omega) (by omega),ac8 hf sh hsec lsec hp np la ha z (2*i+1) m (by omega) (by omega) (by omega),
   show P.aac (ρ:=ρ) a 3 ((z+1:Nat):Int) (i:Int)=P.aac a ((3:Nat):Int) ((z+1:Nat):Int) (i:Int) from rfl,aac hf hp np la ha 3 (z+1) i (by omega) (by omega) (by omega),show ahx (ahx (ofA a 3) 4 (z+1)) 5 i=ktA a (z+1) i from rfl,iy _ (by simp) (by rw[hfl,Ab,ar0 hn,ar0 hn];omega),hfl,
   su hf sh pub hp np _ _ (bat la (z+1) i) (blc ha (z+1) i) ((bpk _ _ _ _ _ _ _).app (bpk _ _ _ _ _ _ _)) (by rw[Ab,ar0 hn,ar0 hn];omega)]
  rfl
end Q
end

section
/- fors: the chapter's examples; what is few and light. -/
namespace Q
open QK
open Go Go.Abs
end Q
end

section
/- fors: signatures and what they lead to, by the program and by the document. -/
namespace Q
open QK
open Go Go.Abs
def dF(A:Nat)(t:List Int)(k:Nat):Nat:=T 8 t.reverse/2^(8*t.length-A*(k+1))%2^A
def ixF(A:Nat)(t:List Int)(k:Nat):Nat:=k*2^A+dF A t k
theorem b6r(A:Nat)(t:List Int)(k:Nat):dF A t k<2^A:=Nat.mod_lt _ (Ak A)
theorem bsa{A K k:Nat}(t:List Int)(hk:k<K):ixF A t k<K*2^A:=by
 have h1:=b6r A t k
 have h2:(k+1)*2^A≤K*2^A:=Aa hk (Aq _)
 rw[Aw,A8] at h2
 unfold ixF;omega
theorem bd5{A K:Nat}(t:List Int)(h1:1≤A)(h2:A≤14)(ht:t.length=txF A K):(um t (A:Int) (K:Int)).length=K∧∀k,k<K→(um t (A:Int) (K:Int)).getD k 0=((dF A t k:Nat):Int):=by
 rw[bah t A K h1 (by omega) (by unfold txF at ht;omega)]
 refine ⟨by simp,fun k hk=>?_⟩
 rw[List.getD_eq_getElem?_getD,List.getElem?_map,List.getElem?_range hk]
 rfl
theorem b8f{A:Nat}(t:List Int)(k:Nat)(hb:ixF A t k<18446744073709551616)(hA:A≤64):bits .or .u64 (Ai.wrap (Ai.wrap (k:Int)*(2:Int)^min A 64)) (Ai.wrap ((dF A t k:Nat):Int))=((ixF A t k:Nat):Int):=by
 have h1:k*2^A≤ixF A t k:=Nat.le_add_right _ _
 have h2:k≤k*2^A:=Au _ (Ak A)
 have h3:dF A t k≤ixF A t k:=Nat.le_add_left _ _
 rw[ad3 k (by omega),aqu k A hA (by omega),ad3 _ (by omega),bs1 _ _ (by omega) (by omega)]
 congr 1
 unfold ixF
 rw[Am k (2^A),Nat.two_pow_add_eq_or_of_lt (b6r A t k)]
theorem b1o{A:Nat}(t:List Int)(k:Nat)(hb:ixF A t k<18446744073709551616)(hA:A≤64):Ai.wrap (Ai.wrap (Ai.wrap (k:Int)*(2:Int)^min A 64)+Ai.wrap ((dF A t k:Nat):Int))=((ixF A t k:Nat):Int):=by
 have h1:k*2^A≤ixF A t k:=Nat.le_add_right _ _
 have h2:k≤k*2^A:=Au _ (Ak A)
 have h3:dF A t k≤ixF A t k:=Nat.le_add_left _ _
 rw[ad3 k (by omega),aqu k A hA (by omega),ad3 _ (by omega),show ((k*2^A:Nat):Int)+((dF A t k:Nat):Int)=((ixF A t k:Nat):Int) by unfold ixF;omega,ad3 _ hb]
def auF(n:Nat)(sh:Bool)(pub sec a:List Int)(i z:Nat):List Int:=fkW n sh pub sec a z ((i/2^z) ^^^ 1)
def sgF(n:Nat)(sh:Bool)(pub sec a:List Int)(A:Nat)(t:List Int)(k:Nat):List Int:=lfF n sh pub sec a (ixF A t k)++cat (auF n sh pub sec a (ixF A t k)) A
theorem bw9{n:Nat}(hn:n≤32)(sh:Bool)(pub sec a:List Int)(i z:Nat):(auF n sh pub sec a i z).length=n:=ar0 hn _ _ _ _ _ _
theorem b9e(n:Nat)(sh:Bool)(pub sec a:List Int)(i z:Nat):In 256 (auF n sh pub sec a i z):=bpk _ _ _ _ _ _ _
theorem bqu{n:Nat}(hn:n≤32)(sh:Bool)(pub sec a:List Int)(A:Nat)(t:List Int)(k:Nat):(sgF n sh pub sec a A t k).length=n*(A+1):=by
 unfold sgF
 rw[Ab,bgu hn,ab7 (bw9 hn sh pub sec a _),Nat.mul_add,Nat.mul_one,Am A n,Nat.add_comm]
theorem b5n(n:Nat)(sh:Bool)(pub sec a:List Int)(A:Nat)(t:List Int)(k:Nat):In 256 (sgF n sh pub sec a A t k):=(bxf _ _ _ _ _ _).app (aq6 (b9e n sh pub sec a _) _)
theorem b67{A K i z:Nat}(hi:i<K*2^A)(hz:z<A):(i/2^z) ^^^ 1<K*2^(A-z):=by
 have h1:i/2^z<K*2^(A-z):=by
  rw[Nat.div_lt_iff_lt_mul (Ak z),Ao,←Nat.pow_add,Nat.sub_add_cancel (by omega)]
  exact hi
 have h2:K*2^(A-z)=2*(K*2^(A-(z+1))):=by rw[show A-z=A-(z+1)+1 by omega,Nat.pow_succ,←Ao,Am]
 rw[xor1]
 generalize i/2^z=x at h1 ⊢
 generalize K*2^(A-(z+1))=e at h2
 split<;>omega
def upF(n:Nat)(sh:Bool)(pub a:List Int)(i:Nat)(part:List Int):Nat→List Int
 | 0=>ovF n sh pub a 0 i (part.take n)
 | z+1=>ovF n sh pub a (z+1) (i/2^(z+1)) (if i/2^z%2=1 then (part.drop ((z+1)*n)).take n++upF n sh pub a i part z else upF n sh pub a i part z++(part.drop ((z+1)*n)).take n)
theorem bfg{n:Nat}(hn:n≤32)(sh:Bool)(pub a:List Int)(i:Nat)(part:List Int):∀z,(upF n sh pub a i part z).length=n
 | 0=>ach hn _ _ _ _
 | z+1=>ach hn _ _ _ _
theorem bth(n:Nat)(sh:Bool)(pub a:List Int)(i:Nat)(part:List Int):∀z,In 256 (upF n sh pub a i part z)
 | 0=>afp _ _ _ _ _
 | z+1=>afp _ _ _ _ _
def ptF(n A:Nat)(sig:List Int)(k:Nat):List Int:=sig.drop (k*(n*(A+1)))
def cdF(n:Nat)(sh:Bool)(pub a:List Int)(A:Nat)(t sig:List Int)(k:Nat):List Int:=upF n sh pub a (ixF A t k) (ptF n A sig k) A
theorem aco{n A K:Nat}{H D:Int}(hf:aak n H D A K)(sh:Bool){sec pub a:List Int}(hsec:In 256 sec)(lsec:sec.length=n)(hp:In 256 pub)(np:pub.length=n)(la:a.length=32)(ha:In 256 a)(t:List Int)(ht:In 256 t)(lt:t.length=txF A K){ρ:Type}(k:List Int→Option ρ):P.aco (n:Int) H D A K sh t sec pub a k=k (cat (sgF n sh pub sec a A t) K):=by
 have hq:=hf
 unfold aak at hq
 have hn:n≤32:=by omega
 have hA:A≤14:=by omega
 have hK:K≤40:=by omega
 have h3:K*A≤40*14:=Aa hK hA
 have hpw:K*2^A≤655360:=by
  have h1:2^A≤2^14:=Ac (by omega) hA
  have:=Aa hK h1
  omega
 have htx:txF A K≤100:=by unfold txF;omega
 obtain ⟨d1,d2⟩:=bd5 (A:=A) (K:=K) t (by omega) hA lt
 have hl:=ab7 (bqu hn sh pub sec a A t)
 have hsz:n*(A+1)≤32*15:=Aa hn (by omega)
 rw[P.bdg];unfold P.aqi
 rw[tu hf,ku hf,decide_eq_true ⟨lsec,np⟩,jv,oq,dh (by omega),jr t A K ht (by omega),d1,P.az3];unfold P.avl P.ca0 P.cak P.co6
 refine u7 (fun j=>((K:Int),(j:Int),cat (sgF n sh pub sec a A t) j,(n:Int),H,D,(A:Int),(K:Int),sh,(n:Int),H,D,(A:Int),(K:Int),sh,sec,pub,a,(n:Int),H,D,(A:Int),(K:Int),sh,sec,pub,a,um t (A:Int) (K:Int))) K rfl (fun j hj next hnx=>?_) (fun next=>?_) (by omega)
 ·have hix:=bsa (A:=A) t hj
  have hm:j*(n*(A+1))≤40*(32*15):=Aa (by omega) hsz
  simp only[P.ana,d1,toNat_cast]
  rw[bf (by omega),bf (by omega),bf (by omega),bn (by omega),d2 j hj,b8f t j (by omega) (by omega),bn7 hf sh hp np la ha hsec lsec _ (by omega),bf (by rw[hl,bgu hn];omega),P.ayx]
  unfold P.atx P.cb7 P.cc2 P.cj1
  refine u7 (fun z=>(((ixF A t j:Nat):Int),(A:Int),(z:Int),cat (sgF n sh pub sec a A t) j++lfF n sh pub sec a (ixF A t j)++cat (auF n sh pub sec a (ixF A t j)) z,(n:Int),H,D,(A:Int),(K:Int),sh,(n:Int),H,D,(A:Int),(K:Int),sh,sec,pub,a,(n:Int),H,D,(A:Int),(K:Int),sh,sec,pub,a,um t (A:Int) (K:Int))) A (by simp[cat]) (fun z hz next2 hnx2=>?_) (fun next2=>?_) (by omega)
  ·have hau:=b67 hix hz
   have hkb:=b82 (A:=A) (K:=K) (z:=z) hA hK (by omega) hau
   have hdl:=Al (ixF A t j) (2^z)
   have l2:=ab7 (bw9 hn sh pub sec a (ixF A t j)) z
   have hm2:z*n≤14*32:=Aa (by omega) hn
   simp only[P.alj,toNat_cast]
   rw[bf (by omega),bn (by omega),fdiv_pow _ _ _ (by omega),show (1:Int)=((1:Nat):Int) from rfl,bgb _ _ (by omega) (by omega),bxx hf sh hsec lsec hp np la ha z _ (by omega) (by omega),bf (by rw[Ab,Ab,hl,bgu hn,l2,ar0 hn];omega),l7 (by omega) (by omega),Av _ (cat _ z)]
   exact hnx2
  ·simp only[P.alj]
   rw[bn (by omega),l7 (by omega) (by omega)]
   rw[cat,sgF,←Av] at hnx
   exact hnx
 ·simp only[P.ana]
  rw[bn (by omega)]
def rwF(n:Nat)(sh:Bool)(pub sec a:List Int)(A:Nat)(t:List Int):Nat→List (List Int)
 | 0=>[]
 | j+1=>rwF n sh pub sec a A t j++[lfF n sh pub sec a (ixF A t j)]++(Bb A).map (auF n sh pub sec a (ixF A t j))
theorem bxi{n A:Nat}(sh:Bool){sec pub a:List Int}(t:List Int):∀j,(rwF n sh pub sec a A t j).length=j*(A+1)
 | 0=>by simp[rwF]
 | j+1=>by rw[rwF,Ab,Ab,bxi sh t j,Aw];simp;omega
theorem bs2{n A:Nat}(sh:Bool){sec pub a:List Int}(t:List Int):∀j,(rwF n sh pub sec a A t j).flatten=cat (sgF n sh pub sec a A t) j
 | 0=>rfl
 | j+1=>by rw[rwF,List.flatten_append,List.flatten_append,bs2 sh t j,aby,cat,sgF,←Av];simp
theorem afz{n A K:Nat}{H D:Int}(hf:aak n H D A K)(sh:Bool){sec pub a:List Int}(hsec:In 256 sec)(lsec:sec.length=n)(hp:In 256 pub)(np:pub.length=n)(la:a.length=32)(ha:In 256 a)(t:List Int)(ht:In 256 t)(lt:t.length=txF A K){ρ:Type}(k:List Int→Option ρ):P.afz (n:Int) H D A K sh t sec pub a k=k (cat (sgF n sh pub sec a A t) K):=by
 have hq:=hf
 unfold aak at hq
 have hn:n≤32:=by omega
 have hA:A≤14:=by omega
 have hK:K≤40:=by omega
 have h3:K*A≤40*14:=Aa hK hA
 have hpw:K*2^A≤655360:=by
  have h1:2^A≤2^14:=Ac (by omega) hA
  have:=Aa hK h1
  omega
 have htx:txF A K≤100:=by unfold txF;omega
 obtain ⟨d1,d2⟩:=bd5 (A:=A) (K:=K) t (by omega) hA lt
 have hl:=ab7 (bqu hn sh pub sec a A t)
 have hsz:n*(A+1)≤32*15:=Aa hn (by omega)
 have hrl:=bxi (n:=n) (A:=A) sh (sec:=sec) (pub:=pub) (a:=a) t
 have hrf:=bs2 (n:=n) (A:=A) sh (sec:=sec) (pub:=pub) (a:=a) t
 rw[P.bge];unfold P.atr
 rw[aax hf,aav hf,decide_eq_true ⟨lsec,np⟩,show (!true)=false from rfl,w9,dh (by omega),pq t A K ht (by omega),P.bip];unfold P.bfc P.cbe P.cc3 P.cgq
 refine u7 (fun j=>(sec,pub,(j:Int),rwF n sh pub sec a A t j,(n:Int),H,D,(A:Int),(K:Int),sh,a,um t (A:Int) (K:Int))) K rfl (fun j hj next hnx=>?_) (fun next=>?_) (by omega)
 ·have hix:=bsa (A:=A) t hj
  have hm:j*(A+1)≤40*15:=Aa (by omega) (by omega)
  simp only[P.axh,d1,toNat_cast]
  rw[bf (by omega),bn (by omega),bf (by omega),bf (by omega),d2 j hj,b1o t j (by omega) (by omega),ada hf sh hp np la ha hsec lsec _ (by omega),bf (by rw[hrl];omega),P.bg4]
  unfold P.bcs P.cd8 P.cd2 P.co3
  refine u7 (fun z=>(sec,pub,(j:Int),((ixF A t j:Nat):Int),(z:Int),rwF n sh pub sec a A t j++[lfF n sh pub sec a (ixF A t j)]++(Bb z).map (auF n sh pub sec a (ixF A t j)),(n:Int),H,D,(A:Int),(K:Int),sh,a,um t (A:Int) (K:Int))) A (by simp) (fun z hz next2 hnx2=>?_) (fun next2=>?_) (by omega)
  ·have hau:=b67 hix hz
   have hdl:=Al (ixF A t j) (2^z)
   simp only[P.auh,toNat_cast]
   rw[bf (by omega),bn (by omega),fdiv_pow _ _ _ (by omega),show (1:Int)=((1:Nat):Int) from rfl,bgb _ _ (by omega) (by omega),ac8 hf sh hsec lsec hp np la ha z _ (z+1) (by omega) (by omega) hau,bf (by simp[hrl];omega),l7 (by omega) (by omega),Av _ (List.map _ _)]
   rw[←wo] at hnx2
   exact hnx2
  ·simp only[P.auh]
   rw[bn (by omega),l7 (by omega) (by omega)]
   exact hnx
 ·have hm:K*(A+1)≤40*15:=Aa (by omega) (by omega)
  have hm2:K*(n*(A+1))≤40*(32*15):=Aa (by omega) hsz
  simp only[P.axh]
  rw[bn (by omega),iy _ (by rw[hrl];omega) (by rw[hrf,hl];omega),hrf]
theorem b4n{n A K:Nat}{H D:Int}(hf:aak n H D A K)(sh:Bool){pub a:List Int}(hp:In 256 pub)(np:pub.length=n)(la:a.length=32)(ha:In 256 a)(sec:List Int)(i:Nat)(hi:i<18446744073709551616)(part:List Int)(ip:In 256 part)(lp':(A+1)*n≤part.length)(lb:part.length≤1000000){ρ:Type}(k:List Int→Option ρ):P.ug (n:Int) H D A K sh sec pub a (i:Int) part k=k (upF n sh pub a i part A):=by
 have hq:=hf
 unfold aak at hq
 have hn:n≤32:=by omega
 have hA:A≤14:=by omega
 have hsp:n≤(A+1)*n:=Nat.le_mul_of_pos_left _ (by omega)
 have hf1:[part.take n].flatten=part.take n:=by simp
 have ht1:(part.take n).length=n:=by rw[Ae];omega
 rw[P.arh];unfold P.aik
 rw[bf (by omega),bf (by omega),toNat_cast,Ag,show ∀(x:Int) (l:List (List Int)) (kk:List Int→Option ρ),P.kr (n:Int) H D A K sh sec pub a 0 x l kk=P.kr (n:Int) H D A K sh sec pub a ((0:Nat):Int) x l kk from fun _ _ _=>rfl,
  atm hf sh hp np la ha 0 i (by omega) hi _ (by simp) (by rw[hf1];exact ip.take n) (by rw[hf1];omega),hf1,P.av5]
 unfold P.aq8 P.cb9 P.caq P.chq
 refine u7 (fun z=>((i:Int),part.drop (z*n),upF n sh pub a i part z,(A:Int),(z:Int),(n:Int),H,D,(A:Int),(K:Int),sh,sec,pub,a)) A (by simp[upF]) (fun z hz next hnx=>?_) (fun next=>?_) (by omega)
 ·have hd:=Al i (2^z)
  have hd2:=Al i (2^(z+1))
  have hz2:(z+2)*n≤(A+1)*n:=Aa (by omega) (Aq _)
  have e2:(z+2)*n=z*n+n+n:=by rw[Aw];omega
  have e1:(z+1)*n=z*n+n:=by rw[Aw,A8]
  have hl0:(part.drop (z*n)).length=part.length-z*n:=Af
  have hdd:(part.drop (z*n)).drop n=part.drop ((z+1)*n):=by rw[Ba,e1]
  have hl1:(part.drop ((z+1)*n)).length=part.length-(z+1)*n:=Af
  have lu:=bfg hn sh pub a i part z
  have iu:=bth n sh pub a i part z
  have is':In 256 ((part.drop ((z+1)*n)).take n):=(ip.drop _).take _
  have ls':((part.drop ((z+1)*n)).take n).length≤n:=by rw[Ae];omega
  simp only[P.aj6,toNat_cast,Ah,Ag,hdd]
  rw[bf (by omega),bf (by omega),bf (by omega),bf (by omega),bf (by omega),bf (by omega),bn (by omega),l7 (x:=(z:Int)+1) (by omega) (by omega),show (z:Int)+1=((z+1:Nat):Int) by omega,bn (by omega),toNat_cast,fdiv_pow _ _ _ (by omega),fdiv_pow _ _ _ (by omega),show (1:Int)=((1:Nat):Int) from rfl,apr _ _ (by omega) (by omega),Nat.and_one_is_mod]
  rw[upF] at hnx
  by_cases hb:i/2^z%2=1
  ·rw[if_pos hb] at hnx
   have hfl:[(part.drop ((z+1)*n)).take n,upF n sh pub a i part z].flatten=(part.drop ((z+1)*n)).take n++upF n sh pub a i part z:=by simp
   rw[hb,eu rfl,atm hf sh hp np la ha (z+1) _ (by omega) (by omega) _ (by simp) (by rw[hfl];exact is'.app iu) (by rw[hfl,Ab];omega),hfl]
   exact hnx
  ·rw[if_neg hb] at hnx
   have hfl:[upF n sh pub a i part z,(part.drop ((z+1)*n)).take n].flatten=upF n sh pub a i part z++(part.drop ((z+1)*n)).take n:=by simp
   rw[show i/2^z%2=0 by omega,gq (by omega),bn (by omega),atm hf sh hp np la ha (z+1) _ (by omega) (by omega) _ (by simp) (by rw[hfl];exact iu.app is') (by rw[hfl,Ab];omega),hfl]
   exact hnx
 ·simp only[P.aj6]
  rw[bn (by omega)]
theorem p9{n A K:Nat}{H D:Int}(hf:aak n H D A K)(sh:Bool){pub a:List Int}(hp:In 256 pub)(np:pub.length=n)(la:a.length=32)(ha:In 256 a)(t sig:List Int)(ht:In 256 t)(lt:t.length=txF A K)(hsig:In 256 sig)(lsig:sig.length=szF n A K){ρ:Type}(k:List Int→Option ρ):P.p9 (n:Int) H D A K sh sig t pub a k=k (kyF n sh pub a (cat (cdF n sh pub a A t sig) K)):=by
 have hq:=hf
 unfold aak at hq
 have hn:n≤32:=by omega
 have hA:A≤14:=by omega
 have hK:K≤40:=by omega
 have h3:K*A≤40*14:=Aa hK hA
 have hpw:K*2^A≤655360:=by
  have h1:2^A≤2^14:=Ac (by omega) hA
  have:=Aa hK h1
  omega
 have htx:txF A K≤100:=by unfold txF;omega
 obtain ⟨d1,d2⟩:=bd5 (A:=A) (K:=K) t (by omega) hA lt
 have hl:=ab7 (T:=cdF n sh pub a A t sig) (fun i=>bfg hn sh pub a _ _ _)
 have hsz:n*(A+1)≤32*15:=Aa hn (by omega)
 have eN:Ad.wrap ((n:Int)*Ad.wrap ((A:Int)+1))=((n*(A+1):Nat):Int):=by
  rw[l7 (x:=(A:Int)+1) (by omega) (by omega),show (A:Int)+1=((A+1:Nat):Int) by omega,←Aj,l7 (by omega) (by omega)]
 unfold szF at lsig
 rw[P.aox];unfold P.agr
 rw[ku hf,jy,decide_eq_true hf,jv,oq,dh (by omega),dh (by omega),dh (by unfold szF;omega),jr t A K ht (by omega),d1,P.arw];unfold P.alc P.cbc P.ce2 P.ce8
 refine u7 (fun j=>((K:Int),(j:Int),cat (cdF n sh pub a A t sig) j,(n:Int),H,D,(A:Int),(K:Int),sh,ptF n A sig j,(n:Int),H,D,(A:Int),(K:Int),sh,pub,a,(n:Int),H,D,(A:Int),(K:Int),sh,pub,a,um t (A:Int) (K:Int))) K (by simp[cat,ptF]) (fun j hj next hnx=>?_) (fun next=>?_) (by omega)
 ·have hix:=bsa (A:=A) t hj
  have hm:j*n≤40*32:=Aa (by omega) hn
  have hj1:(j+1)*(n*(A+1))≤K*(n*(A+1)):=Aa hj (Aq _)
  have e1:(j+1)*(n*(A+1))=j*(n*(A+1))+n*(A+1):=by rw[Aw,A8]
  have hKs:K*(n*(A+1))≤40*(32*15):=Aa hK hsz
  have hpl:(ptF n A sig j).length=sig.length-j*(n*(A+1)):=Af
  have hpn:(ptF n A sig j).drop (n*(A+1))=ptF n A sig (j+1):=by unfold ptF;rw[Ba,e1]
  simp only[P.af7,d1,toNat_cast,eN,Ah,hpn]
  rw[bf (by omega),bf (by omega),bf (by omega),bn (by omega),d2 j hj,b8f t j (by omega) (by omega),b4n hf sh hp np la ha [] _ (by omega) _ (show In 256 (ptF n A sig j) from hsig.drop _) (by rw[hpl,Am];omega) (by rw[hpl];omega),bf (by rw[hl,bfg hn];omega),bf (by omega),bf (by omega),bf (by omega),l7 (by omega) (by omega)]
  exact hnx
 ·have hm:K*n≤40*32:=Aa (by omega) hn
  simp only[P.af7]
  rw[bn (by omega),bzk hf sh hp np la ha _ (aq6 (T:=cdF n sh pub a A t sig) (fun i=>bth _ _ _ _ _ _ _) _) (by rw[hl];omega)]
theorem yj{n A K:Nat}{H D:Int}(hf:aak n H D A K)(sh:Bool){pub a:List Int}(hp:In 256 pub)(np:pub.length=n)(la:a.length=32)(ha:In 256 a)(t sig:List Int)(ht:In 256 t)(lt:t.length=txF A K)(hsig:In 256 sig)(lsig:sig.length=szF n A K){ρ:Type}(k:List Int→Option ρ):P.yj (n:Int) H D A K sh sig t pub a k=k (kyF n sh pub a (cat (cdF n sh pub a A t sig) K)):=by
 have hq:=hf
 unfold aak at hq
 have hn:n≤32:=by omega
 have hA:A≤14:=by omega
 have hK:K≤40:=by omega
 have h3:K*A≤40*14:=Aa hK hA
 have hpw:K*2^A≤655360:=by
  have h1:2^A≤2^14:=Ac (by omega) hA
  have:=Aa hK h1
  omega
 have htx:txF A K≤100:=by unfold txF;omega
 obtain ⟨d1,d2⟩:=bd5 (A:=A) (K:=K) t (by omega) hA lt
 have hl:=ab7 (T:=cdF n sh pub a A t sig) (fun i=>bfg hn sh pub a _ _ _)
 have hsz:n*(A+1)≤32*15:=Aa hn (by omega)
 unfold szF at lsig
 rw[P.aq3];unfold P.ai0
 rw[aax hf,kg,decide_eq_true hf,jv,oq,dh (by omega),dh (by omega),dh (by unfold szF;omega),pq t A K ht (by omega),P.awp];unfold P.ark P.cc0 P.cbm P.cfi
 refine u7 (fun j=>(sig,pub,(j:Int),(Bb j).map (cdF n sh pub a A t sig),(n:Int),H,D,(A:Int),(K:Int),sh,a,um t (A:Int) (K:Int))) K rfl (fun j hj next hnx=>?_) (fun next=>?_) (by omega)
 ·have hix:=bsa (A:=A) t hj
  have hj1:(j+1)*(n*(A+1))≤K*(n*(A+1)):=Aa hj (Aq _)
  have e1:(j+1)*(n*(A+1))=j*(n*(A+1))+n*(A+1):=by rw[Aw,A8]
  have hKs:K*(n*(A+1))≤40*(32*15):=Aa hK hsz
  have hjn:j*n≤40*32:=Aa (by omega) hn
  have hnA:n≤n*(A+1):=Au _ (by omega)
  have hpl:(ptF n A sig j).length=sig.length-j*(n*(A+1)):=Af
  have eJ:Ad.wrap (Ad.wrap ((j:Int)*(n:Int))*Ad.wrap ((A:Int)+1))=((j*(n*(A+1)):Nat):Int):=by
   rw[←Aj,l7 (x:=((j*n:Nat):Int)) (by omega) (by omega),l7 (x:=(A:Int)+1) (by omega) (by omega),show (A:Int)+1=((A+1:Nat):Int) by omega,←Aj,Ao,l7 (by omega) (by omega)]
  simp only[P.aj2,d1,toNat_cast,eJ,Ah,Ag]
  rw[show sig.drop (j*(n*(A+1)))=ptF n A sig j from rfl,bf (by omega),bn (by omega),bf (by omega),bf (by omega),bf (by omega),bf (by omega),bf (by omega),d2 j hj,b1o t j (by omega) (by omega)]
  rw[show P.aac (ρ:=ρ) a 3 0 ((ixF A t j:Nat):Int)=P.aac a ((3:Nat):Int) ((0:Nat):Int) ((ixF A t j:Nat):Int) from rfl,aac hf hp np la ha 3 0 _ (by omega) (by omega) (by omega),show ahx (ahx (ofA a 3) 4 0) 5 (ixF A t j)=ktA a 0 (ixF A t j) from rfl,bf (by omega),bf (by omega),
   su hf sh pub hp np _ _ (bat la _ _) (blc ha _ _) (show In 256 ((ptF n A sig j).take n) from (hsig.drop _).take _) (by rw[Ae];omega),P.auy]
  unfold P.aoe P.cei P.cbn P.ci8
  refine u7 (fun z=>(sig,pub,(j:Int),((ixF A t j:Nat):Int),ptF n A sig j,upF n sh pub a (ixF A t j) (ptF n A sig j) z,(z:Int),um t (A:Int) (K:Int),a,(n:Int),H,D,(A:Int),(K:Int),sh,(Bb j).map (cdF n sh pub a A t sig))) A rfl (fun z hz next2 hnx2=>?_) (fun next2=>?_) (by omega)
  ·generalize hpt:ptF n A sig j=part at hpl hnx2
   have ip:In 256 part:=by rw[←hpt];exact hsig.drop _
   generalize hi0:ixF A t j=i at hix hnx2
   have hd:=Al i (2^z)
   have hd2:=Al i (2^(z+1))
   have hz2:n*(z+2)≤n*(A+1):=Aa (Aq _) (by omega)
   have hz1:n*(z+1)≤n*(A+1):=Aa (Aq _) (by omega)
   have e2:n*(z+2)=n*(z+1)+n:=by rw[Nat.mul_add n (z+1) 1,Nat.mul_one]
   have eA:Ad.wrap ((n:Int)*Ad.wrap ((z:Int)+1))=((n*(z+1):Nat):Int):=by
    rw[l7 (x:=(z:Int)+1) (by omega) (by omega),show (z:Int)+1=((z+1:Nat):Int) by omega,←Aj,l7 (by omega) (by omega)]
   have eB:Ad.wrap ((n:Int)*Ad.wrap ((z:Int)+2))=((n*(z+2):Nat):Int):=by
    rw[l7 (x:=(z:Int)+2) (by omega) (by omega),show (z:Int)+2=((z+2:Nat):Int) by omega,←Aj,l7 (by omega) (by omega)]
   have es:List.drop (n*(z+1)) (List.take (n*(z+2)) part)=(part.drop ((z+1)*n)).take n:=by rw[Ar,e2,Az,Am]
   have lu:=bfg hn sh pub a i part z
   have iu:=bth n sh pub a i part z
   have is':In 256 ((part.drop ((z+1)*n)).take n):=(ip.drop _).take _
   have ls':((part.drop ((z+1)*n)).take n).length≤n:=by rw[Ae];omega
   have em:((i/2^z:Nat):Int).tmod 2=((i/2^z%2:Nat):Int):=by rw[Int.tmod_eq_emod_of_nonneg (Int.natCast_nonneg _)];rfl
   have f1:[upF n sh pub a i part z,(part.drop ((z+1)*n)).take n].flatten=upF n sh pub a i part z++(part.drop ((z+1)*n)).take n:=by simp
   have f2:[(part.drop ((z+1)*n)).take n,upF n sh pub a i part z].flatten=(part.drop ((z+1)*n)).take n++upF n sh pub a i part z:=by simp
   simp only[P.aii,eA,eB,toNat_cast,es]
   rw[bf (by omega),bf (by omega),bf (by omega),bf (by omega),iy _ (by simp) (by rw[f1,Ab];omega),f1,bn (by omega),fdiv_pow _ _ _ (by omega),em]
   rw[upF] at hnx2
   by_cases hb:i/2^z%2=1
   ·rw[if_pos hb] at hnx2
    rw[hb,eu (by omega),iy _ (by simp) (by rw[f2,Ab];omega),f2,l7 (x:=(z:Int)+1) (by omega) (by omega),show (z:Int)+1=((z+1:Nat):Int) by omega,bn (by omega),toNat_cast,fdiv_pow _ _ _ (by omega),show P.aac (ρ:=ρ) a 3 ((z+1:Nat):Int) ((i/2^(z+1):Nat):Int)=P.aac a ((3:Nat):Int) ((z+1:Nat):Int) ((i/2^(z+1):Nat):Int) from rfl,aac hf hp np la ha 3 (z+1) _ (by omega) (by omega) (by omega),show ahx (ahx (ofA a 3) 4 (z+1)) 5 (i/2^(z+1))=ktA a (z+1) (i/2^(z+1)) from rfl,
     su hf sh pub hp np _ _ (bat la _ _) (blc ha _ _) (is'.app iu) (by rw[Ab];omega)]
    exact hnx2
   ·rw[if_neg hb] at hnx2
    rw[show i/2^z%2=0 by omega,gq (by omega),l7 (x:=(z:Int)+1) (by omega) (by omega),show (z:Int)+1=((z+1:Nat):Int) by omega,bn (by omega),toNat_cast,fdiv_pow _ _ _ (by omega),show P.aac (ρ:=ρ) a 3 ((z+1:Nat):Int) ((i/2^(z+1):Nat):Int)=P.aac a ((3:Nat):Int) ((z+1:Nat):Int) ((i/2^(z+1):Nat):Int) from rfl,aac hf hp np la ha 3 (z+1) _ (by omega) (by omega) (by omega),show ahx (ahx (ofA a 3) 4 (z+1)) 5 (i/2^(z+1))=ktA a (z+1) (i/2^(z+1)) from rfl,
     su hf sh pub hp np _ _ (bat la _ _) (blc ha _ _) (iu.app is') (by rw[Ab];omega)]
    exact hnx2
  ·simp only[P.aii]
   rw[bn (by omega),bf (by simp;omega),l7 (by omega) (by omega)]
   rw[←wo] at hnx
   exact hnx
 ·have hm:K*n≤40*32:=Aa (by omega) hn
  simp only[P.aj2]
  rw[bn (by omega),ak8 hf sh hp np la ha _ (by simp;omega) (by rw[aby];exact aq6 (T:=cdF n sh pub a A t sig) (fun i=>bth _ _ _ _ _ _ _) _) (by rw[aby,hl];omega),aby]
end Q
end

section
/- fors: what any signature is; what is signed leads to the tops. -/
namespace Q
open QK
open Go Go.Abs
end Q
end

section
/- mac: digests with keys, and keys that grow, by the program. -/
namespace Q
open QK
open Go Go.Abs
theorem b5x{kd:Int}(h:1≤kd∧kd≤5):(([0,0,32,64,48,128,64,128,32,136,64,72,32,168,64,136]:List Int).getD (kd.toNat*2+1) 0)=((bk kd:Nat):Int):=by
 have:kd=1∨kd=2∨kd=3∨kd=4∨kd=5:=by omega
 rcases this with rfl | rfl | rfl | rfl | rfl<;>decide
theorem agt{kd:Int}(h:1≤kd∧kd≤5)(key:List Int)(hk:In 256 key)(nk:key.length≤100000){ρ:Type}(k:Int→List Int→List Int→Option ρ):P.agt kd key k=k kd (bfo (b5f kd key) (bk kd) 92) (bfo (b5f kd key) (bk kd) 54):=by
 have hK:K7 kd:=K7.of (by omega)
 have h2:=b4f hK
 have hd:=avx hK
 rw[P.bek];unfold P.as1
 rw[bji,bf (by omega),bf (by omega),bf (by omega),b5x h]
 unfold b5f
 by_cases hg:bk kd<key.length
 ·rw[bf (by omega),if_pos hg,az7 hK [key] (by simp) (by simpa using hk) (by simp;omega)]
  have e:[key].flatten=key:=by simp
  rw[e,wh _ _ _ (by rw[ah1 hK];omega) (by omega),wh _ _ _ (by rw[ah1 hK];omega) (by omega)]
 ·rw[bn (by omega),if_neg hg,wh _ _ _ (by omega) (by omega),wh _ _ _ (by omega) (by omega)]
theorem keyed{kd:Int}{ρ:Type}(k:Bool→Option ρ):P.ahd kd k=k (decide (1≤kd∧kd≤5)):=by
 rw[P.bcu];unfold P.aqh
 by_cases h1:kd≥1
 ·rw[bf h1]
  congr 1
  exact decide_eq_decide.2 ⟨fun h=>⟨h1,h⟩,fun h=>h.2⟩
 ·rw[bn h1,decide_eq_false (fun h=>h1 h.1)]
theorem ahp{kd:Int}(h:1≤kd∧kd≤5)(key b:List Int)(hk:In 256 key)(hb:In 256 b)(nk:key.length≤100000)(nb:b.length≤900000){ρ:Type}(k:List Int→Int→Option ρ):P.ahp kd key b k=k (hmc kd key b) 0:=by
 have hK:K7 kd:=K7.of (by omega)
 have h2:=b4f hK
 rw[P.bgi];unfold P.atj
 rw[keyed,decide_eq_true h,jv,oq,agt h key hk nk,b45 hK [b] (by simp) (by simpa using hb) (by simp;omega) _ _ (bm3 _ _ _) (bm3 _ _ _) (by rw[ap5];omega) (by rw[ap5];omega)]
 simp[hmc]
theorem hm1:(hmc 1 [] []).take 4=[182,19,103,154]:=by decide +kernel
end Q
end

section
/- slh: digests, and what they tell, by the program. -/
namespace Q
open QK
open Go Go.Abs
theorem maskN(w:Nat)(hw:w≤64):Ai.wrap (Ai.wrap ((1:Int)*(2:Int)^min w 64)-(1:Int))=((2^w-1:Nat):Int):=by
 by_cases h4:w=64
 ·subst h4;rfl
 ·have h2:2^w≤2^63:=Ac (by omega) (by omega)
  have h1:=Ak w
  rw[Nat.min_eq_left (by omega),Int.one_mul,show ((2:Int)^w)=((2^w:Nat):Int) by simp,ad3 _ (by omega),show ((2^w:Nat):Int)-(1:Int)=((2^w-1:Nat):Int) by omega,ad3 _ (by omega)]
theorem bvd(x w:Nat)(hx:x<18446744073709551616)(hw:w≤64):bits .and .u64 (x:Int) (Ai.wrap (Ai.wrap ((1:Int)*(2:Int)^min w 64)-(1:Int)))=((x%2^w:Nat):Int):=by
 have h2:2^w≤2^64:=Ac (by omega) hw
 rw[maskN w hw,apr _ _ hx (by omega),Nat.and_two_pow_sub_one_eq_mod]
def by8(w:Nat):Nat:=(w+7)/8
theorem aqs{w:Nat}(h:w≤64):by8 w≤8:=by unfold by8;omega
theorem bum(w:Nat)(hw:w≤100000):Ad.wrap ((Ad.wrap ((w:Int)+(7:Int))).tdiv (8:Int))=((by8 w:Nat):Int):=by
 rw[l7 (x:=(w:Int)+7) (by omega) (by omega),Ap (by omega),l7 (by omega) (by omega)]
 unfold by8
 omega
def nbW(b:List Int)(w:Nat):Nat:=T 8 (b.take (by8 w)).reverse%2^w
theorem b1u(b:List Int)(w:Nat):nbW b w<2^w:=Nat.mod_lt _ (Ak w)
theorem bfq(b:List Int)(w:Nat)(hw:w≤64):T 8 (b.take (by8 w)).reverse<18446744073709551616:=by
 have h1:=b5i 8 (b.take (by8 w)).reverse
 have h8:=aqs hw
 have h2:8*((b.take (by8 w)).reverse).length≤64:=by rw[List.length_reverse,Ae];omega
 have h3:2^(8*((b.take (by8 w)).reverse).length)≤2^64:=Ac (by omega) h2
 omega
theorem bo1(b:List Int)(hb:In 256 b)(hbl:b.length≤1000000)(w:Nat)(hw:w≤64)(hl:by8 w≤b.length){ρ:Type}(k:Int→List Int→Option ρ):P.aaq b (w:Int) k=k ((nbW b w:Nat):Int) (b.drop (by8 w)):=by
 have ht:=bfq b w hw
 have h8:=aqs hw
 rw[P.ay5];unfold P.anl
 rw[bum w (by omega),bf (by omega),bf (by omega),toNat_cast,Ag,wz _ (hb.take _) (by rw[Ae];omega),Ay ht,bn (by omega),bf (by omega),bf (by omega),bf (by omega),toNat_cast,toNat_cast,Ah,bvd _ w ht hw]
 rfl
def kdS(n:Nat):Int:=if n=16 then 1 else 3
theorem bvx(n:Nat):1≤kdS n∧kdS n≤3:=by unfold kdS;split<;>omega
theorem dlS{n:Nat}(hn:n=16∨n=24∨n=32):n≤dl (kdS n):=by
 rcases hn with rfl | rfl | rfl<;>decide
def bu6(n:Nat)(sh:Bool)(drawer rnd text:List Int):List Int:=if sh then bxs 7 (drawer++(rnd++text)) n else (hmc (kdS n) drawer (rnd++text)).take n
def bua(n:Nat)(sh:Bool)(size:Nat)(r pub text:List Int):List Int :=
 if sh then bxs 7 (r++(pub++text)) size else grow (maT (kdS n) (r++(pub.take n++dig (kdS n) (r++(pub++text))))) (dl (kdS n)) size
theorem K7S(n:Nat):K7 (kdS n):=K7.of (by have:=bvx n;omega)
theorem azv(n:Nat)(sh:Bool)(size:Nat)(r pub text:List Int):(bua n sh size r pub text).length=size:=by
 unfold bua
 have:=avx (K7S n)
 split
 ·exact bd3 _ _ _
 ·exact b0s (fun i=>ah1 (K7S n) _) (by omega) _
theorem bq6(n:Nat)(sh:Bool)(size:Nat)(r pub text:List Int):In 256 (bua n sh size r pub text):=by
 unfold bua
 split
 ·exact bmf _ _ _
 ·exact (aq6 (fun i=>beu _ _) _).take _
theorem apc{n:Nat}(hn:n=16∨n=24∨n=32)(sh:Bool)(drawer rnd text:List Int):(bu6 n sh drawer rnd text).length=n:=by
 have:=dlS hn
 unfold bu6
 split
 ·exact bd3 _ _ _
 ·rw[Ae,bq1 (K7S n)];omega
theorem az6(n:Nat)(sh:Bool)(drawer rnd text:List Int):In 256 (bu6 n sh drawer rnd text):=by
 unfold bu6
 split
 ·exact bmf _ _ _
 ·exact (cac _ _ _).take _
theorem rz(a b c:List Int):[a,b,c].flatten=a++(b++c):=by simp
theorem bd4(a b:List Int):[a,b].flatten=a++b:=by simp
theorem b3v(n:Nat)(hn:n≤32)(H D A K:Int)(s:Bool)(drawer rnd text:List Int)(h1:In 256 drawer)(h2:In 256 rnd)(h3:In 256 text)(l1:drawer.length≤100000)(l2:rnd.length≤100000)(l3:text.length≤100000){ρ:Type}(k:List Int→Option ρ) :
    P.ql drawer rnd text (n:Int) H D A K s k=k (bu6 n true drawer rnd text):=by
 rw[P.arl];unfold P.ain
 rw[P.ajr];unfold P.afa
 rw[jc _ (by simp) (by rw[rz];simp;omega),rz,zw (by omega) _ (by simp;omega) n (by omega)]
 rfl
theorem b4b{n:Nat}(hn:n=16∨n=24∨n=32)(H D A K:Int)(s:Bool)(drawer rnd text:List Int)(h1:In 256 drawer)(h2:In 256 rnd)(h3:In 256 text)(l1:drawer.length≤100000)(l2:rnd.length≤100000)(l3:text.length≤100000){ρ:Type}(k:List Int→Option ρ) :
    P.qo drawer rnd text (kdS n) (n:Int) H D A K s k=k (bu6 n false drawer rnd text):=by
 have hd:=dlS hn
 have h3':=bvx n
 have hl:=bq1 (K7S n) drawer (rnd++text)
 rw[P.aqt];unfold P.ais
 rw[jc _ (by simp) (by rw[bd4];simp;omega),bd4,ahp (by omega) _ _ h1 (h2.app h3) l1 (by rw[Ab];omega),bf (by omega),bf (by omega),Ag,Int.sub_zero,toNat_cast]
 rfl
theorem b7a(n size:Nat)(hs:size≤10000)(r pub text:List Int)(h1:In 256 r)(h2:In 256 pub)(h3:In 256 text)(l1:r.length≤100000)(l2:pub.length≤100000)(l3:text.length≤100000){ρ:Type}(k:List Int→Option ρ) :
    P.qm (size:Int) r pub text k=k (bua n true size r pub text):=by
 rw[P.aq4];unfold P.aij
 rw[P.ajr];unfold P.afa
 rw[jc _ (by simp) (by rw[rz];simp;omega),rz,zw (by omega) _ (by simp;omega) size (by omega)]
 rfl
theorem b93{n:Nat}(hn:n=16∨n=24∨n=32)(size:Nat)(hs:size≤10000)(H D A K:Int)(s:Bool)(r pub text:List Int)(h1:In 256 r)(h2:In 256 pub)(h3:In 256 text)(l1:r.length≤40000)(l2:pub.length≤40000)(np:n≤pub.length)(l3:text.length≤100000){ρ:Type}(k:List Int→Option ρ) :
    P.qj (size:Int) r pub text (kdS n) (n:Int) H D A K s k=k (bua n false size r pub text):=by
 have h3':=bvx n
 have hK:=K7S n
 have hdp:=avx hK
 have hdl:=ah1 hK (r++(pub++text))
 rw[P.aqv];unfold P.ait
 rw[jc _ (by simp) (by rw[rz];simp;omega),rz,aad hK _ (h1.app (h2.app h3)) (by simp;omega),bf (by omega),bf (by omega),toNat_cast,Ag,jc _ (by simp) (by rw[rz];simp;omega),rz,
  ag6 h3' _ (h1.app ((h2.take _).app (beu _ _))) (by simp;omega) size hs]
 rfl
def bp2(text beside:List Int):List Int:=[0,((beside.length%256:Nat):Int)]++(beside++text)
theorem bxr(text beside:List Int)(h1:In 256 text)(h2:In 256 beside):In 256 (bp2 text beside):=by
 refine In.app (fun y hy=>?_) (h2.app h1)
 simp at hy
 omega
theorem bsv(text beside:List Int):(bp2 text beside).length=2+(beside.length+text.length):=by simp[bp2];omega
theorem u8L(n:Nat):IntKind.u8.wrap (n:Int)=((n%256:Nat):Int):=by rw[u8m];omega
theorem bse(text beside:List Int)(h1:text.length≤100000)(h2:beside.length≤100000){ρ:Type}(k:List Int→Option ρ):P.adl text beside k=k (bp2 text beside):=by
 rw[P.bb4];unfold P.ao1
 rw[u8L,jc _ (by simp) (by rw[rz];simp;omega),rz]
 rfl
def plS(tree leaf:Nat):List Int:=ahx (ahx (ahx Z32 1 tree) 2 3) 3 leaf
theorem bmz(tree leaf:Nat):(plS tree leaf).length=32:=jg (jg (jg rfl _ _) _ _) _ _
theorem bsp(tree leaf:Nat):In 256 (plS tree leaf):=uo (uo (uo b1f _ _) _ _) _ _
theorem bti(t:List Int)(tree leaf:Nat)(h1:tree<18446744073709551616)(h2:leaf<18446744073709551616){ρ:Type}(k:List Int→Option ρ):P.o8 t (tree:Int) (leaf:Int) k=k (plS tree leaf):=by
 rw[P.aot];unfold P.ahf
 rw[show P.dz (ρ:=ρ) [0,0,0,0,0,0,0,0,0,0,0,0,0,0,0,0,0,0,0,0,0,0,0,0,0,0,0,0,0,0,0,0]=P.dz Z32 from rfl,dz rfl 1 tree h1,show (3:Int)=((3:Nat):Int) from rfl,dz (jg rfl _ _) 2 3 (by omega),dz (jg (jg rfl _ _) _ _) _ leaf h2]
 rfl
def bic(n:Nat)(sh:Bool)(A K r h:Nat)(R pub all:List Int):List Int:=(bua n sh (txF A K+by8 r+by8 h) R pub all).take (txF A K)
def bdx(n:Nat)(sh:Bool)(A K r h:Nat)(R pub all:List Int):Nat:=nbW ((bua n sh (txF A K+by8 r+by8 h) R pub all).drop (txF A K)) r
def bdq(n:Nat)(sh:Bool)(A K r h:Nat)(R pub all:List Int):Nat:=nbW (((bua n sh (txF A K+by8 r+by8 h) R pub all).drop (txF A K)).drop (by8 r)) h
end Q
end

section
/- slh: what a digest tells; signatures, by the program. -/
namespace Q
open QK
open Go Go.Abs
structure Ks (n:Nat) (H D A K h r:Nat):Prop where
 kd:Kd n H D A K h
 hr:H=h+r
 r64:r≤64
section
variable {n H D A K h r:Nat}
theorem Ks.f(ks:Ks n H D A K h r):aak n H D A K:=ks.kd.1
theorem Ks.n3(ks:Ks n H D A K h r):n=16∨n=24∨n=32:=by have:=ks.f;unfold aak at this;omega
theorem Ks.nums(ks:Ks n H D A K h r):1≤D∧D≤68∧H≤68∧1≤A∧A≤14∧1≤K∧K≤40∧h≤9∧n≤32:=by
 have:=ks.f
 have h2:=ks.kd.h
 have h3:=ks.kd.n
 unfold aak at this
 omega
theorem bnm(ks:Ks n H D A K h r):txF A K≤71:=by
 obtain ⟨_,_,_,_,a2,_,k2,_,_⟩:=ks.nums
 unfold txF
 have:K*A≤40*14:=Aa k2 a2
 omega
theorem bsl(n:Nat)(sh:Bool)(A K r h:Nat)(R pub all:List Int):(bic n sh A K r h R pub all).length=txF A K:=by
 unfold bic
 rw[Ae,azv]
 omega
theorem byr(n:Nat)(sh:Bool)(A K r h:Nat)(R pub all:List Int):In 256 (bic n sh A K r h R pub all):=(bq6 _ _ _ _ _ _).take _
theorem bpv(ks:Ks n H D A K h r)(sh:Bool)(R pub all:List Int){ρ:Type}(k:List Int→Int→Int→Option ρ)(dg:List Int)(hdg:dg=bua n sh (txF A K+by8 r+by8 h) R pub all) :
    (P.aaq (dg.drop (txF A K)) (r:Int) fun (q3:Int) (q4:List Int)=>P.aaq q4 (h:Int) fun (q5:Int) (q6:List Int)=>k (dg.take (txF A K)) q3 q5)=k (bic n sh A K r h R pub all) ((bdx n sh A K r h R pub all:Nat):Int) ((bdq n sh A K r h R pub all:Nat):Int):=by
 obtain ⟨_,_,_,_,_,_,_,h9,_⟩:=ks.nums
 have ht:=bnm ks
 have r64:=ks.r64
 have b1:=aqs r64
 have b2:=aqs (w:=h) (by omega)
 have hl:dg.length=txF A K+by8 r+by8 h:=by rw[hdg,azv]
 have hi:In 256 dg:=by rw[hdg];exact bq6 _ _ _ _ _ _
 rw[bo1 _ (hi.drop _) (by rw[Af];omega) r r64 (by rw[Af];omega),bo1 _ ((hi.drop _).drop _) (by rw[Af,Af];omega) h (by omega) (by rw[Af,Af];omega)]
 unfold bic bdx bdq
 rw[←hdg]
theorem bqc(ks:Ks n H D A K h r):Ad.wrap (Ad.wrap (((txF A K:Nat):Int)+((by8 r:Nat):Int))+((by8 h:Nat):Int))=((txF A K+by8 r+by8 h:Nat):Int):=by
 have ht:=bnm ks
 obtain ⟨_,_,_,_,_,_,_,h9,_⟩:=ks.nums
 have b1:=aqs ks.r64
 have b2:=aqs (w:=h) (by omega)
 rw[l7 (x:=((txF A K:Nat):Int)+((by8 r:Nat):Int)) (by omega) (by omega),l7 (by omega) (by omega)]
 omega
theorem bro(ks:Ks n H D A K h r):Ad.wrap ((H:Int)-Ad.wrap ((H:Int).tdiv (D:Int)))=(r:Int):=by
 have:=ks.hr
 have:=ks.r64
 have:=ks.nums
 rw[ks.kd.2,show (H:Int)-(h:Int)=(r:Int) by omega,l7 (by omega) (by omega)]
theorem b8e(ks:Ks n H D A K h r)(s:Bool)(dw:Nat)(c1 c2 c3 c4 c5:Int)(c6:Bool)(d0 d1 d2 d3 d4 d5:Int)(d6:Bool)(e0 e1 e2 e3 e4 e5:Int)(e6:Bool)(R pub all:List Int)(h1:In 256 R)(h2:In 256 pub)(h3:In 256 all)(l1:R.length≤40000)(l2:pub.length≤40000)(l3:all.length≤100000){ρ:Type}(k:List Int→Int→Int→Option ρ) :
    P.qp n H D A K s dw c1 c2 c3 c4 c5 c6 d0 d1 d2 d3 d4 d5 d6 1 e0 e1 e2 e3 e4 e5 e6 R pub all k=k (bic n true A K r h R pub all) ((bdx n true A K r h R pub all:Nat):Int) ((bdq n true A K r h R pub all:Nat):Int):=by
 have ht:=bnm ks
 obtain ⟨_,_,_,_,_,_,_,h9,_⟩:=ks.nums
 have b1:=aqs ks.r64
 have b2:=aqs (w:=h) (by omega)
 have hl:=azv n true (txF A K+by8 r+by8 h) R pub all
 rw[P.ags];unfold P.ac7
 rw[ku ks.f,bn ks.kd.d,bf rfl,bro ks,ks.kd.2,bum r (by have:=ks.r64;omega),bum h (by omega),bqc ks,b7a n _ (by omega) R pub all h1 h2 h3 (by omega) (by omega) l3,
  bf (by omega),bf (by omega),bf (by omega),bf (by omega),bf (by omega),toNat_cast,A9 (by rw[Af];omega)]
 rw[show (((txF A K:Nat):Int)-(0:Int)).toNat=txF A K by omega,Ag]
 exact bpv ks true R pub all k _ rfl
theorem b8p(ks:Ks n H D A K h r)(s:Bool)(dw:Nat)(c1 c2 c3 c4 c5:Int)(c6:Bool)(d0 d1 d2 d3 d4 d5:Int)(d6:Bool)(e2 e3 e4 e5:Int)(e6:Bool)(R pub all:List Int)(h1:In 256 R)(h2:In 256 pub)(h3:In 256 all)(l1:R.length≤40000)(l2:pub.length≤40000)(np:n≤pub.length)(l3:all.length≤100000){ρ:Type}(k:List Int→Int→Int→Option ρ) :
    P.qp n H D A K s dw c1 c2 c3 c4 c5 c6 d0 d1 d2 d3 d4 d5 d6 2 (kdS n) n e2 e3 e4 e5 e6 R pub all k=k (bic n false A K r h R pub all) ((bdx n false A K r h R pub all:Nat):Int) ((bdq n false A K r h R pub all:Nat):Int):=by
 have ht:=bnm ks
 obtain ⟨_,_,_,_,_,_,_,h9,_⟩:=ks.nums
 have b1:=aqs ks.r64
 have b2:=aqs (w:=h) (by omega)
 have hl:=azv n false (txF A K+by8 r+by8 h) R pub all
 rw[P.ags];unfold P.ac7
 rw[ku ks.f,bn ks.kd.d,bn (by omega),bf rfl,bro ks,ks.kd.2,bum r (by have:=ks.r64;omega),bum h (by omega),bqc ks,b93 ks.n3 _ (by omega) _ _ _ _ _ R pub all h1 h2 h3 l1 l2 np l3,
  bf (by omega),bf (by omega),bf (by omega),bf (by omega),bf (by omega),toNat_cast,toNat_cast,Ah,Ag]
 exact bpv ks false R pub all k _ rfl
theorem b1b(n H D A K:Int){ρ:Type}(k:Int→Int→Int→Int→Int→Bool→Nat→Int→Int→Int→Int→Int→Bool→Int→Int→Int→Int→Int→Int→Bool→Nat→Int→Int→Int→Int→Int→Int→Bool→Option ρ) :
    P.acv n H D A K true k=k n H D A K true 1 n H D A K true 0 0 0 0 0 0 false 1 0 0 0 0 0 0 false:=by
 rw[P.atu];unfold P.akj
 rw[oq,P.azf];unfold P.an0
 rfl
theorem bzj(n:Nat)(H D A K:Int){ρ:Type}(k:Int→Int→Int→Int→Int→Bool→Nat→Int→Int→Int→Int→Int→Bool→Int→Int→Int→Int→Int→Int→Bool→Nat→Int→Int→Int→Int→Int→Int→Bool→Option ρ) :
    P.acv n H D A K false k=k n H D A K false 2 0 0 0 0 0 false (kdS n) n H D A K false 2 (kdS n) n H D A K false:=by
 rw[P.atu];unfold P.akj
 rw[w9,P.azo];unfold P.anq kdS
 by_cases e:n=16
 ·subst e;rw[eu (by decide),if_pos rfl]
 ·rw[gq (by omega),if_neg e]
def sgZ(n D A K h:Nat):Nat:=n+szF n A K+D*(n*(2*n+3+h))
theorem bsj(ks:Ks n H D A K h r):szF n A K≤20000∧D*(n*(2*n+3+h))≤166000:=by
 obtain ⟨_,d2,_,_,a2,_,k2,h9,n2⟩:=ks.nums
 have e1:n*(A+1)≤32*15:=Aa n2 (by omega)
 have e2:K*(n*(A+1))≤40*(32*15):=Aa k2 e1
 have e3:n*(2*n+3+h)≤32*76:=Aa n2 (by omega)
 have e4:D*(n*(2*n+3+h))≤68*(32*76):=Aa d2 e3
 unfold szF
 omega
theorem bbl(ks:Ks n H D A K h r)(sh:Bool){ρ:Type}(k:Int→Int→Int→Option ρ):P.adh n H D A K sh k=k ((2*n:Nat):Int) ((4*n:Nat):Int) ((sgZ n D A K h:Nat):Int):=by
 obtain ⟨z1,z2⟩:=bsj ks
 obtain ⟨_,d2,_,_,a2,_,k2,h9,n2⟩:=ks.nums
 rw[P.bcv];unfold P.apo
 rw[jy,decide_eq_true ks.f,jv,oq,ku ks.f,qh ks.kd,show (D:Int)*((n*(2*n+3+h):Nat):Int)=((D*(n*(2*n+3+h)):Nat):Int) by rw[Aj D]]
 unfold sgZ
 generalize D*(n*(2*n+3+h))=Y at *
 generalize szF n A K=X at *
 rw[l7 (x:=(2:Int)*(n:Int)) (by omega) (by omega),l7 (x:=(4:Int)*(n:Int)) (by omega) (by omega),l7 (x:=(Y:Int)) (by omega) (by omega),l7 (x:=(n:Int)+(X:Int)) (by omega) (by omega),l7 (by omega) (by omega)]
 congr 1
end
end Q
end

section
/- slh: kinds of numbers; what a digest tells, by the document. -/
namespace Q
open QK
open Go Go.Abs
section
variable {n H D A K h r:Nat}
theorem bjh(w:Nat)(hw:w≤100000){ρ:Type}(k:Int→Option ρ):P.ab9 (w:Int) k=k ((by8 w:Nat):Int):=by
 rw[P.avq];unfold P.ak0
 rw[bum w hw]
theorem bhk{s:Nat}(h:s≤63):Ai.wrap ((1:Int)*(2:Int)^min ((s:Nat):Int).toNat 64)=((2^s:Nat):Int):=by
 have h2:2^s≤2^63:=Ac (by omega) h
 rw[toNat_cast,Nat.min_eq_left (by omega),Int.one_mul,show ((2:Int)^s)=((2^s:Nat):Int) by simp,ad3 _ (by omega)]
theorem bo5(tree leaf:Nat)(h1:tree<18446744073709551616)(h2:leaf<18446744073709551616){ρ:Type}(k:List Int→Option ρ):P.afv (tree:Int) (leaf:Int) k=k (plS tree leaf):=by
 rw[P.bcy];unfold P.ap9
 rw[show P.jf (ρ:=ρ) [0,0,0,0,0,0,0,0,0,0,0,0,0,0,0,0,0,0,0,0,0,0,0,0,0,0,0,0,0,0,0,0]=P.jf Z32 from rfl,jf rfl 1 tree h1,show (3:Int)=((3:Nat):Int) from rfl,jf (jg rfl _ _) 2 3 (by omega),jf (jg (jg rfl _ _) _ _) _ leaf h2]
 rfl
theorem bng(text beside:List Int)(h1:text.length≤100000)(h2:beside.length≤100000){ρ:Type}(k:List Int→Option ρ):P.aht text beside k=k (bp2 text beside):=by
 rw[P.bcb];unfold P.ao8
 rw[u8L,iy _ (by simp) (by rw[rz];simp;omega),rz]
 rfl
theorem axf(n:Nat)(H D A K:Int)(s:Bool){ρ:Type}(k:Int→Option ρ):P.afb n H D A K s k=k (kdS n):=by
 rw[P.bf6];unfold P.atf kdS
 by_cases e:n=16
 ·subst e;rw[eu (by decide),if_pos rfl]
 ·rw[gq (by omega),if_neg e]
theorem brx{n:Nat}(hn:n=16∨n=24∨n=32)(H D A K:Int)(sh:Bool)(drawer rnd text:List Int)(h1:In 256 drawer)(h2:In 256 rnd)(h3:In 256 text)(l1:drawer.length≤100000)(l2:rnd.length≤100000)(l3:text.length≤100000){ρ:Type}(k:List Int→Option ρ) :
    P.akq n H D A K sh drawer rnd text k=k (bu6 n sh drawer rnd text):=by
 rw[P.bgn];unfold P.aue
 cases sh with
 | true =>
  rw[oq,iy _ (by simp) (by rw[rz];simp;omega),rz,abk (by omega) _ (by simp;omega) n (by omega)]
  rfl
 | false =>
  have hd:=dlS hn
  have h3':=bvx n
  have hl:=bq1 (K7S n) drawer (rnd++text)
  rw[w9,axf,iy _ (by simp) (by rw[bd4];simp;omega),bd4,ahr (by omega) _ _ h1 (h2.app h3) l1 (by rw[Ab];omega),bf (by omega),bf (by omega),Ag,Int.sub_zero,toNat_cast]
  rfl
theorem bln(ks:Ks n H D A K h r)(sh:Bool)(R pub all:List Int)(h1:In 256 R)(h2:In 256 pub)(h3:In 256 all)(l1:R.length≤40000)(l2:pub.length≤40000)(np:n≤pub.length)(l3:all.length≤100000){ρ:Type}(k:List Int→Int→Int→Option ρ) :
    P.ae6 n H D A K sh R pub all k=k (bic n sh A K r h R pub all) ((bdx n sh A K r h R pub all:Nat):Int) ((bdq n sh A K r h R pub all:Nat):Int):=by
 have ht:=bnm ks
 obtain ⟨_,_,_,_,_,_,_,h9,_⟩:=ks.nums
 have r64:=ks.r64
 have b1:=aqs r64
 have b2:=aqs (w:=h) (by omega)
 have hl:=azv n sh (txF A K+by8 r+by8 h) R pub all
 have hi:=bq6 n sh (txF A K+by8 r+by8 h) R pub all
 have etr:Ad.wrap (((txF A K:Nat):Int)+((by8 r:Nat):Int))=((txF A K+by8 r:Nat):Int):=by
  rw[l7 (by omega) (by omega)];omega
 have hph:2^h≤2^9:=Ac (by omega) h9
 have hph0:=Ak h
 have hpr0:=Ak r
 rw[P.ayk];unfold P.anv
 rw[bn ks.kd.d,aax ks.f,bro ks,ks.kd.2,bjh r (by omega),bjh h (by omega),bqc ks,etr]
 have fin:∀dg:List Int,dg=bua n sh (txF A K+by8 r+by8 h) R pub all →
     (P.wm ((dg.drop (txF A K)).take (by8 r)) fun (q7:Int)=>br (decide ((r:Int)<(64:Int))) (P.wm ((dg.drop (txF A K+by8 r)).take (by8 h)) fun (q8:Int)=>k (dg.take (txF A K)) (q7.tmod (Ai.wrap ((1:Int)*(2:Int)^min ((r:Nat):Int).toNat 64))) (q8.tmod ((2^h:Nat):Int)))
      (P.wm ((dg.drop (txF A K+by8 r)).take (by8 h)) fun (q8:Int)=>k (dg.take (txF A K)) q7 (q8.tmod ((2^h:Nat):Int))))=k (bic n sh A K r h R pub all) ((bdx n sh A K r h R pub all:Nat):Int) ((bdq n sh A K r h R pub all:Nat):Int):=by
  intro dg hdg
  rw[←hdg] at hl hi
  have t1:=bfq (dg.drop (txF A K)) r r64
  have t2:=bfq (dg.drop (txF A K+by8 r)) h (by omega)
  have n1:∀(k:Int→Option ρ),P.wm ((dg.drop (txF A K)).take (by8 r)) k=k ((T 8 ((dg.drop (txF A K)).take (by8 r)).reverse:Nat):Int):=fun k=>by
   rw[wm _ ((hi.drop _).take _) (by rw[Ae];omega),Ay t1]
  have n2:∀(k:Int→Option ρ),P.wm ((dg.drop (txF A K+by8 r)).take (by8 h)) k=k ((T 8 ((dg.drop (txF A K+by8 r)).take (by8 h)).reverse:Nat):Int):=fun k=>by
   rw[wm _ ((hi.drop _).take _) (by rw[Ae];omega),Ay t2]
  unfold bic bdx bdq nbW
  rw[←hdg,Ba,n1]
  by_cases r4:r<64
  ·rw[bf (by omega),n2,bhk (by omega),tmN,tmN]
  ·have:r=64:=by omega
   subst this
   rw[bn (by omega),n2,tmN,Ay (show T 8 ((dg.drop (txF A K)).take (by8 64)).reverse<2^64 by omega)]
 cases sh with
 | true =>
  have hdg:bxs 7 (R++(pub++all)) (txF A K+by8 r+by8 h)=bua n true (txF A K+by8 r+by8 h) R pub all:=rfl
  rw[←hdg] at hl
  have fin':=fin _ hdg
  rw[oq,iy _ (by simp) (by rw[rz];simp;omega),rz,abk (by omega) _ (by simp;omega) _ (by omega)]
  generalize bxs 7 (R++(pub++all)) (txF A K+by8 r+by8 h)=dg at hl fin' ⊢
  rw[←fin',bf (by omega),bf (by omega),bf (by omega),show (((txF A K+by8 r:Nat):Int)-((txF A K:Nat):Int)).toNat=by8 r by omega,toNat_cast]
  congr 1
  funext q7
  rw[show ((dg.length:Int)-((txF A K+by8 r:Nat):Int)).toNat=by8 h by omega,toNat_cast,show (((txF A K:Nat):Int)-(0:Int)).toNat=txF A K by omega,Ag,toNat_cast,bhk (s:=h) (by omega)]
  by_cases r4:r<64
  ·have hpr:2^r≤2^63:=Ac (by omega) (by omega)
   rw[bf (by omega),bn (by omega),bn (by rw[show (r:Nat)=((r:Nat):Int).toNat by rw[toNat_cast],bhk (by omega)];omega),bf (by omega),bf (by omega),bf (by omega),bf (by omega),bf (by omega),bf (by omega)]
   congr 1
   funext q8
   rw[bn (by omega),bn (by omega)]
  ·rw[bn (by omega),bf (by omega),bf (by omega),bf (by omega),bf (by omega),bf (by omega),bn (by omega)]
   congr 1
   funext q8
   rw[bn (by omega),bn (by omega)]
 | false =>
  have h3':=bvx n
  have hK:=K7S n
  have hdp:=avx hK
  have hdl:=ah1 hK (R++(pub++all))
  have hsm:bu9 (kdS n) (R++(pub++all))=dig (kdS n) (R++(pub++all)):=by unfold dig;rw[if_pos h3'.2]
  have hdg:grow (maT (kdS n) (R++(pub.take n++dig (kdS n) (R++(pub++all))))) (dl (kdS n)) (txF A K+by8 r+by8 h)=bua n false (txF A K+by8 r+by8 h) R pub all:=rfl
  rw[←hdg] at hl
  have fin':=fin _ hdg
  rw[w9,axf,iy _ (by simp) (by rw[rz];simp;omega),rz,abr (by unfold kdS;split<;>simp[K3]) _ (h1.app (h2.app h3)) (by simp;omega),hsm,axf,bf (by omega),bf (by omega),toNat_cast,Ag,iy _ (by simp) (by rw[rz];simp;omega),rz,
   agl h3' _ (h1.app ((h2.take _).app (beu _ _))) (by simp;omega) _ (by omega)]
  generalize grow (maT (kdS n) (R++(pub.take n++dig (kdS n) (R++(pub++all))))) (dl (kdS n)) (txF A K+by8 r+by8 h)=dg at hl fin' ⊢
  rw[←fin',bf (by omega),bf (by omega),bf (by omega),toNat_cast,toNat_cast,Ar,Az]
  congr 1
  funext q7
  rw[toNat_cast dg.length,Ah,Ag,bhk (s:=h) (by omega),show (dg.drop (txF A K+by8 r)).take (by8 h)=dg.drop (txF A K+by8 r) from A9 (by rw[Af];omega)]
  by_cases r4:r<64
  ·have hpr:2^r≤2^63:=Ac (by omega) (by omega)
   rw[bf (by omega),bn (by omega),bn (by rw[bhk (by omega)];omega),bf (by omega),bf (by omega),bf (by omega),bf (by omega),bf (by omega),bf (by omega)]
   congr 1
   funext q8
   rw[bn (by omega),bn (by omega)]
  ·rw[bn (by omega),bf (by omega),bf (by omega),bf (by omega),bf (by omega),bf (by omega),bn (by omega)]
   congr 1
   funext q8
   rw[bn (by omega),bn (by omega)]
end
end Q
end

section
/- slh: signatures, and what verifies them. -/
namespace Q
open QK
open Go Go.Abs
section
variable {n H D A K h r:Nat}
theorem Ks.hr'(ks:Ks n H D A K h r):(H:Int)-(h:Int)=(r:Int):=by have:=ks.hr;omega
theorem bwu(n:Nat)(sh:Bool)(A K r h:Nat)(R pub all:List Int):bdx n sh A K r h R pub all<2^r:=b1u _ _
theorem bww(n:Nat)(sh:Bool)(A K r h:Nat)(R pub all:List Int):bdq n sh A K r h R pub all<2^h:=b1u _ _
def cgi(n:Nat)(priv:List Int):List Int:=priv.take n
def b6t(n:Nat)(priv:List Int):List Int:=(priv.drop n).take n
def cd9(n:Nat)(priv:List Int):List Int:=priv.drop (2*n)
def bi0(n:Nat)(sh:Bool)(A K r h:Nat)(sec p2 R all:List Int):List Int :=
 cat (sgF n sh (p2.take n) sec (plS (bdx n sh A K r h R p2 all) (bdq n sh A K r h R p2 all)) A (bic n sh A K r h R p2 all)) K
def buw(n:Nat)(sh:Bool)(A K r h:Nat)(p2 R all few:List Int):List Int :=
 kyF n sh (p2.take n) (plS (bdx n sh A K r h R p2 all) (bdq n sh A K r h R p2 all)) (cat (cdF n sh (p2.take n) (plS (bdx n sh A K r h R p2 all) (bdq n sh A K r h R p2 all)) A (bic n sh A K r h R p2 all) few) K)
def b3b(n:Nat)(sh:Bool)(A K r h D:Nat)(sec p2 R all key:List Int):List Int :=
 cat (hyS n sh (p2.take n) sec key (bdx n sh A K r h R p2 all) (bdq n sh A K r h R p2 all) h) D
def cdw(n:Nat)(sh:Bool)(A K r h D:Nat)(priv text beside rnd:List Int):List Int :=
 bu6 n sh (b6t n priv) rnd (bp2 text beside) ++
  (bi0 n sh A K r h (cgi n priv) (cd9 n priv) (bu6 n sh (b6t n priv) rnd (bp2 text beside)) (bp2 text beside) ++
   b3b n sh A K r h D (cgi n priv) (cd9 n priv) (bu6 n sh (b6t n priv) rnd (bp2 text beside)) (bp2 text beside)
    (buw n sh A K r h (cd9 n priv) (bu6 n sh (b6t n priv) rnd (bp2 text beside)) (bp2 text beside) (bi0 n sh A K r h (cgi n priv) (cd9 n priv) (bu6 n sh (b6t n priv) rnd (bp2 text beside)) (bp2 text beside))))
theorem bmi(ks:Ks n H D A K h r)(sh:Bool)(sec p2 R all:List Int):(bi0 n sh A K r h sec p2 R all).length=szF n A K:=by
 unfold bi0 szF
 rw[ab7 (fun i=>bqu ks.kd.n sh _ _ _ _ _ i)]
theorem bwv(sh:Bool)(sec p2 R all:List Int):In 256 (bi0 n sh A K r h sec p2 R all):=aq6 (fun i=>b5n _ _ _ _ _ _ _ _) _
theorem br9(ks:Ks n H D A K h r)(sh:Bool)(p2 R all few:List Int):(buw n sh A K r h p2 R all few).length=n:=b2w ks.kd.n _ _ _ _
theorem bxk(sh:Bool)(p2 R all few:List Int):In 256 (buw n sh A K r h p2 R all few):=afp _ _ _ _ _
theorem bll(ks:Ks n H D A K h r)(sh:Bool)(sec p2 R all key:List Int):(b3b n sh A K r h D sec p2 R all key).length=D*(n*(2*n+3+h)):=by
 unfold b3b
 rw[ab7 (bp6 ks.kd.n sh _ _ _ _ _ _)]
theorem bzv(ks:Ks n H D A K h r)(sh:Bool)(priv text beside rnd:List Int):(cdw n sh A K r h D priv text beside rnd).length=sgZ n D A K h:=by
 unfold cdw sgZ
 rw[Ab,Ab,apc ks.n3,bmi ks,bll ks]
 omega
theorem b1h(ks:Ks n H D A K h r)(sh:Bool)(sec p2 R all:List Int)(hsec:In 256 sec)(lsec:sec.length=n)(hp:In 256 p2)(lp:p2.length=2*n)(hR:In 256 R)(lR:R.length=n){ρ:Type}(k:List Int→Option ρ) :
    (P.o8 (bic n sh A K r h R p2 all) ((bdx n sh A K r h R p2 all:Nat):Int) ((bdq n sh A K r h R p2 all:Nat):Int) fun q34=>P.aco n H D A K sh (bic n sh A K r h R p2 all) sec (p2.take n) q34 fun q35 =>
     P.o8 (bic n sh A K r h R p2 all) ((bdx n sh A K r h R p2 all:Nat):Int) ((bdq n sh A K r h R p2 all:Nat):Int) fun q36=>P.p9 n H D A K sh q35 (bic n sh A K r h R p2 all) (p2.take n) q36 fun q37 =>
     P.aa1 n H D A K sh q37 sec (p2.take n) ((bdx n sh A K r h R p2 all:Nat):Int) ((bdq n sh A K r h R p2 all:Nat):Int) fun q38=>P.jc [R,q35,q38] k) =
    k (R++(bi0 n sh A K r h sec p2 R all++b3b n sh A K r h D sec p2 R all (buw n sh A K r h p2 R all (bi0 n sh A K r h sec p2 R all)))):=by
 obtain ⟨_,d2,_,_,_,_,_,h9,n2⟩:=ks.nums
 obtain ⟨z1,z2⟩:=bsj ks
 have r64:=ks.r64
 have b1:=bwu n sh A K r h R p2 all
 have b2:=bww n sh A K r h R p2 all
 have c1:2^r≤2^64:=Ac (by omega) r64
 have c2:2^h≤2^9:=Ac (by omega) h9
 have lt:=bsl n sh A K r h R p2 all
 have it:=byr n sh A K r h R p2 all
 have np:(p2.take n).length=n:=by rw[Ae];omega
 have ip:In 256 (p2.take n):=hp.take _
 have lf:=bmi ks sh sec p2 R all
 have lh:=bll ks sh sec p2 R all (buw n sh A K r h p2 R all (bi0 n sh A K r h sec p2 R all))
 rw[bti _ _ _ (by omega) (by omega),aco ks.f sh hsec lsec ip np (bmz _ _) (bsp _ _) _ it lt,bti _ _ _ (by omega) (by omega),
  show cat (sgF n sh (p2.take n) sec (plS (bdx n sh A K r h R p2 all) (bdq n sh A K r h R p2 all)) A (bic n sh A K r h R p2 all)) K=bi0 n sh A K r h sec p2 R all from rfl,
  p9 ks.f sh ip np (bmz _ _) (bsp _ _) _ _ it lt (bwv _ _ _ _ _) lf,
  show kyF n sh (p2.take n) (plS (bdx n sh A K r h R p2 all) (bdq n sh A K r h R p2 all)) (cat (cdF n sh (p2.take n) (plS (bdx n sh A K r h R p2 all) (bdq n sh A K r h R p2 all)) A (bic n sh A K r h R p2 all) (bi0 n sh A K r h sec p2 R all)) K)=buw n sh A K r h p2 R all (bi0 n sh A K r h sec p2 R all) from rfl,
  aa1 ks.kd d2 sh _ _ _ (bxk _ _ _ _ _) (br9 ks _ _ _ _ _) hsec lsec ip np r ks.hr' r64 _ _ b1 b2,
  show cat (hyS n sh (p2.take n) sec (buw n sh A K r h p2 R all (bi0 n sh A K r h sec p2 R all)) (bdx n sh A K r h R p2 all) (bdq n sh A K r h R p2 all) h) D=b3b n sh A K r h D sec p2 R all (buw n sh A K r h p2 R all (bi0 n sh A K r h sec p2 R all)) from rfl,
  jc _ (by simp) (by rw[rz,Ab,Ab,lf,lh];omega),rz]
theorem cml(ks:Ks n H D A K h r)(sh:Bool)(sec p2 R all:List Int)(hsec:In 256 sec)(lsec:sec.length=n)(hp:In 256 p2)(lp:p2.length=2*n)(hR:In 256 R)(lR:R.length=n){ρ:Type}(k:List Int→Option ρ) :
    (P.afv ((bdx n sh A K r h R p2 all:Nat):Int) ((bdq n sh A K r h R p2 all:Nat):Int) fun q34=>P.afz n H D A K sh (bic n sh A K r h R p2 all) sec (p2.take n) q34 fun q35 =>
     P.yj n H D A K sh q35 (bic n sh A K r h R p2 all) (p2.take n) q34 fun q37 =>
     P.adk n H D A K sh q37 sec (p2.take n) ((bdx n sh A K r h R p2 all:Nat):Int) ((bdq n sh A K r h R p2 all:Nat):Int) fun q38=>P.iy [R,q35,q38] k) =
    k (R++(bi0 n sh A K r h sec p2 R all++b3b n sh A K r h D sec p2 R all (buw n sh A K r h p2 R all (bi0 n sh A K r h sec p2 R all)))):=by
 obtain ⟨_,d2,_,_,_,_,_,h9,n2⟩:=ks.nums
 obtain ⟨z1,z2⟩:=bsj ks
 have r64:=ks.r64
 have b1:=bwu n sh A K r h R p2 all
 have b2:=bww n sh A K r h R p2 all
 have c1:2^r≤2^64:=Ac (by omega) r64
 have c2:2^h≤2^9:=Ac (by omega) h9
 have lt:=bsl n sh A K r h R p2 all
 have it:=byr n sh A K r h R p2 all
 have np:(p2.take n).length=n:=by rw[Ae];omega
 have ip:In 256 (p2.take n):=hp.take _
 have lf:=bmi ks sh sec p2 R all
 have lh:=bll ks sh sec p2 R all (buw n sh A K r h p2 R all (bi0 n sh A K r h sec p2 R all))
 rw[bo5 _ _ (by omega) (by omega),afz ks.f sh hsec lsec ip np (bmz _ _) (bsp _ _) _ it lt,
  show cat (sgF n sh (p2.take n) sec (plS (bdx n sh A K r h R p2 all) (bdq n sh A K r h R p2 all)) A (bic n sh A K r h R p2 all)) K=bi0 n sh A K r h sec p2 R all from rfl,
  yj ks.f sh ip np (bmz _ _) (bsp _ _) _ _ it lt (bwv _ _ _ _ _) lf,
  show kyF n sh (p2.take n) (plS (bdx n sh A K r h R p2 all) (bdq n sh A K r h R p2 all)) (cat (cdF n sh (p2.take n) (plS (bdx n sh A K r h R p2 all) (bdq n sh A K r h R p2 all)) A (bic n sh A K r h R p2 all) (bi0 n sh A K r h sec p2 R all)) K)=buw n sh A K r h p2 R all (bi0 n sh A K r h sec p2 R all) from rfl,
  adk ks.kd d2 sh _ _ _ (bxk _ _ _ _ _) (br9 ks _ _ _ _ _) hsec lsec ip np r ks.hr' r64 _ _ b1 b2,
  show cat (hyS n sh (p2.take n) sec (buw n sh A K r h p2 R all (bi0 n sh A K r h sec p2 R all)) (bdx n sh A K r h R p2 all) (bdq n sh A K r h R p2 all) h) D=b3b n sh A K r h D sec p2 R all (buw n sh A K r h p2 R all (bi0 n sh A K r h sec p2 R all)) from rfl,
  iy _ (by simp) (by rw[rz,Ab,Ab,lf,lh];omega),rz]
theorem bqm(ks:Ks n H D A K h r)(sh:Bool)(priv text beside rnd:List Int)(h1:In 256 priv)(h2:In 256 text)(h3:In 256 beside)(h4:In 256 rnd)(l1:priv.length=4*n)(l2:text.length≤1000)(l3:beside.length≤255)(l4:rnd.length=n){ρ:Type}(k:List Int→Int→Option ρ) :
    P.ai5 n H D A K sh priv text beside rnd k=k (cdw n sh A K r h D priv text beside rnd) 0:=by
 obtain ⟨_,d2,_,_,_,_,_,h9,n2⟩:=ks.nums
 have e2:Ad.wrap ((2:Int)*(n:Int))=((2*n:Nat):Int):=by rw[l7 (by omega) (by omega)];omega
 have e4:Ad.wrap ((4:Int)*(n:Int))=((4*n:Nat):Int):=by rw[l7 (by omega) (by omega)];omega
 have la:(bp2 text beside).length≤2000:=by rw[bsv];omega
 have ia:=bxr text beside h2 h3
 have lp2:(priv.drop (2*n)).length=2*n:=by rw[Af];omega
 have lsec:(priv.take n).length=n:=by rw[Ae];omega
 have ldr:((priv.drop n).take n).length=n:=by rw[Ae,Af];omega
 have edr:(priv.take (2*n)).drop n=(priv.drop n).take n:=by rw[Ar,show 2*n-n=n by omega]
 rw[P.ah8];unfold P.aev
 rw[jy,decide_eq_true ks.f,jv,oq,e4,dh (by omega),dh (by omega),bn (by omega)]
 cases sh with
 | true =>
  rw[b1b,bse _ _ (by omega) (by omega),e2]
  simp only[toNat_cast,Ah,Ag]
  rw[bf (by omega),bf (by omega),bf (by omega),bf (by omega),bf (by omega),bf (by omega),bf (by omega),bf (by omega),bf (by omega),bf (by omega),bf (by trivial),edr,b3v n n2 _ _ _ _ _ _ _ _ ((h1.drop _).take _) h4 ia (by omega) (by omega) (by omega),
   b8e ks true _ _ _ _ _ _ _ _ _ _ _ _ _ _ _ _ _ _ _ _ _ _ _ _ (az6 _ _ _ _ _) (h1.drop _) ia (by rw[apc ks.n3];omega) (by omega) (by omega)]
  exact b1h ks true _ _ _ _ (h1.take _) lsec (h1.drop _) lp2 (az6 _ _ _ _ _) (apc ks.n3 _ _ _ _) (fun q=>k q 0)
 | false =>
  rw[bzj,bse _ _ (by omega) (by omega),e2]
  simp only[toNat_cast,Ah,Ag]
  rw[bf (by omega),bf (by omega),bf (by omega),bf (by omega),bf (by omega),bf (by omega),bf (by omega),bf (by omega),bf (by omega),bf (by omega),bn (by decide),bf (by trivial),edr,b4b ks.n3 _ _ _ _ _ _ _ _ ((h1.drop _).take _) h4 ia (by omega) (by omega) (by omega),
   b8p ks false _ _ _ _ _ _ _ _ _ _ _ _ _ _ _ _ _ _ _ _ _ _ (az6 _ _ _ _ _) (h1.drop _) ia (by rw[apc ks.n3];omega) (by omega) (by omega) (by omega)]
  exact b1h ks false _ _ _ _ (h1.take _) lsec (h1.drop _) lp2 (az6 _ _ _ _ _) (apc ks.n3 _ _ _ _) (fun q=>k q 0)
theorem bq7(ks:Ks n H D A K h r)(sh:Bool)(priv text beside rnd:List Int)(h1:In 256 priv)(h2:In 256 text)(h3:In 256 beside)(h4:In 256 rnd)(l1:priv.length=4*n)(l2:text.length≤1000)(l3:beside.length≤255)(l4:rnd.length=n){ρ:Type}(k:List Int→Int→Option ρ) :
    P.ai2 n H D A K sh priv text beside rnd k=k (cdw n sh A K r h D priv text beside rnd) 0:=by
 obtain ⟨_,d2,_,_,_,_,_,h9,n2⟩:=ks.nums
 have e2:Ad.wrap ((2:Int)*(n:Int))=((2*n:Nat):Int):=by rw[l7 (by omega) (by omega)];omega
 have e3:Ad.wrap ((3:Int)*(n:Int))=((3*n:Nat):Int):=by rw[l7 (by omega) (by omega)];omega
 have e4:Ad.wrap ((4:Int)*(n:Int))=((4*n:Nat):Int):=by rw[l7 (by omega) (by omega)];omega
 have la:(bp2 text beside).length≤2000:=by rw[bsv];omega
 have ia:=bxr text beside h2 h3
 have lp2:(priv.drop (2*n)).length=2*n:=by rw[Af];omega
 have lsec:(priv.take n).length=n:=by rw[Ae];omega
 have ldr:((priv.drop n).take n).length=n:=by rw[Ae,Af];omega
 have edr:(priv.take (2*n)).drop n=(priv.drop n).take n:=by rw[Ar,show 2*n-n=n by omega]
 have edp:(priv.take (3*n)).drop (2*n)=(priv.drop (2*n)).take n:=by rw[Ar,show 3*n-2*n=n by omega]
 rw[P.aiu];unfold P.aef
 rw[kg,decide_eq_true ks.f,jv,oq,e4,dh (by omega),dh (by omega),bn (by omega),bng _ _ (by omega) (by omega),e2,e3]
 simp only[toNat_cast,Ah,Ag]
 rw[bf (by omega),bf (by omega),bf (by omega),edr,edp,brx ks.n3 _ _ _ _ _ _ _ _ ((h1.drop _).take _) h4 ia (by omega) (by omega) (by omega),bf (by omega),bf (by omega),bf (by omega),
  bln ks sh _ _ _ (az6 _ _ _ _ _) (h1.drop _) ia (by rw[apc ks.n3];omega) (by omega) (by omega) (by omega),bf (by omega),bf (by omega),bf (by omega),bf (by omega),bf (by omega)]
 exact cml ks sh _ _ _ _ (h1.take _) lsec (h1.drop _) lp2 (az6 _ _ _ _ _) (apc ks.n3 _ _ _ _) (fun q=>k q 0)
end
end Q
end

section
/- slh: what verifies; keys. -/
namespace Q
open QK
open Go Go.Abs
section
variable {n H D A K h r:Nat}
end
end Q
end

section
/- hss: a number's digits, each by its own width: pure. -/
namespace Q
open Go Go.Abs
theorem bpo(p:Nat→Prop):∀N,(∀i,i<N→p i)∨∃i,i<N∧¬p i∧∀j,j<i→p j
 | 0=>.inl (fun i h=>by omega)
 | N+1=>by
  rcases bpo p N with h | ⟨i,h1,h2,h3⟩
  ·by_cases hp:p N
   ·exact .inl (fun i hi=>by
      by_cases e:i=N
      ·rw[e];exact hp
      ·exact h i (by omega))
   ·exact .inr ⟨N,by omega,hp,h⟩
  ·exact .inr ⟨i,by omega,h2,h3⟩
end Q
end

section
/- slh: both together, of any inputs. -/
namespace Q
open QK
open Go Go.Abs
theorem coz{N H D A K:Int}(hf:aak N H D A K)(h64:H≤64):∃n H' D' A' K' h r:Nat,N=(n:Int)∧H=(H':Int)∧D=(D':Int)∧A=(A':Int)∧K=(K':Int)∧Ks n H' D' A' K' h r:=by
 have h0:=hf
 unfold aak at h0
 obtain ⟨n,rfl⟩:∃n:Nat,N=(n:Int):=⟨N.toNat,by omega⟩
 obtain ⟨H',rfl⟩:∃n:Nat,H=(n:Int):=⟨H.toNat,by omega⟩
 obtain ⟨D',rfl⟩:∃n:Nat,D=(n:Int):=⟨D.toNat,by omega⟩
 obtain ⟨A',rfl⟩:∃n:Nat,A=(n:Int):=⟨A.toNat,by omega⟩
 obtain ⟨K',rfl⟩:∃n:Nat,K=(n:Int):=⟨K.toNat,by omega⟩
 obtain ⟨h,kd⟩:=cfk hf
 have hk2:=kd.2
 have h1:0≤(H':Int).tdiv (D':Int):=Int.tdiv_nonneg (by omega) (by omega)
 have h3:(H':Int).tdiv (D':Int)≤H':=by
  rw[Ap (by omega)]
  exact Int.ediv_le_self _ (by omega)
 rw[l7 (by omega) (by omega)] at hk2
 exact ⟨n,H',D',A',K',h,H'-h,rfl,rfl,rfl,rfl,rfl,kd,by omega,by omega⟩
theorem bwi(N H D A K:Int)(sh:Bool)(hl:aak N H D A K→H≤64)(priv text beside rnd:List Int)(h1:In 256 priv)(h2:In 256 text)(h3:In 256 beside)(h4:In 256 rnd)(l2:text.length≤1000):∃(x:List Int) (e:Int),x.length≤200000∧(∀{ρ:Type} (k:List Int→Int→Option ρ),P.ai5 N H D A K sh priv text beside rnd k=k x e)∧∀{ρ:Type} (k:List Int→Int→Option ρ),P.ai2 N H D A K sh priv text beside rnd k=k x e:=by
 by_cases hf:aak N H D A K
 ·obtain ⟨n,H',D',A',K',h,r,rfl,rfl,rfl,rfl,rfl,ks⟩:=coz hf (hl hf)
  obtain ⟨z1,z2⟩:=bsj ks
  obtain ⟨_,d2,_,_,_,_,_,h9,n2⟩:=ks.nums
  have e4:Ad.wrap ((4:Int)*(n:Int))=((4*n:Nat):Int):=by rw[l7 (by omega) (by omega)];omega
  by_cases l1:priv.length=4*n
  ·by_cases l4:rnd.length=n
   ·by_cases l3:beside.length≤255
    ·exact ⟨_,0,by rw[bzv ks];unfold sgZ;omega,fun k=>bqm ks sh priv text beside rnd h1 h2 h3 h4 l1 l2 l3 l4 k,fun k=>bq7 ks sh priv text beside rnd h1 h2 h3 h4 l1 l2 l3 l4 k⟩
    ·refine ⟨[],2,by simp,fun k=>?_,fun k=>?_⟩
     ·rw[P.ah8];unfold P.aev
      rw[jy,decide_eq_true ks.f,jv,oq,e4,dh (by omega),dh (by omega),bf (by omega)]
     ·rw[P.aiu];unfold P.aef
      rw[kg,decide_eq_true ks.f,jv,oq,e4,dh (by omega),dh (by omega),bf (by omega)]
   ·refine ⟨[],14,by simp,fun k=>?_,fun k=>?_⟩
    ·rw[P.ah8];unfold P.aev
     rw[jy,decide_eq_true ks.f,jv,oq,e4,dh (by omega),jd (by omega)]
    ·rw[P.aiu];unfold P.aef
     rw[kg,decide_eq_true ks.f,jv,oq,e4,dh (by omega),jd (by omega)]
  ·refine ⟨[],10,by simp,fun k=>?_,fun k=>?_⟩
   ·rw[P.ah8];unfold P.aev
    rw[jy,decide_eq_true ks.f,jv,oq,e4,jd (by omega)]
   ·rw[P.aiu];unfold P.aef
    rw[kg,decide_eq_true ks.f,jv,oq,e4,jd (by omega)]
 ·refine ⟨[],9,by simp,fun k=>?_,fun k=>?_⟩
  ·rw[P.ah8];unfold P.aev
   rw[jy,decide_eq_false hf,jv,w9]
  ·rw[P.aiu];unfold P.aef
   rw[kg,decide_eq_false hf,jv,w9]
theorem bom(N H D A K:Int)(sh:Bool):∃b:Bool,(b=true→aak N H D A K→H≤64)∧∀{ρ:Type} (k:Bool→Option ρ),P.ahs N H D A K sh k=k b:=by
 by_cases hf:aak N H D A K
 ·by_cases h2:H≤2
  ·by_cases h3:A≤3
   ·exact ⟨decide (K≤4),fun _ _=>by omega,fun k=>by rw[P.ajk];unfold P.ae4;rw[kg,decide_eq_true hf,jv,oq,bf h2,bf h3]⟩
   ·exact ⟨false,(fun h=>by cases h),fun k=>by rw[P.ajk];unfold P.ae4;rw[kg,decide_eq_true hf,jv,oq,bf h2,bn h3]⟩
  ·exact ⟨false,(fun h=>by cases h),fun k=>by rw[P.ajk];unfold P.ae4;rw[kg,decide_eq_true hf,jv,oq,bn h2]⟩
 ·exact ⟨true,fun _ h=>absurd h hf,fun k=>by rw[P.ajk];unfold P.ae4;rw[kg,decide_eq_false hf,jv,w9]⟩
theorem ajx(l:List (List Int))(hl:l.length≤100){ρ:Type}(k:Bool→Option ρ):(P.ajx l k=k true∧∀i,i<l.length→(l.getD i []).length≤300)∨P.ajx l k=k false:=by
 rw[P.bjd]
 unfold P.axl
 rw[P.blx]
 unfold P.bjo P.ccf P.cbl P.cq1
 rcases bpo (fun i=>(l.getD i []).length≤300) l.length with h | ⟨m,m1,m2,m3⟩
 ·refine .inl ⟨u7 (fun i=>(l,(l.length:Int),(i:Int))) l.length rfl (fun i hi next hn'=>?_) (fun next=>?_) (by omega),h⟩
  ·have:=h i hi
   simp only[P.aou,toNat_cast]
   rw[bf (by omega),bf (by omega),bf (by omega),bn (by omega),l7 (by omega) (by omega)]
   exact hn'
  ·simp only[P.aou]
   rw[bn (by omega)]
   rfl
 ·refine .inr (u7 (fun i=>(l,(l.length:Int),(i:Int))) m rfl (fun i hi next hn'=>?_) (fun next=>?_) (by omega))
  ·have:=m3 i hi
   simp only[P.aou,toNat_cast]
   rw[bf (by omega),bf (by omega),bf (by omega),bn (by omega),l7 (by omega) (by omega)]
   exact hn'
  ·simp only[P.aou,toNat_cast]
   rw[bf (by omega),bf (by omega),bf (by omega),bf (by omega)]
   rfl
end Q
end

section
/- slh: the example. -/
namespace Q
open QK
open Go Go.Abs
theorem ks3:Ks 16 66 22 6 33 3 63:=⟨⟨by decide,by decide⟩,by decide,by decide⟩
theorem aa7{ρ:Type}(k:Bool→Option ρ):P.aa7 k=k true:=by
 rw[P.bb6];unfold P.aoz
 have hs:∀(k:Int→Int→Int→Int→Int→Bool→Bool→Option ρ),P.apd 3 k=k 16 66 22 6 33 false true:=fun k=>by
  rw[P.bk8];unfold P.aw0
  rw[bn (by decide),bn (by decide),bf (by decide),bf (by decide),bf (by decide)];rfl
 have hz:=fun (k:Int→Int→Int→Option ρ)=>bbl ks3 false k
 have hv:∀(k:Int→Option ρ),P.ae8 16 66 22 6 33 false [] [] [] [] k=k 10:=fun k=>by
  rw[P.ay1];unfold P.am4
  have h1:=bbl ks3 false (ρ:=ρ)
  have h2:=jy ((16:Nat):Int) ((66:Nat):Int) ((22:Nat):Int) ((6:Nat):Int) ((33:Nat):Int) false (ρ:=ρ)
  rw[decide_eq_true ks3.f] at h2
  refine Eq.trans (h1 _) (Eq.trans (h2 _) ?_)
  rw[jv,oq,jd (by decide)]
 rw[hs]
 refine Eq.trans (hz _) ?_
 rw[show sgZ 16 22 6 33 3=17088 by decide,oq]
 refine Eq.trans (oq _ _) ?_
 rw[eu (by decide),hv]
 rfl
end Q
end

section
namespace Q
open QK
open Go Go.Abs
theorem SlhSigns(x0_N:Int)(x0_H:Int)(x0_D:Int)(x0_A:Int)(x0_K:Int)(x0_Shake:Bool)(x1:List Int)(x2:List Int)(x3:List Int)(x4:List Int)(wx0_N:wfI .i64 x0_N)(wx0_H:wfI .i64 x0_H)(wx0_D:wfI .i64 x0_D)(wx0_A:wfI .i64 x0_A)(wx0_K:wfI .i64 x0_K)(nx1:x1.length≤140737488355328)(wx1:∀x,x∈x1→wfI .u8 x)(nx2:x2.length≤140737488355328)(wx2:∀x,x∈x2→wfI .u8 x)(nx3:x3.length≤140737488355328)(wx3:∀x,x∈x3→wfI .u8 x)(nx4:x4.length≤140737488355328)(wx4:∀x,x∈x4→wfI .u8 x){ρ:Type}(k:Bool→Option ρ):P.ab4 x0_N x0_H x0_D x0_A x0_K x0_Shake x1 x2 x3 x4 k=k true:=by
 rw[P.ase];unfold P.aj0
 obtain ⟨v,hv,hk⟩:=bom x0_N x0_H x0_D x0_A x0_K x0_Shake
 rw[hk]
 cases v with
 | false=>rw[jv,w9,aa7]
 | true =>
  rw[jv,oq]
  rcases ajx [x1,x2,x3,x4] (by simp) (fun (q0:Bool)=>_) with ⟨hf,hl⟩ | hf
  ·rw[hf,jv,oq]
   have l2:x2.length≤300:=hl 1 (by simp)
   obtain ⟨x,e,lx,k1,k2⟩:=bwi x0_N x0_H x0_D x0_A x0_K x0_Shake (hv rfl) x1 x2 x3 x4 (bzt wx1) (bzt wx2) (bzt wx3) (bzt wx4) (by omega)
   rw[k1,k2,ag5 _ _ (by omega),decide_eq_true rfl,oq,beq_self_eq_true,oq,aa7]
  ·rw[hf,jv,w9,aa7]
end Q
end
