/-
  SlhRight, part 3: lemmas for the law.
-/

import Derived.Test.YtciddcopcdmnbaaGreatDoorSlhRightB
import Derived.Laws.CopyRow
import Derived.Laws.IdiomCopy
import Derived.IntWalk
import Derived.Laws.AppendOwn
open Nat renaming le_refl → Aa, le_trans → Ae, mul_one → Af, zero_add → Au, add_zero → A9
open List renaming getD_eq_getElem?_getD → Ab, getElem?_eq_getElem → Ac, replicate → Ad, append_assoc → Ag, eq_nil_of_length_eq_zero → Ah, getElem?_map → Ai, getElem?_set → Aj, length_replicate → Ak, length_append → Al, size_toArray → Am, take_of_length_le → Ao, set_eq_take_append_cons_drop → Ap, getElem?_eq_none → Aq, take_append → Av, mem_append → Aw, nil_append → Ay
open Array renaming length_toList → Ar, getElem?_modify → Az
open Bool renaming or_eq_false_iff → A8
set_option linter.unusedVariables false
set_option linter.unusedSimpArgs false

section
namespace Go.Abs
open Go Go.RowKit
theorem alv{E:Env}{w:World}{k:IntKind}:∀(vs:List AVal) (l:List Int) (us:List Value),aqb k vs=some l→lg E w vs us→us=l.map (Value.int k)∧l.length=vs.length
 | [],l,us,h,hr=>by simp only[aqb] at h;cases h;simp only[lg] at hr;subst hr;exact ⟨rfl,rfl⟩
 | a::r,l,us,h,hr=>by
  simp only[lg] at hr
  obtain ⟨u,us',rfl,h1,h2⟩:=hr
  cases a with
  | v x =>
   cases x with
   | int k' z =>
    simp only[aqb] at h
    cases hk:apa k k' with
    | false=>rw[hk] at h;cases h
    | true =>
     rw[hk] at h
     simp only[cond_true] at h
     cases hi:aqb k r with
     | none=>rw[hi] at h;cases h
     | some l' =>
      rw[hi] at h
      cases h
      obtain ⟨g1,g2⟩:=alv r l' us' hi h2
      simp only[eu] at h1
      have:=aeg hk
      subst this
      exact ⟨by rw[h1,g1];rfl,by simp[g2]⟩
   | _=>simp[aqb] at h
  | _=>simp[aqb] at h
section
variable {D:Ctx} {B0:Nat} {w0:W0} {E:Env} {st:ASt} {act:Act} {w:World}
theorem aq9(hR:Rel D B0 w0 E st act w){hl:Nat→Option Blk}(hm:∀id b,hl id=some b→gq st.h id=some b){S':Nat→Prop}(hS:∀b,E.S b→S' b){x:AVal}{c:Cont}(h:aj3 hl x=some c){u:Value}(hu:eu E w x u)
    (hi:∀id,id∈vk x→∀b v k,hl id=some b→E.ρ id=some v→iy v=some k→S' k):SlC S' w c u :=
 ajh (E':=⟨S',fun _=>none⟩) (abt hR hm h hu) hS fun h0 k hk=>by
  rcases ak8 hR hm h hu h0 hk with hk | ⟨id',h1,b,v,h2,h3,h4⟩
  ·exact hS _ hk
  ·exact hi id' h1 b v k h2 h3 h4
theorem apd(hR:Rel D B0 w0 E st act w){hl:Nat→Option Blk}(hm:∀id b,hl id=some b→gq st.h id=some b){S':Nat→Prop}(hS:∀b,E.S b→S' b){k:IntKind} :
    ∀(vs:List AVal) (l:List (List Int)) (us:List Value),rowsOf hl k vs=some l→lg E w vs us→(∀id,id∈qp vs→∀b v k,hl id=some b→E.ρ id=some v→iy v=some k→S' k) →
     l.length=vs.length∧∀j x,us[j]?=some x→SlI S' w k (l.getD j []) x
 | [],l,us,h,hr,hi=>by simp only[rowsOf] at h;cases h;simp only[lg] at hr;subst hr;exact ⟨rfl,by simp⟩
 | a::r,l,us,h,hr,hi=>by
  simp only[lg] at hr
  obtain ⟨u,us',rfl,h1,h2⟩:=hr
  simp only[qp] at hi
  simp only[rowsOf] at h
  split at h
  ·rename_i k' x hc
   cases hk:apa k k' with
   | false=>rw[hk] at h;cases h
   | true =>
    rw[hk] at h
    simp only[cond_true] at h
    cases hr:rowsOf hl k r with
    | none=>rw[hr] at h;cases h
    | some l' =>
     rw[hr] at h
     cases h
     have:=aeg hk
     subst this
     obtain ⟨g1,g2⟩:=apd hR hm hS r l' us' hr h2 (fun id hid=>hi id (ko.2 (.inr hid)))
     have hs:=aq9 hR hm hS hc h1 (fun id hid=>hi id (ko.2 (.inl hid)))
     refine ⟨by simp[g1],fun j y hy=>?_⟩
     cases j with
     | zero=>simp at hy;subst hy;exact hs
     | succ j=>simp at hy;simpa using g2 j y hy
  ·split at h
   ·cases hr:rowsOf hl k r with
    | none=>rw[hr] at h;cases h
    | some l' =>
     rw[hr] at h
     cases h
     obtain ⟨g1,g2⟩:=apd hR hm hS r l' us' hr h2 (fun id hid=>hi id (ko.2 (.inr hid)))
     simp only[eu] at h1
     refine ⟨by simp[g1],fun j y hy=>?_⟩
     cases j with
     | zero=>simp at hy;subst hy;exact ⟨none,0,h1,Aa _,fun h=>absurd h (by simp)⟩
     | succ j=>simp at hy;simpa using g2 j y hy
   ·cases h
theorem ato(hR:Rel D B0 w0 E st act w){hl:Nat→Option Blk}(hm:∀id b,hl id=some b→gq st.h id=some b){S':Nat→Prop}(hS:∀b,E.S b→S' b){k:IntKind} :
    ∀(vs:List AVal) (l:List (List (List Int))) (us:List Value),asg hl k vs=some l→lg E w vs us→(∀id,id∈qp vs→∀b v k,hl id=some b→E.ρ id=some v→iy v=some k→S' k) →
     l.length=vs.length∧∀j x,us[j]?=some x→SlR S' w k (l.getD j []) x
 | [],l,us,h,hr,hi=>by simp only[asg] at h;cases h;simp only[lg] at hr;subst hr;exact ⟨rfl,by simp⟩
 | a::r,l,us,h,hr,hi=>by
  simp only[lg] at hr
  obtain ⟨u,us',rfl,h1,h2⟩:=hr
  simp only[qp] at hi
  simp only[asg] at h
  split at h
  ·rename_i k' x hc
   cases hk:apa k k' with
   | false=>rw[hk] at h;cases h
   | true =>
    rw[hk] at h
    simp only[cond_true] at h
    cases hr:asg hl k r with
    | none=>rw[hr] at h;cases h
    | some l' =>
     rw[hr] at h
     cases h
     have:=aeg hk
     subst this
     obtain ⟨g1,g2⟩:=ato hR hm hS r l' us' hr h2 (fun id hid=>hi id (ko.2 (.inr hid)))
     have hs:=aq9 hR hm hS hc h1 (fun id hid=>hi id (ko.2 (.inl hid)))
     refine ⟨by simp[g1],fun j y hy=>?_⟩
     cases j with
     | zero=>simp at hy;subst hy;exact hs
     | succ j=>simp at hy;simpa using g2 j y hy
  ·cases h
theorem avw(hR:Rel D B0 w0 E st act w){hl:Nat→Option Blk}(hm:∀id b,hl id=some b→gq st.h id=some b){S':Nat→Prop}(hS:∀b,E.S b→S' b){P:Program}{e:TypeId}{vs:List AVal}{c:Cont}{us:List Value}(h:asu P hl e vs=some c)
    (hr:lg E w vs us) (hi:∀id,id∈qp vs→∀b v k,hl id=some b→E.ρ id=some v→iy v=some k→S' k) :
    c.len=vs.length∧c.size=1∧∀j x,us[j]?=some x→x.oneCell'=true∧cellC S' w c j x:=by
 unfold asu at h
 split at h
 ·split at h
  ·rename_i k _ _ l hl'
   cases h
   obtain ⟨rfl,h2⟩:=alv vs l us hl' hr
   refine ⟨h2,rfl,fun j x hx=>?_⟩
   have:cellC S' w (.ints k l) j x:=by
    simp only[cellC,cell1,aj2]
    rw[Ai] at hx
    cases hj:l[j]? with
    | none=>rw[hj] at hx;cases hx
    | some z=>rw[hj] at hx;simp at hx;simp[Ab,hj,hx]
   exact ⟨amy this,this⟩
  ·cases h
 ·split at h
  ·split at h
   ·rename_i k l hl'
    cases h
    obtain ⟨h1,h2⟩:=apd hR hm hS vs l us hl' hr hi
    refine ⟨h1,rfl,fun j x hx=>?_⟩
    have:cellC S' w (.rows _ l) j x:=h2 j x hx
    exact ⟨amy this,this⟩
   ·cases h
  ·split at h
   ·split at h
    ·rename_i k l hl'
     cases h
     obtain ⟨h1,h2⟩:=ato hR hm hS vs l us hl' hr hi
     refine ⟨h1,rfl,fun j x hx=>?_⟩
     have:cellC S' w (.rows2 _ l) j x:=h2 j x hx
     exact ⟨amy this,this⟩
    ·cases h
   ·cases h
  ·cases h
 ·cases h
end
section
variable {D:Ctx} {B0:Nat} {w0:W0} {st:ASt} {dst:Option Tmp} {type:TypeId} {pos:String} {after:Array Edge} {guard:Option (Nat×Bool)}
theorem axe{P:Program}{w:World}{t e:TypeId}{i:TypeInfo}{z:Value}(ht:P.underlying t=some (.slice e))(hi:P.info? e=some i)(hs:i.size=1)(hz:i.zero=some z)(ps:Array (Nat×Operand))(ρ:Operand→Value)(ho:aee 0 ps.toList=true)
    (hn:ps.size≤16777216) (h1:∀p∈ps.toList,(ρ p.2).oneCell'=true) :
    (Instr.buildSlice t ps.size (ps.map fun (i,x)=>(i,ρ x))).run P w=.ok (.slice (some ⟨w.heap.size,0,none⟩) ps.size ps.size) (w.alloc (.cells (ps.toList.map fun p=>ρ p.2).toArray e)):=by
 have hsz:(sizeOf e).run P w=.ok 1 w:=by simp[sizeOf,typeInfo,hi,hs]
 have hfill:∀cells:Array Value,cells.size=ps.size→Instr.fill (fun i=>some (i*1,1)) cells (ps.map fun (i,x)=>(i,ρ x)).toList=some (ps.toList.map fun p=>ρ p.2).toArray:=by
  intro cells hc
  have:=am9 (pl:=fun i=>some (i*1,1)) (by simp) ps.toList ρ 0 cells ho (by simp[hc]) h1
  rw[Array.toList_map]
  rw[show (fun (x:Nat×Operand)=>match x with | (i,x)=>(i,ρ x))=fun p=>(p.1,ρ p.2) from rfl,this]
  congr 1
  simp[hc]
 have hlim:¬(ps.size*1>2^24):=by omega
 by_cases h0:ps.size*1=0
 ·have h00:ps.size=0:=by omega
  simp only[Instr.buildSlice,Sem.run_bind,run_underlying ht,Result.andThen_ok,hsz]
  rw[if_neg hlim]
  simp only[Sem.run_bind,Sem.run_pure,Result.andThen_ok,if_pos h0]
  rw[hfill _ (by simp)]
  simp[newRow]
 ·simp only[Instr.buildSlice,Sem.run_bind,run_underlying ht,Result.andThen_ok,hsz]
  rw[if_neg hlim]
  simp only[Sem.run_bind,Sem.run_pure,Result.andThen_ok,if_neg h0,zeroValue,typeInfo,run_program,hi,hz]
  rw[hfill _ (by simp)]
  simp[newRow]
theorem ay1{t e:TypeId}(ht:D.P.underlying t=some (.slice e))(ps:Array (Nat×Operand))(ho:aee 0 ps.toList=true)(hn:ps.size≤16777216)(he:bgc D.P e=true){hl:Nat→Option Blk}
    (hm:∀id b,hl id=some b→gq st.h id=some b) {c:Cont} (hc:asu D.P hl e (evs st.f (ps.toList.map (·.2)))=some c) :
    ael D B0 w0 st ⟨dst,.buildSlice t ps.size ps,type,pos,after,guard⟩ ⟨.own st.n,(st.n,some ⟨.row e c,false⟩)::freeze hl (qp (evs st.f (ps.toList.map (·.2)))) [],st.n+1⟩:=by
 intro E act w hR hnew next Q hnext
 have hrv:=hR.evs (ps.toList.map (·.2))
 obtain ⟨E1,hρ1,up1,hR1,hS1,hsame⟩:=abb hm (qp (evs st.f (ps.toList.map (·.2)))) hR
 obtain ⟨c1,c2,c3⟩:=avw hR hm (S':=E1.S) up1.keeps.sub hc hrv (fun id hid b v k hb hv hk=>hS1 id hid b v k hb hv hk)
 have hlen:(evs st.f (ps.toList.map (·.2))).length=ps.size:=by rw[bqt];simp
 have hul:((ps.toList.map (·.2)).map act.eval)=ps.toList.map fun p=>act.eval p.2:=by simp
 rw[hul] at c3 hrv
 unfold bgc at he
 split at he
 ·rename_i i hi
  simp only[Bool.and_eq_true] at he
  obtain ⟨hs1,hzs⟩:=he
  have hs1:=Nat.eq_of_beq_eq_true hs1
  obtain ⟨z,hz⟩:=Option.isSome_iff_exists.1 hzs
  have hone:∀p∈ps.toList,(act.eval p.2).oneCell'=true:=by
   intro p hp
   obtain ⟨j,hj⟩:=List.getElem?_of_mem hp
   exact (c3 j (act.eval p.2) (by simp[hj])).1
  have hrun:=axe (P:=D.P) (w:=w) ht hi hs1 hz ps act.eval ho hn hone
  -- the new row over the frozen state
  have key:=bfg (D:=D) (B0:=B0) (w0:=w0) (st:={ st with h:=ru (freeze hl (qp (evs st.f (ps.toList.map (·.2)))) []) st.h }) (dst:=dst) (op:=.buildSlice t ps.size ps) (type:=type) (pos:=pos) (after:=after) (guard:=guard) (e:=e) (c:=c)
  -- by hand: its step at this world
  have hx:E1.ρ st.n=none:=by rw[hρ1];exact hnew st.n (Aa _) (by simp)
  have kp:Keeps E1.S E1.S w (w.alloc (.cells (ps.toList.map fun p=>act.eval p.2).toArray e)):=⟨fun _ h=>h,fun b hb=>heap_alloc_old w _ b (hR1.sOld b hb)⟩
  obtain ⟨hR',up⟩:=aqe hR1 hx (ps.toList.map fun p=>act.eval p.2).toArray e (u:=.slice (some ⟨w.heap.size,0,none⟩) ps.size ps.size) (b:=.row e c) rfl
   ⟨_,upd_same _ _ _,⟨ps.toList.map fun p=>act.eval p.2,⟨by simp[c1,c2,hlen],.inr ⟨w.heap.size,ps.size,_,by rw[c1,hlen],hR1.base,heap_alloc_new w _,by rw[c1,hlen];exact Aa _,by simp only[maxLen];omega,by simp[c2],by
    rw[c1,c2,hlen,Af];exact Ao (by simp)⟩⟩,fun j x hj=>⟨(c3 j x hj).1,cellC.mono kp (c3 j x hj).2⟩⟩,fun _ k hk hs=>by
    simp[iy] at hk
    subst hk
    exact absurd (hR1.sOld _ hs) (Nat.lt_irrefl _),fun hf=>by cases hf⟩ (st.n+1)
  unfold Oper.wp
  have hexec:(execOp act.eval ⟨dst,.buildSlice t ps.size ps,type,pos,after,guard⟩).run D.P w=.ok (.value (.slice (some ⟨w.heap.size,0,none⟩) ps.size ps.size)) (w.alloc (.cells (ps.toList.map fun p=>act.eval p.2).toArray e)):=by
   simp only[execOp,Sem.run_bind,hrun,Result.andThen_ok,Sem.run_pure]
  rw[hexec,Oper.upon_value]
  refine hnext _ _ _ (up1.trans up) (fun id x hx'=>?_) (Rel.put hR' (a:=.own st.n) (by simp only[eu];exact upd_same _ _ _) dst)
  by_cases hid:id=st.n
  ·exact .inr ⟨by omega,by simp only;omega⟩
  ·simp only[upd,if_neg hid,hρ1] at hx';exact .inl hx'
 ·cases he
end
end Go.Abs
end

section
namespace Go.Abs
open Go Go.RowKit
theorem apn{P:Program}{w:World}{t:TypeId}{sz:Nat}(hs:oh P t=some sz){kb o:Nat}{e:TypeId}{cur:Array Value}(hh:w.heap[kb]?=some (.cells cur e (0,0)))(u:Value)(hu:u.cells.size=sz)(h1:∀v∈u.cells.toList,v.oneCell'=true)
    (hle:o+sz≤cur.size):(Instr.storeAt t (.pointer (some ⟨kb,o,none⟩)) u).run P w=.ok () (w.setRow kb (cur.toList.take o++u.cells.toList++cur.toList.drop (o+sz)).toArray):=by
 have hst:=run_storeCells_at P kb o e u.cells.toList 0 cur w hh (by simp;omega) h1
 simp only[A9,Ar,hu] at hst
 simp only[Instr.storeAt,Instr.sureAddr,storeVar,Sem.run_bind,Sem.run_pure,Result.andThen_ok,run_sizeOf hs,hu]
 simp[hst]
theorem below_setRow{B:Nat}{w:World}{g:Nat}(hg:B≤g)(cs:Array Value):Below B w (w.setRow g cs) :=
 ⟨rfl,rfl,rfl,by simp[World.setRow],fun k hk=>setRow_other w g k cs (by omega)⟩
section
variable {D:Ctx} {B0:Nat} {w0:W0} {st:ASt} {dst:Option Tmp} {type:TypeId} {pos:String} {after:Array Edge} {guard:Option (Nat×Bool)}
theorem azl{op:Op}{id:Nat}{b b':Bk}(hid:gq st.h id=some ⟨b,false⟩){hl:Nat→Option Blk}(hm:∀id b,hl id=some b→gq st.h id=some b)(ids:List Nat)
    (h:∀E act w,Rel D B0 w0 E st act w→∀E1,E1.ρ=E.ρ→Up E E1 w w→(∀id,id∈ids→∀b u k,hl id=some b→E.ρ id=some u→iy u=some k→E1.S k) →
     ∃kb new u,E.ρ id=some u∧iy u=some kb∧(execOp act.eval ⟨dst,op,type,pos,after,guard⟩).run D.P w=.ok .skip (w.setRow kb new) ∧
      ((∀j,E1.S j→j≠kb)→aty E1 (w.setRow kb new) B0 id ⟨b',false⟩))
    (hni:id∉ids) :
    ael D B0 w0 st ⟨dst,op,type,pos,after,guard⟩ ⟨.bot,(id,some ⟨b',false⟩)::freeze hl ids [],st.n⟩:=by
 intro E act w hR hnew next Q hnext
 obtain ⟨E1,hρ1,up1,hR1,hS1,hsame⟩:=abb hm ids hR
 obtain ⟨kb,new,u,hu,hkb,hrun,hB⟩:=h E act w hR E1 hρ1 up1 hS1
 -- id is not frozen by the freeze
 have hid1:gq (ru (freeze hl ids []) st.h) id=some ⟨b,false⟩:=by
  have key:∀(ids:List Nat),id∉ids→gq (ru (freeze hl ids []) st.h) id=gq st.h id:=by
   intro ids
   induction ids with
   | nil=>exact fun _=>rfl
   | cons y r ih =>
    intro hn
    simp only[List.mem_cons,not_or] at hn
    simp only[freeze]
    cases hy:hl y with
    | none=>exact ih hn.2
    | some c =>
     simp only[ru]
     rw[uj hn.1]
     exact ih hn.2
  rw[key ids hni];exact hid
 have hBid:=hR1.heap id _ hid1
 have hlt:=hBid.lt (by rw[hρ1];exact hu) hkb
 have hnS:∀j,E1.S j→j≠kb:=by
  rintro j hj rfl
  obtain ⟨u',hu',_,hns,_⟩:=hBid
  rw[hρ1,hu] at hu'
  cases hu'
  exact hns rfl j hkb hj
 have hB':=hB hnS
 obtain ⟨hR',up⟩:=arj hR1 (E':=E1) (w':=w.setRow kb new) rfl (fun _ _ h=>h) (x:=id) (fun i u hu=>.inr hu) (below_setRow hlt.1 new) (b:=⟨b',false⟩) (dead:=fun _=>False)
  (h':=(id,some ⟨b',false⟩)::ru (freeze hl ids []) st.h) wm
  (fun i c hi hc=>⟨by rw[uj hi] at hc;exact hc,fun h=>h⟩) hB' rfl
  (fun k hk=>by
   by_cases e:k=kb
   ·subst e;exact .inr ⟨id,_,u,.inr rfl,hid1,rfl,by rw[hρ1];exact hu,hkb⟩
   ·exact .inl (setRow_other w kb k new e))
  (fun u' k hu' hk=>.inr ⟨id,_,u',.inr rfl,hid1,rfl,hu',hk⟩) st.n
 unfold Oper.wp
 rw[hrun,Oper.upon_skip]
 exact hnext E1 _ undef (up1.trans up) (fun i x hx=>.inl (by rw[hρ1] at hx;exact hx)) (Rel.put hR' (a:=.bot) (by simp only[eu]) dst)
theorem ajx{E:Env}{w:World}:∀(l:List AVal) (cs:List Value),ql E w l cs→∀v∈cs,v.oneCell'=true
 | [],cs,h=>by simp only[ql] at h;subst h;simp
 | a::r,cs,h=>by
  rcases x9 h with ⟨k',n,l,cs',rfl,h1,rfl,h3⟩ | ⟨ha,u,cs',rfl,h2,h3,h4⟩
  ·intro v hv
   rcases Aw.1 hv with hv | hv
   ·obtain ⟨z,_,rfl⟩:=List.mem_map.1 hv;rfl
   ·exact ajx r cs' h3 v hv
  ·intro v hv
   rcases List.mem_cons.1 hv with rfl | hv
   ·exact h2
   ·exact ajx r cs' h4 v hv
theorem bc9{t:TypeId}{sz:Nat}(hs:oh D.P t=some sz)(x y:Operand){id off:Nat}(hx:ev st.f x=.ptr id off){e:TypeId}{l p pre mid post:List AVal}(hid:gq st.h id=some ⟨.box e l,false⟩)(hp:partsOf (ev st.f y)=some p)
    (hg:bdf l off sz=some (pre,mid,post)) (hps:(p.map arv).sum=sz) :
    ael D B0 w0 st ⟨dst,.store t x y,type,pos,after,guard⟩ ⟨.bot,[(id,some ⟨.box e (ru pre (ru p post)),false⟩)],st.n⟩ :=
 azl hid (hl:=fun _=>none) (fun _ _ h=>by cases h) [] (fun E act w hR E1 hρ1 up1 _=>by
  have hX:=hR.ev x
  rw[hx] at hX
  simp only[eu] at hX
  obtain ⟨b,hρ,hu⟩:=hX
  obtain ⟨v,hv,⟨kb,cs,rfl,hB,hh,hl⟩,_⟩:=hR.heap _ _ hid
  rw[hρ] at hv
  cases hv
  obtain ⟨c1,c2,c3,he,g1,g2,g3,l1,l2⟩:=ap8 hg hl
  have hpr:=aqc hR hp (hR.ev y)
  have hpl:(act.eval y).cells.size=sz:=by have:=agf _ _ hpr;rw[hps] at this;simpa using this
  have hcs:cs.size=off+sz+c3.length:=by have:cs.toList.length=(c1++(c2++c3)).length:=by rw[he]
                                        simp at this;omega
  have hst:=apn (P:=D.P) (w:=w) hs (o:=off) hh (act.eval y) hpl (ajx _ _ hpr) (by omega)
  refine ⟨b,_,_,hρ,rfl,by simp only[execOp,hu,Sem.run_bind,hst,Result.andThen_ok,Sem.run_pure];rfl,fun hns=>?_⟩
  have up:Up E E1 w (w.setRow b (cs.toList.take off++(act.eval y).cells.toList++cs.toList.drop (off+sz)).toArray) :=
   ⟨⟨up1.keeps.sub,fun k hk=>setRow_other w b k _ (hns k (up1.keeps.sub k hk))⟩,fun i u hu=>by rw[hρ1];exact hu⟩
  refine ⟨_,by rw[hρ1];exact hρ,⟨b,_,rfl,hB,setRow_heap w b cs _ e (0,0) hh,?_⟩,fun _ k hk hS=>?_,fun hf=>by cases hf⟩
  ·have h1:cs.toList.take off=c1:=by rw[he,←l1];simp
   have h3:cs.toList.drop (off+sz)=c3:=by
    rw[he,←l1,←l2,←Ag,←Al]
    exact List.drop_left
   have hL:(cs.toList.take off++(act.eval y).cells.toList++cs.toList.drop (off+sz)).toArray.toList=c1++((act.eval y).cells.toList++c3):=by
    rw[h1,h3,Ag]
   rw[hL]
   exact aci _ _ _ _ (ql.mono up _ _ g1) (aci _ _ _ _ (ql.mono up _ _ hpr) (ql.mono up _ _ g3))
  ·simp[iy] at hk
   exact hns k hS hk.symm) (by simp)
theorem baf{t:TypeId}(hs:oh D.P t=some 1)(x y:Operand){id off m i:Nat}(hx:ev st.f x=.apel id off m i){e:TypeId}{l pre post:List AVal}{k:IntKind}{z:List Int}{a:Int}(hid:gq st.h id=some ⟨.box e l,false⟩)(hy:ev st.f y=.v (.int k a))
    (hg:aay l off=some (pre,.arr k m z::post)) :
    ael D B0 w0 st ⟨dst,.store t x y,type,pos,after,guard⟩ ⟨.bot,[(id,some ⟨.box e (ru pre (.arr k m (z.set i a)::post)),false⟩)],st.n⟩ :=
 azl hid (hl:=fun _=>none) (fun _ _ h=>by cases h) [] (fun E act w hR E1 hρ1 up1 _=>by
  have hX:=hR.ev x
  have hY:=hR.ev y
  rw[hx] at hX
  rw[hy] at hY
  simp only[eu] at hX hY
  obtain ⟨b,hρ,hi,hu⟩:=hX
  obtain ⟨v,hv,⟨kb,cs,rfl,hB,hh,hl⟩,_⟩:=hR.heap _ _ hid
  rw[hρ] at hv
  cases hv
  obtain ⟨c1,c2,he,g1,g2,l1⟩:=apo hg hl
  obtain ⟨cs',hz,rfl,g3⟩:=aaz g2
  have hcs:cs.size=off+(m+cs'.length):=by
   have:cs.toList.length=(c1++(z.map (Value.int k)++cs')).length:=by rw[he]
   simp at this;omega
  have hst:=apn (P:=D.P) (w:=w) hs (o:=off+i) hh (.int k a) rfl (by simp[Value.cells,Value.oneCell']) (by omega)
  refine ⟨b,_,_,hρ,rfl,by simp only[execOp,hu,hY,Sem.run_bind,hst,Result.andThen_ok,Sem.run_pure];rfl,fun hns=>?_⟩
  have up:Up E E1 w (w.setRow b (cs.toList.take (off+i)++(Value.int k a).cells.toList++cs.toList.drop (off+i+1)).toArray) :=
   ⟨⟨up1.keeps.sub,fun k hk=>setRow_other w b k _ (hns k (up1.keeps.sub k hk))⟩,fun i u hu=>by rw[hρ1];exact hu⟩
  refine ⟨_,by rw[hρ1];exact hρ,⟨b,_,rfl,hB,setRow_heap w b cs _ e (0,0) hh,?_⟩,fun _ k hk hS=>?_,fun hf=>by cases hf⟩
  ·have h2:cs.toList.take (off+i)++(Value.int k a).cells.toList++cs.toList.drop (off+i+1)=c1++((z.set i a).map (Value.int k)++cs'):=by
     have hset:cs.toList.take (off+i)++(Value.int k a).cells.toList++cs.toList.drop (off+i+1)=cs.toList.set (off+i) (.int k a):=by
      rw[Ap,if_pos (by simp;omega)]
      simp[Value.cells]
     rw[hset,he,List.set_append_right _ _ (by omega),List.set_append_left _ _ (by simp;omega),List.map_set]
     congr 3
     omega
   have hL:(cs.toList.take (off+i)++(Value.int k a).cells.toList++cs.toList.drop (off+i+1)).toArray.toList=c1++((z.set i a).map (Value.int k)++cs'):=h2
   rw[hL]
   exact aci _ _ _ _ (ql.mono up _ _ g1) (aas (by simp[hz]) (ql.mono up _ _ g3))
  ·simp[iy] at hk
   exact hns k hS hk.symm) (by simp)
theorem Cont.bn6{c c':Cont}{i:Nat}{a:AVal}(h:c.set i a=some c'):c'.len=c.len∧c'.size=1∧c.size=1 ∧
    (∀(S:Nat→Prop) (w:World) (u:Value),eu ⟨S,fun _=>none⟩ w a u→i<c.len→u.oneCell'=true∧cellC S w c' i u) ∧
    (∀(S:Nat→Prop) (w:World) (j:Nat) (x:Value),j≠i→cellC S w c j x→cellC S w c' j x):=by
 unfold Cont.set at h
 split at h
 ·rename_i k l k' z
  cases hk:apa k k' with
  | false=>rw[hk] at h;cases h
  | true =>
   rw[hk] at h
   cases h
   have:=aeg hk
   subst this
   refine ⟨by simp[Cont.len],rfl,rfl,fun S w u hu hi=>?_,fun S w j x hj hx=>?_⟩
   ·simp only[eu] at hu
    subst hu
    simp only[Cont.len] at hi
    refine ⟨rfl,?_⟩
    simp only[cellC,cell1,aj2]
    simp[Ab,Aj,hi]
   ·simp only[cellC,cell1,aj2] at hx ⊢
    rw[hx]
    simp[Ab,Aj,Ne.symm hj]
 ·rename_i k l k' z
  cases hk:apa k k' with
  | false=>rw[hk] at h;cases h
  | true =>
   rw[hk] at h
   cases h
   have:=aeg hk
   subst this
   refine ⟨by simp[Cont.len],rfl,rfl,fun S w u hu hi=>?_,fun S w j x hj hx=>?_⟩
   ·simp only[Cont.len] at hi
    have:cellC S w (.rows k (l.set i z)) i u:=by
     simp only[eu] at hu
     simp only[cellC,cell1,an8]
     rw[show (l.set i z).getD i []=z from by simp[Ab,Aj,hi]]
     exact hu
    exact ⟨amy this,this⟩
   ·simp only[cellC,cell1,an8] at hx ⊢
    rw[show (l.set i z).getD j []=l.getD j [] from by simp[Ab,Aj,Ne.symm hj]]
    exact hx
 ·cases h
theorem bek{w:World}{base:Nat}{e:TypeId}{n:Nat}{v:Value}{xs:List Value}(h:w.ownsRow base e 1 v n xs){g:Nat}{cap:Nat}{cur:Array Value}(hv:v=.slice (some ⟨g,0,none⟩) n cap)(hg:w.heap[g]?=some (.cells cur e (0,0)))
    (hcap:cap≤maxLen) (hsz:cur.size=cap) (hn:n≤cap) (hb:base≤g) (ht:cur.toList.take n=xs) {i:Nat} (hi:i<n) (u:Value) :
    (w.setRow g (cur.toList.take i++u.cells.toList++cur.toList.drop (i+1)).toArray).ownsRow base e 1 v n (xs.set i u)∨u.oneCell'=false:=by
 cases hu:u.oneCell' with
 | false=>exact .inr rfl
 | true =>
  refine .inl ?_
  have hc:u.cells.toList=[u]:=by cases u<;>first | rfl | cases hu
  have hset:cur.toList.take i++u.cells.toList++cur.toList.drop (i+1)=cur.toList.set i u:=by
   rw[Ap,if_pos (by simp;omega),hc]
   simp
  rw[hset]
  refine ⟨by have:=h.1;simpa using this,.inr ⟨g,cap,(cur.toList.set i u).toArray,hv,hb,setRow_heap w g cur _ e (0,0) hg,hn,hcap,by simp[hsz],?_⟩⟩
  rw[Af,←ht]
  simp[List.take_set]
theorem bda{t:TypeId}(hs:oh D.P t=some 1)(x y:Operand){id i:Nat}(hx:ev st.f x=.pel id 1 i){e:TypeId}{c c':Cont}(hid:gq st.h id=some ⟨.row e c,false⟩){hl:Nat→Option Blk}(hm:∀id b,hl id=some b→gq st.h id=some b)
    (hc:c.set i (zo hl (ev st.f y))=some c') (hni:id∉vk (ev st.f y)) :
    ael D B0 w0 st ⟨dst,.store t x y,type,pos,after,guard⟩ ⟨.bot,(id,some ⟨.row e c',false⟩)::freeze hl (vk (ev st.f y)) [],st.n⟩ :=
 azl hid hm (vk (ev st.f y)) (fun E act w hR E1 hρ1 up1 hS1=>by
  have hX:=hR.ev x
  have hY:=hR.ev y
  rw[hx] at hX
  simp only[eu] at hX
  obtain ⟨a,n,cap,hρ,hi,hu⟩:=hX
  obtain ⟨v,hv,⟨xs,ho,hxs⟩,_⟩:=hR.heap _ _ hid
  rw[hρ] at hv
  cases hv
  obtain ⟨c1,c2,c3,hcell,hoth⟩:=Cont.bn6 hc
  rcases (show _ from ho.2) with ⟨h1,_⟩ | ⟨g,cap',cur,h1,hB,hh,hn,hcm,hcs,ht⟩
  ·cases h1
  ·cases h1
   rw[c3,Af] at hcs
   rw[c3,Af] at ht
   have hxr:=zn hR hm (S':=E1.S) up1.keeps.sub (ev st.f y) (act.eval y) hY (fun id hid b v k hb hv hk=>hS1 id hid b v k hb hv hk)
   obtain ⟨hone,hci⟩:=hcell E1.S w (act.eval y) hxr hi
   have hcl:(act.eval y).cells.toList=[act.eval y]:=by cases hv:act.eval y<;>rw[hv] at hone<;>first | rfl | cases hone
   have hst:=apn (P:=D.P) (w:=w) hs (o:=i) hh (act.eval y) (by rw[←Ar,hcl];rfl) (by rw[hcl];simpa using hone) (by omega)
   refine ⟨g,_,_,hρ,rfl,by simp only[execOp,hu,w9,Af,Au,Sem.run_bind,hst,Result.andThen_ok,Sem.run_pure];rfl,fun hns=>?_⟩
   have kp:Keeps E1.S E1.S w (w.setRow g (cur.toList.take i++(act.eval y).cells.toList++cur.toList.drop (i+1)).toArray) :=
    ⟨fun _ h=>h,fun k hk=>setRow_other w g k _ (hns k hk)⟩
   refine ⟨_,by rw[hρ1];exact hρ,⟨xs.set i (act.eval y),?_,fun j z hj=>?_⟩,fun _ k hk hS=>?_,fun hf=>by cases hf⟩
   ·rw[c1,c2]
    rcases bek (by rw[c3] at ho;exact ho) rfl hh hcm hcs hn hB ht hi (act.eval y) with h | h
    ·exact h
    ·rw[hone] at h;cases h
   ·rw[Aj] at hj
    split at hj
    ·rename_i hij
     subst hij
     split at hj
     ·cases hj
      exact ⟨hone,cellC.mono kp hci⟩
     ·cases hj
    ·rename_i hij
     have:=hxs j z hj
     exact ⟨this.1,cellC.mono kp (cellC.mono ⟨up1.keeps.sub,fun _ _=>rfl⟩ (hoth E.S w j z (Ne.symm hij) this.2))⟩
   ·simp[iy] at hk
    exact hns k hS hk.symm) hni
end
end Go.Abs
end

section
namespace Go.Abs
open Go Go.RowKit
section
variable {D:Ctx} {B0:Nat} {w0:W0} {st:ASt} {dst:Option Tmp} {type:TypeId} {pos:String} {after:Array Edge} {guard:Option (Nat×Bool)}
theorem bi7{op:Op}{id:Nat}{b b':Bk}(hid:gq st.h id=some ⟨b,false⟩){x:Value}
    (h:∀E act w,Rel D B0 w0 E st act w → 
     ∃kb new u,E.ρ id=some u∧iy u=some kb∧(execOp act.eval ⟨dst,op,type,pos,after,guard⟩).run D.P w=.ok (.value x) (w.setRow kb new) ∧
      ((∀j,E.S j→j≠kb)→aty E (w.setRow kb new) B0 id ⟨b',false⟩)) :
    ael D B0 w0 st ⟨dst,op,type,pos,after,guard⟩ ⟨.v x,[(id,some ⟨b',false⟩)],st.n⟩:=by
 intro E act w hR hnew next Q hnext
 obtain ⟨kb,new,u,hu,hkb,hrun,hB⟩:=h E act w hR
 have hBid:=hR.heap id _ hid
 have hlt:=hBid.lt hu hkb
 have hnS:∀j,E.S j→j≠kb:=by
  rintro j hj rfl
  obtain ⟨u',hu',_,hns,_⟩:=hBid
  rw[hu] at hu'
  cases hu'
  exact hns rfl j hkb hj
 have hB':=hB hnS
 obtain ⟨hR',up⟩:=arj hR (E':=E) (w':=w.setRow kb new) rfl (fun _ _ h=>h) (x:=id) (fun i u hu=>.inr hu) (below_setRow hlt.1 new) (b:=⟨b',false⟩) (dead:=fun _=>False)
  (h':=(id,some ⟨b',false⟩)::st.h) wm
  (fun i c hi hc=>⟨by rw[uj hi] at hc;exact hc,fun h=>h⟩) hB' rfl
  (fun k hk=>by
   by_cases e:k=kb
   ·subst e;exact .inr ⟨id,_,u,.inr rfl,hid,rfl,hu,hkb⟩
   ·exact .inl (setRow_other w kb k new e))
  (fun u' k hu' hk=>.inr ⟨id,_,u',.inr rfl,hid,rfl,hu',hk⟩) st.n
 unfold Oper.wp
 rw[hrun,Oper.upon_value]
 exact hnext E _ x up (fun i x hx=>.inl hx) (Rel.put hR' (a:=.v x) (by simp only[eu]) dst)
theorem bbo{P:Program}{w:World}{t t' ty e:TypeId}(ht:P.underlying t=some (.slice e))(hs:oh P e=some 1){g o dLen dCap:Nat}{dp:Option Addr}{cur:Array Value}{et:TypeId}(hg:w.heap[g]?=some (.cells cur et (0,0)))
    {E:Env} {k:IntKind} {zs:List Int} {u:Value} (hu:Reads E w (.ints k zs) u) (hd:0<dLen→dp=some ⟨g,o,none⟩) (hfit:o+dLen≤cur.size) :
    (Builtin.copy_ #[t,t'] ty #[.slice dp dLen dCap,u]).run P w =
     .ok (.int .i64 ((min dLen zs.length:Nat):Int)) (w.setRow g (cur.toList.take o++(zs.take dLen).map (Value.int k)++cur.toList.drop (o+min dLen zs.length)).toArray):=by
 obtain ⟨A,cap,rfl,hc,hx⟩:=hu
 simp only[Cont.len] at hc hx ⊢
 have hsz:(P.info? e).map (·.size)=some 1:=hs
 by_cases h0:min dLen zs.length=0
 ·have hn:Nat.min zs.length dLen=0:=by rw[←h0];exact Nat.min_comm _ _
  have:=run_copy_none (P:=P) w t t' ty e dp A dLen dCap zs.length cap ht hsz hn
  rw[this,h0]
  have hnil:zs.take dLen=[]:=by
   rcases Nat.eq_zero_or_pos dLen with h | h
   ·simp[h]
   ·have:zs.length=0:=by omega
    simp[Ah this]
  rw[hnil]
  simp only[List.map_nil,List.append_nil,A9,List.take_append_drop,Array.toArray_toList]
  rw[setRow_self w g cur et (0,0) hg]
  rfl
 ·have hd':=hd (by omega)
  subst hd'
  obtain ⟨a,rfl,hj⟩:=hx (by omega)
  have hlen:((zs.take dLen).map (Value.int k)).length=min dLen zs.length:=by simp
  have:=run_copy_row (P:=P) w t t' ty e g o dLen dCap a zs.length cap cur et ((zs.take dLen).map (Value.int k)) ht hsz hg (by rw[hlen];exact Nat.min_comm _ _)
   (fun j v hv=>by
    have hlt:=(List.getElem?_eq_some_iff.1 hv).1
    rw[hlen] at hlt
    obtain ⟨x,h1,_,h2⟩:=hj j (by simp[Cont.size];omega)
    rw[h1]
    simp only[cellC,cell1,aj2] at h2
    rw[h2]
    simp only[Ai,List.getElem?_take,if_pos (show j<dLen by omega)] at hv
    rw[Ac (show j<zs.length by omega)] at hv
    cases hv
    rw[Ab,Ac (show j<zs.length by omega)]
    rfl) (by rw[hlen];omega) (fun v hv=>by obtain ⟨z,_,rfl⟩:=List.mem_map.1 hv;rfl)
  rw[this,hlen]
  rfl
theorem bls(z zs:List Int){lo len:Nat}(h:lo+len≤z.length):(cpy z zs lo len).length=z.length:=by
 simp[cpy];omega
theorem brt{α β:Type}(f:α→β)(c1 c3:List β)(z zs:List α){lo len:Nat}(h:lo+len≤z.length) :
    (c1++(z.map f++c3)).take (c1.length+lo)++(zs.take len).map f++(c1++(z.map f++c3)).drop (c1.length+lo+min len zs.length) =
     c1++((z.take lo++(zs.take len++z.drop (lo+min len zs.length))).map f++c3):=by
 have e1:(c1++(z.map f++c3)).take (c1.length+lo)=c1++(z.take lo).map f:=by
  rw[Av,Ao (by omega),Nat.add_sub_cancel_left,Av,List.map_take]
  rw[show lo-(z.map f).length=0 by simp;omega]
  simp
 have e2:(c1++(z.map f++c3)).drop (c1.length+lo+min len zs.length)=(z.drop (lo+min len zs.length)).map f++c3:=by
  rw[List.drop_append,List.drop_eq_nil_of_le (by omega),Ay,show c1.length+lo+min len zs.length-c1.length=lo+min len zs.length by omega,List.drop_append,List.map_drop]
  rw[show lo+min len zs.length-(z.map f).length=0 by simp;omega]
  simp
 rw[e1,e2]
 simp
theorem bbd{t t' e:TypeId}(ht:D.P.underlying t=some (.slice e))(hs:oh D.P e=some 1){hl:Nat→Option Blk}(hm:∀id b,hl id=some b→gq st.h id=some b)(x y:Operand){id off m lo len:Nat}(hx:ev st.f x=.awin id off m lo len){et:TypeId}{l pre post:List AVal}{k:IntKind}{z zs:List Int}
    (hid:hl id=some ⟨.box et l,false⟩) (hy:aj3 hl (ev st.f y)=some (.ints k zs)) (hg:aay l off=some (pre,.arr k m z::post)) :
    ael D B0 w0 st ⟨dst,.call ⟨.builtin .copy,#[x,y],#[t,t']⟩,type,pos,after,guard⟩ ⟨.v (.int .i64 ((min len zs.length:Nat):Int)),[(id,some ⟨.box et (ru pre (.arr k m (cpy z zs lo len)::post)),false⟩)],st.n⟩ :=
 bi7 (hm _ _ hid) (fun E act w hR=>by
  have hX:=hR.ev x
  rw[hx] at hX
  simp only[eu] at hX
  obtain ⟨b,A,cap,hρ,hle,hcap,hA,hu⟩:=hX
  have hY:=abt hR hm hy (hR.ev y)
  obtain ⟨v,hv,⟨kb,cs,rfl,hB,hh,hl⟩,_⟩:=hR.heap _ _ (hm _ _ hid)
  rw[hρ] at hv
  cases hv
  obtain ⟨c1,c2,he,g1,g2,l1⟩:=apo hg hl
  obtain ⟨cs',hz,rfl,g3⟩:=aaz g2
  have hcs:cs.size=off+(m+cs'.length):=by
   have:cs.toList.length=(c1++(z.map (Value.int k)++cs')).length:=by rw[he]
   simp at this;omega
  have hrun:=bbo (P:=D.P) (t':=t') (ty:=type) ht hs hh hY (g:=b) (o:=off+lo) (dLen:=len) (dCap:=cap) (dp:=A) hA (by omega)
  refine ⟨b,(cs.toList.take (off+lo)++(zs.take len).map (Value.int k)++cs.toList.drop (off+lo+min len zs.length)).toArray,_,hρ,rfl,by simp[execOp,resolve,invoke,builtin,hu,hrun],fun hns=>?_⟩
  have up:Up E E w (w.setRow b (cs.toList.take (off+lo)++(zs.take len).map (Value.int k)++cs.toList.drop (off+lo+min len zs.length)).toArray) :=
   ⟨⟨fun _ h=>h,fun q hq=>setRow_other w b q _ (hns q hq)⟩,fun i u hu=>hu⟩
  refine ⟨_,hρ,⟨b,_,rfl,hB,setRow_heap w b cs _ et (0,0) hh,?_⟩,fun _ q hq hS=>?_,fun hf=>by cases hf⟩
  ·have h2:=brt (Value.int k) c1 cs' z zs (lo:=lo) (len:=len) (by omega)
   rw[←he,l1] at h2
   have hL:(cs.toList.take (off+lo)++(zs.take len).map (Value.int k)++cs.toList.drop (off+lo+min len zs.length)).toArray.toList=c1++((cpy z zs lo len).map (Value.int k)++cs'):=h2
   rw[hL]
   exact aci _ _ _ _ (ql.mono up _ _ g1) (aas (by rw[bls _ _ (by omega)];exact hz) (ql.mono up _ _ g3))
  ·simp[iy] at hq
   exact hns q hS hq.symm)
theorem bok{α:Type}(A cs:List α){off c n:Nat}(hc:cs.length=c)(h1:off+c≤n)(h2:n≤A.length) :
    (A.take off++cs++A.drop (off+c)).take n=(A.take n).take off++cs++(A.take n).drop (off+c):=by
 have e:(A.take off++cs).length=off+c:=by simp;omega
 rw[Av,e,Ao (by omega),List.take_take,Nat.min_eq_left (by omega),List.drop_take]
theorem awq{t t' e:TypeId}(ht:D.P.underlying t=some (.slice e))(hs:oh D.P e=some 1){hl:Nat→Option Blk}(hm:∀id b,hl id=some b→gq st.h id=some b)(x y:Operand){id off len:Nat}{et:TypeId}{k:IntKind}{z zs:List Int}
    (hid:hl id=some ⟨.row et (.ints k z),false⟩) (hy:aj3 hl (ev st.f y)=some (.ints k zs))
    (hx:∀E act w,Rel D B0 w0 E st act w→∃u A n cap A' cap',E.ρ id=some u∧u=.slice A n cap∧off+len≤n∧act.eval x=.slice A' len cap'∧(0<len→A'=A.map (·.add off))) :
    ael D B0 w0 st ⟨dst,.call ⟨.builtin .copy,#[x,y],#[t,t']⟩,type,pos,after,guard⟩ ⟨.v (.int .i64 ((min len zs.length:Nat):Int)),[(id,some ⟨.row et (.ints k (cpy z zs off len)),false⟩)],st.n⟩:=by
 intro E act w hR hnew next Q hnext
 obtain ⟨u,A,n,cap,A',cap',hρ,rfl,hle,hev,hA'⟩:=hx E act w hR
 have hY:=abt hR hm hy (hR.ev y)
 obtain ⟨v,hv,⟨xs,ho,hxs⟩,hns,_⟩:=hR.heap _ _ (hm _ _ hid)
 rw[hρ] at hv
 cases hv
 have hxz:xs=z.map (Value.int k):=by
  have hl1:xs.length=z.length*1:=ho.1
  apply List.ext_getElem?
  intro j
  by_cases hj:j<xs.length
  ·have h1:=(hxs j _ (Ac hj)).2
   simp only[cellC,cell1,aj2] at h1
   rw[Ac hj,h1,Ai,Ac (show j<z.length by omega),Ab,Ac (show j<z.length by omega)]
   rfl
  ·rw[Aq (by omega),Aq (by simp;omega)]
 rcases (show _ from ho.2) with ⟨h1,h0⟩ | ⟨g,cap1,cur,h1,hB,hh,hn,hcm,hcs,htk⟩
 ·-- nil
  cases h1
  simp only[Cont.len] at h0
  have hz0:z=[]:=Ah h0
  subst hz0
  have hl0:len=0:=by omega
  have ho0:off=0:=by omega
  subst hl0
  subst ho0
  obtain ⟨B,capy,hyv,_⟩:=hY
  have hsz:(D.P.info? e).map (·.size)=some 1:=hs
  have hrun:=run_copy_none (P:=D.P) w t t' type e A' B 0 cap' (Cont.ints k zs).len capy ht hsz (by simp)
  have hrun':(execOp act.eval ⟨dst,.call ⟨.builtin .copy,#[x,y],#[t,t']⟩,type,pos,after,guard⟩).run D.P w=.ok (.value (goInt 0)) w:=by
   simp[execOp,resolve,invoke,builtin,hev,hyv,hrun]
  unfold Oper.wp
  rw[hrun',Oper.upon_value]
  have hsame:∀j,gq ((id,some ⟨.row et (.ints k (cpy [] zs 0 0)),false⟩)::st.h) j=gq st.h j:=by
   intro j
   by_cases hj:j=id
   ·subst hj
    rw[wm,hm _ _ hid]
    simp[cpy]
   ·exact uj hj
  have hR':Rel D B0 w0 E { st with h:=(id,some ⟨.row et (.ints k (cpy [] zs 0 0)),false⟩)::st.h } act w :=
   { below:=hR.below,base:=hR.base,size:=hR.size,idle:=hR.idle,marks:=hR.marks,recs:=hR.recs,tmps:=hR.tmps,
     heap:=fun j b hj=>hR.heap j b (by rw[←hsame];exact hj),
     apart:=fun i j b b' u u' q h1 h2 h3 h4=>hR.apart i j b b' u u' q (by rw[←hsame];exact h1) h2 (by rw[←hsame];exact h3) h4,
     sOld:=hR.sOld,sNew:=hR.sNew,form:=hR.form,globs:=hR.globs }
  exact hnext E w (goInt 0) (Up.refl _ _) (fun i x hx=>.inl hx) (Rel.put hR' (a:=.v (.int .i64 ((min 0 zs.length:Nat):Int))) (by simp[eu,goInt]) dst)
 ·cases h1
  have hupd:ael D B0 w0 st ⟨dst,.call ⟨.builtin .copy,#[x,y],#[t,t']⟩,type,pos,after,guard⟩ ⟨.v (.int .i64 ((min len zs.length:Nat):Int)),[(id,some ⟨.row et (.ints k (cpy z zs off len)),false⟩)],st.n⟩→True:=fun _=>trivial
  simp only[Cont.size,Af] at hcs htk
  simp only[Cont.len] at hn htk ho hle
  have hcl:cur.toList.length=cap:=by simpa using hcs
  have hrun:=bbo (P:=D.P) (t':=t') (ty:=type) ht hs hh hY (g:=g) (o:=off) (dLen:=len) (dCap:=cap') (dp:=A')
   (fun h=>by rw[hA' h];simp[Addr.add_lit]) (by omega)
  have hrun':(execOp act.eval ⟨dst,.call ⟨.builtin .copy,#[x,y],#[t,t']⟩,type,pos,after,guard⟩).run D.P w=.ok (.value (.int .i64 ((min len zs.length:Nat):Int))) (w.setRow g (cur.toList.take off++(zs.take len).map (Value.int k)++cur.toList.drop (off+min len zs.length)).toArray):=by
   simp[execOp,resolve,invoke,builtin,hev,hrun]
  have hnS:∀j,E.S j→j≠g:=by
   rintro j hj rfl
   exact hns rfl j rfl hj
  have kp:Keeps E.S E.S w (w.setRow g (cur.toList.take off++(zs.take len).map (Value.int k)++cur.toList.drop (off+min len zs.length)).toArray) :=
   ⟨fun _ h=>h,fun q hq=>setRow_other w g q _ (hnS q hq)⟩
  have hlz:(cpy z zs off len).length=z.length:=bls _ _ (by omega)
  have hB':aty E (w.setRow g (cur.toList.take off++(zs.take len).map (Value.int k)++cur.toList.drop (off+min len zs.length)).toArray) B0 id ⟨.row et (.ints k (cpy z zs off len)),false⟩:=by
   refine ⟨_,hρ,⟨(cpy z zs off len).map (Value.int k),?_,fun j q hj=>?_⟩,fun _ q hq hS=>hnS q hS (by simpa [iy] using hq.symm),fun hf=>by cases hf⟩
   ·simp only[Cont.len,Cont.size]
    rw[hlz]
    refine ⟨by simp[hlz],.inr ⟨g,cap,_,rfl,hB,setRow_heap w g cur _ et (0,0) hh,hn,hcm,?_,?_⟩⟩
    ·simp only[Am,Al,List.length_take,List.length_drop,List.length_map,hcl]
     omega
    ·simp only[Af]
     rw[bok cur.toList _ (by simp) (by omega) (by omega),htk,hxz]
     simp[cpy]
   ·rw[Ai] at hj
    cases hq:(cpy z zs off len)[j]? with
    | none=>rw[hq] at hj;cases hj
    | some a =>
     rw[hq] at hj
     cases hj
     refine ⟨rfl,?_⟩
     simp only[cellC,cell1,aj2,Ab,hq,Option.getD_some]
  obtain ⟨hR',up⟩:=arj hR (E':=E) (w':=w.setRow g _) rfl (fun _ _ h=>h) (x:=id) (fun i u hu=>.inr hu) (below_setRow hB _) (b:=⟨.row et (.ints k (cpy z zs off len)),false⟩) (dead:=fun _=>False)
   (h':=(id,some ⟨.row et (.ints k (cpy z zs off len)),false⟩)::st.h) wm
   (fun i c hi hc=>⟨by rw[uj hi] at hc;exact hc,fun h=>h⟩) hB' rfl
   (fun q hq=>by
    by_cases e:q=g
    ·subst e;exact .inr ⟨id,_,_,.inr rfl,hm _ _ hid,rfl,hρ,rfl⟩
    ·exact .inl (setRow_other w g q _ e))
   (fun u' q hu' hq=>.inr ⟨id,_,u',.inr rfl,hm _ _ hid,rfl,hu',hq⟩) st.n
  unfold Oper.wp
  rw[hrun',Oper.upon_value]
  exact hnext E _ _ up (fun i x hx=>.inl hx) (Rel.put hR' (a:=.v _) (by simp only[eu]) dst)
end
end Go.Abs
end

section
namespace Go.Abs
open Go Go.RowKit
theorem amq(w:World)(k o j:Nat)(h:j≠k):(w.freeze ⟨k,o,none⟩ 1).heap[j]?=w.heap[j]?:=by
 unfold World.freeze
 rw[if_neg (by decide)]
 simp only[Az]
 rw[if_neg (Ne.symm h)]
theorem bk5(w:World)(k o:Nat){cur:Array Value}{e:TypeId}(h:w.heap[k]?=some (.cells cur e (0,0))):(w.freeze ⟨k,o,none⟩ 1).heap[k]?=some (.cells cur e (o,o+1)):=by
 unfold World.freeze
 rw[if_neg (by decide)]
 simp only[Az]
 rw[if_pos trivial,h]
 rfl
theorem auq(w:World)(a:Addr):(w.freeze a 1).heap.size=w.heap.size:=by
 unfold World.freeze
 rw[if_neg (by decide)]
 simp
theorem below_freeze{B:Nat}{w:World}{k o:Nat}(hk:B≤k):Below B w (w.freeze ⟨k,o,none⟩ 1):=by
 refine ⟨?_,?_,?_,?_,fun j hj=>amq w k o j (by omega)⟩
 ·unfold World.freeze;rw[if_neg (by decide)]
 ·unfold World.freeze;rw[if_neg (by decide)]
 ·unfold World.freeze;rw[if_neg (by decide)]
 ·rw[auq];exact Aa _
theorem bav{P:Program}{w:World}{t e:TypeId}(ht:P.underlying t=some (.slice e))(he:P.underlying e=some (.int .u8)){g o n c:Nat}{cur:Array Value}{et:TypeId}(hg:w.heap[g]?=some (.cells cur et (0,0))) :
    (convert t t (.slice (some ⟨g,o,none⟩) n c)).run P w=.ok (.slice (some ⟨g,o,none⟩) n c) (w.freeze ⟨g,cur.size,none⟩ 1):=by
 have hsh:w.shape? g=some (et,cur.size):=by unfold World.shape?;rw[hg]
 simp[convert,run_underlying ht,run_underlying he,markStringish,hsh]
section
variable {D:Ctx} {B0:Nat} {w0:W0} {st:ASt} {dst:Option Tmp} {type:TypeId} {pos:String} {after:Array Edge} {guard:Option (Nat×Bool)}
theorem bdu{t e:TypeId}(ht:D.P.underlying t=some (.slice e))(he:D.P.underlying e=some (.int .u8))(x:Operand){id:Nat}(hx:ev st.f x=.own id){et:TypeId}{k:IntKind}{z:List Int}(hz:0<z.length)
    (hid:gq st.h id=some ⟨.row et (.ints k z),false⟩) :
    ael D B0 w0 st ⟨dst,.convert t t x,type,pos,after,guard⟩ ⟨.sl (.ints k z),[(id,none)],st.n⟩:=by
 intro E act w hR hnew next Q hnext
 have hX:=hR.ev x
 rw[hx] at hX
 simp only[eu] at hX
 obtain ⟨u,hρ,⟨xs,ho,hxs⟩,hns,_⟩:=hR.heap _ _ hid
 rw[hX] at hρ
 cases hρ
 rcases (show _ from ho.2) with ⟨h1,h0⟩ | ⟨g,cap,cur,h1,hB,hh,hn,hcm,hcs,htk⟩
 ·simp only[Cont.len] at h0;omega
 ·have hrun:=bav (P:=D.P) ht he hh (o:=0) (n:=(Cont.ints k z).len) (c:=cap)
  have hrun':(execOp act.eval ⟨dst,.convert t t x,type,pos,after,guard⟩).run D.P w=.ok (.value (.slice (some ⟨g,0,none⟩) (Cont.ints k z).len cap)) (w.freeze ⟨g,cur.size,none⟩ 1):=by
   simp only[execOp,h1,Sem.run_bind,hrun,Result.andThen_ok,Sem.run_map,Sem.run_pure]
  have hlt:=(hR.heap _ _ hid).lt hX (k:=g) (by rw[h1];rfl)
  let E':Env:=⟨fun b=>E.S b∨b=g,E.ρ⟩
  have hkeep:∀b,E.S b→(w.freeze ⟨g,cur.size,none⟩ 1).heap[b]?=w.heap[b]?:=fun b hb=>amq w g _ b (by rintro rfl;exact hns rfl b (by rw[h1];rfl) hb)
  have up:Up E E' w (w.freeze ⟨g,cur.size,none⟩ 1):=⟨⟨fun b hb=>.inl hb,hkeep⟩,fun _ _ h=>h⟩
  have hlive:∀j b,gq ((id,none)::st.h) j=some b→j≠id∧gq st.h j=some b:=by
   intro j b hj
   by_cases e:j=id
   ·subst e;rw[wm] at hj;cases hj
   ·rw[uj e] at hj;exact ⟨e,hj⟩
  have hR':Rel D B0 w0 E' { st with h:=(id,none)::st.h,n:=st.n } act (w.freeze ⟨g,cur.size,none⟩ 1):=by
   refine hR.step up (below_freeze hlt.1) st.n (fun j b hj=>?_) (fun i j b b' u u' q hi hf hj hf' hne hu hu' hk=>?_) (fun b hb=>?_) hR.form
   ·obtain ⟨hne,hj'⟩:=hlive j b hj
    refine (hR.heap j b hj').mono up (fun v q hv hq=>?_) (fun hf v q hv hq hs=>?_)
    ·by_cases e:q=g
     ·subst e
      cases hf:b.frz with
      | false=>exact absurd hq (hR.apart id j _ b _ v q hid rfl hj' hf (Ne.symm hne) hX hv (by rw[h1];rfl))
      | true =>
       obtain ⟨v',hv',_,_,hs⟩:=hR.heap j b hj'
       rw[hv] at hv'
       cases hv'
       exact absurd (hs hf q hq) (hns rfl q (by rw[h1];rfl))
     ·exact amq w g _ q e
    ·rcases hs with hs | rfl
     ·exact hs
     ·exact absurd hq (hR.apart id j _ b _ v q hid rfl hj' hf (Ne.symm hne) hX hv (by rw[h1];rfl))
   ·obtain ⟨g1,g2⟩:=hlive i b hi
    obtain ⟨g3,g4⟩:=hlive j b' hj
    exact hR.apart i j b b' u u' q g2 hf g4 hf' hne hu hu' hk
   ·rcases hb with hb | rfl
    ·exact .inl hb
    ·refine .inr ⟨hlt.1,?_⟩
     rw[auq]
     exact hlt.2
  have hval:eu E' (w.freeze ⟨g,cur.size,none⟩ 1) (.sl (.ints k z)) (.slice (some ⟨g,0,none⟩) (Cont.ints k z).len cap):=by
   simp only[eu]
   refine ⟨some ⟨g,0,none⟩,cap,rfl,hn,fun _=>⟨_,rfl,.inr rfl,fun j hj=>?_⟩⟩
   obtain ⟨_,_,_,hc⟩:=abv ho h1
   have hlen:=ho.1
   have hj':j<xs.length:=by omega
   refine ⟨xs[j],?_,?_⟩
   ·have e1:=hc j hj'
    rw[Ac hj'] at e1
    rw[←e1,w9]
    unfold World.cell?
    rw[bk5 w g _ hh,hh]
   ·have:=(hxs j _ (Ac hj')).2
    exact this
  unfold Oper.wp
  rw[hrun',Oper.upon_value]
  exact hnext E' _ _ up (fun i x hx=>.inl hx) (Rel.put hR' hval dst)
end
end Go.Abs
end

section
namespace Go.Abs
open Go Go.RowKit
def uz(S:Nat→Prop):Env:=⟨S,fun _=>none⟩
mutual
def aae(S:Nat→Prop)(w:World)(B:Nat):AVal→Value→List Nat→Prop
 | .fr e c,u,bs=>(∃xs,w.ownsRow B e c.size u c.len xs∧∀j x,xs[j]?=some x→x.oneCell'=true∧cellC S w c j x)∧bs=(iy u).toList
 | .agg l,u,bs=>∃cs,u=.agg cs.toArray∧ahs S w B l cs bs
 | .tuple l,u,bs=>∃vs,u=.tuple vs.toArray∧ai2 S w B l vs bs
 | a,u,bs=>eu (uz S) w a u∧bs=[]
def ai2(S:Nat→Prop)(w:World)(B:Nat):List AVal→List Value→List Nat→Prop
 | [],vs,bs=>vs=[]∧bs=[]
 | a::r,vs,bs=>∃u us b1 b2,vs=u::us∧bs=b1++b2∧aae S w B a u b1∧ai2 S w B r us b2
def ahs(S:Nat→Prop)(w:World)(B:Nat):List AVal→List Value→List Nat→Prop
 | [],cs,bs=>cs=[]∧bs=[]
 | .arr k n l::r,cs,bs=>∃cs',l.length=n∧cs=l.map (Value.int k)++cs'∧ahs S w B r cs' bs
 | a::r,cs,bs=>∃u cs' b1 b2,cs=u::cs'∧u.oneCell'=true∧bs=b1++b2∧aae S w B a u b1∧ahs S w B r cs' b2
end
theorem bmf{S S':Nat→Prop}{E:Env}{w w':World}(k:Keeps S E.S w w'):Up (uz S) E w w':=⟨k,fun _ _ h=>by simp[uz] at h⟩
theorem uw{E:Env}{w:World}{a:AVal}{u:Value}(h:eu (uz E.S) w a u):eu E w a u :=
 eu.mono (E:=uz E.S) (E':=E) (w:=w) (w':=w) (bmf (S':=E.S) (Keeps.refl E.S w)) a u h
def amo(globs:List (Nat×List AVal))(S:Nat→Prop)(w:World):Prop :=
 ∀g l,assoc globs g=some l→S g∧∃cs e fz,w.heap[g]?=some (.cells cs e fz)∧ql (uz S) w l cs.toList
def avx(P:Program)(globs:List (Nat×List AVal))(f:FuncId)(s:Spec):Prop :=
 ∀(args:List AVal) (K:AVal→Option R) (r:R),s args K=some r→∃a,K a=some r∧∀(S:Nat→Prop) (w:World) (cargs:List Value),
  (∀b,S b→b<w.heap.size)→amo globs S w→lg (uz S) w args cargs →
  Calls P f cargs.toArray w fun e w'=>∃v Sn bs,e=.returned v∧Below w.heap.size w w'∧(∀b,Sn b→S b∨(w.heap.size≤b∧b<w'.heap.size))∧aae Sn w' w.heap.size a v bs∧bs.Nodup∧∀b,b∈bs→¬Sn b
def Enters (P : Program) (f : FuncId) : Prop := ∃ fn, P.funcs[f]? = some fn ∧ (fn.name == "runtime.NumGoroutine") = false ∧ fn.body.isSome = true
def GOk(D:Ctx):Prop:=∀f s,aqm D.G f=some s→Enters D.P f∧avx D.P D.globs f s
theorem amv{P:Program}{w:World}{f:FuncId}(h:Enters P f)(args:Array Value):(callFunc f args).run P w=.ok (.enter f args) w:=by
 obtain ⟨fn,h1,h2,h3⟩:=h
 simp only[callFunc,Sem.run_bind,run_program,Result.andThen_ok,h1]
 rw[if_neg (by simpa using h2)]
 rw[if_neg (by cases hb:fn.body<;>simp_all)]
 rfl
theorem an0{S:Nat→Prop}{w:World}{B:Nat}{a:AVal}{r:List AVal}{cs:List Value}{bs:List Nat}(h:ahs S w B (a::r) cs bs) :
    (∃k n l cs',a=.arr k n l∧l.length=n∧cs=l.map (Value.int k)++cs'∧ahs S w B r cs' bs) ∨
    ((∀k n l,a≠.arr k n l)∧∃u cs' b1 b2,cs=u::cs'∧u.oneCell'=true∧bs=b1++b2∧aae S w B a u b1∧ahs S w B r cs' b2):=by
 cases a<;>simp only[ahs] at h<;>first
  | (obtain ⟨cs',h1,h2,h3⟩:=h;exact .inl ⟨_,_,_,cs',rfl,h1,h2,h3⟩)
  | (obtain ⟨u,cs',b1,b2,h1,h2,h3,h4,h5⟩:=h;exact .inr ⟨by simp,u,cs',b1,b2,h1,h2,h3,h4,h5⟩)
section
variable {D:Ctx} {B0:Nat} {w0:W0} {E:Env} {st:ASt} {act:Act} {w:World}
theorem bkf(h:Rel D B0 w0 E st act w){x:Nat}(hx:E.ρ x=none){e:TypeId}{c:Cont}{u:Value}{xs:List Value}(ho:w.ownsRow B0 e c.size u c.len xs)(hc:∀j x,xs[j]?=some x→x.oneCell'=true∧cellC E.S w c j x)
    (hS:∀k,iy u=some k→¬E.S k) (hap:∀id b v k,gq st.h id=some b→b.frz=false→E.ρ id=some v→iy v=some k→iy u≠some k) (n:Nat) :
    Rel D B0 w0 ⟨E.S,upd E.ρ x u⟩ { st with h:=(x,some ⟨.row e c,false⟩)::st.h,n:=n } act w∧Up E ⟨E.S,upd E.ρ x u⟩ w w:=by
 have up:Up E ⟨E.S,upd E.ρ x u⟩ w w:=⟨Keeps.refl _ _,awi hx⟩
 have look':∀id b,gq ((x,some ⟨.row e c,false⟩)::st.h) id=some b→(id=x∧b=⟨.row e c,false⟩)∨(id≠x∧gq st.h id=some b):=by
  intro id b hb
  by_cases he:id=x
  ·subst he;rw[wm] at hb;cases hb;exact .inl ⟨rfl,rfl⟩
  ·rw[uj he] at hb;exact .inr ⟨he,hb⟩
 have hB:aty ⟨E.S,upd E.ρ x u⟩ w B0 x ⟨.row e c,false⟩:=⟨u,upd_same _ _ _,⟨xs,ho,hc⟩,fun _ k hk=>hS k hk,fun hf=>by cases hf⟩
 refine ⟨h.step up (Below.refl _ _) n (fun id b hb=>?_) (fun id id' b b' v v' k hb hf hb' hf' hne hv hv' hk hk'=>?_) (fun _ h=>.inl h) (fun id v hv=>?_),up⟩
 ·rcases look' id b hb with ⟨rfl,rfl⟩ | ⟨hid,hb⟩
  ·exact hB
  ·exact (h.heap id b hb).mono up (fun _ _ _ _=>rfl) (fun _ _ _ _ _ hs=>hs)
 ·rcases look' id b hb with ⟨rfl,rfl⟩ | ⟨hid,hbn⟩
  ·rcases look' id' b' hb' with ⟨rfl,rfl⟩ | ⟨hid',hbn'⟩
   ·exact hne rfl
   ·simp only[upd_same] at hv
    cases hv
    simp only[upd,if_neg hid'] at hv'
    exact hap id' b' v' k hbn' hf' hv' hk' hk
  ·simp only[upd,if_neg hid] at hv
   rcases look' id' b' hb' with ⟨rfl,rfl⟩ | ⟨hid',hbn'⟩
   ·simp only[upd_same] at hv'
    cases hv'
    exact hap id b v k hbn hf hv hk hk'
   ·simp only[upd,if_neg hid'] at hv'
    exact h.apart id id' b b' v v' k hbn hf hbn' hf' hne hv hv' hk hk'
 ·by_cases he:id=x
  ·subst he;exact .inl (hB.form hv)
  ·simp only[upd,if_neg he] at hv;exact h.form id v hv
structure Taking (D:Ctx) (B0:Nat) (w0:W0) (N:Nat) (E:Env) (f:List (Nat×AVal)) (m:Nat) (h:Hp) (act:Act) (w:World) (bs:List Nat) (n:Nat):Prop where
 rel:Rel D B0 w0 E ⟨f,h,n,m⟩ act w
 free:∀id,n≤id→id<N→E.ρ id=none
 apart:∀id b v k,gq h id=some b→b.frz=false→E.ρ id=some v→iy v=some k→k∉bs
 notS:∀b,b∈bs→¬E.S b
end
mutual
theorem awp{S S':Nat→Prop}{w:World}{B:Nat}:∀(a:AVal) (u:Value) (bs:List Nat),aae S w B a u bs→((∀b,S b→S' b)∨shares a=false)→aae S' w B a u bs
 | .fr e c,u,bs,h,hs=>by
  simp only[aae] at h ⊢
  obtain ⟨⟨xs,h1,h2⟩,h3⟩:=h
  refine ⟨⟨xs,h1,fun j x hj=>⟨(h2 j x hj).1,?_⟩⟩,h3⟩
  rcases hs with hs | hs
  ·exact cellC.mono ⟨hs,fun _ _=>rfl⟩ (h2 j x hj).2
  ·cases c with
   | ints k l=>exact (h2 j x hj).2
   | _=>simp[shares] at hs
 | .agg l,u,bs,h,hs=>by
  simp only[aae] at h ⊢
  obtain ⟨cs,h1,h2⟩:=h
  exact ⟨cs,h1,arp l cs bs h2 (hs.imp id (by simpa only[shares] using id))⟩
 | .tuple l,u,bs,h,hs=>by
  simp only[aae] at h ⊢
  obtain ⟨vs,h1,h2⟩:=h
  exact ⟨vs,h1,ays l vs bs h2 (hs.imp id (by simpa only[shares] using id))⟩
 | .v x,u,bs,h,hs=>by simp only[aae,eu] at h ⊢;exact h
 | .bot,u,bs,h,hs=>by simp only[aae,eu] at h ⊢;exact h
 | .arr _ _ _,u,bs,h,hs=>by simp only[aae,eu] at h ⊢;exact h
 | .sl c,u,bs,h,hs=>by
  simp only[aae] at h ⊢
  rcases hs with hs | hs
  ·exact ⟨eu.mono (E:=uz S) (E':=uz S') (w:=w) (w':=w) ⟨⟨hs,fun _ _=>rfl⟩,fun _ _ h=>h⟩ _ _ h.1,h.2⟩
  ·simp[shares] at hs
 | .own _,u,bs,h,hs=>by
  simp only[aae] at h ⊢
  rcases hs with hs | hs
  ·exact ⟨eu.mono (E:=uz S) (E':=uz S') (w:=w) (w':=w) ⟨⟨hs,fun _ _=>rfl⟩,fun _ _ h=>h⟩ _ _ h.1,h.2⟩
  ·simp[shares] at hs
 | .win _ _ _,u,bs,h,hs=>by
  simp only[aae] at h ⊢
  rcases hs with hs | hs
  ·exact ⟨eu.mono (E:=uz S) (E':=uz S') (w:=w) (w':=w) ⟨⟨hs,fun _ _=>rfl⟩,fun _ _ h=>h⟩ _ _ h.1,h.2⟩
  ·simp[shares] at hs
 | .awin _ _ _ _ _,u,bs,h,hs=>by
  simp only[aae] at h ⊢
  rcases hs with hs | hs
  ·exact ⟨eu.mono (E:=uz S) (E':=uz S') (w:=w) (w':=w) ⟨⟨hs,fun _ _=>rfl⟩,fun _ _ h=>h⟩ _ _ h.1,h.2⟩
  ·simp[shares] at hs
 | .ptr _ _,u,bs,h,hs=>by
  simp only[aae] at h ⊢
  rcases hs with hs | hs
  ·exact ⟨eu.mono (E:=uz S) (E':=uz S') (w:=w) (w':=w) ⟨⟨hs,fun _ _=>rfl⟩,fun _ _ h=>h⟩ _ _ h.1,h.2⟩
  ·simp[shares] at hs
 | .fel _ _ _ _,u,bs,h,hs=>by
  simp only[aae] at h ⊢
  rcases hs with hs | hs
  ·exact ⟨eu.mono (E:=uz S) (E':=uz S') (w:=w) (w':=w) ⟨⟨hs,fun _ _=>rfl⟩,fun _ _ h=>h⟩ _ _ h.1,h.2⟩
  ·simp[shares] at hs
 | .pel _ _ _,u,bs,h,hs=>by
  simp only[aae] at h ⊢
  rcases hs with hs | hs
  ·exact ⟨eu.mono (E:=uz S) (E':=uz S') (w:=w) (w':=w) ⟨⟨hs,fun _ _=>rfl⟩,fun _ _ h=>h⟩ _ _ h.1,h.2⟩
  ·simp[shares] at hs
 | .apel _ _ _ _,u,bs,h,hs=>by
  simp only[aae] at h ⊢
  rcases hs with hs | hs
  ·exact ⟨eu.mono (E:=uz S) (E':=uz S') (w:=w) (w':=w) ⟨⟨hs,fun _ _=>rfl⟩,fun _ _ h=>h⟩ _ _ h.1,h.2⟩
  ·simp[shares] at hs
 | .sta _,u,bs,h,hs=>by
  simp only[aae] at h ⊢
  rcases hs with hs | hs
  ·exact ⟨eu.mono (E:=uz S) (E':=uz S') (w:=w) (w':=w) ⟨⟨hs,fun _ _=>rfl⟩,fun _ _ h=>h⟩ _ _ h.1,h.2⟩
  ·simp[shares] at hs
 | .osta _ _,u,bs,h,hs=>by
  simp only[aae] at h ⊢
  rcases hs with hs | hs
  ·exact ⟨eu.mono (E:=uz S) (E':=uz S') (w:=w) (w':=w) ⟨⟨hs,fun _ _=>rfl⟩,fun _ _ h=>h⟩ _ _ h.1,h.2⟩
  ·simp[shares] at hs
 | .fn _ _ _,u,bs,h,hs=>by
  simp only[aae] at h ⊢
  rcases hs with hs | hs
  ·exact ⟨eu.mono (E:=uz S) (E':=uz S') (w:=w) (w':=w) ⟨⟨hs,fun _ _=>rfl⟩,fun _ _ h=>h⟩ _ _ h.1,h.2⟩
  ·simp[shares] at hs
 | .alt _ _ _ _ _ _ _,u,bs,h,hs=>by
  simp only[aae] at h ⊢
  rcases hs with hs | hs
  ·exact ⟨eu.mono (E:=uz S) (E':=uz S') (w:=w) (w':=w) ⟨⟨hs,fun _ _=>rfl⟩,fun _ _ h=>h⟩ _ _ h.1,h.2⟩
  ·simp[shares] at hs
 | .iface _ _,u,bs,h,hs=>by
  simp only[aae] at h ⊢
  rcases hs with hs | hs
  ·exact ⟨eu.mono (E:=uz S) (E':=uz S') (w:=w) (w':=w) ⟨⟨hs,fun _ _=>rfl⟩,fun _ _ h=>h⟩ _ _ h.1,h.2⟩
  ·simp[shares] at hs
 | .glob _ _,u,bs,h,hs=>by simp only[aae,eu] at h ⊢;exact h
 | .gel _ _ _ _,u,bs,h,hs=>by simp only[aae,eu] at h ⊢;exact h
theorem ays{S S':Nat→Prop}{w:World}{B:Nat}:∀(l:List AVal) (vs:List Value) (bs:List Nat),ai2 S w B l vs bs→((∀b,S b→S' b)∨ase l=false)→ai2 S' w B l vs bs
 | [],vs,bs,h,hs=>by simp only[ai2] at h ⊢;exact h
 | a::r,vs,bs,h,hs=>by
  simp only[ai2] at h ⊢
  obtain ⟨u,us,b1,b2,h1,h2,h3,h4⟩:=h
  simp only[ase,A8] at hs
  exact ⟨u,us,b1,b2,h1,h2,awp a u b1 h3 (hs.imp id (·.1)),ays r us b2 h4 (hs.imp id (·.2))⟩
theorem arp{S S':Nat→Prop}{w:World}{B:Nat}:∀(l:List AVal) (cs:List Value) (bs:List Nat),ahs S w B l cs bs→((∀b,S b→S' b)∨ase l=false)→ahs S' w B l cs bs
 | [],cs,bs,h,hs=>by simp only[ahs] at h ⊢;exact h
 | a::r,cs,bs,h,hs=>by
  simp only[ase,A8] at hs
  rcases an0 h with ⟨k',n,l,cs',rfl,h1,rfl,h3⟩ | ⟨ha,u,cs',b1,b2,rfl,h2,h3,h4,h5⟩
  ·simp only[ahs]
   exact ⟨cs',h1,rfl,arp r cs' bs h3 (hs.imp id (·.2))⟩
  ·have g1:=awp a u b1 h4 (hs.imp id (·.1))
   have g2:=arp r cs' b2 h5 (hs.imp id (·.2))
   cases a<;>simp only[ahs]<;>first
    | exact absurd rfl (ha _ _ _)
    | exact ⟨u,cs',b1,b2,rfl,h2,h3,g1,g2⟩
end
section
variable {D:Ctx} {B0:Nat} {w0:W0} {act:Act} {w:World} {f:List (Nat×AVal)} {m:Nat}
mutual
theorem boq:∀(a:AVal) (n:Nat) (h:Hp),n≤(imp a n h).2.1
 | .fr e c,n,h=>by simp only[imp];omega
 | .agg l,n,h=>by simp only[imp];exact auu l n h
 | .tuple l,n,h=>by simp only[imp];exact auu l n h
 | .v _,n,h=>by simp only[imp];exact Aa _
 | .bot,n,h=>by simp only[imp];exact Aa _
 | .sl _,n,h=>by simp only[imp];exact Aa _
 | .own _,n,h=>by simp only[imp];exact Aa _
 | .win _ _ _,n,h=>by simp only[imp];exact Aa _
 | .awin _ _ _ _ _,n,h=>by simp only[imp];exact Aa _
 | .arr _ _ _,n,h=>by simp only[imp];exact Aa _
 | .ptr _ _,n,h=>by simp only[imp];exact Aa _
 | .pel _ _ _,n,h=>by simp only[imp];exact Aa _
 | .fel _ _ _ _,n,h=>by simp only[imp];exact Aa _
 | .apel _ _ _ _,n,h=>by simp only[imp];exact Aa _
 | .sta _,n,h=>by simp only[imp];exact Aa _
 | .osta _ _,n,h=>by simp only[imp];exact Aa _
 | .fn _ _ _,n,h=>by simp only[imp];exact Aa _
 | .iface _ _,n,h=>by simp only[imp];exact Aa _
 | .glob _ _,n,h=>by simp only[imp];exact Aa _
 | .gel _ _ _ _,n,h=>by simp only[imp];exact Aa _
 | .yld _ _ _,n,h=>by simp only[imp];exact Aa _
 | .alt _ _ _ _ _ _ _,n,h=>by simp only[imp];exact Aa _
theorem auu:∀(l:List AVal) (n:Nat) (h:Hp),n≤(anv l n h).2.1
 | [],n,h=>by simp only[anv];exact Aa _
 | a::r,n,h=>by simp only[anv];exact Ae (boq a n h) (auu r _ _)
end
mutual
theorem bec{B N:Nat}(hB:B0≤B):∀(a:AVal) (n:Nat) (h:Hp) (E:Env) (u:Value) (bs rest:List Nat),(imp a n h).2.1≤N→aae E.S w B a u bs→(bs++rest).Nodup→Taking D B0 w0 N E f m h act w (bs++rest) n →
    ∃E',E'.S=E.S∧Up E E' w w∧Taking D B0 w0 N E' f m (imp a n h).2.2 act w rest (imp a n h).2.1∧eu E' w (imp a n h).1 u∧n≤(imp a n h).2.1∧(∀id x,E'.ρ id=some x→E.ρ id=some x∨(n≤id∧id<(imp a n h).2.1))
 | .fr e c,n,h,E,u,bs,rest,hN,hx,hnd,ht=>by
  simp only[aae] at hx
  obtain ⟨⟨xs,h1,h2⟩,rfl⟩:=hx
  have h1':w.ownsRow B0 e c.size u c.len xs:=by
   refine ⟨h1.1,h1.2.imp id ?_⟩
   rintro ⟨g,cap,cur,h3,h4,h5⟩
   exact ⟨g,cap,cur,h3,Ae hB h4,h5⟩
  obtain ⟨hR,up⟩:=bkf ht.rel (x:=n) (ht.free n (Aa _) (by simp only[imp] at hN;omega)) h1' h2 (fun k hk=>ht.notS k (by simp[hk])) (fun id b v k hb hf hv hk hk'=>ht.apart id b v k hb hf hv hk (by simp[hk'])) (n+1)
  have hsplit:∀id x,upd E.ρ n u id=some x→E.ρ id=some x∨(n≤id∧id<n+1):=by
   intro id x hx
   by_cases e:id=n
   ·exact .inr ⟨by omega,by omega⟩
   ·simp only[upd,if_neg e] at hx;exact .inl hx
  refine ⟨⟨E.S,upd E.ρ n u⟩,rfl,up,⟨hR,fun id hid hidN=>?_,fun id b v k hb hf hv hk hk'=>?_,fun b hb=>ht.notS b (by simp[hb])⟩,by simp only[imp,eu];exact upd_same _ _ _,by simp[imp],hsplit⟩
  ·simp only[imp] at hid
   simp only[upd,if_neg (show id≠n by omega)]
   exact ht.free id (by omega) hidN
  ·simp only[imp] at hb
   by_cases he:id=n
   ·subst he
    simp only[upd_same] at hv
    cases hv
    rw[hk] at hnd
    simp only[Option.toList,List.cons_append,Ay,List.nodup_cons] at hnd
    exact hnd.1 hk'
   ·rw[uj he] at hb
    simp only[upd,if_neg he] at hv
    exact ht.apart id b v k hb hf hv hk (by simp[hk'])
 | .agg l,n,h,E,u,bs,rest,hN,hx,hnd,ht=>by
  simp only[aae] at hx
  obtain ⟨cs,rfl,hx⟩:=hx
  obtain ⟨E',g1,g2,g3,g4,g5,g6⟩:=az2 hB l n h E cs bs rest (by simpa only[imp] using hN) hx hnd ht
  simp only[imp]
  exact ⟨E',g1,g2,g3,by simp only[eu];exact ⟨cs,rfl,g4⟩,g5,g6⟩
 | .tuple l,n,h,E,u,bs,rest,hN,hx,hnd,ht=>by
  simp only[aae] at hx
  obtain ⟨vs,rfl,hx⟩:=hx
  obtain ⟨E',g1,g2,g3,g4,g5,g6⟩:=bgk hB l n h E vs bs rest (by simpa only[imp] using hN) hx hnd ht
  simp only[imp]
  exact ⟨E',g1,g2,g3,by simp only[eu];exact ⟨vs,rfl,g4⟩,g5,g6⟩
 | .v x,n,h,E,u,bs,rest,hN,hx,hnd,ht=>by
  simp only[aae] at hx;obtain ⟨hx,rfl⟩:=hx
  exact ⟨E,rfl,Up.refl _ _,ht,by simp only[imp];exact uw hx,Aa _,fun _ _ h=>.inl h⟩
 | .bot,n,h,E,u,bs,rest,hN,hx,hnd,ht=>by
  simp only[aae] at hx;obtain ⟨hx,rfl⟩:=hx
  exact ⟨E,rfl,Up.refl _ _,ht,by simp only[imp];exact uw hx,Aa _,fun _ _ h=>.inl h⟩
 | .sl c,n,h,E,u,bs,rest,hN,hx,hnd,ht=>by
  simp only[aae] at hx;obtain ⟨hx,rfl⟩:=hx
  exact ⟨E,rfl,Up.refl _ _,ht,by simp only[imp];exact uw hx,Aa _,fun _ _ h=>.inl h⟩
 | .own _,n,h,E,u,bs,rest,hN,hx,hnd,ht=>by
  simp only[aae] at hx;obtain ⟨hx,rfl⟩:=hx
  exact ⟨E,rfl,Up.refl _ _,ht,by simp only[imp];exact uw hx,Aa _,fun _ _ h=>.inl h⟩
 | .win _ _ _,n,h,E,u,bs,rest,hN,hx,hnd,ht=>by
  simp only[aae] at hx;obtain ⟨hx,rfl⟩:=hx
  exact ⟨E,rfl,Up.refl _ _,ht,by simp only[imp];exact uw hx,Aa _,fun _ _ h=>.inl h⟩
 | .awin _ _ _ _ _,n,h,E,u,bs,rest,hN,hx,hnd,ht=>by
  simp only[aae] at hx;obtain ⟨hx,rfl⟩:=hx
  exact ⟨E,rfl,Up.refl _ _,ht,by simp only[imp];exact uw hx,Aa _,fun _ _ h=>.inl h⟩
 | .arr _ _ _,n,h,E,u,bs,rest,hN,hx,hnd,ht=>by
  simp only[aae] at hx;obtain ⟨hx,rfl⟩:=hx
  exact ⟨E,rfl,Up.refl _ _,ht,by simp only[imp];exact uw hx,Aa _,fun _ _ h=>.inl h⟩
 | .ptr _ _,n,h,E,u,bs,rest,hN,hx,hnd,ht=>by
  simp only[aae] at hx;obtain ⟨hx,rfl⟩:=hx
  exact ⟨E,rfl,Up.refl _ _,ht,by simp only[imp];exact uw hx,Aa _,fun _ _ h=>.inl h⟩
 | .fel _ _ _ _,n,h,E,u,bs,rest,hN,hx,hnd,ht=>by
  simp only[aae] at hx;obtain ⟨hx,rfl⟩:=hx
  exact ⟨E,rfl,Up.refl _ _,ht,by simp only[imp];exact uw hx,Aa _,fun _ _ h=>.inl h⟩
 | .pel _ _ _,n,h,E,u,bs,rest,hN,hx,hnd,ht=>by
  simp only[aae] at hx;obtain ⟨hx,rfl⟩:=hx
  exact ⟨E,rfl,Up.refl _ _,ht,by simp only[imp];exact uw hx,Aa _,fun _ _ h=>.inl h⟩
 | .apel _ _ _ _,n,h,E,u,bs,rest,hN,hx,hnd,ht=>by
  simp only[aae] at hx;obtain ⟨hx,rfl⟩:=hx
  exact ⟨E,rfl,Up.refl _ _,ht,by simp only[imp];exact uw hx,Aa _,fun _ _ h=>.inl h⟩
 | .sta _,n,h,E,u,bs,rest,hN,hx,hnd,ht=>by
  simp only[aae] at hx;obtain ⟨hx,rfl⟩:=hx
  exact ⟨E,rfl,Up.refl _ _,ht,by simp only[imp];exact uw hx,Aa _,fun _ _ h=>.inl h⟩
 | .osta _ _,n,h,E,u,bs,rest,hN,hx,hnd,ht=>by
  simp only[aae] at hx;obtain ⟨hx,rfl⟩:=hx
  exact ⟨E,rfl,Up.refl _ _,ht,by simp only[imp];exact uw hx,Aa _,fun _ _ h=>.inl h⟩
 | .fn _ _ _,n,h,E,u,bs,rest,hN,hx,hnd,ht=>by
  simp only[aae] at hx;obtain ⟨hx,rfl⟩:=hx
  exact ⟨E,rfl,Up.refl _ _,ht,by simp only[imp];exact uw hx,Aa _,fun _ _ h=>.inl h⟩
 | .iface _ _,n,h,E,u,bs,rest,hN,hx,hnd,ht=>by
  simp only[aae] at hx;obtain ⟨hx,rfl⟩:=hx
  exact ⟨E,rfl,Up.refl _ _,ht,by simp only[imp];exact uw hx,Aa _,fun _ _ h=>.inl h⟩
 | .glob _ _,n,h,E,u,bs,rest,hN,hx,hnd,ht=>by
  simp only[aae] at hx;obtain ⟨hx,rfl⟩:=hx
  exact ⟨E,rfl,Up.refl _ _,ht,by simp only[imp];exact uw hx,Aa _,fun _ _ h=>.inl h⟩
 | .gel _ _ _ _,n,h,E,u,bs,rest,hN,hx,hnd,ht=>by
  simp only[aae] at hx;obtain ⟨hx,rfl⟩:=hx
  exact ⟨E,rfl,Up.refl _ _,ht,by simp only[imp];exact uw hx,Aa _,fun _ _ h=>.inl h⟩
 | .alt _ _ _ _ _ _ _,n,h,E,u,bs,rest,hN,hx,hnd,ht=>by
  simp only[aae] at hx;obtain ⟨hx,rfl⟩:=hx
  exact ⟨E,rfl,Up.refl _ _,ht,by simp only[imp];exact uw hx,Aa _,fun _ _ h=>.inl h⟩
theorem bgk{B N:Nat}(hB:B0≤B):∀(l:List AVal) (n:Nat) (h:Hp) (E:Env) (vs:List Value) (bs rest:List Nat),(anv l n h).2.1≤N→ai2 E.S w B l vs bs→(bs++rest).Nodup→Taking D B0 w0 N E f m h act w (bs++rest) n →
    ∃E',E'.S=E.S∧Up E E' w w∧Taking D B0 w0 N E' f m (anv l n h).2.2 act w rest (anv l n h).2.1∧lg E' w (anv l n h).1 vs∧n≤(anv l n h).2.1∧(∀id x,E'.ρ id=some x→E.ρ id=some x∨(n≤id∧id<(anv l n h).2.1))
 | [],n,h,E,vs,bs,rest,hN,hx,hnd,ht=>by
  simp only[ai2] at hx
  obtain ⟨rfl,rfl⟩:=hx
  exact ⟨E,rfl,Up.refl _ _,ht,by simp only[anv,lg],Aa _,fun _ _ h=>.inl h⟩
 | a::r,n,h,E,vs,bs,rest,hN,hx,hnd,ht=>by
  simp only[ai2] at hx
  obtain ⟨u,us,b1,b2,rfl,rfl,h3,h4⟩:=hx
  rw[Ag] at hnd ht
  obtain ⟨E1,g1,g2,g3,g4,g5,g6⟩:=bec hB a n h E u b1 (b2++rest) (Ae (auu r _ _) (by simpa only[anv] using hN)) h3 hnd ht
  obtain ⟨E2,k1,k2,k3,k4,k5,k6⟩:=bgk hB r _ _ E1 us b2 rest (by simpa only[anv] using hN) (by rw[g1];exact h4) (List.nodup_append.1 hnd).2.1 g3
  simp only[anv]
  refine ⟨E2,k1.trans g1,g2.trans k2,k3,by simp only[lg];exact ⟨u,us,rfl,eu.mono k2 _ _ g4,k4⟩,Ae g5 k5,fun id x hx=>?_⟩
  rcases k6 id x hx with hx | ⟨p,q⟩
  ·rcases g6 id x hx with hx | ⟨p,q⟩
   ·exact .inl hx
   ·exact .inr ⟨p,Nat.lt_of_lt_of_le q k5⟩
  ·exact .inr ⟨Ae g5 p,q⟩
theorem az2{B N:Nat}(hB:B0≤B):∀(l:List AVal) (n:Nat) (h:Hp) (E:Env) (cs:List Value) (bs rest:List Nat),(anv l n h).2.1≤N→ahs E.S w B l cs bs→(bs++rest).Nodup→Taking D B0 w0 N E f m h act w (bs++rest) n →
    ∃E',E'.S=E.S∧Up E E' w w∧Taking D B0 w0 N E' f m (anv l n h).2.2 act w rest (anv l n h).2.1∧ql E' w (anv l n h).1 cs∧n≤(anv l n h).2.1∧(∀id x,E'.ρ id=some x→E.ρ id=some x∨(n≤id∧id<(anv l n h).2.1))
 | [],n,h,E,cs,bs,rest,hN,hx,hnd,ht=>by
  simp only[ahs] at hx
  obtain ⟨rfl,rfl⟩:=hx
  exact ⟨E,rfl,Up.refl _ _,ht,by simp only[anv,ql],Aa _,fun _ _ h=>.inl h⟩
 | a::r,n,h,E,cs,bs,rest,hN,hx,hnd,ht=>by
  rcases an0 hx with ⟨k',z,l,cs',rfl,h1,rfl,h3⟩ | ⟨ha,u,cs',b1,b2,rfl,h2,rfl,h4,h5⟩
  ·obtain ⟨E2,k1,k2,k3,k4,k5,k6⟩:=az2 hB r n h E cs' bs rest (by simpa only[anv,imp] using hN) h3 hnd ht
   simp only[anv,imp]
   exact ⟨E2,k1,k2,k3,aas h1 k4,k5,k6⟩
  ·rw[Ag] at hnd ht
   obtain ⟨E1,g1,g2,g3,g4,g5,g6⟩:=bec hB a n h E u b1 (b2++rest) (Ae (auu r _ _) (by simpa only[anv] using hN)) h4 hnd ht
   obtain ⟨E2,k1,k2,k3,k4,k5,k6⟩:=az2 hB r _ _ E1 cs' b2 rest (by simpa only[anv] using hN) (by rw[g1];exact h5) (List.nodup_append.1 hnd).2.1 g3
   simp only[anv]
   refine ⟨E2,k1.trans g1,g2.trans k2,k3,nu ?_ h2 (eu.mono k2 _ _ g4) k4,Ae g5 k5,fun id x hx=>?_⟩
   ·intro k z l
    cases a<;>simp only[imp]<;>first | exact absurd rfl (ha _ _ _) | simp
   ·rcases k6 id x hx with hx | ⟨p,q⟩
    ·rcases g6 id x hx with hx | ⟨p,q⟩
     ·exact .inl hx
     ·exact .inr ⟨p,Nat.lt_of_lt_of_le q k5⟩
    ·exact .inr ⟨Ae g5 p,q⟩
end
end
mutual
theorem azx:∀(a:AVal) (n:Nat) (F H:Hp),imp a n (ru F H)=((imp a n F).1,(imp a n F).2.1,ru (imp a n F).2.2 H)
 | .fr e c,n,F,H=>by simp only[imp,ru]
 | .agg l,n,F,H=>by simp only[imp];rw[au2 l n F H]
 | .tuple l,n,F,H=>by simp only[imp];rw[au2 l n F H]
 | .v _,n,F,H=>by simp only[imp]
 | .bot,n,F,H=>by simp only[imp]
 | .sl _,n,F,H=>by simp only[imp]
 | .own _,n,F,H=>by simp only[imp]
 | .win _ _ _,n,F,H=>by simp only[imp]
 | .awin _ _ _ _ _,n,F,H=>by simp only[imp]
 | .arr _ _ _,n,F,H=>by simp only[imp]
 | .ptr _ _,n,F,H=>by simp only[imp]
 | .pel _ _ _,n,F,H=>by simp only[imp]
 | .fel _ _ _ _,n,F,H=>by simp only[imp]
 | .apel _ _ _ _,n,F,H=>by simp only[imp]
 | .sta _,n,F,H=>by simp only[imp]
 | .osta _ _,n,F,H=>by simp only[imp]
 | .fn _ _ _,n,F,H=>by simp only[imp]
 | .iface _ _,n,F,H=>by simp only[imp]
 | .glob _ _,n,F,H=>by simp only[imp]
 | .gel _ _ _ _,n,F,H=>by simp only[imp]
 | .yld _ _ _,n,F,H=>by simp only[imp]
 | .alt _ _ _ _ _ _ _,n,F,H=>by simp only[imp]
theorem au2:∀(l:List AVal) (n:Nat) (F H:Hp),anv l n (ru F H)=((anv l n F).1,(anv l n F).2.1,ru (anv l n F).2.2 H)
 | [],n,F,H=>by simp only[anv]
 | a::r,n,F,H=>by
  simp only[anv]
  rw[azx a n F H]
  simp only
  rw[au2 r _ _ H]
end
mutual
theorem bah{S:Nat→Prop}{w:World}{B:Nat}:∀(a:AVal) (u:Value) (bs:List Nat),aae S w B a u bs→∀b,b∈bs→B≤b
 | .fr e c,u,bs,h=>by
  simp only[aae] at h
  obtain ⟨⟨xs,h1,_⟩,rfl⟩:=h
  intro b hb
  rcases h1.2 with ⟨rfl,_⟩ | ⟨g,cap,cur,rfl,hg,_⟩
  ·simp[iy] at hb
  ·simp[iy] at hb;omega
 | .agg l,u,bs,h=>by simp only[aae] at h;obtain ⟨cs,_,h⟩:=h;exact ay8 l cs bs h
 | .tuple l,u,bs,h=>by simp only[aae] at h;obtain ⟨vs,_,h⟩:=h;exact bft l vs bs h
 | .v _,u,bs,h=>by simp only[aae] at h;rw[h.2];simp
 | .bot,u,bs,h=>by simp only[aae] at h;rw[h.2];simp
 | .sl _,u,bs,h=>by simp only[aae] at h;rw[h.2];simp
 | .own _,u,bs,h=>by simp only[aae] at h;rw[h.2];simp
 | .win _ _ _,u,bs,h=>by simp only[aae] at h;rw[h.2];simp
 | .awin _ _ _ _ _,u,bs,h=>by simp only[aae] at h;rw[h.2];simp
 | .arr _ _ _,u,bs,h=>by simp only[aae] at h;rw[h.2];simp
 | .ptr _ _,u,bs,h=>by simp only[aae] at h;rw[h.2];simp
 | .pel _ _ _,u,bs,h=>by simp only[aae] at h;rw[h.2];simp
 | .fel _ _ _ _,u,bs,h=>by simp only[aae] at h;rw[h.2];simp
 | .apel _ _ _ _,u,bs,h=>by simp only[aae] at h;rw[h.2];simp
 | .sta _,u,bs,h=>by simp only[aae] at h;rw[h.2];simp
 | .osta _ _,u,bs,h=>by simp only[aae] at h;rw[h.2];simp
 | .fn _ _ _,u,bs,h=>by simp only[aae] at h;rw[h.2];simp
 | .iface _ _,u,bs,h=>by simp only[aae] at h;rw[h.2];simp
 | .glob _ _,u,bs,h=>by simp only[aae] at h;rw[h.2];simp
 | .gel _ _ _ _,u,bs,h=>by simp only[aae] at h;rw[h.2];simp
 | .alt _ _ _ _ _ _ _,u,bs,h=>by simp only[aae] at h;rw[h.2];simp
theorem bft{S:Nat→Prop}{w:World}{B:Nat}:∀(l:List AVal) (vs:List Value) (bs:List Nat),ai2 S w B l vs bs→∀b,b∈bs→B≤b
 | [],vs,bs,h=>by simp only[ai2] at h;rw[h.2];simp
 | a::r,vs,bs,h=>by
  simp only[ai2] at h
  obtain ⟨u,us,b1,b2,_,rfl,h3,h4⟩:=h
  intro b hb
  rcases Aw.1 hb with hb | hb
  ·exact bah a u b1 h3 b hb
  ·exact bft r us b2 h4 b hb
theorem ay8{S:Nat→Prop}{w:World}{B:Nat}:∀(l:List AVal) (cs:List Value) (bs:List Nat),ahs S w B l cs bs→∀b,b∈bs→B≤b
 | [],cs,bs,h=>by simp only[ahs] at h;rw[h.2];simp
 | a::r,cs,bs,h=>by
  rcases an0 h with ⟨k',n,l,cs',rfl,h1,rfl,h3⟩ | ⟨ha,u,cs',b1,b2,rfl,h2,rfl,h4,h5⟩
  ·exact ay8 r cs' bs h3
  ·intro b hb
   rcases Aw.1 hb with hb | hb
   ·exact bah a u b1 h4 b hb
   ·exact ay8 r cs' b2 h5 b hb
end
section
variable {D:Ctx} {B0:Nat} {w0:W0} {st:ASt} {dst:Option Tmp} {type:TypeId} {pos:String} {after:Array Edge} {guard:Option (Nat×Bool)}
theorem ayd{E1:Env}{F:Hp}{act:Act}{w w':World}(hR1:Rel D B0 w0 E1 { st with h:=ru F st.h } act w){a:AVal}(hfree:∀id,st.n≤id→id<(imp a st.n F).2.1→E1.ρ id=none)(hbel:Below w.heap.size w w'){Sn:Nat→Prop}{v:Value}{bs:List Nat}
    (hSn:∀b,Sn b→b<w.heap.size∨b<w'.heap.size) (hsub:(∀b,Sn b→b<w.heap.size→E1.S b)∨shares a=false) (hrx:aae Sn w' w.heap.size a v bs) (hnd:bs.Nodup) (hbs:∀b,b∈bs→¬Sn b) :
    ∃E',Up E1 E' w w'∧(∀id x,E'.ρ id=some x→E1.ρ id=some x∨(st.n≤id∧id<(imp a st.n F).2.1))∧st.n≤(imp a st.n F).2.1 ∧
     Rel D B0 w0 E' (st.app ⟨(imp a st.n F).1,(imp a st.n F).2.2,(imp a st.n F).2.1⟩ dst) (act.put dst v) w':=by
 let E2:Env:=⟨fun b=>E1.S b∨(Sn b∧w.heap.size≤b),E1.ρ⟩
 have hold:∀k,k<w.heap.size→w'.heap[k]?=w.heap[k]?:=hbel.block
 have up2:Up E1 E2 w w':=⟨⟨fun b hb=>.inl hb,fun b hb=>hold b (hR1.sOld b hb)⟩,fun _ _ h=>h⟩
 have hR2:Rel D B0 w0 E2 ⟨st.f,ru F st.h,st.n,st.m⟩ act w':=by
  refine hR1.step up2 (hbel.mono hR1.base) st.n (fun id b hb=>?_) hR1.apart (fun b hb=>?_) hR1.form
  ·refine (hR1.heap id b hb).mono up2 (fun u j hu hj=>hold j ((hR1.heap id b hb).lt hu hj).2) (fun _ u j hu hj hs=>?_)
   rcases hs with hs | ⟨_,hs⟩
   ·exact hs
   ·have:=((hR1.heap id b hb).lt hu hj).2
    omega
  ·rcases hb with hb | ⟨hb,hge⟩
   ·exact .inl hb
   ·rcases hSn b hb with h | h
    ·exact absurd h (by omega)
    ·exact .inr ⟨Ae hR1.base hge,h⟩
 have ht:Taking D B0 w0 (imp a st.n F).2.1 E2 st.f st.m (ru F st.h) act w' (bs++[]) st.n:=by
  refine ⟨hR2,hfree,fun id b v k hb hf hv hk hk'=>?_,fun b hb hS=>?_⟩
  ·have h1:=((hR1.heap id b hb).lt hv hk).2
   have h2:=bah a _ bs hrx k (by simpa using hk')
   omega
  ·have h2:=bah a _ bs hrx b (by simpa using hb)
   rcases hS with hS | ⟨hS,_⟩
   ·have:=hR1.sOld b hS;omega
   ·exact hbs b (by simpa using hb) hS
 have hrx2:aae E2.S w' w.heap.size a v bs:=awp a v bs hrx (hsub.imp (fun h b hb=>by
  by_cases hlt:b<w.heap.size
  ·exact .inl (h b hb hlt)
  ·exact .inr ⟨hb,by omega⟩) id)
 obtain ⟨E3,g1,g2,g3,g4,g5,g6⟩:=bec hR1.base a st.n (ru F st.h) E2 v bs [] (by rw[azx];exact Aa _) hrx2 (by simpa using hnd) ht
 rw[azx] at g3 g4 g5 g6
 exact ⟨E3,up2.trans g2,g6,g5,Rel.put g3.rel g4 dst⟩
theorem az5(hG:GOk D){g:FuncId}{first caps vs:List AVal}{s:Spec}(hs:aqm D.G g=some s){hl:Nat→Option Blk}{n:Nat}
    (hG2:∀g l,assoc D.globs g=some l→∀(E E':Env) w cs,ql E w l cs→E.S=E'.S→ql E' w l cs)
    {K:Eff→Option R} {r:R} (h:bmy s (ru first (ru vs caps)) hl n K=some r) :
    ∃eff,K eff=some r∧n≤eff.n∧∀(B0:Nat) (w0:W0) (st:ASt) (x:Operand) (xs:Array Operand) (at_:Array TypeId),(∀E act w,Rel D B0 w0 E st act w→eu E w (.fn (.func g) first caps) (act.eval x))→evs st.f xs.toList=vs →
     (∀id b,hl id=some b→gq st.h id=some b)→st.n=n→ael D B0 w0 st ⟨dst,.call ⟨.value x,xs,at_⟩,type,pos,after,guard⟩ eff:=by
 obtain ⟨hent,hsound⟩:=hG g s hs
 obtain ⟨a,hK,hrun⟩:=hsound _ _ r h
 simp only at hK
 refine ⟨_,hK,boq _ _ _,?_⟩
 rintro B0 w0 st x xs at_ hx rfl hm rfl
 intro E act w hR hfree next Q hnext
 have hX:=hx E act w hR
 simp only[eu] at hX
 obtain ⟨fv,cv,hfn,hrf,hrc⟩:=hX
 have hargs:lg E w (ru first (ru (evs st.f xs.toList) caps)) (fv++(xs.toList.map act.eval++cv)):=by
  rw[ag5,ag5]
  exact ahy _ _ _ _ hrf (ahy _ _ _ _ (hR.evs _) hrc)
 generalize hA:ru first (ru (evs st.f xs.toList) caps)=args at *
 -- the static memory of the call
 let S1:Nat→Prop:=fun b=>E.S b∨∃id,id∈qp args∧∃c v,hl id=some c∧E.ρ id=some v∧iy v=some b
 have hS1:∀b,S1 b→b<w.heap.size:=by
  rintro b (hb | ⟨id,_,c,v,hc,hv,hk⟩)
  ·exact hR.sOld b hb
  ·exact ((hR.heap id c (hm id c hc)).lt hv hk).2
 have hxa:lg (uz S1) w (afk hl args) (fv++(xs.toList.map act.eval++cv)) :=
  adq hR hm (S':=S1) (fun b hb=>.inl hb) args _ hargs (fun id hid b v k hb hv hk=>.inr ⟨id,hid,b,v,hb,hv,hk⟩)
 have hgl:amo D.globs S1 w:=by
  intro g l hg
  obtain ⟨h1,cs,e,fz,h2,h3⟩:=hR.globs g l hg
  refine ⟨.inl h1,cs,e,fz,h2,?_⟩
  have h4:=hG2 g l hg E (uz E.S) w cs.toList h3 rfl
  exact ql.mono (E:=uz E.S) (E':=uz S1) ⟨⟨fun b hb=>.inl hb,fun _ _=>rfl⟩,fun _ _ h=>h⟩ _ _ h4
 have hcall:=hrun S1 w _ hS1 hgl hxa
 have hexec:(execOp act.eval ⟨dst,.call ⟨.value x,xs,at_⟩,type,pos,after,guard⟩).run D.P w=.ok (.enter g (fv++(xs.toList.map act.eval++cv)).toArray) w:=by
  have e1:(fv.toArray++Array.map act.eval xs)++cv.toArray=(fv++(xs.toList.map act.eval++cv)).toArray:=by
   apply Array.ext'
   simp
  simp only[execOp,resolve,hfn,Deferred.ofValue,invoke,Sem.run_bind,Sem.run_pure,Result.andThen_ok,e1,amv hent]
 unfold Oper.wp
 rw[hexec,Oper.upon_enter]
 refine hcall.mono ?_
 rintro e w' ⟨v,Sn,bs,rfl,hbel,hSn,hrx,hnd,hbs⟩
 show next (act.put dst v) w'
 have hcb:∀b,Sn b→b<w.heap.size∨b<w'.heap.size:=fun b hb=>(hSn b hb).imp (hS1 b) (·.2)
 -- freeze, where the result may share memory
 cases hsh:shares a with
 | true =>
  rw[hsh] at hnext hfree
  simp only[cond_true] at hnext hfree
  obtain ⟨E1,hρ1,up1,hR1,hSf,_⟩:=abb hm (qp args) hR
  obtain ⟨E',k1,k2,k3,k4⟩:=ayd (dst:=dst) hR1 (a:=a) (by rw[hρ1];exact hfree) hbel hcb (.inl fun b hb hlt=>by
   rcases hSn b hb with h | h
   ·rcases h with h | ⟨id,hid,c,v,hc,hv,hk⟩
    ·exact up1.keeps.sub b h
    ·exact hSf id hid c v b hc hv hk
   ·omega) hrx hnd hbs
  exact hnext E' w' v (up1.trans k1) (fun id x hx=>by rw[←hρ1];exact k2 id x hx) k4
 | false =>
  rw[hsh] at hnext hfree
  simp only[cond_false] at hnext hfree
  obtain ⟨E',k1,k2,k3,k4⟩:=ayd (dst:=dst) (F:=[]) (E1:=E) hR (a:=a) hfree hbel hcb (.inr hsh) hrx hnd hbs
  exact hnext E' w' v k1 k2 k4
end
end Go.Abs
end

section
namespace Go.Abs
open Go Go.RowKit
theorem ahu{z:Value}(hzc:z.cells=#[z])(m:Nat):Builtin.zeroCells z.cells m=(Ad m z).toArray:=by
 rw[hzc]
 apply Array.ext'
 simp only[Builtin.zeroCells,Array.toList_map,Array.toList_range]
 apply List.ext_getElem?
 intro j
 simp only[Ai,List.getElem?_replicate,Am,List.length_cons,List.length_nil,Af,Au]
 by_cases hj:j<m
 ·rw[List.getElem?_range hj,if_pos hj]
  simp[Nat.mod_one]
 ·rw[if_neg hj,Aq (by simpa using hj)]
  rfl
theorem az7{P:Program}(w:World)(base:Nat)(t t' ty e:TypeId)(i:TypeInfo)(z:Value)(k k':IntKind)(ht:P.underlying t=some (.slice e))(ht':P.underlying t'=some (.int k))(hi:P.info? e=some i)(hz:i.zero=some z)
    (hzc:z.cells=#[z]) (hs1:i.size=1) (hz1:z.oneCell'=true) (hby:0<i.bytes)
    (v:Value) (n:Nat) (xs:List Value) (hown:w.ownsRow base e 1 v n xs) (m:Nat) (h63:n+m≤maxLen) (hbytes:(n+m)*i.bytes≤140737488355328) (hbase:base≤w.heap.size) :
    ∃v' w',(Builtin.append_ #[t,t'] ty #[v,.int k' (m:Int)]).run P w=.ok v' w'∧w'.ownsRow base e 1 v' (n+m) (xs++Ad m z)∧w.grownBy w' (iy v) ∧
     (∀k,iy v'=some k→iy v=some k∨k=w.heap.size):=by
 have hsmall:n+m≤140737488355328:=Ae (Nat.le_mul_of_pos_right _ hby) hbytes
 have hlen:(xs++Ad m z).length=(n+m)*1:=by rw[Al,hown.1,Ak];omega
 have hwrap:IntKind.i64.wrap (m:Int)=(m:Int):=IntWalk.i64_in _ ⟨by omega,by omega⟩
 have hw0:IntKind.i64.wrap 0=0:=IntWalk.i64_in _ ⟨by omega,by omega⟩
 have hneg:¬((m:Int)<0):=by omega
 have h48:¬((m:Int)*(i.bytes:Int)>281474976710656):=by
  have:m*i.bytes≤(n+m)*i.bytes:=Nat.mul_le_mul_right _ (by omega)
  have h2:((m*i.bytes:Nat):Int)=(m:Int)*(i.bytes:Int):=by simp
  omega
 have happ:∀w':World,(if m*i.size=0 then (pure #[]:Sem (Array Value)) else do pure (Builtin.zeroCells (←zeroValue e).cells m)).run P w'=.ok (Ad m z).toArray w':=by
  intro w'
  by_cases hm:m=0
  ·subst hm;simp
  ·rw[if_neg (by rw[hs1];omega)]
   simp[zeroValue,typeInfo,hi,hz,ahu hzc]
 have grown:∀(old:Nat),old<n+m→∀(row:Option Nat),
     (w.drew.alloc (.cells (xs.toArray++(Ad m z).toArray++Builtin.zeroCells z.cells (grownCap w (n+m) old e-(n+m))) e)).ownsRow base e 1
      (.slice (some ⟨w.heap.size,0,none⟩) (n+m) (grownCap w (n+m) old e)) (n+m) (xs++Ad m z) ∧
     w.grownBy (w.drew.alloc (.cells (xs.toArray++(Ad m z).toArray++Builtin.zeroCells z.cells (grownCap w (n+m) old e-(n+m))) e)) row:=by
  intro old ho row
  have hge:=grownCap_ge w (n+m) old e
  have hcm:grownCap w (n+m) old e≤maxLen:=grownCap_le_maxLen w (n+m) old e h63
  refine ⟨⟨hlen,.inr ⟨w.heap.size,_,_,rfl,hbase,heap_alloc_new w.drew _,hge,hcm,?_,?_⟩⟩,⟨rfl,rfl,rfl,by simp,fun k hk _=>heap_alloc_old w.drew _ k hk⟩⟩
  ·simp only[Array.size_append,Am,size_zeroCells,hzc,hown.1,Ak,List.length_cons,List.length_nil]
   omega
  ·simp only[Array.toList_append,Ag]
   rw[←Ag,←hlen]
   exact List.take_left
 rcases hown.2 with ⟨rfl,rfl⟩ | ⟨g,cap,cur,rfl,hbg,hg,hnc,hcm,hcs,htake⟩
 ·have hx:xs=[]:=Ah (by simpa using hown.1)
  subst hx
  by_cases hm:m=0
  ·subst hm
   refine ⟨.slice none 0 0,w,?_,by simpa using World.ownsRow_nil w base e 1,⟨rfl,rfl,rfl,Aa _,fun _ _ _=>rfl⟩,by simp[iy]⟩
   have:=happ w
   simp[Builtin.append_,run_underlying ht,run_underlying ht',sizeOf,typeInfo,hi,asInt,asIntOf,hw0]
  ·have hgr:=grown 0 (by omega) (iy (.slice none 0 0))
   simp only[Au,Ay,Array.empty_append] at hgr ⊢
   refine ⟨_,_,?_,hgr.1,hgr.2,fun k hk=>by cases hk;exact .inr rfl⟩
   have h63':¬(9223372036854775807<(m:Int)):=by omega
   have h48':¬(281474976710656<Builtin.nextslicecap m 0*i.bytes):=by
    rw[nextslicecap_zero (by omega)]
    have:=hbytes
    simp only[Au] at this
    omega
   have h48n:¬(281474976710656<(m:Int)*(i.bytes:Int)):=by omega
   have ha:=happ w.drew
   have hmz:¬m*i.size=0:=by rw[hs1];omega
   simp[Builtin.append_,run_underlying ht,run_underlying ht',sizeOf,typeInfo,zeroValue,hi,hz,asInt,asIntOf,hwrap,hm,h63',h48',h48n,Question.forced,run_firstCells_none,hs1,newRow,grownCap,ahu hzc]
   intro hlt
   omega
 ·by_cases hroom:n+m≤cap
  ·have hf:n*1+(Ad m z).length≤cur.size:=by rw[hcs,Ak];omega
   have hst:=run_storeCells_at P g (n*1) e (Ad m z) 0 cur w hg (by simpa using hf) (fun u hu=>by rw[List.mem_replicate] at hu;rw[hu.2];exact hz1)
   simp only[A9,Af] at hst
   have h48n:¬(281474976710656<(m:Int)*(i.bytes:Int)):=by omega
   refine ⟨.slice (some ⟨g,0,none⟩) (n+m) cap,_,?_,⟨hlen,.inr ⟨g,cap,(cur.toList.take n++Ad m z++cur.toList.drop (n+(Ad m z).length)).toArray,rfl,hbg,setRow_heap w g cur _ e _ hg,hroom,hcm,?_,?_⟩⟩,
    ⟨rfl,rfl,rfl,by simp,fun k hk hk2=>setRow_other w g k _ (fun e=>hk2 (by simp[iy,e]))⟩,fun k hk=>.inl hk⟩
   ·by_cases hm:m=0
    ·subst hm
     have e1:(cur.toList.take n++Ad 0 z++cur.toList.drop (n+(Ad 0 z).length)).toArray=cur:=by simp
     rw[e1,setRow_self w g cur e (0,0) hg]
     simp[Builtin.append_,run_underlying ht,run_underlying ht',sizeOf,typeInfo,hi,asInt,asIntOf,hw0,hnc,storeCells]
    ·simp[Builtin.append_,run_underlying ht,run_underlying ht',sizeOf,typeInfo,zeroValue,hi,hz,asInt,asIntOf,hwrap,hroom,hs1,hm,h48n,ahu hzc,Addr.add_lit]
     simp at hst
     rw[if_neg (by omega),hst]
     rfl
   ·simp only[Am,Al,List.length_take,List.length_drop,Ar,Ak]
    omega
   ·rw[Af] at htake
    rw[htake,←hlen]
    exact List.take_left
  ·have holds:∀j u,xs[j]?=some u→w.cell? ((⟨g,0,none⟩:Addr).add j)=some u:=hown.cells (g:=g) rfl
   have hgr:=grown cap (by omega) (iy (.slice (some ⟨g,0,none⟩) n cap))
   refine ⟨_,_,?_,hgr.1,hgr.2,fun k hk=>by cases hk;exact .inr rfl⟩
   have h63':¬(9223372036854775807<((n:Int)+(m:Int))):=by omega
   have h48':¬(281474976710656<Builtin.nextslicecap (n+m) cap*i.bytes):=by
    have:=growslice_fits (need:=n+m) (old:=cap) (bytes:=i.bytes) (by omega) hbytes
    omega
   have h48n:¬(281474976710656<(m:Int)*(i.bytes:Int)):=by omega
   have hm:m≠0:=by omega
   have hfo:=run_firstCells_some (P:=P) w.drew 1 n ⟨g,0,none⟩ n cap xs hown.1 (by simpa using holds)
   simp[Builtin.append_,run_underlying ht,run_underlying ht',sizeOf,typeInfo,zeroValue,hi,hz,asInt,asIntOf,hwrap,hroom,hm,h63',h48',h48n,Question.forced,hs1,hfo,newRow,grownCap,ahu hzc]
   intro hlt
   omega
end Go.Abs
end
