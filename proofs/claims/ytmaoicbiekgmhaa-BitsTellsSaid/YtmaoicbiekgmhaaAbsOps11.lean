import Derived.Test.YtmaoicbiekgmhaaAbsOps10
namespace Go.Abs
open Go Go.RowKit
set_option linter.unusedVariables false
set_option linter.unusedSimpArgs false

theorem intsOf_spec {E : Env} {w : World} {k : IntKind} : ∀ (vs : List AVal) (l : List Int) (us : List Value), intsOf k vs = some l → RelVs E w vs us → us = l.map (Value.int k) ∧ l.length = vs.length
  | [], l, us, h, hr => by simp only [intsOf] at h; cases h; simp only [RelVs] at hr; subst hr; exact ⟨rfl, rfl⟩
  | a :: r, l, us, h, hr => by
    simp only [RelVs] at hr
    obtain ⟨u, us', rfl, h1, h2⟩ := hr
    cases a with
    | v x =>
      cases x with
      | int k' z =>
        simp only [intsOf] at h
        cases hk : beqK k k' with
        | false => rw [hk] at h; cases h
        | true =>
          rw [hk] at h
          simp only [cond_true] at h
          cases hi : intsOf k r with
          | none => rw [hi] at h; cases h
          | some l' =>
            rw [hi] at h
            cases h
            obtain ⟨g1, g2⟩ := intsOf_spec r l' us' hi h2
            simp only [RelV] at h1
            have := beqK_eq hk
            subst this
            exact ⟨by rw [h1, g1]; rfl, by simp [g2]⟩
      | _ => simp [intsOf] at h
    | _ => simp [intsOf] at h

section
variable {D : Ctx} {B0 : Nat} {w0 : W0} {E : Env} {st : ASt} {act : Act} {w : World}

theorem contA_slC (hR : Rel D B0 w0 E st act w) {hl : Nat → Option Blk} (hm : ∀ id b, hl id = some b → hlook st.h id = some b) {S' : Nat → Prop} (hS : ∀ b, E.S b → S' b) {x : AVal} {c : Cont} (h : contA hl x = some c) {u : Value} (hu : RelV E w x u)
    (hi : ∀ id, id ∈ rowIds x → ∀ b v k, hl id = some b → E.ρ id = some v → vBlock v = some k → S' k) : SlC S' w c u :=
  slC_of_reads (E' := ⟨S', fun _ => none⟩) (contA_reads hR hm h hu) hS fun h0 k hk => by
    rcases contA_block hR hm h hu h0 hk with hk | ⟨id', h1, b, v, h2, h3, h4⟩
    · exact hS _ hk
    · exact hi id' h1 b v k h2 h3 h4

theorem rowsOf_spec (hR : Rel D B0 w0 E st act w) {hl : Nat → Option Blk} (hm : ∀ id b, hl id = some b → hlook st.h id = some b) {S' : Nat → Prop} (hS : ∀ b, E.S b → S' b) {k : IntKind} :
    ∀ (vs : List AVal) (l : List (List Int)) (us : List Value), rowsOf hl k vs = some l → RelVs E w vs us → (∀ id, id ∈ rowIdsL vs → ∀ b v k, hl id = some b → E.ρ id = some v → vBlock v = some k → S' k) →
      l.length = vs.length ∧ ∀ j x, us[j]? = some x → SlI S' w k (l.getD j []) x
  | [], l, us, h, hr, hi => by simp only [rowsOf] at h; cases h; simp only [RelVs] at hr; subst hr; exact ⟨rfl, by simp⟩
  | a :: r, l, us, h, hr, hi => by
    simp only [RelVs] at hr
    obtain ⟨u, us', rfl, h1, h2⟩ := hr
    simp only [rowIdsL] at hi
    simp only [rowsOf] at h
    split at h
    · rename_i k' x hc
      cases hk : beqK k k' with
      | false => rw [hk] at h; cases h
      | true =>
        rw [hk] at h
        simp only [cond_true] at h
        cases hr : rowsOf hl k r with
        | none => rw [hr] at h; cases h
        | some l' =>
          rw [hr] at h
          cases h
          have := beqK_eq hk
          subst this
          obtain ⟨g1, g2⟩ := rowsOf_spec hR hm hS r l' us' hr h2 (fun id hid => hi id (mem_lcat.2 (.inr hid)))
          have hs := contA_slC hR hm hS hc h1 (fun id hid => hi id (mem_lcat.2 (.inl hid)))
          refine ⟨by simp [g1], fun j y hy => ?_⟩
          cases j with
          | zero => simp at hy; subst hy; exact hs
          | succ j => simp at hy; simpa using g2 j y hy
    · split at h
      · cases hr : rowsOf hl k r with
        | none => rw [hr] at h; cases h
        | some l' =>
          rw [hr] at h
          cases h
          obtain ⟨g1, g2⟩ := rowsOf_spec hR hm hS r l' us' hr h2 (fun id hid => hi id (mem_lcat.2 (.inr hid)))
          simp only [RelV] at h1
          refine ⟨by simp [g1], fun j y hy => ?_⟩
          cases j with
          | zero => simp at hy; subst hy; exact ⟨none, 0, h1, Nat.le_refl _, fun h => absurd h (by simp)⟩
          | succ j => simp at hy; simpa using g2 j y hy
      · cases h
theorem rows2Of_spec (hR : Rel D B0 w0 E st act w) {hl : Nat → Option Blk} (hm : ∀ id b, hl id = some b → hlook st.h id = some b) {S' : Nat → Prop} (hS : ∀ b, E.S b → S' b) {k : IntKind} :
    ∀ (vs : List AVal) (l : List (List (List Int))) (us : List Value), rows2Of hl k vs = some l → RelVs E w vs us → (∀ id, id ∈ rowIdsL vs → ∀ b v k, hl id = some b → E.ρ id = some v → vBlock v = some k → S' k) →
      l.length = vs.length ∧ ∀ j x, us[j]? = some x → SlR S' w k (l.getD j []) x
  | [], l, us, h, hr, hi => by simp only [rows2Of] at h; cases h; simp only [RelVs] at hr; subst hr; exact ⟨rfl, by simp⟩
  | a :: r, l, us, h, hr, hi => by
    simp only [RelVs] at hr
    obtain ⟨u, us', rfl, h1, h2⟩ := hr
    simp only [rowIdsL] at hi
    simp only [rows2Of] at h
    split at h
    · rename_i k' x hc
      cases hk : beqK k k' with
      | false => rw [hk] at h; cases h
      | true =>
        rw [hk] at h
        simp only [cond_true] at h
        cases hr : rows2Of hl k r with
        | none => rw [hr] at h; cases h
        | some l' =>
          rw [hr] at h
          cases h
          have := beqK_eq hk
          subst this
          obtain ⟨g1, g2⟩ := rows2Of_spec hR hm hS r l' us' hr h2 (fun id hid => hi id (mem_lcat.2 (.inr hid)))
          have hs := contA_slC hR hm hS hc h1 (fun id hid => hi id (mem_lcat.2 (.inl hid)))
          refine ⟨by simp [g1], fun j y hy => ?_⟩
          cases j with
          | zero => simp at hy; subst hy; exact hs
          | succ j => simp at hy; simpa using g2 j y hy
    · cases h
theorem relVs_map {E : Env} {w : World} : ∀ (vs : List AVal) (us : List Value), RelVs E w vs us → us.length = vs.length := relVs_len
theorem contOf_spec (hR : Rel D B0 w0 E st act w) {hl : Nat → Option Blk} (hm : ∀ id b, hl id = some b → hlook st.h id = some b) {S' : Nat → Prop} (hS : ∀ b, E.S b → S' b) {P : Program} {e : TypeId} {vs : List AVal} {c : Cont} {us : List Value} (h : contOf P hl e vs = some c)
    (hr : RelVs E w vs us) (hi : ∀ id, id ∈ rowIdsL vs → ∀ b v k, hl id = some b → E.ρ id = some v → vBlock v = some k → S' k) :
    c.len = vs.length ∧ c.size = 1 ∧ ∀ j x, us[j]? = some x → x.oneCell' = true ∧ cellC S' w c j x := by
  unfold contOf at h
  split at h
  · split at h
    · rename_i k _ _ l hl'
      cases h
      obtain ⟨rfl, h2⟩ := intsOf_spec vs l us hl' hr
      refine ⟨h2, rfl, fun j x hx => ?_⟩
      have : cellC S' w (.ints k l) j x := by
        simp only [cellC, cell1, cellI]
        rw [List.getElem?_map] at hx
        cases hj : l[j]? with
        | none => rw [hj] at hx; cases hx
        | some z => rw [hj] at hx; simp at hx; simp [List.getD_eq_getElem?_getD, hj, hx]
      exact ⟨cellC_one this, this⟩
    · cases h
  · split at h
    · split at h
      · rename_i k l hl'
        cases h
        obtain ⟨h1, h2⟩ := rowsOf_spec hR hm hS vs l us hl' hr hi
        refine ⟨h1, rfl, fun j x hx => ?_⟩
        have : cellC S' w (.rows _ l) j x := h2 j x hx
        exact ⟨cellC_one this, this⟩
      · cases h
    · split at h
      · split at h
        · rename_i k l hl'
          cases h
          obtain ⟨h1, h2⟩ := rows2Of_spec hR hm hS vs l us hl' hr hi
          refine ⟨h1, rfl, fun j x hx => ?_⟩
          have : cellC S' w (.rows2 _ l) j x := h2 j x hx
          exact ⟨cellC_one this, this⟩
        · cases h
      · cases h
    · cases h
  · cases h
end

section
variable {D : Ctx} {B0 : Nat} {w0 : W0} {st : ASt} {dst : Option Tmp} {type : TypeId} {pos : String} {after : Array Edge} {guard : Option (Nat × Bool)}

theorem freeze_puts {hl : Nat → Option Blk} (hm : ∀ id b, hl id = some b → hlook st.h id = some b) (ids : List Nat) (id : Nat) : ∀ (h0 : Hp), hlook (lcat (freeze hl ids []) h0) id = hlook h0 id ∨ ∃ b, hl id = some b ∧ hlook (lcat (freeze hl ids []) h0) id = some ⟨b.b, true⟩ := by
  intro h0
  induction ids with
  | nil => exact .inl rfl
  | cons y r ih =>
    simp only [freeze]
    cases hy : hl y with
    | none => exact ih
    | some c =>
      simp only [lcat, hlook]
      cases he : Nat.beq y id with
      | true =>
        have := Nat.eq_of_beq_eq_true he
        subst this
        exact .inr ⟨c, hy, rfl⟩
      | false => exact ih

theorem buildSlice_run {P : Program} {w : World} {t e : TypeId} {i : TypeInfo} {z : Value} (ht : P.underlying t = some (.slice e)) (hi : P.info? e = some i) (hs : i.size = 1) (hz : i.zero = some z) (ps : Array (Nat × Operand)) (ρ : Operand → Value) (ho : inOrder 0 ps.toList = true)
    (hn : ps.size ≤ 16777216) (h1 : ∀ p ∈ ps.toList, (ρ p.2).oneCell' = true) :
    (Instr.buildSlice t ps.size (ps.map fun (i, x) => (i, ρ x))).run P w = .ok (.slice (some ⟨w.heap.size, 0, none⟩) ps.size ps.size) (w.alloc (.cells (ps.toList.map fun p => ρ p.2).toArray e)) := by
  have hsz : (sizeOf e).run P w = .ok 1 w := by simp [sizeOf, typeInfo, hi, hs]
  have hfill : ∀ cells : Array Value, cells.size = ps.size → Instr.fill (fun i => some (i * 1, 1)) cells (ps.map fun (i, x) => (i, ρ x)).toList = some (ps.toList.map fun p => ρ p.2).toArray := by
    intro cells hc
    have := fill_inOrder (pl := fun i => some (i * 1, 1)) (by simp) ps.toList ρ 0 cells ho (by simp [hc]) h1
    rw [Array.toList_map]
    rw [show (fun (x : Nat × Operand) => match x with | (i, x) => (i, ρ x)) = fun p => (p.1, ρ p.2) from rfl, this]
    congr 1
    simp [hc]
  have hlim : ¬ (ps.size * 1 > 2 ^ 24) := by omega
  by_cases h0 : ps.size * 1 = 0
  · have h00 : ps.size = 0 := by omega
    simp only [Instr.buildSlice, Sem.run_bind, run_underlying ht, Result.andThen_ok, hsz]
    rw [if_neg hlim]
    simp only [Sem.run_bind, Sem.run_pure, Result.andThen_ok, if_pos h0]
    rw [hfill _ (by simp)]
    simp [newRow]
  · simp only [Instr.buildSlice, Sem.run_bind, run_underlying ht, Result.andThen_ok, hsz]
    rw [if_neg hlim]
    simp only [Sem.run_bind, Sem.run_pure, Result.andThen_ok, if_neg h0, zeroValue, typeInfo, run_program, hi, hz]
    rw [hfill _ (by simp)]
    simp [newRow]

theorem ok_buildSlice {t e : TypeId} (ht : D.P.underlying t = some (.slice e)) (ps : Array (Nat × Operand)) (ho : inOrder 0 ps.toList = true) (hn : ps.size ≤ 16777216) (he : elemOk D.P e = true) {hl : Nat → Option Blk}
    (hm : ∀ id b, hl id = some b → hlook st.h id = some b) {c : Cont} (hc : contOf D.P hl e (evs st.f (ps.toList.map (·.2))) = some c) :
    OpOk D B0 w0 st ⟨dst, .buildSlice t ps.size ps, type, pos, after, guard⟩ ⟨.own st.n, (st.n, some ⟨.row e c, false⟩) :: freeze hl (rowIdsL (evs st.f (ps.toList.map (·.2)))) [], st.n + 1⟩ := by
  intro E act w hR hnew next Q hnext
  have hrv := hR.evs (ps.toList.map (·.2))
  obtain ⟨E1, hρ1, up1, hR1, hS1, hsame⟩ := rel_freeze hm (rowIdsL (evs st.f (ps.toList.map (·.2)))) hR
  obtain ⟨c1, c2, c3⟩ := contOf_spec hR hm (S' := E1.S) up1.keeps.sub hc hrv (fun id hid b v k hb hv hk => hS1 id hid b v k hb hv hk)
  have hlen : (evs st.f (ps.toList.map (·.2))).length = ps.size := by rw [evs_map]; simp
  have hul : ((ps.toList.map (·.2)).map act.eval) = ps.toList.map fun p => act.eval p.2 := by simp
  rw [hul] at c3 hrv
  unfold elemOk at he
  split at he
  · rename_i i hi
    simp only [Bool.and_eq_true] at he
    obtain ⟨hs1, hzs⟩ := he
    have hs1 := Nat.eq_of_beq_eq_true hs1
    obtain ⟨z, hz⟩ := Option.isSome_iff_exists.1 hzs
    have hone : ∀ p ∈ ps.toList, (act.eval p.2).oneCell' = true := by
      intro p hp
      obtain ⟨j, hj⟩ := List.getElem?_of_mem hp
      exact (c3 j (act.eval p.2) (by simp [hj])).1
    have hrun := buildSlice_run (P := D.P) (w := w) ht hi hs1 hz ps act.eval ho hn hone
    -- the new row over the frozen state
    have key := opOk_row (D := D) (B0 := B0) (w0 := w0) (st := { st with h := lcat (freeze hl (rowIdsL (evs st.f (ps.toList.map (·.2)))) []) st.h }) (dst := dst) (op := .buildSlice t ps.size ps) (type := type) (pos := pos) (after := after) (guard := guard) (e := e) (c := c)
    -- by hand: its step at this world
    have hx : E1.ρ st.n = none := by rw [hρ1]; exact hnew st.n (Nat.le_refl _) (by simp)
    have kp : Keeps E1.S E1.S w (w.alloc (.cells (ps.toList.map fun p => act.eval p.2).toArray e)) := ⟨fun _ h => h, fun b hb => heap_alloc_old w _ b (hR1.sOld b hb)⟩
    obtain ⟨hR', up⟩ := rel_alloc hR1 hx (ps.toList.map fun p => act.eval p.2).toArray e (u := .slice (some ⟨w.heap.size, 0, none⟩) ps.size ps.size) (b := .row e c) rfl
      ⟨_, upd_same _ _ _, ⟨ps.toList.map fun p => act.eval p.2, ⟨by simp [c1, c2, hlen], .inr ⟨w.heap.size, ps.size, _, by rw [c1, hlen], hR1.base, heap_alloc_new w _, by rw [c1, hlen]; exact Nat.le_refl _, by simp only [maxLen]; omega, by simp [c2], by
        rw [c1, c2, hlen, Nat.mul_one]; exact List.take_of_length_le (by simp)⟩⟩, fun j x hj => ⟨(c3 j x hj).1, cellC.mono kp (c3 j x hj).2⟩⟩, fun _ k hk hs => by
        simp [vBlock] at hk
        subst hk
        exact absurd (hR1.sOld _ hs) (Nat.lt_irrefl _), fun hf => by cases hf⟩ (st.n + 1)
    unfold Oper.wp
    have hexec : (execOp act.eval ⟨dst, .buildSlice t ps.size ps, type, pos, after, guard⟩).run D.P w = .ok (.value (.slice (some ⟨w.heap.size, 0, none⟩) ps.size ps.size)) (w.alloc (.cells (ps.toList.map fun p => act.eval p.2).toArray e)) := by
      simp only [execOp, Sem.run_bind, hrun, Result.andThen_ok, Sem.run_pure]
    rw [hexec, Oper.upon_value]
    refine hnext _ _ _ (up1.trans up) (fun id x hx' => ?_) (Rel.put hR' (a := .own st.n) (by simp only [RelV]; exact upd_same _ _ _) dst)
    by_cases hid : id = st.n
    · exact .inr ⟨by omega, by simp only; omega⟩
    · simp only [upd, if_neg hid, hρ1] at hx'; exact .inl hx'
  · cases he
end
end Go.Abs
