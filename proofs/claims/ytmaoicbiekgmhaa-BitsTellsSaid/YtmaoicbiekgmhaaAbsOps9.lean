import Derived.Test.YtmaoicbiekgmhaaAbsOps8
namespace Go.Abs
open Go Go.RowKit
set_option linter.unusedVariables false
set_option linter.unusedSimpArgs false

theorem contZero_spec {P : Program} {e : TypeId} {n : Nat} {ct : Cont} (h : contZero P e n = some ct) :
    ∃ i z, P.info? e = some i ∧ i.size = 1 ∧ i.zero = some z ∧ z.cells = #[z] ∧ z.oneCell' = true ∧ ct.len = n ∧ ct.size = 1 ∧ ∀ S w j, cellC S w ct j z := by
  unfold contZero at h
  split at h
  · rename_i i hi
    cases hs : Nat.beq i.size 1 with
    | false => rw [hs] at h; cases h
    | true =>
      rw [hs] at h
      simp only [cond_true] at h
      have hs1 := Nat.eq_of_beq_eq_true hs
      split at h
      · rename_i k hz
        cases h
        refine ⟨i, _, hi, hs1, hz, rfl, rfl, by simp [Cont.len], rfl, fun S w j => ?_⟩
        simp only [cellC, cell1, cellI]
        congr 1
        simp only [List.getD_eq_getElem?_getD, List.getElem?_replicate]
        split <;> rfl
      · rename_i hz
        have nilOk : ∀ (S : Nat → Prop) (w : World) (k : IntKind) (l : List Int), l = [] → SlI S w k l (.slice none 0 0) := fun S w k l hl => by
          subst hl
          exact ⟨none, 0, rfl, Nat.le_refl _, fun h => absurd h (by simp)⟩
        have nilOk2 : ∀ (S : Nat → Prop) (w : World) (k : IntKind) (l : List (List Int)), l = [] → SlR S w k l (.slice none 0 0) := fun S w k l hl => by
          subst hl
          exact ⟨none, 0, rfl, Nat.le_refl _, fun h => absurd h (by simp)⟩
        split at h
        · split at h
          · cases h
            refine ⟨i, _, hi, hs1, hz, rfl, rfl, by simp [Cont.len], rfl, fun S w j => ?_⟩
            simp only [cellC, cell1, cellR]
            refine nilOk _ _ _ _ ?_
            simp only [List.getD_eq_getElem?_getD, List.getElem?_replicate]
            split <;> rfl
          · split at h
            · cases h
              refine ⟨i, _, hi, hs1, hz, rfl, rfl, by simp [Cont.len], rfl, fun S w j => ?_⟩
              simp only [cellC, cell1, cellR2]
              refine nilOk2 _ _ _ _ ?_
              simp only [List.getD_eq_getElem?_getD, List.getElem?_replicate]
              split <;> rfl
            · cases h
          · cases h
        · cases h
      · cases h
  · cases h

section
variable {D : Ctx} {B0 : Nat} {w0 : W0} {st : ASt} {dst : Option Tmp} {type : TypeId} {pos : String} {after : Array Edge} {guard : Option (Nat × Bool)}

/-- an operation that makes a row -/
theorem opOk_row {op : Op} {e : TypeId} {c : Cont} 
    (h : ∀ E act w, Rel D B0 w0 E st act w → ∃ (cs : Array Value) (cap : Nat), (execOp act.eval ⟨dst, op, type, pos, after, guard⟩).run D.P w = .ok (.value (.slice (some ⟨w.heap.size, 0, none⟩) c.len cap)) (w.alloc (.cells cs e)) ∧
      c.len ≤ cap ∧ cap ≤ maxLen ∧ cs.size = cap * c.size ∧ ∀ j x, j < c.len * c.size → cs[j]? = some x → x.oneCell' = true ∧ cellC E.S w c j x) :
    OpOk D B0 w0 st ⟨dst, op, type, pos, after, guard⟩ ⟨.own st.n, [(st.n, some ⟨.row e c, false⟩)], st.n + 1⟩ := by
  intro E act w hR hn next Q hnext
  obtain ⟨cs, cap, hrun, hcap, hmax, hsz, hc⟩ := h E act w hR
  have hx : E.ρ st.n = none := hn st.n (Nat.le_refl _) (by simp)
  have kp : Keeps E.S E.S w (w.alloc (.cells cs e)) := ⟨fun _ h => h, fun b hb => heap_alloc_old w _ b (hR.sOld b hb)⟩
  have hlen : c.len * c.size ≤ cs.size := by rw [hsz]; exact Nat.mul_le_mul_right _ hcap
  obtain ⟨hR', up⟩ := rel_alloc hR hx cs e (u := .slice (some ⟨w.heap.size, 0, none⟩) c.len cap) (b := .row e c) rfl
    ⟨_, upd_same _ _ _, ⟨cs.toList.take (c.len * c.size), ⟨by simp; omega, .inr ⟨w.heap.size, cap, cs, rfl, hR.base, heap_alloc_new w _, hcap, hmax, hsz, rfl⟩⟩, fun j x hj => by
      have hjl : j < c.len * c.size := by
        have := (List.getElem?_eq_some_iff.1 hj).1
        simp at this
        omega
      rw [List.getElem?_take, if_pos hjl] at hj
      have := hc j x hjl (by simpa using hj)
      exact ⟨this.1, cellC.mono kp this.2⟩⟩, fun _ k hk hs => by
      simp [vBlock] at hk
      subst hk
      exact absurd (hR.sOld _ hs) (Nat.lt_irrefl _), fun hf => by cases hf⟩ (st.n + 1)
  unfold Oper.wp
  rw [hrun, Oper.upon_value]
  refine hnext _ _ _ up (fun id x hx' => ?_) (Rel.put hR' (a := .own st.n) (by simp only [RelV]; exact upd_same _ _ _) dst)
  by_cases hid : id = st.n
  · exact .inr ⟨by omega, by simp only; omega⟩
  · simp only [upd, if_neg hid] at hx'; exact .inl hx'

theorem ok_makeSlice {t e : TypeId} {by_ : Nat} (ht : D.P.underlying t = some (.slice e)) (hb : bytesT D.P e = some (by_ + 1)) (x y : Operand) {k k' : IntKind} {l c : Int} (hx : ev st.f x = .v (.int k l)) (hy : ev st.f y = .v (.int k' c))
    (h0 : 0 ≤ l) (h1 : l ≤ c) (h2 : c * ((by_ + 1 : Nat) : Int) ≤ (limit : Int)) {ct : Cont} (hct : contZero D.P e l.toNat = some ct) :
    OpOk D B0 w0 st ⟨dst, .makeSlice t x y, type, pos, after, guard⟩ ⟨.own st.n, [(st.n, some ⟨.row e ct, false⟩)], st.n + 1⟩ :=
  opOk_row fun E act w hR => by
    obtain ⟨i, z, hi, hs1, hz, hzc, hz1, hlen, hsize, hcell⟩ := contZero_spec hct
    obtain ⟨i', hi', hby⟩ := bytes_of hb
    rw [hi] at hi'
    cases hi'
    have hX := hR.ev x
    have hY := hR.ev y
    rw [hx] at hX
    rw [hy] at hY
    simp only [RelV] at hX hY
    have hc63 : c ≤ 140737488355328 := by
      have h3 : c * 1 ≤ c * ((by_ + 1 : Nat) : Int) := Int.mul_le_mul_of_nonneg_left (by omega) (by omega)
      have h4 : (limit : Int) = 140737488355328 := rfl
      omega
    have hr := run_make (P := D.P) w t e i z ht hi hz k k' l c h0 h1 (by rw [hby, Int.mul_comm]; have h4 : (limit : Int) = 140737488355328 := rfl; omega) (by omega)
    refine ⟨madeCells z.cells (c.toNat * i.size), c.toNat, ?_, by rw [hlen]; omega, by simp only [maxLen]; omega, by rw [size_madeCells, hs1, hsize], fun j y hj hy => ?_⟩
    · simp only [execOp, hX, hY, Sem.run_bind, hr, Result.andThen_ok, Sem.run_pure, hlen]
    · have hy2 : y = z := by
        simp only [madeCells, hzc] at hy
        rw [Array.getElem?_map] at hy
        cases hg : (Array.range (c.toNat * i.size))[j]? with
        | none => rw [hg] at hy; cases hy
        | some q =>
          rw [hg] at hy
          simp [Nat.mod_one] at hy
          exact hy.symm
      subst hy2
      exact ⟨hz1, hcell _ _ _⟩

/-! a slice's literal -/
theorem fill_inOrder {pl : Nat → Option (Nat × Nat)} (hpl : ∀ i, pl i = some (i, 1)) : ∀ (ps : List (Nat × Operand)) (ρ : Operand → Value) (i : Nat) (cells : Array Value), inOrder i ps = true → i + ps.length ≤ cells.size → (∀ p ∈ ps, (ρ p.2).oneCell' = true) →
    Instr.fill pl cells (ps.map fun p => (p.1, ρ p.2)) = some (cells.toList.take i ++ ps.map (fun p => ρ p.2) ++ cells.toList.drop (i + ps.length)).toArray
  | [], ρ, i, cells, _, _, _ => by simp [Instr.fill]
  | (j, x) :: r, ρ, i, cells, h, hlen, h1 => by
    simp only [inOrder, Bool.and_eq_true] at h
    have hj := Nat.eq_of_beq_eq_true h.1
    subst hj
    have hone := h1 (i, x) (by simp)
    have hcl : (ρ x).cells = #[ρ x] := by
      simp only at hone
      cases hv : ρ x <;> rw [hv] at hone <;> first | rfl | cases hone
    simp only [List.length_cons] at hlen
    have hlt : i < cells.size := by omega
    have ih := fill_inOrder hpl r ρ (i + 1) (cells.setIfInBounds i (ρ x)) h.2 (by simp; omega) (fun p hp => h1 p (by simp [hp]))
    simp only [List.map_cons, Instr.fill, hcl, hpl]
    have hcond : ¬ ((#[ρ x] : Array Value).size ≠ 1 ∨ (decide (i + (#[ρ x] : Array Value).size > cells.size) = true)) := by simp; omega
    rw [if_neg (by simpa using hcond)]
    have hfold : ((#[ρ x] : Array Value).zipIdx.foldl (fun cs (c, j) => cs.setIfInBounds (i + j) c) cells) = cells.setIfInBounds i (ρ x) := by simp
    rw [hfold, ih]
    congr 1
    congr 1
    rw [Array.toList_setIfInBounds]
    have hl : cells.toList.length = cells.size := by simp
    simp only [List.append_assoc, List.length_cons]
    rw [List.take_set, List.drop_set, if_pos (by omega)]
    rw [List.take_add_one, List.set_append_right _ _ (by simp; omega)]
    simp [List.getElem?_eq_getElem (show i < cells.toList.length by omega), Nat.min_eq_left (show i ≤ cells.size by omega)]
    omega
end
end Go.Abs
