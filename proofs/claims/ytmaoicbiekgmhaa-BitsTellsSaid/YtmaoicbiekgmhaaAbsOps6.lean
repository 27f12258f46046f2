import Derived.Test.YtmaoicbiekgmhaaAbsHeap
namespace Go.Abs
open Go Go.RowKit
set_option linter.unusedVariables false
set_option linter.unusedSimpArgs false

/-! ### Zero values as parts -/
theorem takeInts_spec {k : IntKind} : ∀ (n : Nat) (cs : List Value) (l : List Int) (r : List Value), takeInts k n cs = some (l, r) → l.length = n ∧ cs = l.map (Value.int k) ++ r
  | 0, cs, l, r, h => by simp only [takeInts] at h; cases h; exact ⟨rfl, rfl⟩
  | n + 1, cs, l, r, h => by
    match cs with
    | [] => simp [takeInts] at h
    | .int k' x :: cs =>
      simp only [takeInts] at h
      cases hk : beqK k k' with
      | false => rw [hk] at h; cases h
      | true =>
        rw [hk] at h
        simp only [cond_true] at h
        cases ht : takeInts k n cs with
        | none => rw [ht] at h; cases h
        | some p =>
          obtain ⟨l', r'⟩ := p
          rw [ht] at h
          cases h
          obtain ⟨h1, h2⟩ := takeInts_spec n cs l' r ht
          have := beqK_eq hk
          subst this
          exact ⟨by simp [h1], by simp [h2]⟩
    | .bool _ :: _ | .float _ _ :: _ | .complex _ _ _ :: _ | .string _ :: _ | .pointer _ :: _ | .slice _ _ _ :: _ | .map _ :: _ | .chan _ :: _ | .func _ _ _ :: _ | .nilFunc :: _ | .iface _ _ :: _ | .nilIface :: _ | .agg _ :: _ | .tuple _ :: _ => simp [takeInts] at h

section
variable (E : Env) (w : World) (P : Program)
theorem comps_spec : ∀ d,
    (∀ t cs l r, comps P d t cs = some (l, r) → ∃ c1, cs = c1 ++ r ∧ RelF E w l c1) ∧
    (∀ fs cs l r, compsF P d fs cs = some (l, r) → ∃ c1, cs = c1 ++ r ∧ RelF E w l c1) ∧
    (∀ e n cs l r, compsN P d e n cs = some (l, r) → ∃ c1, cs = c1 ++ r ∧ RelF E w l c1)
  | 0 => ⟨fun _ _ _ _ h => by simp [comps] at h, fun _ _ _ _ h => by simp [compsF] at h, fun _ _ _ _ _ h => by simp [compsN] at h⟩
  | d + 1 => by
    obtain ⟨ih1, ih2, ih3⟩ := comps_spec d
    refine ⟨fun t cs l r h => ?_, fun fs cs l r h => ?_, fun e n cs l r h => ?_⟩
    · simp only [comps] at h
      split at h
      · exact ih2 _ _ _ _ h
      · split at h
        · split at h
          · rename_i l' r' ht
            cases h
            obtain ⟨h1, h2⟩ := takeInts_spec _ _ _ _ ht
            refine ⟨_, h2, ?_⟩
            have := fun k => relF_arr (E := E) (w := w) (k := k) (r := []) (cs' := []) h1 rfl
            simpa using this _
          · cases h
        · exact ih3 _ _ _ _ _ h
      · split at h
        · cases h
        · cases h
        · cases h
        · rename_i x r' hx1 hx2
          cases h
          refine ⟨[x], rfl, relF_one (by simp) ?_ (by simp only [RelV]) (by simp only [RelF])⟩
          cases x <;> first | rfl | exact absurd rfl (hx1 _) | exact absurd rfl (hx2 _)
    · match fs with
      | [] => simp only [compsF] at h; cases h; exact ⟨[], rfl, by simp only [RelF]⟩
      | f :: fs =>
        simp only [compsF] at h
        split at h
        · rename_i a cs1 ha
          split at h
          · rename_i b cs2 hb
            cases h
            obtain ⟨c1, rfl, g1⟩ := ih1 _ _ _ _ ha
            obtain ⟨c2, rfl, g2⟩ := ih2 _ _ _ _ hb
            exact ⟨c1 ++ c2, by simp, relF_join _ _ _ _ g1 g2⟩
          · cases h
        · cases h
    · match n with
      | 0 => simp only [compsN] at h; cases h; exact ⟨[], rfl, by simp only [RelF]⟩
      | n + 1 =>
        simp only [compsN] at h
        split at h
        · rename_i a cs1 ha
          split at h
          · rename_i b cs2 hb
            cases h
            obtain ⟨c1, rfl, g1⟩ := ih1 _ _ _ _ ha
            obtain ⟨c2, rfl, g2⟩ := ih3 _ _ _ _ _ hb
            exact ⟨c1 ++ c2, by simp, relF_join _ _ _ _ g1 g2⟩
          · cases h
        · cases h
theorem zeroParts_spec {t : TypeId} {l : List AVal} (h : zeroParts P t = some l) : ∃ i z, P.info? t = some i ∧ i.zero = some z ∧ RelF E w l z.cells.toList := by
  unfold zeroParts at h
  split at h
  · rename_i i hi
    split at h
    · rename_i z hz
      split at h
      · rename_i l' hc
        cases h
        obtain ⟨c1, h1, h2⟩ := (comps_spec E w P 24).1 _ _ _ _ hc
        simp at h1
        exact ⟨i, z, hi, hz, by rw [h1]; exact h2⟩
      · cases h
    · cases h
  · cases h
theorem flatV_spec : ∀ (l : List AVal) (vs : List Value), flatV l = some vs → ∀ cs, RelF E w l cs → cs = vs
  | [], vs, h, cs, hr => by simp only [flatV] at h; cases h; simpa only [RelF] using hr
  | a :: r, vs, h, cs, hr => by
    cases a with
    | v x =>
      have hx : (∀ c, x ≠ .agg c) ∧ (∀ c, x ≠ .tuple c) ∧ (match flatV r with | some l => some (x :: l) | none => none) = some vs := by
        cases x <;> simp [flatV] at h ⊢ <;> exact h
      obtain ⟨_, _, h⟩ := hx
      rcases relF_cons hr with ⟨_, _, _, _, he, _⟩ | ⟨_, u, cs', rfl, _, h3, h4⟩
      · cases he
      · simp only [RelV] at h3
        subst h3
        cases hf : flatV r with
        | none => rw [hf] at h; cases h
        | some l =>
          rw [hf] at h
          cases h
          rw [flatV_spec r l hf cs' h4]
    | _ => simp [flatV] at h
theorem regroup_rel {t : TypeId} {l : List AVal} {cs : List Value} (h : RelF E w l cs) : RelF E w (regroup P t l) cs := by
  unfold regroup
  split
  · rename_i vs hv
    split
    · rename_i l' hc
      obtain ⟨c1, h1, h2⟩ := (comps_spec E w P 24).1 _ _ _ _ hc
      have := flatV_spec E w l vs hv cs h
      subst this
      simp at h1
      rw [h1]
      exact h2
    · exact h
  · exact h
end

section
variable {D : Ctx} {B0 : Nat} {w0 : W0} {E : Env} {st : ASt} {act : Act} {w : World}
theorem parts_rel (h : Rel D B0 w0 E st act w) {x : AVal} {l : List AVal} (hx : partsOf x = some l) {u : Value} (hu : RelV E w x u) : RelF E w l u.cells.toList := by
  have one : ∀ u : Value, u.oneCell' = true → u.cells.toList = [u] := by
    intro u h
    cases u <;> first | rfl | cases h
  cases x with
  | agg l' =>
    simp only [partsOf] at hx
    cases hx
    simp only [RelV] at hu
    obtain ⟨cs, rfl, hr⟩ := hu
    simpa [Value.cells] using hr
  | arr k n z =>
    simp only [partsOf] at hx
    cases hx
    simp only [RelV] at hu
    obtain ⟨h1, rfl⟩ := hu
    have := relF_arr (E := E) (w := w) (k := k) (r := []) (cs' := []) h1 (by simp only [RelF])
    simpa [Value.cells] using this
  | v x =>
    have hu' := hu
    simp only [RelV] at hu
    subst hu
    have : u.oneCell' = true ∧ l = [.v u] := by
      cases u <;> simp [partsOf] at hx ⊢ <;> first | (exact ⟨rfl, hx.symm⟩) | (exact hx.symm ▸ rfl)
    obtain ⟨h1, rfl⟩ := this
    rw [one u h1]
    exact relF_one (by simp) h1 hu' (by simp only [RelF])
  | bot => simp [partsOf] at hx
  | tuple => simp [partsOf] at hx
  | fr => simp [partsOf] at hx
  | sl c =>
    simp only [partsOf] at hx
    cases hx
    have h1 : u.oneCell' = true := by simp only [RelV] at hu; obtain ⟨A, cap, rfl, _⟩ := hu; rfl
    rw [one u h1]
    exact relF_one (by simp) h1 hu (by simp only [RelF])
  | own id =>
    simp only [partsOf] at hx
    cases hx
    have h1 : u.oneCell' = true := by simp only [RelV] at hu; rcases h.form _ _ hu with ⟨_, _, _, rfl⟩ | ⟨_, rfl⟩ <;> rfl
    rw [one u h1]
    exact relF_one (by simp) h1 hu (by simp only [RelF])
  | win =>
    simp only [partsOf] at hx
    cases hx
    have h1 : u.oneCell' = true := by simp only [RelV] at hu; obtain ⟨_, _, _, _, _, _, _, _, rfl⟩ := hu; rfl
    rw [one u h1]
    exact relF_one (by simp) h1 hu (by simp only [RelF])
  | awin =>
    simp only [partsOf] at hx
    cases hx
    have h1 : u.oneCell' = true := by simp only [RelV] at hu; obtain ⟨_, _, _, _, _, _, _, rfl⟩ := hu; rfl
    rw [one u h1]
    exact relF_one (by simp) h1 hu (by simp only [RelF])
  | ptr =>
    simp only [partsOf] at hx
    cases hx
    have h1 : u.oneCell' = true := by simp only [RelV] at hu; obtain ⟨_, _, rfl⟩ := hu; rfl
    rw [one u h1]
    exact relF_one (by simp) h1 hu (by simp only [RelF])
  | pel =>
    simp only [partsOf] at hx
    cases hx
    have h1 : u.oneCell' = true := by simp only [RelV] at hu; obtain ⟨_, _, _, _, _, rfl⟩ := hu; rfl
    rw [one u h1]
    exact relF_one (by simp) h1 hu (by simp only [RelF])
  | apel =>
    simp only [partsOf] at hx
    cases hx
    have h1 : u.oneCell' = true := by simp only [RelV] at hu; obtain ⟨_, _, _, rfl⟩ := hu; rfl
    rw [one u h1]
    exact relF_one (by simp) h1 hu (by simp only [RelF])
  | sta =>
    simp only [partsOf] at hx
    cases hx
    have h1 : u.oneCell' = true := by simp only [RelV] at hu; obtain ⟨_, _, rfl, _⟩ := hu; rfl
    rw [one u h1]
    exact relF_one (by simp) h1 hu (by simp only [RelF])
  | fn =>
    simp only [partsOf] at hx
    cases hx
    have h1 : u.oneCell' = true := by simp only [RelV] at hu; obtain ⟨_, _, rfl, _⟩ := hu; rfl
    rw [one u h1]
    exact relF_one (by simp) h1 hu (by simp only [RelF])
  | iface =>
    simp only [partsOf] at hx
    cases hx
    have h1 : u.oneCell' = true := by simp only [RelV] at hu; obtain ⟨_, rfl, _⟩ := hu; rfl
    rw [one u h1]
    exact relF_one (by simp) h1 hu (by simp only [RelF])
  | glob =>
    simp only [partsOf] at hx
    cases hx
    have h1 : u.oneCell' = true := by simp only [RelV] at hu; subst hu; rfl
    rw [one u h1]
    exact relF_one (by simp) h1 hu (by simp only [RelF])
  | gel =>
    simp only [partsOf] at hx
    cases hx
    have h1 : u.oneCell' = true := by simp only [RelV] at hu; obtain ⟨_, rfl⟩ := hu; rfl
    rw [one u h1]
    exact relF_one (by simp) h1 hu (by simp only [RelF])
end

section
variable {D : Ctx} {B0 : Nat} {w0 : W0} {st : ASt} {dst : Option Tmp} {type : TypeId} {pos : String} {after : Array Edge} {guard : Option (Nat × Bool)}

/-- an operation that makes a block of parts -/
theorem opOk_box {op : Op} {e : TypeId} {l : List AVal}
    (h : ∀ E act w, Rel D B0 w0 E st act w → ∃ cs : Array Value, (execOp act.eval ⟨dst, op, type, pos, after, guard⟩).run D.P w = .ok (.value (.pointer (some ⟨w.heap.size, 0, none⟩))) (w.alloc (.cells cs e)) ∧ RelF E w l cs.toList) :
    OpOk D B0 w0 st ⟨dst, op, type, pos, after, guard⟩ ⟨.ptr st.n 0, [(st.n, some ⟨.box e l, false⟩)], st.n + 1⟩ := by
  intro E act w hR hn next Q hnext
  obtain ⟨cs, hrun, hl⟩ := h E act w hR
  have hx : E.ρ st.n = none := hn st.n (Nat.le_refl _) (by simp)
  have up0 : Up E ⟨E.S, upd E.ρ st.n (.pointer (some ⟨w.heap.size, 0, none⟩))⟩ w (w.alloc (.cells cs e)) :=
    ⟨⟨fun _ h => h, fun b hb => heap_alloc_old w _ b (hR.sOld b hb)⟩, upd_ext hx⟩
  obtain ⟨hR', up⟩ := rel_alloc hR hx cs e (u := .pointer (some ⟨w.heap.size, 0, none⟩)) (b := .box e l) rfl
    ⟨_, upd_same _ _ _, ⟨w.heap.size, cs, rfl, hR.base, heap_alloc_new w _, RelF.mono up0 l _ hl⟩, fun _ k hk hs => by
      simp [vBlock] at hk
      subst hk
      exact absurd (hR.sOld _ hs) (Nat.lt_irrefl _), fun hf => by cases hf⟩ (st.n + 1)
  unfold Oper.wp
  rw [hrun, Oper.upon_value]
  refine hnext _ _ _ up (fun id x hx' => ?_) (Rel.put hR' (a := .ptr st.n 0) (by simp only [RelV]; exact ⟨w.heap.size, upd_same _ _ _, rfl⟩) dst)
  by_cases hid : id = st.n
  · exact .inr ⟨by omega, by simp only; omega⟩
  · simp only [upd, if_neg hid] at hx'; exact .inl hx'

theorem ok_alloc (e : TypeId) {l : List AVal} (hl : zeroParts D.P e = some l) :
    OpOk D B0 w0 st ⟨dst, .alloc e, type, pos, after, guard⟩ ⟨.ptr st.n 0, [(st.n, some ⟨.box e l, false⟩)], st.n + 1⟩ :=
  opOk_box fun E act w hR => by
    obtain ⟨i, z, hi, hz, hr⟩ := zeroParts_spec E w D.P hl
    refine ⟨z.cells, ?_, hr⟩
    simp [execOp, Instr.alloc, zeroValue, typeInfo, hi, hz, newVar, newRow]
theorem ok_box (e : TypeId) (x : Operand) {l : List AVal} (hl : partsOf (ev st.f x) = some l) :
    OpOk D B0 w0 st ⟨dst, .box e x, type, pos, after, guard⟩ ⟨.ptr st.n 0, [(st.n, some ⟨.box e (regroup D.P e l), false⟩)], st.n + 1⟩ :=
  opOk_box fun E act w hR => by
    refine ⟨(act.eval x).cells, ?_, regroup_rel E w D.P (parts_rel hR hl (hR.ev x))⟩
    simp [execOp, Instr.box, newVar, newRow]
end
end Go.Abs
