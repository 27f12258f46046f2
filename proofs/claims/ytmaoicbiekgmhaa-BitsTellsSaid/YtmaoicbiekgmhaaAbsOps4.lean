import Derived.Test.YtmaoicbiekgmhaaAbsOps3
namespace Go.Abs
open Go Go.RowKit
set_option linter.unusedVariables false
set_option linter.unusedSimpArgs false

section
variable {P : Program} {w : World}
theorem run_indexAt_sl {t e : TypeId} {sz : Nat} (ht : P.underlying t = some (.slice e)) (hs : cellsT P e = some sz) (a : Addr) (len cap : Nat) (k : IntKind) (i : Int) (h0 : 0 ≤ i) (h1 : i < len) :
    (Instr.indexAt t (.slice (some a) len cap) (.int k i)).run P w = .ok (.pointer (some (a.add (i.toNat * sz)))) w := by
  simp only [Instr.indexAt, asIntOf, Sem.run_bind, Sem.run_pure, Result.andThen_ok, run_underlying ht]
  simp [h0, h1, run_sizeOf hs]
theorem run_indexAt_arr {t e : TypeId} {m sz : Nat} (ht : P.underlying t = some (.array m e)) (hs : cellsT P e = some sz) (a : Addr) (k : IntKind) (i : Int) (h0 : 0 ≤ i) (h1 : i < m) :
    (Instr.indexAt t (.pointer (some a)) (.int k i)).run P w = .ok (.pointer (some (a.add (i.toNat * sz)))) w := by
  simp only [Instr.indexAt, asIntOf, Sem.run_bind, Sem.run_pure, Result.andThen_ok, run_underlying ht, Instr.sureAddr]
  simp [h0, h1, run_sizeOf hs]
theorem run_fieldAt {s : TypeId} {fs : Array Field} {f : Nat} {fd : Field} {sz : Nat} (ht : P.underlying s = some (.struct fs)) (hf : fs[f]? = some fd) (hs : cellsT P fd.type = some (sz + 1)) (a : Addr) :
    (Instr.fieldAt s (.pointer (some a)) f).run P w = .ok (.pointer (some (a.add fd.offset))) w := by
  simp only [Instr.fieldAt, Sem.run_bind, run_underlying ht, Result.andThen_ok]
  simp [hf, Instr.sureAddr, fieldPlace, run_sizeOf hs]
theorem run_part {t : TypeId} {g : Bool} {sz : Nat} (hg : isAggT P t = some g) (hs : cellsT P t = some sz) (c1 c2 c3 : List Value) (hl : c2.length = sz) (u : Value) (hu : if g then u = .agg c2.toArray else c2 = [u]) :
    (part t (c1 ++ (c2 ++ c3)).toArray c1.length).run P w = .ok u w := by
  simp only [part, Sem.run_bind, run_isAgg hg, Result.andThen_ok]
  cases g with
  | true =>
    simp only [if_true] at hu ⊢
    subst hl hu
    simp only [Sem.run_bind, run_sizeOf hs, Result.andThen_ok, Sem.run_pure]
    congr 2
    simp [List.extract_eq_take_drop]
  | false =>
    simp only [if_false, Bool.false_eq_true] at hu ⊢
    subst hu
    simp
end

theorem rel_slC_elem {E : Env} {w : World} {c : Cont} {A : Option Addr} {len cap : Nat} (h : SlC E.S w c (.slice A len cap)) {i : Nat} (hi : i < c.len) :
    len = c.len ∧ ∃ a, A = some a ∧ RelV E w (.sta (c.elem i)) (.pointer (some (a.add (i * c.size)))) := by
  obtain ⟨A', cap', hu, hcap, hx⟩ := h
  cases hu
  refine ⟨rfl, ?_⟩
  obtain ⟨a, rfl, hS, hc⟩ := hx (by omega)
  refine ⟨a, rfl, ?_⟩
  have hle : i * c.size + c.size ≤ c.len * c.size := by rw [← Nat.succ_mul]; exact Nat.mul_le_mul_right _ hi
  -- the cells of the element
  have hex : ∀ n, n ≤ c.size → ∃ xs : List Value, xs.length = n ∧ ∀ j x, xs[j]? = some x → w.cell? (a.add (i * c.size + j)) = some x ∧ cellC E.S w c (i * c.size + j) x := by
    intro n
    induction n with
    | zero => exact fun _ => ⟨[], rfl, by simp⟩
    | succ n ih =>
      intro hn
      obtain ⟨xs, hl, hxs⟩ := ih (by omega)
      obtain ⟨x, h1, h2⟩ := hc (i * c.size + n) (by omega)
      refine ⟨xs ++ [x], by simp [hl], fun j y hy => ?_⟩
      by_cases hj : j < n
      · rw [List.getElem?_append_left (by omega)] at hy; exact hxs j y hy
      · have hjn : j = n := by
          have := (List.getElem?_eq_some_iff.1 hy).1
          simp at this
          omega
        subst hjn
        rw [List.getElem?_append_right (by omega)] at hy
        simp [hl] at hy
        subst hy
        exact ⟨h1, h2⟩
  obtain ⟨xs, hl, hxs⟩ := hex c.size (Nat.le_refl _)
  simp only [RelV]
  refine ⟨_, xs, rfl, by rw [add_block]; exact hS, elem_rel hl fun j x hj => (hxs j x hj).2, fun j hj => ?_⟩
  rw [add_add, List.getElem?_eq_getElem hj]
  exact (hxs j _ (List.getElem?_eq_getElem hj)).1

section
variable {D : Ctx} {B0 : Nat} {w0 : W0} {st : ASt} {dst : Option Tmp} {type : TypeId} {pos : String} {after : Array Edge} {guard : Option (Nat × Bool)}

theorem ok_index_sl {t e : TypeId} {sz : Nat} (ht : D.P.underlying t = some (.slice e)) (hs : cellsT D.P e = some sz) (x i : Operand) {c : Cont} (hx : ev st.f x = .sl c) (hc : c.size = sz)
    {k : IntKind} {z : Int} (hi : ev st.f i = .v (.int k z)) (h0 : 0 ≤ z) (h1 : z < c.len) :
    OpOk D B0 w0 st ⟨dst, .indexAddr t x i, type, pos, after, guard⟩ ⟨.sta (c.elem z.toNat), [], st.n⟩ :=
  opOk_val fun E act w hR => by
    have hX := hR.ev x
    have hI := hR.ev i
    rw [hx] at hX
    rw [hi] at hI
    simp only [RelV] at hX hI
    obtain ⟨A, cap, hu, hcap, _⟩ := id hX
    rw [hu] at hX
    obtain ⟨_, a, rfl, hr⟩ := rel_slC_elem hX (i := z.toNat) (by omega)
    refine ⟨_, ?_, hr⟩
    simp only [execOp, hu, hI, Sem.run_bind, run_indexAt_sl ht hs a c.len cap k z h0 h1, Result.andThen_ok, Sem.run_pure, hc]
theorem ok_index_own {t e : TypeId} {sz : Nat} (ht : D.P.underlying t = some (.slice e)) (hs : cellsT D.P e = some sz) (x i : Operand) {id : Nat} (hx : ev st.f x = .own id) {e' : TypeId} {c : Cont} {f : Bool}
    (hb : hlook st.h id = some ⟨.row e' c, f⟩) {k : IntKind} {z : Int} (hi : ev st.f i = .v (.int k z)) (h0 : 0 ≤ z) (h1 : z < c.len) :
    OpOk D B0 w0 st ⟨dst, .indexAddr t x i, type, pos, after, guard⟩ ⟨.pel id sz z.toNat, [], st.n⟩ :=
  opOk_val fun E act w hR => by
    have hX := hR.ev x
    have hI := hR.ev i
    rw [hx] at hX
    rw [hi] at hI
    simp only [RelV] at hX hI
    obtain ⟨v, hv, ⟨xs, ho, _⟩, _⟩ := hR.heap _ _ hb
    rw [hX] at hv
    cases hv
    rcases (show _ from ho.2) with ⟨_, hn⟩ | ⟨g, cap, cur, hu, _, _, hn, _⟩
    · omega
    · refine ⟨.pointer (some (Addr.add ⟨g, 0, none⟩ (z.toNat * sz))), ?_, ?_⟩
      · simp only [execOp, hu, hI, Sem.run_bind, run_indexAt_sl ht hs ⟨g, 0, none⟩ c.len cap k z h0 h1, Result.andThen_ok, Sem.run_pure]
      · simp only [RelV]; exact ⟨⟨g, 0, none⟩, _, _, by rw [hX, hu], by omega, rfl⟩
theorem ok_index_win {t e : TypeId} (ht : D.P.underlying t = some (.slice e)) (hs : cellsT D.P e = some 1) (x i : Operand) {id off len : Nat} (hx : ev st.f x = .win id off len)
    {k : IntKind} {z : Int} (hi : ev st.f i = .v (.int k z)) (h0 : 0 ≤ z) (h1 : z < len) {e' : TypeId} {c : Cont} {f : Bool} (hb : hlook st.h id = some ⟨.row e' c, f⟩) :
    OpOk D B0 w0 st ⟨dst, .indexAddr t x i, type, pos, after, guard⟩ ⟨.pel id 1 (off + z.toNat), [], st.n⟩ :=
  opOk_val fun E act w hR => by
    have hX := hR.ev x
    have hI := hR.ev i
    rw [hx] at hX
    rw [hi] at hI
    simp only [RelV] at hX hI
    obtain ⟨A, n, cap, hρ, hle, A', hA', _, hu⟩ := hX
    obtain ⟨v, hv, ⟨xs, ho, _⟩, _⟩ := hR.heap _ _ hb
    rw [hρ] at hv
    cases hv
    cases A with
    | none => have := ownsRow_nil_len ho rfl; omega
    | some a =>
      rw [hA' (by omega)] at hu
      refine ⟨.pointer (some ((a.add off).add (z.toNat * 1))), ?_, ?_⟩
      · simp only [execOp, hu, hI, Option.map_some, Sem.run_bind, run_indexAt_sl ht hs (a.add off) len (cap - off) k z h0 h1, Result.andThen_ok, Sem.run_pure]
      · simp only [RelV]
        exact ⟨a, n, cap, hρ, by omega, by rw [add_add]; simp⟩
theorem ok_index_awin {t e : TypeId} (ht : D.P.underlying t = some (.slice e)) (hs : cellsT D.P e = some 1) (x i : Operand) {id off m lo len : Nat} (hx : ev st.f x = .awin id off m lo len)
    {k : IntKind} {z : Int} (hi : ev st.f i = .v (.int k z)) (h0 : 0 ≤ z) (h1 : z < len) :
    OpOk D B0 w0 st ⟨dst, .indexAddr t x i, type, pos, after, guard⟩ ⟨.apel id off m (lo + z.toNat), [], st.n⟩ :=
  opOk_val fun E act w hR => by
    have hX := hR.ev x
    have hI := hR.ev i
    rw [hx] at hX
    rw [hi] at hI
    simp only [RelV] at hX hI
    obtain ⟨b, A, cap, hρ, hle, hcap, hA, hu⟩ := hX
    have hA' := hA (by omega)
    subst hA'
    refine ⟨Value.pointer (some (Addr.add ⟨b, off + lo, none⟩ (z.toNat * 1))), by simp only [execOp, hu, hI, Sem.run_bind, run_indexAt_sl ht hs ⟨b, off + lo, none⟩ len cap k z h0 h1, Result.andThen_ok, Sem.run_pure], ?_⟩
    simp only [RelV]
    exact ⟨b, hρ, by omega, by rw [add_none]; simp [Nat.add_assoc]⟩
theorem ok_index_ptr {t e : TypeId} {m sz : Nat} (ht : D.P.underlying t = some (.array m e)) (hs : cellsT D.P e = some sz) (x i : Operand) {id off : Nat} (hx : ev st.f x = .ptr id off)
    {k : IntKind} {z : Int} (hi : ev st.f i = .v (.int k z)) (j : Nat) (hj : z = j) (h1 : j < m) :
    OpOk D B0 w0 st ⟨dst, .indexAddr t x i, type, pos, after, guard⟩ ⟨.ptr id (off + j * sz), [], st.n⟩ :=
  opOk_val fun E act w hR => by
    have hX := hR.ev x
    have hI := hR.ev i
    rw [hx] at hX
    rw [hi] at hI
    simp only [RelV] at hX hI
    obtain ⟨b, hρ, hu⟩ := hX
    refine ⟨Value.pointer (some (Addr.add ⟨b, off, none⟩ (z.toNat * sz))), by simp only [execOp, hu, hI, Sem.run_bind, run_indexAt_arr ht hs ⟨b, off, none⟩ k z (by omega) (by omega), Result.andThen_ok, Sem.run_pure], ?_⟩
    simp only [RelV]
    exact ⟨b, hρ, by rw [add_none, hj]; simp⟩
theorem ok_index_ptr_arr {t e : TypeId} {m : Nat} (ht : D.P.underlying t = some (.array m e)) (hs : cellsT D.P e = some 1) (x i : Operand) {id off : Nat} (hx : ev st.f x = .ptr id off)
    {k : IntKind} {z : Int} (hi : ev st.f i = .v (.int k z)) (h0 : 0 ≤ z) (h1 : z < m) :
    OpOk D B0 w0 st ⟨dst, .indexAddr t x i, type, pos, after, guard⟩ ⟨.apel id off m z.toNat, [], st.n⟩ :=
  opOk_val fun E act w hR => by
    have hX := hR.ev x
    have hI := hR.ev i
    rw [hx] at hX
    rw [hi] at hI
    simp only [RelV] at hX hI
    obtain ⟨b, hρ, hu⟩ := hX
    refine ⟨Value.pointer (some (Addr.add ⟨b, off, none⟩ (z.toNat * 1))), by simp only [execOp, hu, hI, Sem.run_bind, run_indexAt_arr ht hs ⟨b, off, none⟩ k z h0 h1, Result.andThen_ok, Sem.run_pure], ?_⟩
    simp only [RelV]
    exact ⟨b, hρ, by omega, by rw [add_none]; simp⟩
theorem ok_index_glob {t e : TypeId} {m sz : Nat} (ht : D.P.underlying t = some (.array m e)) (hs : cellsT D.P e = some sz) (x i : Operand) {g off : Nat} (hx : ev st.f x = .glob g off)
    {k : IntKind} {z : Int} (hi : ev st.f i = .v (.int k z)) (j : Nat) (hj : z = j) (h1 : j < m) :
    OpOk D B0 w0 st ⟨dst, .indexAddr t x i, type, pos, after, guard⟩ ⟨.glob g (off + j * sz), [], st.n⟩ :=
  opOk_val fun E act w hR => by
    have hX := hR.ev x
    have hI := hR.ev i
    rw [hx] at hX
    rw [hi] at hI
    simp only [RelV] at hX hI
    refine ⟨Value.pointer (some (Addr.add ⟨g, off, none⟩ (z.toNat * sz))), by simp only [execOp, hX, hI, Sem.run_bind, run_indexAt_arr ht hs ⟨g, off, none⟩ k z (by omega) (by omega), Result.andThen_ok, Sem.run_pure], ?_⟩
    simp only [RelV]
    rw [add_none, hj]; simp
theorem ok_index_glob_arr {t e : TypeId} {m : Nat} (ht : D.P.underlying t = some (.array m e)) (hs : cellsT D.P e = some 1) (x i : Operand) {g off : Nat} (hx : ev st.f x = .glob g off)
    {k : IntKind} {z : Int} (hi : ev st.f i = .v (.int k z)) (h0 : 0 ≤ z) (h1 : z < m) :
    OpOk D B0 w0 st ⟨dst, .indexAddr t x i, type, pos, after, guard⟩ ⟨.gel g off m z.toNat, [], st.n⟩ :=
  opOk_val fun E act w hR => by
    have hX := hR.ev x
    have hI := hR.ev i
    rw [hx] at hX
    rw [hi] at hI
    simp only [RelV] at hX hI
    refine ⟨Value.pointer (some (Addr.add ⟨g, off, none⟩ (z.toNat * 1))), by simp only [execOp, hX, hI, Sem.run_bind, run_indexAt_arr ht hs ⟨g, off, none⟩ k z h0 h1, Result.andThen_ok, Sem.run_pure], ?_⟩
    simp only [RelV]
    exact ⟨by omega, by rw [add_none]; simp⟩
/-! field addresses -/
theorem ok_field_ptr {s : TypeId} {fs : Array Field} {f : Nat} {fd : Field} {sz : Nat} (ht : D.P.underlying s = some (.struct fs)) (hf : fs[f]? = some fd) (hs : cellsT D.P fd.type = some (sz + 1)) (x : Operand) {id off : Nat} (hx : ev st.f x = .ptr id off) :
    OpOk D B0 w0 st ⟨dst, .fieldAddr s x f, type, pos, after, guard⟩ ⟨.ptr id (off + fd.offset), [], st.n⟩ :=
  opOk_val fun E act w hR => by
    have hX := hR.ev x
    rw [hx] at hX
    simp only [RelV] at hX
    obtain ⟨b, hρ, hu⟩ := hX
    refine ⟨Value.pointer (some (Addr.add ⟨b, off, none⟩ fd.offset)), by simp only [execOp, hu, Sem.run_bind, run_fieldAt ht hf hs ⟨b, off, none⟩, Result.andThen_ok, Sem.run_pure], ?_⟩
    simp only [RelV]
    exact ⟨b, hρ, by rw [add_none]⟩
theorem ok_field_glob {s : TypeId} {fs : Array Field} {f : Nat} {fd : Field} {sz : Nat} (ht : D.P.underlying s = some (.struct fs)) (hf : fs[f]? = some fd) (hs : cellsT D.P fd.type = some (sz + 1)) (x : Operand) {g off : Nat} (hx : ev st.f x = .glob g off) :
    OpOk D B0 w0 st ⟨dst, .fieldAddr s x f, type, pos, after, guard⟩ ⟨.glob g (off + fd.offset), [], st.n⟩ :=
  opOk_val fun E act w hR => by
    have hX := hR.ev x
    rw [hx] at hX
    simp only [RelV] at hX
    refine ⟨Value.pointer (some (Addr.add ⟨g, off, none⟩ fd.offset)), by simp only [execOp, hX, Sem.run_bind, run_fieldAt ht hf hs ⟨g, off, none⟩, Result.andThen_ok, Sem.run_pure], ?_⟩
    simp only [RelV]
    rw [add_none]
theorem ok_field_sta {s : TypeId} {fs : Array Field} {f : Nat} {fd : Field} {sz : Nat} (ht : D.P.underlying s = some (.struct fs)) (hf : fs[f]? = some fd) (hs : cellsT D.P fd.type = some (sz + 1)) (x : Operand) {l pre mid post : List AVal}
    (hx : ev st.f x = .sta l) (hg : getC l fd.offset (sz + 1) = some (pre, mid, post)) :
    OpOk D B0 w0 st ⟨dst, .fieldAddr s x f, type, pos, after, guard⟩ ⟨.sta mid, [], st.n⟩ :=
  opOk_val fun E act w hR => by
    have hX := hR.ev x
    rw [hx] at hX
    simp only [RelV] at hX
    obtain ⟨a, cs, hu, hS, hl, hc⟩ := hX
    refine ⟨Value.pointer (some (a.add fd.offset)), by simp only [execOp, hu, Sem.run_bind, run_fieldAt ht hf hs a, Result.andThen_ok, Sem.run_pure], ?_⟩
    obtain ⟨c2, g1, g2, g3⟩ := cells_mid hg hl a hc
    simp only [RelV]
    exact ⟨_, c2, rfl, by rw [add_block]; exact hS, g1, g3⟩
/-! parts of values -/
theorem ok_field {s : TypeId} {fs : Array Field} {f : Nat} {fd : Field} {sz : Nat} {g : Bool} (ht : D.P.underlying s = some (.struct fs)) (hf : fs[f]? = some fd) (hg : isAggT D.P fd.type = some g) (hs : cellsT D.P fd.type = some sz) (x : Operand)
    {l pre mid post : List AVal} (hx : ev st.f x = .agg l) (hl : getC l fd.offset sz = some (pre, mid, post)) {a : AVal} (ha : if g then a = aggOf mid else mid = [a] ∧ ∀ k n l, a ≠ .arr k n l) :
    OpOk D B0 w0 st ⟨dst, .field s x f, type, pos, after, guard⟩ ⟨a, [], st.n⟩ :=
  opOk_val fun E act w hR => by
    have hX := hR.ev x
    rw [hx] at hX
    simp only [RelV] at hX
    obtain ⟨cs, hu, hr⟩ := hX
    obtain ⟨c1, c2, c3, rfl, g1, g2, g3, l1, l2⟩ := relF_mid hl hr
    have fin : ∀ u, (if g then u = .agg c2.toArray else c2 = [u]) → (execOp act.eval ⟨dst, .field s x f, type, pos, after, guard⟩).run D.P w = .ok (.value u) w := by
      intro u hu'
      have := run_part (P := D.P) (w := w) hg hs c1 c2 c3 l2 u hu'
      rw [l1] at this
      simp only [execOp, hu, Instr.field, Sem.run_bind, run_underlying ht, Result.andThen_ok, hf, asAgg, Sem.run_pure, this]
    cases g with
    | true =>
      simp only [if_true] at ha
      subst ha
      exact ⟨_, fin _ (by simp), relV_aggOf g2⟩
    | false =>
      simp only [if_false, Bool.false_eq_true] at ha
      obtain ⟨rfl, ha⟩ := ha
      obtain ⟨u, rfl, _, hv⟩ := relF_single g2 ha
      exact ⟨u, fin u (by simp), hv⟩
theorem run_index_arr {P : Program} {w : World} {t e : TypeId} {m sz : Nat} {g : Bool} (ht : P.underlying t = some (.array m e)) (hs : cellsT P e = some sz) (hg : isAggT P e = some g) (k : IntKind) (j : Nat) (hj : j < m)
    (c1 c2 c3 : List Value) (h1 : c1.length = j * sz) (h2 : c2.length = sz) (u : Value) (hu : if g then u = .agg c2.toArray else c2 = [u]) :
    (Instr.index t (.agg (c1 ++ (c2 ++ c3)).toArray) (.int k (j : Int))).run P w = .ok u w := by
  have := run_part (P := P) (w := w) hg hs c1 c2 c3 h2 u hu
  rw [h1] at this
  simp only [Instr.index, asIntOf, Sem.run_bind, Sem.run_pure, Result.andThen_ok, run_underlying ht]
  rw [if_pos ⟨by omega, by omega⟩]
  simp only [Sem.run_bind, run_sizeOf hs, Result.andThen_ok, Int.toNat_natCast, this]
theorem ok_index_agg {t e : TypeId} {m sz : Nat} {g : Bool} (ht : D.P.underlying t = some (.array m e)) (hs : cellsT D.P e = some sz) (hg : isAggT D.P e = some g) (x i : Operand) {l pre mid post : List AVal} (hx : ev st.f x = .agg l)
    {k : IntKind} {z : Int} (hi : ev st.f i = .v (.int k z)) (j : Nat) (hj : z = j) (h1 : j < m) (hl : getC l (j * sz) sz = some (pre, mid, post)) {a : AVal} (ha : if g then a = aggOf mid else mid = [a] ∧ ∀ k n l, a ≠ .arr k n l) :
    OpOk D B0 w0 st ⟨dst, .index t x i, type, pos, after, guard⟩ ⟨a, [], st.n⟩ :=
  opOk_val fun E act w hR => by
    have hX := hR.ev x
    have hI := hR.ev i
    rw [hx] at hX
    rw [hi] at hI
    simp only [RelV] at hX hI
    obtain ⟨cs, hu, hr⟩ := hX
    obtain ⟨c1, c2, c3, rfl, g1, g2, g3, l1, l2⟩ := relF_mid hl hr
    have fin : ∀ u, (if g then u = .agg c2.toArray else c2 = [u]) → (execOp act.eval ⟨dst, .index t x i, type, pos, after, guard⟩).run D.P w = .ok (.value u) w := by
      intro u hu'
      have := run_index_arr (P := D.P) (w := w) ht hs hg k j h1 c1 c2 c3 l1 l2 u hu'
      simp only [execOp, hu, hI, hj, Sem.run_bind, this, Result.andThen_ok, Sem.run_pure]
    cases g with
    | true =>
      simp only [if_true] at ha
      subst ha
      exact ⟨_, fin _ (by simp), relV_aggOf g2⟩
    | false =>
      simp only [if_false, Bool.false_eq_true] at ha
      obtain ⟨rfl, ha⟩ := ha
      obtain ⟨u, rfl, _, hv⟩ := relF_single g2 ha
      exact ⟨u, fin u (by simp), hv⟩
theorem ok_index_arr {t e : TypeId} {m : Nat} (ht : D.P.underlying t = some (.array m e)) (hs : cellsT D.P e = some 1) (hg : isAggT D.P e = some false) (x i : Operand) {ki : IntKind} {l : List Int} (hx : ev st.f x = .arr ki m l)
    {k : IntKind} {z : Int} (hi : ev st.f i = .v (.int k z)) (h0 : 0 ≤ z) (h1 : z < m) :
    OpOk D B0 w0 st ⟨dst, .index t x i, type, pos, after, guard⟩ ⟨.v (.int ki (l.getD z.toNat 0)), [], st.n⟩ :=
  opOk_val fun E act w hR => by
    have hX := hR.ev x
    have hI := hR.ev i
    rw [hx] at hX
    rw [hi] at hI
    simp only [RelV] at hX hI
    obtain ⟨hl, hu⟩ := hX
    refine ⟨.int ki (l.getD z.toNat 0), ?_, by simp only [RelV]⟩
    have hz : z = (z.toNat : Int) := by omega
    have hlt : z.toNat < l.length := by omega
    have hsplit : l.map (Value.int ki) = (l.take z.toNat).map (Value.int ki) ++ ([Value.int ki (l.getD z.toNat 0)] ++ (l.drop (z.toNat + 1)).map (Value.int ki)) := by
      have h3 : l = l.take z.toNat ++ l.getD z.toNat 0 :: l.drop (z.toNat + 1) := by
        rw [show l.getD z.toNat 0 = l[z.toNat] from by simp [List.getElem?_eq_getElem hlt]]
        rw [List.getElem_cons_drop hlt, List.take_append_drop]
      conv => lhs; rw [h3]
      simp
    have := run_index_arr (P := D.P) (w := w) ht hs hg k z.toNat (by omega) ((l.take z.toNat).map (Value.int ki)) [Value.int ki (l.getD z.toNat 0)] ((l.drop (z.toNat + 1)).map (Value.int ki)) (by simp; omega) rfl (.int ki (l.getD z.toNat 0)) (by simp)
    rw [← hsplit, ← hz] at this
    simp only [execOp, hu, hI, Sem.run_bind, this, Result.andThen_ok, Sem.run_pure]
end
end Go.Abs
