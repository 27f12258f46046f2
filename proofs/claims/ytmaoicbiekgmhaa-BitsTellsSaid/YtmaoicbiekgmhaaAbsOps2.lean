import Derived.Test.YtmaoicbiekgmhaaAbsOps
namespace Go.Abs
open Go Go.RowKit
set_option linter.unusedVariables false
set_option linter.unusedSimpArgs false

section
variable {P : Program} {w : World}
theorem run_isAgg {t : TypeId} {g : Bool} (h : isAggT P t = some g) : (isAgg t).run P w = .ok g w := by
  unfold isAggT at h
  unfold isAgg
  cases hu : P.underlying t with
  | none => rw [hu] at h; cases h
  | some d =>
    rw [hu] at h
    simp only [Sem.run_bind, run_underlying hu, Result.andThen_ok]
    cases d <;> cases h <;> rfl
theorem info_of_cells {t : TypeId} {sz : Nat} (h : cellsT P t = some sz) : ∃ i, P.info? t = some i ∧ i.size = sz := by
  unfold cellsT at h
  cases hi : P.info? t with
  | none => rw [hi] at h; cases h
  | some i => rw [hi] at h; cases h; exact ⟨i, rfl, rfl⟩
theorem run_sizeOf {t : TypeId} {sz : Nat} (h : cellsT P t = some sz) : (sizeOf t).run P w = .ok sz w := by
  obtain ⟨i, hi, rfl⟩ := info_of_cells h
  simp [sizeOf, typeInfo, hi]
theorem run_loadCellsFrom (a : Addr) : ∀ (cs : List Value) (i : Nat) (acc : Array Value), (∀ j, j < cs.length → w.cell? (a.add (i + j)) = cs[j]?) →
    (loadCellsFrom a i cs.length acc).run P w = .ok (acc ++ cs.toArray) w
  | [], i, acc, _ => by simp [loadCellsFrom]
  | c :: r, i, acc, h => by
    have h0 := h 0 (by simp)
    simp at h0
    have ih := run_loadCellsFrom a r (i + 1) (acc.push c) (fun j hj => by
      have := h (j + 1) (by simpa using hj)
      rw [show i + 1 + j = i + (j + 1) from by omega]
      simpa using this)
    simp only [List.length_cons, loadCellsFrom, Sem.run_bind, run_load, h0, Result.andThen_ok, ih]
    simp
theorem run_loadCells (a : Addr) (cs : List Value) (h : ∀ j, j < cs.length → w.cell? (a.add j) = cs[j]?) :
    (loadCells a cs.length).run P w = .ok cs.toArray w := by
  unfold loadCells
  rw [run_loadCellsFrom a cs 0 #[] (by simpa using h)]
  simp

/-- a value loaded, by its cells -/
theorem run_loadAt {t : TypeId} {g : Bool} {sz : Nat} (hg : isAggT P t = some g) (hs : cellsT P t = some sz) (a : Addr) (cs : List Value) (hl : cs.length = sz)
    (h : ∀ j, j < cs.length → w.cell? (a.add j) = cs[j]?) (u : Value) (hu : if g then u = .agg cs.toArray else cs = [u]) :
    (Instr.loadAt t (.pointer (some a))).run P w = .ok u w := by
  simp only [Instr.loadAt, Instr.sureAddr, loadVar, Sem.run_bind, Sem.run_pure, Result.andThen_ok, run_isAgg hg]
  cases g with
  | true =>
    simp only [if_true] at hu ⊢
    subst hl hu
    simp only [Sem.run_bind, run_sizeOf hs, Result.andThen_ok, run_loadCells a cs h, Sem.run_pure]
  | false =>
    simp only [if_false, Bool.false_eq_true] at hu ⊢
    subst hu
    have := h 0 (by simp)
    rw [add_block_zero] at this
    simp at this
    simp [this]
where add_block_zero : a.add 0 = a := by simp [Addr.add]
end

section
variable {E : Env} {w : World}
/-- parts as a value -/
theorem relV_aggOf {l : List AVal} {cs : List Value} (h : RelF E w l cs) : RelV E w (aggOf l) (.agg cs.toArray) := by
  unfold aggOf
  split
  · rename_i k n z
    rcases relF_cons h with ⟨k', n', l', cs', he, h1, rfl, h3⟩ | ⟨ha, _⟩
    · cases he
      simp only [RelF] at h3
      subst h3
      simp only [RelV]
      exact ⟨h1, by simp⟩
    · exact absurd rfl (ha _ _ _)
  · simp only [RelV]; exact ⟨cs, rfl, h⟩
theorem relF_single {a : AVal} {cs : List Value} (h : RelF E w [a] cs) (ha : ∀ k n l, a ≠ .arr k n l) : ∃ u, cs = [u] ∧ u.oneCell' = true ∧ RelV E w a u := by
  rcases relF_cons h with ⟨k', n', l', cs', he, _⟩ | ⟨_, u, cs', rfl, h2, h3, h4⟩
  · exact absurd he (ha _ _ _)
  · simp only [RelF] at h4; subst h4; exact ⟨u, rfl, h2, h3⟩
/-- the middle of parts -/
theorem relF_mid {l pre mid post : List AVal} {off sz : Nat} (hg : getC l off sz = some (pre, mid, post)) {cs : List Value} (h : RelF E w l cs) :
    ∃ c1 c2 c3, cs = c1 ++ (c2 ++ c3) ∧ RelF E w pre c1 ∧ RelF E w mid c2 ∧ RelF E w post c3 ∧ c1.length = off ∧ c2.length = sz := by
  obtain ⟨h1, h2, h3⟩ := getC_spec hg
  rw [h1] at h
  obtain ⟨c1, c', rfl, g1, g'⟩ := relF_append _ _ _ h
  obtain ⟨c2, c3, rfl, g2, g3⟩ := relF_append _ _ _ g'
  exact ⟨c1, c2, c3, rfl, g1, g2, g3, by rw [relF_len _ _ g1, h2], by rw [relF_len _ _ g2, h3]⟩
/-- the part at a place -/
theorem relF_at {l pre post : List AVal} {off : Nat} (hg : splitC l off = some (pre, post)) {cs : List Value} (h : RelF E w l cs) :
    ∃ c1 c2, cs = c1 ++ c2 ∧ RelF E w pre c1 ∧ RelF E w post c2 ∧ c1.length = off := by
  obtain ⟨h1, h2⟩ := splitC_spec _ _ _ _ hg
  rw [h1] at h
  obtain ⟨c1, c2, rfl, g1, g2⟩ := relF_append _ _ _ h
  exact ⟨c1, c2, rfl, g1, g2, by rw [relF_len _ _ g1, h2]⟩
theorem relF_arr_head {k : IntKind} {m : Nat} {z : List Int} {post : List AVal} {cs : List Value} (h : RelF E w (.arr k m z :: post) cs) :
    ∃ cs', z.length = m ∧ cs = z.map (Value.int k) ++ cs' ∧ RelF E w post cs' := by
  rcases relF_cons h with ⟨k', n', l', cs', he, h1, rfl, h3⟩ | ⟨ha, _⟩
  · cases he; exact ⟨cs', h1, rfl, h3⟩
  · exact absurd rfl (ha _ _ _)
end

theorem cell_block {w : World} {b : Nat} {cs : Array Value} {e : TypeId} {fz : Nat × Nat} (h : w.heap[b]? = some (.cells cs e fz)) (j : Nat) : w.cell? ⟨b, j, none⟩ = cs[j]? :=
  cell_of_row w b j cs e fz h

/-- the cells of an own row -/
theorem ownsRow_cells {w : World} {base : Nat} {e : TypeId} {size n : Nat} {v : Value} {xs : List Value} (h : w.ownsRow base e size v n xs) {a : Addr} {n' cap : Nat} (hv : v = .slice (some a) n' cap) :
    n' = n ∧ n ≤ cap ∧ (∃ g, a = ⟨g, 0, none⟩) ∧ ∀ j, j < xs.length → w.cell? (a.add j) = xs[j]? := by
  rcases h.2 with ⟨hn, _⟩ | ⟨g, cap', cur, hv', hb, hg, hn, hm, hc, ht⟩
  · rw [hv] at hn; cases hn
  · rw [hv] at hv'
    cases hv'
    refine ⟨rfl, hn, ⟨g, rfl⟩, fun j hj => ?_⟩
    rw [add_none, cell_block hg]
    have : xs[j]? = some xs[j] := List.getElem?_eq_getElem hj
    have h2 := h.cells (g := g) (by simp [hv, Value.ownBlock]) j xs[j] this
    rw [add_none, cell_block hg] at h2
    rw [this, ← h2]
theorem ownsRow_nil_len {w : World} {base : Nat} {e : TypeId} {size n : Nat} {v : Value} {xs : List Value} (h : w.ownsRow base e size v n xs) {n' cap : Nat} (hv : v = .slice none n' cap) : n = 0 ∧ n' = 0 ∧ cap = 0 := by
  rcases h.2 with ⟨hn, h0⟩ | ⟨g, cap', cur, hv', _⟩
  · rw [hv] at hn; cases hn; exact ⟨h0, rfl, rfl⟩
  · rw [hv] at hv'; cases hv'

/-! ### Elements of a row's content -/
section
variable {E : Env} {w : World}
theorem cell1_elem {S : Nat → Prop} {c : Cont} {i : Nat} {x : Value} (h : cell1 S w c i x) (E : Env) (hS : E.S = S) : x.oneCell' = true ∧ RelV E w (c.elem1 i) x ∧ ∀ k n l, c.elem1 i ≠ .arr k n l := by
  subst hS
  cases c with
  | ints k l => simp only [cell1, cellI] at h; subst h; exact ⟨rfl, by simp only [Cont.elem1, RelV], by simp [Cont.elem1]⟩
  | rows k l =>
    simp only [cell1, cellR, SlI] at h
    refine ⟨by obtain ⟨A, cap, rfl, _⟩ := h; rfl, ?_, by simp [Cont.elem1]⟩
    simp only [Cont.elem1, RelV, SlC, Cont.len, Cont.size]
    exact h
  | rows2 k l =>
    simp only [cell1, cellR2, SlR] at h
    refine ⟨by obtain ⟨A, cap, rfl, _⟩ := h; rfl, ?_, by simp [Cont.elem1]⟩
    simp only [Cont.elem1, RelV, SlC, Cont.len, Cont.size]
    exact h
  | cols n cs => exact h.elim
theorem elems1_rel (i : Nat) : ∀ (cs : List Cont) (xs : List Value), xs.length = cs.length → (∀ j (h : j < cs.length) x, xs[j]? = some x → cell1 E.S w cs[j] i x) → RelF E w (Cont.elems1 cs i) xs
  | [], xs, hl, _ => by
    have : xs = [] := List.eq_nil_of_length_eq_zero (by simpa using hl)
    subst this
    simp only [Cont.elems1, RelF]
  | c :: r, [], hl, _ => by simp at hl
  | c :: r, x :: xs, hl, h => by
    have h0 := h 0 (by simp) x rfl
    obtain ⟨h1, h2, h3⟩ := cell1_elem h0 E rfl
    exact relF_one h3 h1 h2 (elems1_rel i r xs (by simpa using hl) fun j hj y hy => h (j + 1) (by simpa using hj) y (by simpa using hy))
/-- an element's cells -/
theorem elem_rel {c : Cont} {i : Nat} {xs : List Value} (hl : xs.length = c.size) (h : ∀ j x, xs[j]? = some x → cellC E.S w c (i * c.size + j) x) : RelF E w (c.elem i) xs := by
  have one : ∀ c : Cont, c.size = 1 → (∀ n cs, c ≠ .cols n cs) → (∀ j x, xs[j]? = some x → cell1 E.S w c (i * 1 + j) x) → xs.length = 1 → RelF E w [c.elem1 i] xs := by
    intro c h1 hc h hl
    match xs, hl with
    | [x], _ =>
      have h0 := h 0 x rfl
      simp at h0
      obtain ⟨g1, g2, g3⟩ := cell1_elem h0 E rfl
      exact relF_one g3 g1 g2 (by simp only [RelF])
  cases c with
  | cols n cs =>
    simp only [Cont.size] at hl h
    refine elems1_rel i cs xs hl fun j hj x hx => ?_
    obtain ⟨c, hc, hx'⟩ := h j x hx
    have hm : (i * cs.length + j) % cs.length = j := by rw [Nat.mul_comm, Nat.mul_add_mod]; exact Nat.mod_eq_of_lt hj
    have hd : (i * cs.length + j) / cs.length = i := by rw [Nat.mul_comm, Nat.mul_add_div (by omega), Nat.div_eq_of_lt hj]; simp
    rw [hm] at hc
    rw [hd] at hx'
    rw [List.getElem?_eq_getElem hj] at hc
    cases hc
    exact hx'
  | ints k l => exact one (.ints k l) rfl (by simp) h hl
  | rows k l => exact one (.rows k l) rfl (by simp) h hl
  | rows2 k l => exact one (.rows2 k l) rfl (by simp) h hl
end
end Go.Abs
