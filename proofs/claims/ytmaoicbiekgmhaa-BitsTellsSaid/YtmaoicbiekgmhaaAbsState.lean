import Derived.Test.YtmaoicbiekgmhaaAbsMono
namespace Go.Abs
open Go Go.RowKit

def vBlock : Value → Option Nat
  | .slice (some a) _ _ => some a.block
  | .pointer (some a) => some a.block
  | _ => none

def BlkR (E : Env) (w : World) (B0 : Nat) (id : Nat) (b : Blk) : Prop :=
  ∃ u, E.ρ id = some u ∧
    (match b.b with
      | .row e c => ∃ xs, w.ownsRow B0 e c.size u c.len xs ∧ ∀ j x, xs[j]? = some x → x.oneCell' = true ∧ cellC E.S w c j x
      | .box e l => ∃ k cs, u = .pointer (some ⟨k, 0, none⟩) ∧ B0 ≤ k ∧ w.heap[k]? = some (.cells cs e (0, 0)) ∧ RelF E w l cs.toList) ∧
    (b.frz = false → ∀ k, vBlock u = some k → ¬ E.S k) ∧
    (b.frz = true → ∀ k, vBlock u = some k → E.S k)

/-- the world at the start, and the static memory at hand there -/
structure W0 where
  w : World
  S0 : Nat → Prop

structure Rel (D : Ctx) (B0 : Nat) (w0 : W0) (E : Env) (st : ASt) (act : Act) (w : World) : Prop where
  below : Below B0 w0.w w
  base : B0 ≤ w.heap.size
  size : act.tmps.size = st.m
  defers : act.defers = []
  tmps : ∀ t, RelV E w (look st.f t) (act.tmps.getD t undef)
  heap : ∀ id b, hlook st.h id = some b → BlkR E w B0 id b
  apart : ∀ id id' b b' u u' k, hlook st.h id = some b → b.frz = false → hlook st.h id' = some b' → b'.frz = false → id ≠ id' →
    E.ρ id = some u → E.ρ id' = some u' → vBlock u = some k → vBlock u' ≠ some k
  sOld : ∀ b, E.S b → b < w.heap.size
  sNew : ∀ b, E.S b → w0.S0 b ∨ B0 ≤ b
  form : ∀ id u, E.ρ id = some u → (∃ A n c, u = .slice A n c) ∨ ∃ a, u = .pointer (some a)
  globs : ∀ g l, assoc D.globs g = some l → E.S g ∧ ∃ cs e fz, w.heap[g]? = some (.cells cs e fz) ∧ RelF E w l cs.toList

theorem vBlock_own {u : Value} : u.ownBlock = vBlock u ∨ ∃ a, u = .pointer a := by
  cases u with
  | slice a n c => cases a <;> simp [Value.ownBlock, vBlock]
  | pointer a => exact .inr ⟨a, rfl⟩
  | _ => simp [Value.ownBlock, vBlock]

/-- the block of a live id lies in the heap, from the base on -/
theorem BlkR.lt {E : Env} {w : World} {B0 id : Nat} {b : Blk} (h : BlkR E w B0 id b) {u : Value} (hu : E.ρ id = some u) {k : Nat} (hk : vBlock u = some k) : B0 ≤ k ∧ k < w.heap.size := by
  obtain ⟨u', hu', hb, _⟩ := h
  rw [hu] at hu'; cases hu'
  cases hb' : b.b with
  | row e c =>
    rw [hb'] at hb
    obtain ⟨xs, ho, _⟩ := hb
    have : u.ownBlock = some k := by
      rcases vBlock_own (u := u) with e | ⟨a, rfl⟩
      · rw [e]; exact hk
      · rcases ho.2 with ⟨h, _⟩ | ⟨g, cap, cur, h, _⟩ <;> cases h
    exact ho.lt k this
  | box e l =>
    rw [hb'] at hb
    obtain ⟨k', cs, rfl, hB, hh, _⟩ := hb
    simp [vBlock] at hk
    subst hk
    exact ⟨hB, (Array.getElem?_eq_some_iff.1 hh).1⟩

theorem BlkR.form {E : Env} {w : World} {B0 id : Nat} {b : Blk} (h : BlkR E w B0 id b) {u : Value} (hu : E.ρ id = some u) : (∃ A n c, u = .slice A n c) ∨ ∃ a, u = .pointer (some a) := by
  obtain ⟨u', hu', hb, _⟩ := h
  rw [hu] at hu'; cases hu'
  cases hb' : b.b with
  | row e c =>
    rw [hb'] at hb
    obtain ⟨xs, ho, _⟩ := hb
    rcases ho.2 with ⟨h, _⟩ | ⟨g, cap, cur, h, _⟩
    · exact .inl ⟨_, _, _, h⟩
    · exact .inl ⟨_, _, _, h⟩
  | box e l =>
    rw [hb'] at hb
    obtain ⟨k', cs, h, _⟩ := hb
    exact .inr ⟨_, h⟩

theorem ownsRow_same {w w' : World} {base : Nat} {e : TypeId} {size n : Nat} {v : Value} {xs : List Value} (h : w.ownsRow base e size v n xs)
    (hs : ∀ k, vBlock v = some k → w'.heap[k]? = w.heap[k]?) : w'.ownsRow base e size v n xs := by
  refine ⟨h.1, ?_⟩
  rcases h.2 with hn | ⟨g, cap, cur, rfl, hb, hg, rest⟩
  · exact .inl hn
  · exact .inr ⟨g, cap, cur, rfl, hb, by rw [hs g rfl]; exact hg, rest⟩

theorem BlkR.mono {E E' : Env} {w w' : World} {B0 id : Nat} {b : Blk} (k : Up E E' w w') (h : BlkR E w B0 id b)
    (hs : ∀ u j, E.ρ id = some u → vBlock u = some j → w'.heap[j]? = w.heap[j]?)
    (hS : b.frz = false → ∀ u j, E.ρ id = some u → vBlock u = some j → E'.S j → E.S j) : BlkR E' w' B0 id b := by
  obtain ⟨u, hu, hb, hf, ht⟩ := h
  refine ⟨u, k.ρ _ _ hu, ?_, fun hfr j hj hSj => hf hfr j hj (hS hfr u j hu hj hSj), fun hfr j hj => k.keeps.sub _ (ht hfr j hj)⟩
  cases hb' : b.b with
  | row e c =>
    rw [hb'] at hb
    obtain ⟨xs, ho, hx⟩ := hb
    exact ⟨xs, ownsRow_same ho (fun j hj => hs u j hu hj), fun j x hjx => ⟨(hx j x hjx).1, cellC.mono k.keeps (hx j x hjx).2⟩⟩
  | box e l =>
    rw [hb'] at hb
    obtain ⟨g, cs, rfl, hB, hh, hl⟩ := hb
    exact ⟨g, cs, rfl, hB, by rw [hs _ g hu rfl]; exact hh, RelF.mono k l _ hl⟩

theorem look_putF (m : Nat) (dst : Option Nat) (a : AVal) (f : List (Nat × AVal)) (t : Nat) :
    look (putF m dst a f) t = if dst = some t ∧ t < m then a else look f t := by
  cases dst with
  | none => simp [putF]
  | some d =>
    simp only [putF]
    cases hb : Nat.blt d m with
    | false =>
      have hn : ¬ d < m := by intro h; rw [Nat.blt, Nat.ble_eq_true_of_le h] at hb; cases hb
      simp only [cond_false]
      rw [if_neg]
      rintro ⟨h, h2⟩
      cases h
      exact hn h2
    | true =>
      have hm : d < m := by simpa using hb
      simp only [cond_true, look]
      cases he : Nat.beq d t with
      | true =>
        have := Nat.eq_of_beq_eq_true he
        subst this
        simp [hm]
      | false =>
        have hne := Nat.ne_of_beq_eq_false he
        simp [hne]

theorem put_size (act : Act) (dst : Option Nat) (u : Value) : (act.put dst u).tmps.size = act.tmps.size := by
  cases dst <;> simp [Act.put]
theorem put_defers (act : Act) (dst : Option Nat) (u : Value) : (act.put dst u).defers = act.defers := by
  cases dst <;> rfl
theorem put_getD (act : Act) (dst : Option Nat) (u : Value) (t : Nat) :
    (act.put dst u).tmps.getD t undef = if dst = some t ∧ t < act.tmps.size then u else act.tmps.getD t undef := by
  cases dst with
  | none => simp [Act.put]
  | some d =>
    simp only [Act.put, Array.getD_eq_getD_getElem?, Array.getElem?_setIfInBounds]
    by_cases h : d = t
    · subst h
      by_cases h2 : d < act.tmps.size
      · simp [h2]
      · simp [h2]
    · simp [h]

theorem hlook_lcat (p h : Hp) (id : Nat) : hlook (lcat p h) id = (match assoc p id with | some b => b | none => hlook h id) := by
  induction p with
  | nil => rfl
  | cons x r ih =>
    obtain ⟨k, b⟩ := x
    simp only [lcat, hlook, assoc]
    cases Nat.beq k id <;> simp [ih]

section
variable {D : Ctx} {B0 : Nat} {w0 : W0} {E : Env} {st : ASt} {act : Act} {w : World}

theorem Rel.put (h : Rel D B0 w0 E st act w) {a : AVal} {u : Value} (hu : RelV E w a u) (dst : Option Nat) : Rel D B0 w0 E (st.put dst a) (act.put dst u) w :=
  { h with
    size := by rw [put_size]; exact h.size
    defers := by rw [put_defers]; exact h.defers
    tmps := fun t => by
      simp only [ASt.put]
      rw [look_putF, put_getD, h.size]
      split
      · exact hu
      · exact h.tmps t }

/-- only the number of the next id is another one -/
theorem Rel.with_n (h : Rel D B0 w0 E st act w) (n : Nat) : Rel D B0 w0 E { st with n := n } act w :=
  { h with }

theorem Rel.app_val (h : Rel D B0 w0 E st act w) {a : AVal} {u : Value} (hu : RelV E w a u) (n : Nat) (dst : Option Nat) :
    Rel D B0 w0 E (st.app ⟨a, [], n⟩ dst) (act.put dst u) w := (h.put hu dst).with_n n

/-- THE STEP: the world and the heap have changed. -/
theorem Rel.step (h : Rel D B0 w0 E st act w) {E' : Env} {w' : World} (k : Up E E' w w') (hb : Below B0 w w') {h' : Hp} (n : Nat)
    (hh : ∀ id b, hlook h' id = some b → BlkR E' w' B0 id b)
    (ha : ∀ id id' b b' u u' k, hlook h' id = some b → b.frz = false → hlook h' id' = some b' → b'.frz = false → id ≠ id' →
      E'.ρ id = some u → E'.ρ id' = some u' → vBlock u = some k → vBlock u' ≠ some k)
    (hS : ∀ b, E'.S b → E.S b ∨ (B0 ≤ b ∧ b < w'.heap.size)) (hF : ∀ id u, E'.ρ id = some u → (∃ A n c, u = .slice A n c) ∨ ∃ a, u = .pointer (some a)) : Rel D B0 w0 E' { st with h := h', n := n } act w' where
  below := h.below.trans hb
  base := Nat.le_trans h.base hb.size
  size := h.size
  defers := h.defers
  tmps := fun t => RelV.mono k _ _ (h.tmps t)
  heap := hh
  apart := ha
  sOld := fun b hb' => by
    rcases hS b hb' with h1 | h1
    · exact Nat.lt_of_lt_of_le (h.sOld b h1) hb.size
    · exact h1.2
  sNew := fun b hb' => by
    rcases hS b hb' with h1 | h1
    · exact h.sNew b h1
    · exact .inr h1.1
  form := hF
  globs := fun g l hg => by
    obtain ⟨hs, cs, e, fz, hc, hl⟩ := h.globs g l hg
    exact ⟨k.keeps.sub _ hs, cs, e, fz, by rw [k.keeps.blk _ hs]; exact hc, RelF.mono k _ _ hl⟩

/-- the value of an operand -/
theorem Rel.ev (h : Rel D B0 w0 E st act w) (x : Operand) : RelV E w (ev st.f x) (act.eval x) := by
  cases x with
  | tmp t => exact h.tmps t
  | const v => simp only [Abs.ev, RelV]; rfl
  | global g => simp only [Abs.ev, RelV]; rfl
  | func f =>
    simp only [Abs.ev, RelV]
    exact ⟨[], [], rfl, by simp only [RelVs], by simp only [RelVs]⟩
theorem Rel.evs (h : Rel D B0 w0 E st act w) : ∀ (xs : List Operand), RelVs E w (evs st.f xs) (xs.map act.eval)
  | [] => by simp only [Abs.evs, RelVs, List.map_nil]
  | x :: r => by
    simp only [Abs.evs, RelVs, List.map_cons]
    exact ⟨_, _, rfl, h.ev x, h.evs r⟩
end
end Go.Abs
