import Derived.Test.YtmaoicbiekgmhaaAbsDef
namespace Go.Abs
open Go

structure Env where
  S : Nat → Prop
  ρ : Nat → Option Value

/-- a slice whose cells lie in blocks that nobody writes -/
def SlOf (S : Nat → Prop) (w : World) (len sz : Nat) (cell : Nat → Value → Prop) (u : Value) : Prop :=
  ∃ A cap, u = .slice A len cap ∧ len ≤ cap ∧
    (0 < len → ∃ a, A = some a ∧ S a.block ∧ ∀ j, j < len * sz → ∃ x, w.cell? (a.add j) = some x ∧ cell j x)
def cellI (k : IntKind) (l : List Int) (j : Nat) (x : Value) : Prop := x = .int k (l.getD j 0)
def SlI (S : Nat → Prop) (w : World) (k : IntKind) (l : List Int) (u : Value) : Prop := SlOf S w l.length 1 (cellI k l) u
def cellR (S : Nat → Prop) (w : World) (k : IntKind) (l : List (List Int)) (j : Nat) (x : Value) : Prop := SlI S w k (l.getD j []) x
def SlR (S : Nat → Prop) (w : World) (k : IntKind) (l : List (List Int)) (u : Value) : Prop := SlOf S w l.length 1 (cellR S w k l) u
def cellR2 (S : Nat → Prop) (w : World) (k : IntKind) (l : List (List (List Int))) (j : Nat) (x : Value) : Prop := SlR S w k (l.getD j []) x
def cell1 (S : Nat → Prop) (w : World) : Cont → Nat → Value → Prop
  | .ints k l => cellI k l
  | .rows k l => cellR S w k l
  | .rows2 k l => cellR2 S w k l
  | .cols _ _ => fun _ _ => False
def cellC (S : Nat → Prop) (w : World) : Cont → Nat → Value → Prop
  | .cols _ cs => fun j x => ∃ c, cs[j % cs.length]? = some c ∧ cell1 S w c (j / cs.length) x
  | c => cell1 S w c
def SlC (S : Nat → Prop) (w : World) (c : Cont) (u : Value) : Prop := SlOf S w c.len c.size (cellC S w c) u

/-- nothing that a reader of S-blocks sees has changed -/
structure Keeps (S S' : Nat → Prop) (w w' : World) : Prop where
  sub : ∀ b, S b → S' b
  blk : ∀ b, S b → w'.heap[b]? = w.heap[b]?

theorem Keeps.refl (S : Nat → Prop) (w : World) : Keeps S S w w := ⟨fun _ h => h, fun _ _ => rfl⟩
theorem Keeps.trans {S S' S'' : Nat → Prop} {w w' w'' : World} (h : Keeps S S' w w') (k : Keeps S' S'' w' w'') : Keeps S S'' w w'' :=
  ⟨fun b hb => k.sub b (h.sub b hb), fun b hb => (k.blk b (h.sub b hb)).trans (h.blk b hb)⟩
theorem Keeps.cell {S S' : Nat → Prop} {w w' : World} (h : Keeps S S' w w') {a : Addr} (ha : S a.block) : w'.cell? a = w.cell? a :=
  World.cell?_of_block (h.blk a.block ha)

theorem add_block (a : Addr) (j : Nat) : (a.add j).block = a.block := by unfold Addr.add; split <;> rfl
theorem add_add (a : Addr) (i j : Nat) : (a.add i).add j = a.add (i + j) := by
  unfold Addr.add
  by_cases hi : i = 0
  · subst hi; simp
  · by_cases hj : j = 0
    · subst hj; simp
    · rw [if_neg hi, if_neg hj, if_neg (by omega)]; simp [Nat.add_assoc]
theorem add_none (b o j : Nat) : (⟨b, o, none⟩ : Addr).add j = ⟨b, o + j, none⟩ := Addr.add_lit b o j

theorem SlOf.mono {S S' : Nat → Prop} {w w' : World} {len sz : Nat} {cell cell' : Nat → Value → Prop} {u : Value} (k : Keeps S S' w w')
    (hc : ∀ j x, j < len * sz → cell j x → cell' j x) (h : SlOf S w len sz cell u) : SlOf S' w' len sz cell' u := by
  obtain ⟨A, cap, hu, hl, hx⟩ := h
  refine ⟨A, cap, hu, hl, fun h0 => ?_⟩
  obtain ⟨a, hA, hS, hcell⟩ := hx h0
  refine ⟨a, hA, k.sub _ hS, fun j hj => ?_⟩
  obtain ⟨x, hx1, hx2⟩ := hcell j hj
  exact ⟨x, by rw [k.cell (by rw [add_block]; exact hS)]; exact hx1, hc j x hj hx2⟩
theorem SlI.mono {S S' : Nat → Prop} {w w' : World} (k : Keeps S S' w w') {ki : IntKind} {l : List Int} {u : Value} (h : SlI S w ki l u) : SlI S' w' ki l u :=
  SlOf.mono k (fun _ _ _ h => h) h
theorem SlR.mono {S S' : Nat → Prop} {w w' : World} (k : Keeps S S' w w') {ki : IntKind} {l : List (List Int)} {u : Value} (h : SlR S w ki l u) : SlR S' w' ki l u :=
  SlOf.mono k (fun _ _ _ h => SlI.mono k h) h
theorem cell1.mono {S S' : Nat → Prop} {w w' : World} (k : Keeps S S' w w') {c : Cont} {j : Nat} {x : Value} (h : cell1 S w c j x) : cell1 S' w' c j x := by
  cases c with
  | ints => exact h
  | rows => exact SlI.mono k h
  | rows2 => exact SlR.mono k h
  | cols => exact h
theorem cellC.mono {S S' : Nat → Prop} {w w' : World} (k : Keeps S S' w w') {c : Cont} {j : Nat} {x : Value} (h : cellC S w c j x) : cellC S' w' c j x := by
  cases c with
  | cols n cs => obtain ⟨c, hc, h⟩ := h; exact ⟨c, hc, cell1.mono k h⟩
  | ints => exact h
  | rows => exact SlI.mono k h
  | rows2 => exact SlR.mono k h
theorem SlC.mono {S S' : Nat → Prop} {w w' : World} (k : Keeps S S' w w') {c : Cont} {u : Value} (h : SlC S w c u) : SlC S' w' c u :=
  SlOf.mono k (fun _ _ _ h => cellC.mono k h) h

mutual
def RelV (E : Env) (w : World) : AVal → Value → Prop
  | .v x, u => u = x
  | .bot, _ => True
  | .sl c, u => SlC E.S w c u
  | .own id, u => E.ρ id = some u
  | .win id off len, u => ∃ A n cap, E.ρ id = some (.slice A n cap) ∧ off + len ≤ n ∧ ∃ A', (0 < len → A' = A.map (·.add off)) ∧ (off = 0 → A' = A) ∧ u = .slice A' len (cap - off)
  | .awin id off m lo len, u => ∃ b A cap, E.ρ id = some (.pointer (some ⟨b, 0, none⟩)) ∧ lo + len ≤ m ∧ len ≤ cap ∧ (0 < len → A = some ⟨b, off + lo, none⟩) ∧ u = .slice A len cap
  | .arr k n l, u => l.length = n ∧ u = .agg (l.map (Value.int k)).toArray
  | .agg l, u => ∃ cs, u = .agg cs.toArray ∧ RelF E w l cs
  | .ptr id off, u => ∃ b, E.ρ id = some (.pointer (some ⟨b, 0, none⟩)) ∧ u = .pointer (some ⟨b, off, none⟩)
  | .pel id sz i, u => ∃ a n cap, E.ρ id = some (.slice (some a) n cap) ∧ i < n ∧ u = .pointer (some (a.add (i * sz)))
  | .apel id off m i, u => ∃ b, E.ρ id = some (.pointer (some ⟨b, 0, none⟩)) ∧ i < m ∧ u = .pointer (some ⟨b, off + i, none⟩)
  | .sta l, u => ∃ a cs, u = .pointer (some a) ∧ E.S a.block ∧ RelF E w l cs ∧ ∀ j, j < cs.length → w.cell? (a.add j) = cs[j]?
  | .fn f a b, u => ∃ x y, u = .func f x.toArray y.toArray ∧ RelVs E w a x ∧ RelVs E w b y
  | .iface t x, u => ∃ y, u = .iface t y ∧ RelV E w x y
  | .tuple l, u => ∃ vs, u = .tuple vs.toArray ∧ RelVs E w l vs
  | .fr _ _, _ => False
  | .glob g off, u => u = .pointer (some ⟨g, off, none⟩)
  | .gel g off m i, u => i < m ∧ u = .pointer (some ⟨g, off + i, none⟩)
def RelVs (E : Env) (w : World) : List AVal → List Value → Prop
  | [], vs => vs = []
  | a :: r, vs => ∃ u us, vs = u :: us ∧ RelV E w a u ∧ RelVs E w r us
/-- the cells of parts -/
def RelF (E : Env) (w : World) : List AVal → List Value → Prop
  | [], cs => cs = []
  | .arr k n l :: r, cs => ∃ cs', l.length = n ∧ cs = l.map (Value.int k) ++ cs' ∧ RelF E w r cs'
  | a :: r, cs => ∃ u cs', cs = u :: cs' ∧ u.oneCell' = true ∧ RelV E w a u ∧ RelF E w r cs'
end

structure Env.Le (n : Nat) (E E' : Env) (w w' : World) : Prop where
  keeps : Keeps E.S E'.S w w'
  ρ : ∀ id, id < n → ∀ u, E.ρ id = some u → E'.ρ id = some u

theorem Env.Le.refl (n : Nat) (E : Env) (w : World) : Env.Le n E E w w := ⟨Keeps.refl _ _, fun _ _ _ h => h⟩
theorem Env.Le.trans {n : Nat} {E E' E'' : Env} {w w' w'' : World} (h : Env.Le n E E' w w') (k : Env.Le n E' E'' w' w'') : Env.Le n E E'' w w'' :=
  ⟨h.keeps.trans k.keeps, fun id hid u hu => k.ρ id hid u (h.ρ id hid u hu)⟩
theorem Env.Le.mono {n m : Nat} {E E' : Env} {w w' : World} (h : Env.Le n E E' w w') (hm : m ≤ n) : Env.Le m E E' w w' :=
  ⟨h.keeps, fun id hid u hu => h.ρ id (Nat.lt_of_lt_of_le hid hm) u hu⟩

/-- every id below n -/
def Bnd (n : Nat) (a : AVal) : Prop := ∀ id, mentions id a = true → id < n
end Go.Abs
