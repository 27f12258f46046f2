import Derived.Test.YtmaoicbiekgmhaaAbsRel
namespace Go.Abs
open Go

structure Up (E E' : Env) (w w' : World) : Prop where
  keeps : Keeps E.S E'.S w w'
  ρ : ∀ id u, E.ρ id = some u → E'.ρ id = some u

theorem Up.refl (E : Env) (w : World) : Up E E w w := ⟨Keeps.refl _ _, fun _ _ h => h⟩
theorem Up.trans {E E' E'' : Env} {w w' w'' : World} (h : Up E E' w w') (k : Up E' E'' w' w'') : Up E E'' w w'' :=
  ⟨h.keeps.trans k.keeps, fun id u hu => k.ρ id u (h.ρ id u hu)⟩

theorem relF_cons {E : Env} {w : World} {a : AVal} {r : List AVal} {cs : List Value} (h : RelF E w (a :: r) cs) :
    (∃ k n l cs', a = .arr k n l ∧ l.length = n ∧ cs = l.map (Value.int k) ++ cs' ∧ RelF E w r cs') ∨
    ((∀ k n l, a ≠ .arr k n l) ∧ ∃ u cs', cs = u :: cs' ∧ u.oneCell' = true ∧ RelV E w a u ∧ RelF E w r cs') := by
  cases a <;> simp only [RelF] at h <;> first
    | (obtain ⟨cs', h1, h2, h3⟩ := h; exact .inl ⟨_, _, _, cs', rfl, h1, h2, h3⟩)
    | (obtain ⟨u, cs', h1, h2, h3, h4⟩ := h; exact .inr ⟨by simp, u, cs', h1, h2, h3, h4⟩)
theorem relF_arr {E : Env} {w : World} {k : IntKind} {n : Nat} {l : List Int} {r : List AVal} {cs' : List Value} (h1 : l.length = n) (h3 : RelF E w r cs') :
    RelF E w (.arr k n l :: r) (l.map (Value.int k) ++ cs') := by simp only [RelF]; exact ⟨cs', h1, rfl, h3⟩
theorem relF_one {E : Env} {w : World} {a : AVal} {r : List AVal} {u : Value} {cs' : List Value} (ha : ∀ k n l, a ≠ .arr k n l) (h2 : u.oneCell' = true) (h3 : RelV E w a u) (h4 : RelF E w r cs') :
    RelF E w (a :: r) (u :: cs') := by
  cases a <;> simp only [RelF] <;> first
    | exact absurd rfl (ha _ _ _)
    | exact ⟨u, cs', rfl, h2, h3, h4⟩

mutual
theorem RelV.mono {E E' : Env} {w w' : World} (k : Up E E' w w') : ∀ (a : AVal) (u : Value), RelV E w a u → RelV E' w' a u
  | .v x, u, h => by simp only [RelV] at h ⊢; exact h
  | .bot, u, _ => by simp only [RelV]
  | .sl c, u, h => by simp only [RelV] at h ⊢; exact SlC.mono k.keeps h
  | .own id, u, h => by simp only [RelV] at h ⊢; exact k.ρ _ _ h
  | .win id off len, u, h => by
    simp only [RelV] at h ⊢
    obtain ⟨A, n, cap, h1, h2⟩ := h
    exact ⟨A, n, cap, k.ρ _ _ h1, h2⟩
  | .awin id off m lo len, u, h => by
    simp only [RelV] at h ⊢
    obtain ⟨b, A, cap, h1, h2⟩ := h
    exact ⟨b, A, cap, k.ρ _ _ h1, h2⟩
  | .arr k n l, u, h => by simp only [RelV] at h ⊢; exact h
  | .agg l, u, h => by
    simp only [RelV] at h ⊢
    obtain ⟨cs, h1, h2⟩ := h
    exact ⟨cs, h1, RelF.mono k l cs h2⟩
  | .ptr id off, u, h => by
    simp only [RelV] at h ⊢
    obtain ⟨b, h1, h2⟩ := h
    exact ⟨b, k.ρ _ _ h1, h2⟩
  | .pel id sz i, u, h => by
    simp only [RelV] at h ⊢
    obtain ⟨a, n, cap, h1, h2⟩ := h
    exact ⟨a, n, cap, k.ρ _ _ h1, h2⟩
  | .apel id off m i, u, h => by
    simp only [RelV] at h ⊢
    obtain ⟨b, h1, h2⟩ := h
    exact ⟨b, k.ρ _ _ h1, h2⟩
  | .sta l, u, h => by
    simp only [RelV] at h ⊢
    obtain ⟨a, cs, h1, h2, h3, h4⟩ := h
    exact ⟨a, cs, h1, k.keeps.sub _ h2, RelF.mono k l cs h3, fun j hj => by rw [k.keeps.cell (by rw [add_block]; exact h2)]; exact h4 j hj⟩
  | .fn f a b, u, h => by
    simp only [RelV] at h ⊢
    obtain ⟨x, y, h1, h2, h3⟩ := h
    exact ⟨x, y, h1, RelVs.mono k a x h2, RelVs.mono k b y h3⟩
  | .iface t x, u, h => by
    simp only [RelV] at h ⊢
    obtain ⟨y, h1, h2⟩ := h
    exact ⟨y, h1, RelV.mono k x y h2⟩
  | .tuple l, u, h => by
    simp only [RelV] at h ⊢
    obtain ⟨vs, h1, h2⟩ := h
    exact ⟨vs, h1, RelVs.mono k l vs h2⟩
  | .fr e c, u, h => by simp only [RelV] at h
  | .glob g off, u, h => by simp only [RelV] at h ⊢; exact h
  | .gel g off m i, u, h => by simp only [RelV] at h ⊢; exact h
theorem RelVs.mono {E E' : Env} {w w' : World} (k : Up E E' w w') : ∀ (l : List AVal) (vs : List Value), RelVs E w l vs → RelVs E' w' l vs
  | [], vs, h => by simp only [RelVs] at h ⊢; exact h
  | a :: r, vs, h => by
    simp only [RelVs] at h ⊢
    obtain ⟨u, us, h1, h2, h3⟩ := h
    exact ⟨u, us, h1, RelV.mono k a u h2, RelVs.mono k r us h3⟩
theorem RelF.mono {E E' : Env} {w w' : World} (k : Up E E' w w') : ∀ (l : List AVal) (cs : List Value), RelF E w l cs → RelF E' w' l cs
  | [], cs, h => by simp only [RelF] at h ⊢; exact h
  | a :: r, cs, h => by
    rcases relF_cons h with ⟨k', n, l, cs', rfl, h1, rfl, h3⟩ | ⟨ha, u, cs', rfl, h2, h3, h4⟩
    · exact relF_arr h1 (RelF.mono k r cs' h3)
    · exact relF_one ha h2 (RelV.mono k a u h3) (RelF.mono k r cs' h4)
end

/-! ### Cells and parts -/
theorem relF_len {E : Env} {w : World} : ∀ (l : List AVal) (cs : List Value), RelF E w l cs → cs.length = (l.map asize).sum
  | [], cs, h => by simp only [RelF] at h; subst h; rfl
  | a :: r, cs, h => by
    rcases relF_cons h with ⟨k', n, l, cs', rfl, h1, rfl, h3⟩ | ⟨ha, u, cs', rfl, h2, h3, h4⟩
    · have := relF_len r cs' h3
      simp [asize, h1, this]
    · have := relF_len r cs' h4
      have e : asize a = 1 := by cases a <;> first | rfl | exact absurd rfl (ha _ _ _)
      simp [e, this]; omega
theorem relF_append {E : Env} {w : World} : ∀ (l : List AVal) (r : List AVal) (cs : List Value), RelF E w (lcat l r) cs → ∃ c1 c2, cs = c1 ++ c2 ∧ RelF E w l c1 ∧ RelF E w r c2
  | [], r, cs, h => ⟨[], cs, rfl, by simp only [RelF], h⟩
  | a :: l, r, cs, h => by
    rcases relF_cons h with ⟨k', n, z, cs', rfl, h1, rfl, h3⟩ | ⟨ha, u, cs', rfl, h2, h3, h4⟩
    · obtain ⟨c1, c2, rfl, g1, g2⟩ := relF_append l r cs' h3
      exact ⟨z.map (Value.int k') ++ c1, c2, by simp, relF_arr h1 g1, g2⟩
    · obtain ⟨c1, c2, rfl, g1, g2⟩ := relF_append l r cs' h4
      exact ⟨u :: c1, c2, rfl, relF_one ha h2 h3 g1, g2⟩
theorem relF_join {E : Env} {w : World} : ∀ (l : List AVal) (r : List AVal) (c1 c2 : List Value), RelF E w l c1 → RelF E w r c2 → RelF E w (lcat l r) (c1 ++ c2)
  | [], r, c1, c2, h, g => by simp only [RelF] at h; subst h; exact g
  | a :: l, r, c1, c2, h, g => by
    rcases relF_cons h with ⟨k', n, z, cs', rfl, h1, rfl, h3⟩ | ⟨ha, u, cs', rfl, h2, h3, h4⟩
    · rw [List.append_assoc]; exact relF_arr h1 (relF_join l r cs' c2 h3 g)
    · exact relF_one ha h2 h3 (relF_join l r cs' c2 h4 g)
theorem lcat_eq {α : Type} : ∀ (l r : List α), lcat l r = l ++ r
  | [], _ => rfl
  | a :: l, r => by simp [lcat, lcat_eq l r]
theorem splitC_spec : ∀ (l : List AVal) (n : Nat) (x y : List AVal), splitC l n = some (x, y) → l = lcat x y ∧ (x.map asize).sum = n
  | l, 0, x, y, h => by
    rw [splitC] at h
    cases h
    exact ⟨rfl, rfl⟩
  | [], n + 1, x, y, h => by rw [splitC] at h; cases h
  | a :: r, n + 1, x, y, h => by
    rw [splitC] at h
    cases hb : Nat.ble (asize a) (n + 1) with
    | false => rw [hb] at h; cases h
    | true =>
      rw [hb] at h
      simp only [cond_true] at h
      have hle := Nat.le_of_ble_eq_true hb
      cases hs : splitC r (n + 1 - asize a) with
      | none => rw [hs] at h; cases h
      | some p =>
        obtain ⟨p, q⟩ := p
        rw [hs] at h
        simp only [Option.some.injEq, Prod.mk.injEq] at h
        obtain ⟨rfl, rfl⟩ := h
        obtain ⟨g1, g2⟩ := splitC_spec r _ _ _ hs
        refine ⟨by rw [g1]; rfl, ?_⟩
        simp [g2]; omega
theorem getC_spec {l : List AVal} {off sz : Nat} {pre mid post : List AVal} (h : getC l off sz = some (pre, mid, post)) :
    l = lcat pre (lcat mid post) ∧ (pre.map asize).sum = off ∧ (mid.map asize).sum = sz := by
  unfold getC at h
  cases h1 : splitC l off with
  | none => rw [h1] at h; cases h
  | some p =>
    obtain ⟨p, q⟩ := p
    rw [h1] at h
    simp only at h
    cases h2 : splitC q sz with
    | none => rw [h2] at h; cases h
    | some p2 =>
      obtain ⟨p2, q2⟩ := p2
      rw [h2] at h
      simp only [Option.some.injEq, Prod.mk.injEq] at h
      obtain ⟨rfl, rfl, rfl⟩ := h
      obtain ⟨a1, a2⟩ := splitC_spec _ _ _ _ h1
      obtain ⟨b1, b2⟩ := splitC_spec _ _ _ _ h2
      exact ⟨by rw [a1, b1], a2, b2⟩

/-! ### Equations of beq -/
theorem beqK_eq {k k' : IntKind} (h : beqK k k' = true) : k = k' := by cases k <;> cases k' <;> first | rfl | cases h
theorem kOk_some {k k' : IntKind} {x : Option R} {r : R} (h : kOk k k' x = some r) : k = k' ∧ x = some r := by
  unfold kOk at h
  cases hb : beqK k k' with
  | true => rw [hb] at h; exact ⟨beqK_eq hb, h⟩
  | false => rw [hb] at h; cases h
theorem br_some {b : Bool} {x y : Option R} {r : R} (h : br b x y = some r) : (b = true ∧ x = some r) ∨ (b = false ∧ y = some r) := by
  unfold br at h
  cases b with
  | true => exact .inl ⟨rfl, h⟩
  | false => exact .inr ⟨rfl, h⟩
theorem br_true {b : Bool} {x : Option R} {r : R} (h : br b x none = some r) : b = true ∧ x = some r := by
  rcases br_some h with h | ⟨_, h⟩
  · exact h
  · cases h
end Go.Abs
