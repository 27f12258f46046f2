import Derived.Test.YtmaoicbiekgmhaaAbsDraw
namespace Go.Abs
open Go Go.RowKit
set_option linter.unusedVariables false
set_option linter.unusedSimpArgs false

section
variable {D : Ctx} {B0 : Nat} {w0 : W0} {ops : Array Oper} {st0 : ASt}

theorem trOk_suffix : ∀ (p : List Stp) {r : List Stp}, TrOk D ops st0 (p ++ r) → TrOk D ops st0 r
  | [], r, h => h
  | s :: p, r, h => trOk_suffix p h.1

theorem runR_m (L : Nat → Bool) : ∀ (l : List Stp), (runR st0 L l).m = st0.m
  | [] => rfl
  | s :: r => by
    simp only [runR]
    cases L r.length with
    | true => exact runR_m L r
    | false => exact runR_m L r

theorem runR_congr {L L' : Nat → Bool} : ∀ (l : List Stp), (∀ j, j < l.length → L j = L' j) → runR st0 L l = runR st0 L' l
  | [], _ => rfl
  | s :: r, h => by
    simp only [runR, h r.length (by simp)]
    rw [runR_congr r (fun j hj => h j (by simp; omega))]

/-- a slot that the operations on which two sets differ do not write -/
theorem look_agree {L : Nat → Bool} {t : Nat} : ∀ (r : List Stp), (∀ p x q, r = p ++ x :: q → L q.length = false → x.o.dst ≠ some t) →
    look (runR st0 L r).f t = look (runR st0 allL r).f t
  | [], _ => rfl
  | s :: r, h => by
    have ih := look_agree r (fun p x q hx => h (s :: p) x q (by rw [hx]; rfl))
    simp only [runR, allL, cond_true]
    cases hl : L r.length with
    | true =>
      simp only [cond_true, ASt.app, look_putF, runR_m, ih]
    | false =>
      have := h [] s r rfl hl
      simp only [cond_false, ASt.app, look_putF, this, false_and, if_false, ih]
theorem hlook_agree {L : Nat → Bool} {id : Nat} : ∀ (r : List Stp), (∀ p x q, r = p ++ x :: q → L q.length = false → assoc x.i.puts id = none) →
    hlook (runR st0 L r).h id = hlook (runR st0 allL r).h id
  | [], _ => rfl
  | s :: r, h => by
    have ih := hlook_agree r (fun p x q hx => h (s :: p) x q (by rw [hx]; rfl))
    simp only [runR, allL, cond_true]
    cases hl : L r.length with
    | true =>
      simp only [cond_true, ASt.app, hlook_lcat, ih]
    | false =>
      have := h [] s r rfl hl
      simp only [cond_false, ASt.app, hlook_lcat, Stp.eff, this, ih]

/-- a slot that what has been done since does not write -/
theorem look_since {L : Nat → Bool} {t : Nat} : ∀ (p r : List Stp), (∀ p1 x q, p ++ r = p1 ++ x :: (q ++ r) → L (q ++ r).length = true → x.o.dst ≠ some t) →
    look (runR st0 L (p ++ r)).f t = look (runR st0 L r).f t
  | [], r, _ => rfl
  | s :: p, r, h => by
    have ih := look_since p r (fun p1 x q hx => h (s :: p1) x q (by rw [List.cons_append, hx]; rfl))
    simp only [List.cons_append, runR]
    cases hl : L (p ++ r).length with
    | true =>
      have := h [] s p rfl hl
      simp only [cond_true, ASt.app, look_putF, this, false_and, if_false, ih]
    | false => simp only [cond_false, ih]
theorem hlook_since {L : Nat → Bool} {id : Nat} : ∀ (p r : List Stp), (∀ p1 x q, p ++ r = p1 ++ x :: (q ++ r) → L (q ++ r).length = true → assoc x.i.puts id = none) →
    hlook (runR st0 L (p ++ r)).h id = hlook (runR st0 L r).h id
  | [], r, _ => rfl
  | s :: p, r, h => by
    have ih := hlook_since p r (fun p1 x q hx => h (s :: p1) x q (by rw [List.cons_append, hx]; rfl))
    simp only [List.cons_append, runR]
    cases hl : L (p ++ r).length with
    | true =>
      have := h [] s p rfl hl
      simp only [cond_true, ASt.app, hlook_lcat, Stp.eff, this, ih]
    | false => simp only [cond_false, ih]

/-- one more operation has been done -/
theorem runR_insert {L : Nat → Bool} {s : Stp} {r : List Stp} (hL : L r.length = false) : ∀ (p : List Stp),
    (∀ p1 x q, p = p1 ++ x :: q → L (q ++ s :: r).length = true → dstSame s.o.dst x.o.dst = false ∧ ∀ id, (assoc s.i.puts id).isSome = true → (assoc x.i.puts id).isSome = true → False) →
    EqS (runR st0 (fun j => Nat.beq j r.length || L j) (p ++ s :: r)) ((runR st0 L (p ++ s :: r)).app s.eff s.o.dst)
  | [], _ => by
    simp only [List.nil_append, runR, Nat.beq_refl, Bool.true_or, cond_true, hL, cond_false]
    rw [runR_congr (L := fun j => Nat.beq j r.length || L j) (L' := L) r (fun j hj => by
      have : Nat.beq j r.length = false := by
        cases hb : Nat.beq j r.length with
        | false => rfl
        | true => have := Nat.eq_of_beq_eq_true hb; omega
      simp [this])]
    exact EqS.refl _
  | x :: p, h => by
    have ih := runR_insert hL p (fun p1 y q hy => h (x :: p1) y q (by rw [hy]; rfl))
    simp only [List.cons_append, runR]
    have hne : Nat.beq (p ++ s :: r).length r.length = false := by
      cases hb : Nat.beq (p ++ s :: r).length r.length with
      | false => rfl
      | true => have := Nat.eq_of_beq_eq_true hb; simp at this; omega
    rw [hne, Bool.false_or]
    cases hl : L (p ++ s :: r).length with
    | false => simp only [cond_false]; exact ih
    | true =>
      simp only [cond_true]
      obtain ⟨h1, h2⟩ := h [] x p rfl hl
      exact (ih.app _ _).trans (app_comm h1 (fun id a b => h2 id a b))

theorem nth_mid {α : Type} : ∀ (p : List α) (x : α) (q : List α), nth (p ++ x :: q) p.length = some x
  | [], x, q => rfl
  | a :: p, x, q => by simp only [List.cons_append, List.length_cons, nth]; exact nth_mid p x q
theorem nth_split {α : Type} : ∀ (l : List α) (n : Nat) (x : α), nth l n = some x → ∃ p q, l = p ++ x :: q ∧ p.length = n
  | [], n, x, h => by simp [nth] at h
  | a :: r, 0, x, h => by simp [nth] at h; subst h; exact ⟨[], r, rfl, rfl⟩
  | a :: r, n + 1, x, h => by
    simp only [nth] at h
    obtain ⟨p, q, h1, h2⟩ := nth_split r n x h
    exact ⟨a :: p, q, by rw [h1]; rfl, by simp [h2]⟩

theorem cloA_spec {acc : List Info} {i : Nat} (hi : acc.length = i) : ∀ (es : List Edge) (cl : List Nat), cloA acc i es = some cl →
    (∀ e, e ∈ es → Region.binds .any e = true → e.on < i) ∧
    ∀ k, k ∈ cl → ∃ e, e ∈ es ∧ Region.binds .any e = true ∧ (k = e.on ∨ ∃ p x q, acc = p ++ x :: q ∧ q.length = e.on ∧ k ∈ x.cl)
  | [], cl, h => by
    simp only [cloA] at h
    cases h
    exact ⟨fun e he => by simp at he, fun k hk => by simp at hk⟩
  | e :: es, cl, h => by
    simp only [cloA] at h
    cases hb : Region.binds .any e with
    | false =>
      rw [hb] at h
      simp only [cond_false] at h
      obtain ⟨h1, h2⟩ := cloA_spec hi es cl h
      refine ⟨fun e' he' hb' => ?_, fun k hk => ?_⟩
      · rcases List.mem_cons.1 he' with rfl | he'
        · rw [hb] at hb'; cases hb'
        · exact h1 e' he' hb'
      · obtain ⟨e', he', rest⟩ := h2 k hk
        exact ⟨e', List.mem_cons_of_mem _ he', rest⟩
    | true =>
      rw [hb] at h
      simp only [cond_true] at h
      cases hlt : Nat.blt e.on i with
      | false => rw [hlt] at h; cases h
      | true =>
        rw [hlt] at h
        simp only [cond_true] at h
        have hlt' : e.on < i := by simpa using hlt
        split at h
        · rename_i x l hx hl
          cases h
          obtain ⟨h1, h2⟩ := cloA_spec hi es l hl
          obtain ⟨p, q, hacc, hp⟩ := nth_split _ _ _ hx
          refine ⟨fun e' he' hb' => ?_, fun k hk => ?_⟩
          · rcases List.mem_cons.1 he' with rfl | he'
            · exact hlt'
            · exact h1 e' he' hb'
          · rcases List.mem_cons.1 hk with rfl | hk
            · exact ⟨e, List.mem_cons_self .., hb, .inl rfl⟩
            · rcases mem_lcat.1 hk with hk | hk
              · refine ⟨e, List.mem_cons_self .., hb, .inr ⟨p, x, q, hacc, ?_, hk⟩⟩
                have : acc.length = p.length + (q.length + 1) := by rw [hacc]; simp
                omega
              · obtain ⟨e', he', rest⟩ := h2 k hk
                exact ⟨e', List.mem_cons_of_mem _ he', rest⟩
        · cases h

theorem fitsA_spec : ∀ (acc : List Info) (y : Info), fitsA acc acc.length y = true → ∀ p x q, acc = p ++ x :: q → q.length ∈ y.cl ∨ apartI x y = true
  | [], y, h, p, x, q, hx => by simp at hx
  | a :: r, y, h, p, x, q, hx => by
    simp only [fitsA, Bool.and_eq_true, Bool.or_eq_true, List.length_cons, Nat.add_sub_cancel] at h
    cases p with
    | nil =>
      simp only [List.nil_append, List.cons.injEq] at hx
      obtain ⟨rfl, rfl⟩ := hx
      exact h.1.imp memN_true.1 id
    | cons b p =>
      simp only [List.cons_append, List.cons.injEq] at hx
      exact fitsA_spec r y h.2 p x q hx.2

theorem apartI_spec {x y : Info} (h : apartI x y = true) : (∀ d, x.dst = some d → d ∉ y.looks) ∧ (∀ d, y.dst = some d → d ∉ x.looks) ∧ dstSame x.dst y.dst = false ∧ putsHit x.puts y.vs y.puts = false ∧ putsHit y.puts x.vs x.puts = false := by
  simp only [apartI, Bool.not_eq_true', Bool.or_eq_false_iff] at h
  obtain ⟨⟨⟨⟨h1, h2⟩, h3⟩, h4⟩, h5⟩ := h
  have key : ∀ {d l}, dstHits d l = false → ∀ e, d = some e → e ∉ l := by
    rintro d l hd e rfl hm
    simp only [dstHits] at hd
    rw [memN_true.2 hm] at hd
    cases hd
  exact ⟨key h1, key h2, h3, h4, h5⟩

theorem putsHit_spec : ∀ (p : Hp) {vs : List AVal} {h : Hp}, putsHit p vs h = false → ∀ id, (assoc p id).isSome = true → mentionsL id vs = false ∧ assoc h id = none
  | [], vs, h, hp, id, hs => by simp [assoc] at hs
  | (k, b) :: r, vs, h, hp, id, hs => by
    simp only [putsHit, Bool.or_eq_false_iff] at hp
    simp only [assoc] at hs
    cases hb : Nat.beq k id with
    | true =>
      have := Nat.eq_of_beq_eq_true hb
      subst this
      refine ⟨hp.1.1, ?_⟩
      cases h1 : assoc h k with
      | none => rfl
      | some _ => rw [h1] at hp; simp at hp
    | false =>
      rw [hb] at hs
      exact putsHit_spec r hp.2 id hs

/-- an earlier and a later operation of a run -/
theorem pair_spec {p : List Stp} {y : Stp} {m : List Stp} {x : Stp} {q : List Stp} (h : TrOk D ops st0 (p ++ y :: (m ++ x :: q))) : q.length ∈ y.i.cl ∨ apartI x.i y.i = true := by
  have h1 := trOk_suffix p h
  obtain ⟨_, _, _, _, hf, _⟩ := h1
  have hf' : fitsA ((m ++ x :: q).map (·.i)) ((m ++ x :: q).map (·.i)).length y.i = true := by rw [List.length_map]; exact hf
  have := fitsA_spec _ _ hf' (m.map (·.i)) x.i (q.map (·.i)) (by simp)
  simpa using this

theorem lastN_mono : ∀ (p : List Stp) {r : List Stp}, TrOk D ops st0 (p ++ r) → lastN st0 r ≤ lastN st0 (p ++ r)
  | [], r, h => Nat.le_refl _
  | s :: p, r, h => by
    have h3 := lastN_mono p h.1
    obtain ⟨_, _, _, _, _, h1, h2, _⟩ := h
    have h1 : s.n = lastN st0 (p ++ r) := h1
    show lastN st0 r ≤ s.n'
    omega

/-- the numbers below which all is known -/
theorem cl_lt : ∀ (l : List Stp), TrOk D ops st0 l → ∀ p s r, l = p ++ s :: r → ∀ k, k ∈ s.i.cl → k < r.length := by
  intro l h p s r hl k hk
  have h1 : TrOk D ops st0 (s :: r) := trOk_suffix p (hl ▸ h)
  have key : ∀ (n : Nat) (s : Stp) (r : List Stp), r.length = n → TrOk D ops st0 (s :: r) → ∀ k, k ∈ s.i.cl → k < r.length := by
    intro n
    induction n using Nat.strongRecOn with
    | _ n ih =>
      intro s r hn h k hk
      obtain ⟨h0, _, _, hc, _⟩ := h
      obtain ⟨g1, g2⟩ := cloA_spec (by simp) _ _ hc
      obtain ⟨e, he, hb, rfl | ⟨p, x, q, hx, hq, hk'⟩⟩ := g2 k hk
      · exact g1 e he hb
      · have hlt := g1 e he hb
        obtain ⟨p', q0, hpq, hp1, hp2⟩ := List.map_eq_append_iff.1 hx
        obtain ⟨x', q', hq0, hx1, hx2⟩ := List.map_eq_cons_iff.1 hp2
        subst hq0
        subst hpq
        subst hx1
        have hq' : q'.length = e.on := by rw [← hq, ← hx2]; simp
        have := ih q'.length (by rw [← hn]; simp; omega) x' q' rfl (trOk_suffix p' h0) k hk'
        simp; omega
  exact key _ s r rfl h1 k hk
end
end Go.Abs
