import Derived.Test.YtmaoicbiekgmhaaAbsOps5
import Derived.Laws.MakeOwn
import Derived.Laws.OwnMore
namespace Go.Abs
open Go Go.RowKit
set_option linter.unusedVariables false
set_option linter.unusedSimpArgs false

section
variable {D : Ctx} {B0 : Nat} {w0 : W0} {E : Env} {st : ASt} {act : Act} {w : World}

/-- the block of one of these ids, not frozen -/
def Owned (E : Env) (h : Hp) (p : Nat → Prop) (k : Nat) : Prop :=
  ∃ d c u, p d ∧ hlook h d = some c ∧ c.frz = false ∧ E.ρ d = some u ∧ vBlock u = some k

/-- ONE id's block is new or has changed; some ids are dead. -/
theorem rel_upd (h : Rel D B0 w0 E st act w) {E' : Env} {w' : World} (hS : E'.S = E.S) (hρ : ∀ id u, E.ρ id = some u → E'.ρ id = some u) {x : Nat} (hρ2 : ∀ id u, E'.ρ id = some u → id = x ∨ E.ρ id = some u) (hb : Below B0 w w')
    {b : Blk} {dead : Nat → Prop} {h' : Hp} (hl1 : hlook h' x = some b) (hl2 : ∀ id c, id ≠ x → hlook h' id = some c → hlook st.h id = some c ∧ ¬ dead id)
    (hB : BlkR E' w' B0 x b) (hfr : b.frz = false)
    (hch : ∀ k, k < w.heap.size → w'.heap[k]? = w.heap[k]? ∨ Owned E st.h (fun d => dead d ∨ d = x) k)
    (hux0 : ∀ u k, E'.ρ x = some u → vBlock u = some k → w.heap.size ≤ k ∨ Owned E st.h (fun d => dead d ∨ d = x) k) (n : Nat) :
    Rel D B0 w0 E' { st with h := h', n := n } act w' ∧ Up E E' w w' := by
  have hSk : ∀ k, E.S k → w'.heap[k]? = w.heap[k]? := by
    intro k hk
    rcases hch k (h.sOld k hk) with e | ⟨d, c, u, _, hd, hc, hu, hv⟩
    · exact e
    · obtain ⟨u', hu', _, hns, _⟩ := h.heap d c hd
      rw [hu] at hu'
      cases hu'
      exact absurd hk (hns hc k hv)
  have up : Up E E' w w' := ⟨⟨fun b hb => by rw [hS]; exact hb, hSk⟩, hρ⟩
  have oth : ∀ id c, id ≠ x → hlook h' id = some c → ∀ u k, E.ρ id = some u → vBlock u = some k → w'.heap[k]? = w.heap[k]? := by
    intro id c hid hc u k hu hk
    obtain ⟨hc', hnd⟩ := hl2 id c hid hc
    have hlt := (h.heap id c hc').lt hu hk
    rcases hch k hlt.2 with e | ⟨d, c2, u2, hd, hd2, hf2, hu2, hv2⟩
    · exact e
    · cases hf : c.frz with
      | false =>
        have hne : id ≠ d := by rintro rfl; exact hd.elim hnd hid
        exact absurd hv2 (h.apart id d c c2 u u2 k hc' hf hd2 hf2 hne hu hu2 hk)
      | true =>
        obtain ⟨u', hu', _, _, hs⟩ := h.heap id c hc'
        rw [hu] at hu'
        cases hu'
        exact hSk k (hs hf k hk)
  refine ⟨h.step up hb n (fun id c hc => ?_) (fun id id' c c' u u' k hc hf hc' hf' hne hu1 hu2 hk hk' => ?_) (fun k hk => ?_) (fun id u hu => ?_), up⟩
  · by_cases hid : id = x
    · subst hid
      rw [hl1] at hc
      cases hc
      exact hB
    · exact (h.heap id c (hl2 id c hid hc).1).mono up (fun u j => oth id c hid hc u j) (fun _ _ _ _ _ hs => by rw [hS] at hs; exact hs)
  · -- apart
    have live : ∀ i c, i ≠ x → hlook h' i = some c → ∃ u, E.ρ i = some u ∧ E'.ρ i = some u := by
      intro i c hi hc
      obtain ⟨u, hu, _⟩ := h.heap i c (hl2 i c hi hc).1
      exact ⟨u, hu, hρ i u hu⟩
    have other : ∀ i c u, i ≠ x → hlook h' i = some c → c.frz = false → E'.ρ i = some u → ∀ ux k, E'.ρ x = some ux → vBlock ux = some k → vBlock u ≠ some k := by
      intro i c u hi hc hf hu ux k hux hkx hk
      obtain ⟨v, hv, hv'⟩ := live i c hi hc
      rw [hu] at hv'
      cases hv'
      obtain ⟨hc', hnd⟩ := hl2 i c hi hc
      rcases hux0 ux k hux hkx with hge | ⟨d, c2, u2, hd, hd2, hf2, hu2, hv2⟩
      · have := (h.heap i c hc').lt hv hk
        omega
      · have hne : i ≠ d := by rintro rfl; exact hd.elim hnd hi
        exact h.apart i d c c2 u u2 k hc' hf hd2 hf2 hne hv hu2 hk hv2
    by_cases h1 : id = x
    · subst h1
      exact other id' c' u' (Ne.symm hne) hc' hf' hu2 u k hu1 hk hk'
    · by_cases h2 : id' = x
      · subst h2
        exact other id c u h1 hc hf hu1 u' k hu2 hk' hk
      · obtain ⟨v, hv, hv'⟩ := live id c h1 hc
        obtain ⟨v', hv2, hv2'⟩ := live id' c' h2 hc'
        rw [hu1] at hv'
        cases hv'
        rw [hu2] at hv2'
        cases hv2'
        exact h.apart id id' c c' u u' k (hl2 id c h1 hc).1 hf (hl2 id' c' h2 hc').1 hf' hne hv hv2 hk hk'
  · rw [hS] at hk
    exact .inl hk
  · rcases hρ2 id u hu with rfl | hu'
    · exact hB.form hu
    · exact h.form id u hu'

/-- rows that are not written any more -/
theorem rel_freeze1 (h : Rel D B0 w0 E st act w) {x : Nat} {b : Blk} (hx : hlook st.h x = some b) :
    ∃ E', E'.ρ = E.ρ ∧ Up E E' w w ∧ Rel D B0 w0 E' { st with h := (x, some ⟨b.b, true⟩) :: st.h } act w ∧ (∀ u k, E.ρ x = some u → vBlock u = some k → E'.S k) := by
  let E' : Env := ⟨fun k => E.S k ∨ ∃ u, E.ρ x = some u ∧ vBlock u = some k, E.ρ⟩
  have up : Up E E' w w := ⟨⟨fun _ h => .inl h, fun _ _ => rfl⟩, fun _ _ h => h⟩
  have hx' := h.heap x b hx
  have look' : ∀ id c, hlook ((x, some ⟨b.b, true⟩) :: st.h) id = some c → (id = x ∧ c = ⟨b.b, true⟩) ∨ (id ≠ x ∧ hlook st.h id = some c) := by
    intro id c hc
    simp only [hlook] at hc
    cases he : Nat.beq x id with
    | true => rw [he] at hc; cases hc; exact .inl ⟨(Nat.eq_of_beq_eq_true he).symm, rfl⟩
    | false => rw [he] at hc; exact .inr ⟨fun e => Nat.ne_of_beq_eq_false he e.symm, hc⟩
  refine ⟨E', rfl, up, ?_, fun u k hu hk => .inr ⟨u, hu, hk⟩⟩
  refine h.step up (Below.refl _ _) st.n (fun id c hc => ?_) (fun id id' c c' u u' k hc hf hc' hf' hne hu1 hu2 hk hk' => ?_) (fun k hk => ?_) h.form
  · rcases look' id c hc with ⟨rfl, rfl⟩ | ⟨hid, hc⟩
    · obtain ⟨u, hu, hb, _, _⟩ := hx'
      refine ⟨u, hu, ?_, (fun hf => by cases hf), fun _ k hk => .inr ⟨u, hu, hk⟩⟩
      cases hbb : b.b with
      | row e c =>
        rw [hbb] at hb
        obtain ⟨xs, ho, hxs⟩ := hb
        exact ⟨xs, ho, fun j y hy => ⟨(hxs j y hy).1, cellC.mono up.keeps (hxs j y hy).2⟩⟩
      | box e l =>
        rw [hbb] at hb
        obtain ⟨k, cs, h1, h2, h3, h4⟩ := hb
        exact ⟨k, cs, h1, h2, h3, RelF.mono up l _ h4⟩
    · exact (h.heap id c hc).mono up (fun _ _ _ _ => rfl) (fun hf u j hu hj hs => by
        rcases hs with hs | ⟨v, hv, hvj⟩
        · exact hs
        · cases hbf : b.frz with
          | false => exact absurd hvj (h.apart id x c b u v j hc hf hx hbf hid hu hv hj)
          | true =>
            obtain ⟨v', hv', _, _, hs⟩ := hx'
            rw [hv] at hv'
            cases hv'
            exact hs hbf j hvj)
  · rcases look' id c hc with ⟨rfl, rfl⟩ | ⟨hid, hc⟩
    · cases hf
    · rcases look' id' c' hc' with ⟨rfl, rfl⟩ | ⟨hid', hc'⟩
      · cases hf'
      · exact h.apart id id' c c' u u' k hc hf hc' hf' hne hu1 hu2 hk hk'
  · rcases hk with hk | ⟨u, hu, hk⟩
    · exact .inl hk
    · exact .inr (hx'.lt hu hk)

/-- freezing so many ids -/
theorem rel_freeze {hl : Nat → Option Blk} (hm : ∀ id b, hl id = some b → hlook st.h id = some b) : ∀ (ids : List Nat) (h : Rel D B0 w0 E st act w),
    ∃ E', E'.ρ = E.ρ ∧ Up E E' w w ∧ Rel D B0 w0 E' { st with h := lcat (freeze hl ids []) st.h } act w ∧
      (∀ id, id ∈ ids → ∀ b u k, hl id = some b → E.ρ id = some u → vBlock u = some k → E'.S k) ∧
      (∀ id b, hlook (lcat (freeze hl ids []) st.h) id = some b → ∃ b', hlook st.h id = some b' ∧ b'.b = b.b)
  | [], h => ⟨E, rfl, Up.refl _ _, h, by simp, fun id b hb => ⟨b, hb, rfl⟩⟩
  | x :: r, h => by
    obtain ⟨E1, hρ, up, hR, hS, hsame⟩ := rel_freeze hm r h
    simp only [freeze]
    cases hx : hl x with
    | none =>
      refine ⟨E1, hρ, up, hR, fun id hid b u k hb => ?_, hsame⟩
      rcases List.mem_cons.1 hid with rfl | hid
      · rw [hx] at hb; cases hb
      · exact hS id hid b u k hb
    | some b =>
      simp only [lcat]
      -- the block as it is now
      have hx1 := hm x b hx
      have hfz : ∀ (ids : List Nat) (h0 : Hp), hlook (lcat (freeze hl ids []) h0) x = hlook h0 x ∨ hlook (lcat (freeze hl ids []) h0) x = some ⟨b.b, true⟩ := by
        intro ids h0
        induction ids with
        | nil => exact .inl rfl
        | cons y r ih =>
          simp only [freeze]
          cases hy : hl y with
          | none => exact ih
          | some c =>
            simp only [lcat, hlook]
            cases he : Nat.beq y x with
            | true =>
              have := Nat.eq_of_beq_eq_true he
              subst this
              rw [hx] at hy
              cases hy
              exact .inr rfl
            | false => exact ih
      have hx2 : ∃ c, hlook (lcat (freeze hl r []) st.h) x = some c ∧ c.b = b.b := by
        rcases hfz r st.h with e | e
        · exact ⟨b, by rw [e]; exact hx1, rfl⟩
        · exact ⟨_, e, rfl⟩
      obtain ⟨c, hc, hcb⟩ := hx2
      obtain ⟨E2, hρ2, up2, hR2, hS2⟩ := rel_freeze1 hR hc
      rw [hcb] at hR2
      refine ⟨E2, hρ2.trans hρ, up.trans up2, hR2, fun id hid b' u k hb hu hk => ?_, fun id b' hb' => ?_⟩
      · rcases List.mem_cons.1 hid with rfl | hid
        · exact hS2 u k (by rw [hρ]; exact hu) hk
        · exact up2.keeps.sub _ (hS id hid b' u k hb hu hk)
      · simp only [hlook] at hb'
        cases he : Nat.beq x id with
        | true =>
          rw [he] at hb'
          cases hb'
          have := Nat.eq_of_beq_eq_true he
          subst this
          exact ⟨b, hx1, rfl⟩
        | false => rw [he] at hb'; exact hsame id b' hb'
end

def upd (ρ : Nat → Option Value) (x : Nat) (u : Value) (id : Nat) : Option Value := if id = x then some u else ρ id
theorem upd_same (ρ : Nat → Option Value) (x : Nat) (u : Value) : upd ρ x u x = some u := by simp [upd]
theorem upd_ext {ρ : Nat → Option Value} {x : Nat} {u : Value} (h : ρ x = none) : ∀ id v, ρ id = some v → upd ρ x u id = some v := by
  intro id v hv
  unfold upd
  split
  · rename_i e; subst e; rw [h] at hv; cases hv
  · exact hv

section
variable {D : Ctx} {B0 : Nat} {w0 : W0} {E : Env} {st : ASt} {act : Act} {w : World}

theorem hlook_cons_ne {h : Hp} {x id : Nat} {b : Option Blk} (hne : id ≠ x) : hlook ((x, b) :: h) id = hlook h id := by
  simp only [hlook]
  rw [show Nat.beq x id = false from by
    cases he : Nat.beq x id with
    | false => rfl
    | true => exact absurd (Nat.eq_of_beq_eq_true he).symm hne]
  rfl
theorem hlook_cons_eq {h : Hp} {x : Nat} {b : Option Blk} : hlook ((x, b) :: h) x = b := by
  simp only [hlook]
  rw [show Nat.beq x x = true from by
    cases he : Nat.beq x x with
    | true => rfl
    | false => exact absurd rfl (Nat.ne_of_beq_eq_false he)]
  rfl

/-- A NEW BLOCK. -/
theorem rel_alloc (h : Rel D B0 w0 E st act w) {x : Nat} (hx : E.ρ x = none) (cs : Array Value) (e : TypeId) {u : Value} {b : Bk} (hv : vBlock u = some w.heap.size)
    (hB : BlkR ⟨E.S, upd E.ρ x u⟩ (w.alloc (.cells cs e)) B0 x ⟨b, false⟩) (n : Nat) :
    Rel D B0 w0 ⟨E.S, upd E.ρ x u⟩ { st with h := (x, some ⟨b, false⟩) :: st.h, n := n } act (w.alloc (.cells cs e)) ∧ Up E ⟨E.S, upd E.ρ x u⟩ w (w.alloc (.cells cs e)) := by
  refine rel_upd h (E' := ⟨E.S, upd E.ρ x u⟩) rfl (upd_ext hx) (x := x) (fun id u hu => by
      by_cases e : id = x
      · exact .inl e
      · simp only [upd, if_neg e] at hu; exact .inr hu) ((Below.refl _ _).alloc h.base _) (b := ⟨b, false⟩) (dead := fun _ => False) hlook_cons_eq
    (fun id c hid hc => ⟨by rw [hlook_cons_ne hid] at hc; exact hc, fun h => h⟩) hB rfl (fun k hk => .inl (heap_alloc_old w _ k hk)) (fun u' k hu' hk => ?_) n
  simp only [upd_same] at hu'
  cases hu'
  rw [hv] at hk
  cases hk
  exact .inl (Nat.le_refl _)
end
end Go.Abs
