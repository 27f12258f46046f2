import Derived.Test.YtmaoicbiekgmhaaAbsOps6
namespace Go.Abs
open Go Go.RowKit
set_option linter.unusedVariables false
set_option linter.unusedSimpArgs false

/-! ### Reading a slice's content -/
def Reads (E : Env) (w : World) (c : Cont) (u : Value) : Prop :=
  ∃ A cap, u = .slice A c.len cap ∧ c.len ≤ cap ∧
    (0 < c.len → ∃ a, A = some a ∧ ∀ j, j < c.len * c.size → ∃ x, w.cell? (a.add j) = some x ∧ x.oneCell' = true ∧ cellC E.S w c j x)

theorem cell1_one {S : Nat → Prop} {w : World} {c : Cont} {j : Nat} {x : Value} (h : cell1 S w c j x) : x.oneCell' = true := by
  cases c with
  | ints k l => simp only [cell1, cellI] at h; subst h; rfl
  | rows k l => simp only [cell1, cellR, SlI] at h; obtain ⟨A, cap, rfl, _⟩ := h; rfl
  | rows2 k l => simp only [cell1, cellR2, SlR] at h; obtain ⟨A, cap, rfl, _⟩ := h; rfl
  | cols n cs => exact h.elim
theorem cellC_one {S : Nat → Prop} {w : World} {c : Cont} {j : Nat} {x : Value} (h : cellC S w c j x) : x.oneCell' = true := by
  cases c with
  | cols n cs => obtain ⟨c, _, h⟩ := h; exact cell1_one h
  | ints => exact cell1_one (S := S) (w := w) (c := .ints _ _) h
  | rows => exact cell1_one (S := S) (w := w) (c := .rows _ _) h
  | rows2 => exact cell1_one (S := S) (w := w) (c := .rows2 _ _) h
theorem reads_of_slC {E : Env} {w : World} {c : Cont} {u : Value} (h : SlC E.S w c u) : Reads E w c u := by
  obtain ⟨A, cap, hu, hc, hx⟩ := h
  refine ⟨A, cap, hu, hc, fun h0 => ?_⟩
  obtain ⟨a, hA, _, hj⟩ := hx h0
  refine ⟨a, hA, fun j hlt => ?_⟩
  obtain ⟨x, h1, h2⟩ := hj j hlt
  exact ⟨x, h1, cellC_one h2, h2⟩
theorem slC_of_reads {E E' : Env} {w : World} {c : Cont} {u : Value} (h : Reads E w c u) (k : ∀ b, E.S b → E'.S b) (hS : 0 < c.len → ∀ b, vBlock u = some b → E'.S b) : SlC E'.S w c u := by
  obtain ⟨A, cap, hu, hc, hx⟩ := h
  refine ⟨A, cap, hu, hc, fun h0 => ?_⟩
  obtain ⟨a, rfl, hj⟩ := hx h0
  refine ⟨a, rfl, hS h0 _ (by rw [hu]; rfl), fun j hlt => ?_⟩
  obtain ⟨x, h1, _, h2⟩ := hj j hlt
  exact ⟨x, h1, cellC.mono ⟨k, fun _ _ => rfl⟩ h2⟩

/-- the content of a window -/
theorem winCont_spec {c : Cont} {off len : Nat} {c' : Cont} (h : (match c with
    | .ints k l => some (Cont.ints k ((l.drop off).take len))
    | .rows k l => some (.rows k ((l.drop off).take len))
    | .rows2 k l => some (.rows2 k ((l.drop off).take len))
    | _ => none) = some c') (hle : off + len ≤ c.len) : c.size = 1 ∧ c'.size = 1 ∧ c'.len = len ∧ ∀ S w j x, j < len → cellC S w c (off + j) x → cellC S w c' j x := by
  cases c with
  | cols => cases h
  | ints k z =>
    cases h
    simp only [Cont.len] at hle
    refine ⟨rfl, rfl, by simp [Cont.len]; omega, fun S w j x hj hx => ?_⟩
    simp only [cellC, cell1, cellI] at hx ⊢
    rw [hx]
    congr 1
    simp only [List.getD_eq_getElem?_getD, List.getElem?_take, List.getElem?_drop]
    rw [if_pos hj]
  | rows k z =>
    cases h
    simp only [Cont.len] at hle
    refine ⟨rfl, rfl, by simp [Cont.len]; omega, fun S w j x hj hx => ?_⟩
    simp only [cellC, cell1, cellR] at hx ⊢
    have : (List.take len (List.drop off z)).getD j [] = z.getD (off + j) [] := by
      simp only [List.getD_eq_getElem?_getD, List.getElem?_take, List.getElem?_drop]
      rw [if_pos hj]
    rw [this]
    exact hx
  | rows2 k z =>
    cases h
    simp only [Cont.len] at hle
    refine ⟨rfl, rfl, by simp [Cont.len]; omega, fun S w j x hj hx => ?_⟩
    simp only [cellC, cell1, cellR2] at hx ⊢
    have : (List.take len (List.drop off z)).getD j [] = z.getD (off + j) [] := by
      simp only [List.getD_eq_getElem?_getD, List.getElem?_take, List.getElem?_drop]
      rw [if_pos hj]
    rw [this]
    exact hx

section
variable {D : Ctx} {B0 : Nat} {w0 : W0} {E : Env} {st : ASt} {act : Act} {w : World}

theorem contA_reads (hR : Rel D B0 w0 E st act w) {hl : Nat → Option Blk} (hm : ∀ id b, hl id = some b → hlook st.h id = some b) {x : AVal} {c : Cont} (h : contA hl x = some c) {u : Value} (hu : RelV E w x u) : Reads E w c u := by
  unfold contA at h
  split at h
  · cases h
    simp only [RelV] at hu
    exact reads_of_slC hu
  · rename_i id
    split at h
    · rename_i e c' f hb
      cases h
      simp only [RelV] at hu
      obtain ⟨v, hv, ⟨xs, ho, hx⟩, _⟩ := hR.heap _ _ (hm _ _ hb)
      rw [hu] at hv
      cases hv
      have hlen := ho.1
      rcases (show _ from ho.2) with ⟨rfl, h0⟩ | ⟨g, cap, cur, rfl, _, _, hn, _⟩
      · exact ⟨none, 0, by rw [h0], by omega, fun h => by omega⟩
      · refine ⟨_, cap, rfl, hn, fun _ => ⟨_, rfl, fun j hj => ?_⟩⟩
        obtain ⟨_, _, _, hc⟩ := ownsRow_cells ho rfl
        have hj' : j < xs.length := by omega
        exact ⟨xs[j], by rw [hc j hj']; exact List.getElem?_eq_getElem hj', hx j _ (List.getElem?_eq_getElem hj')⟩
    · cases h
  · rename_i id off len
    simp only [RelV] at hu
    obtain ⟨A, n, cap, hρ, hle, A', hA', _, rfl⟩ := hu
    have key : ∀ e c0 f, hl id = some ⟨.row e c0, f⟩ → (match c0 with
        | .ints k l => some (Cont.ints k ((l.drop off).take len))
        | .rows k l => some (.rows k ((l.drop off).take len))
        | .rows2 k l => some (.rows2 k ((l.drop off).take len))
        | _ => none) = some c → Reads E w c (.slice A' len (cap - off)) := by
      intro e c0 f hb hc
      obtain ⟨v, hv, ⟨xs, ho, hx⟩, _⟩ := hR.heap _ _ (hm _ _ hb)
      rw [hρ] at hv
      cases hv
      have hn : n = c0.len ∧ n ≤ cap := by
        cases A with
        | none => have := ownsRow_nil_len ho rfl; omega
        | some a => obtain ⟨g1, g2, _⟩ := ownsRow_cells ho rfl; omega
      obtain ⟨s1, s2, s3, hcell⟩ := winCont_spec hc (by omega)
      refine ⟨A', cap - off, by rw [s3], by omega, fun h0 => ?_⟩
      rw [s3] at h0
      cases A with
      | none => have := ownsRow_nil_len ho rfl; omega
      | some a =>
        rw [hA' h0]
        refine ⟨_, rfl, fun j hj => ?_⟩
        rw [s2, s3] at hj
        obtain ⟨_, _, _, hcc⟩ := ownsRow_cells ho rfl
        have hxl := ho.1
        rw [s1] at hxl
        have hj' : off + j < xs.length := by omega
        have := hx (off + j) _ (List.getElem?_eq_getElem hj')
        exact ⟨xs[off + j], by rw [add_add, hcc _ hj']; exact List.getElem?_eq_getElem hj', this.1, hcell _ _ _ _ (by omega) this.2⟩
    split at h
    · rename_i hb; exact key _ _ _ hb h
    · rename_i hb; exact key _ _ _ hb h
    · rename_i hb; exact key _ _ _ hb h
    · cases h
  · rename_i id off m lo len
    simp only [RelV] at hu
    obtain ⟨b, A, cap, hρ, hle, hcap, hA, rfl⟩ := hu
    split at h
    · rename_i e cs f hb
      split at h
      · rename_i pre k m' l post hs
        cases hbm : Nat.beq m m' with
        | false => rw [hbm] at h; cases h
        | true =>
          rw [hbm] at h
          cases h
          have := Nat.eq_of_beq_eq_true hbm
          subst this
          obtain ⟨v, hv, ⟨kb, cells, rfl, hB, hh, hl⟩, _⟩ := hR.heap _ _ (hm _ _ hb)
          rw [hρ] at hv
          cases hv
          obtain ⟨c1, c2, he, g1, g2, l1⟩ := relF_at hs hl
          obtain ⟨cs', hz, rfl, _⟩ := relF_arr_head g2
          have hl2 : (List.take len (List.drop lo l)).length = len := by simp; omega
          refine ⟨A, cap, by simp only [Cont.len, hl2], by simp only [Cont.len, hl2]; exact hcap, fun h0 => ?_⟩
          simp only [Cont.len, hl2] at h0
          refine ⟨_, hA h0, fun j hj => ?_⟩
          simp only [Cont.len, Cont.size, hl2, Nat.mul_one] at hj
          have hlt : lo + j < l.length := by omega
          refine ⟨.int k l[lo + j], ?_, rfl, ?_⟩
          · rw [add_none, cell_block hh, ← Array.getElem?_toList, he]
            rw [List.getElem?_append_right (by omega), List.getElem?_append_left (by simp; omega)]
            rw [l1, show off + lo + j - off = lo + j from by omega]
            simp [List.getElem?_eq_getElem hlt]
          · simp only [cellC, cell1, cellI]
            simp only [List.getD_eq_getElem?_getD, List.getElem?_take, List.getElem?_drop]
            rw [if_pos hj, List.getElem?_eq_getElem hlt]
            rfl
      · cases h
    · cases h
  · cases h
end

/-- the elements of a row behind another one's -/
theorem Cont.app_spec {c d c' : Cont} (h : c.app d = some c') : c'.len = c.len + d.len ∧ c'.size = c.size ∧ d.size = c.size ∧ c.size = 1 ∧
    ∀ S w, (∀ j x, j < c.len → cellC S w c j x → cellC S w c' j x) ∧ (∀ j x, cellC S w d j x → cellC S w c' (c.len + j) x) := by
  cases c with
  | ints k l =>
    cases d with
    | ints k' l' =>
      simp only [Cont.app] at h
      cases hk : beqK k k' with
      | false => rw [hk] at h; cases h
      | true =>
        rw [hk] at h
        cases h
        have := beqK_eq hk
        subst this
        refine ⟨by simp [Cont.len], rfl, rfl, rfl, fun S w => ⟨fun j x hj hx => ?_, fun j x hx => ?_⟩⟩
        · simp only [cellC, cell1, cellI, Cont.len] at hx hj ⊢
          rw [hx]; congr 1
          simp only [List.getD_eq_getElem?_getD]; rw [List.getElem?_append_left hj]
        · simp only [cellC, cell1, cellI, Cont.len] at hx ⊢
          rw [hx]; congr 1
          simp only [List.getD_eq_getElem?_getD]; rw [List.getElem?_append_right (by omega)]; simp
    | _ => cases h
  | rows k l =>
    cases d with
    | rows k' l' =>
      simp only [Cont.app] at h
      cases hk : beqK k k' with
      | false => rw [hk] at h; cases h
      | true =>
        rw [hk] at h
        cases h
        have := beqK_eq hk
        subst this
        refine ⟨by simp [Cont.len], rfl, rfl, rfl, fun S w => ⟨fun j x hj hx => ?_, fun j x hx => ?_⟩⟩
        · simp only [cellC, cell1, cellR, Cont.len] at hx hj ⊢
          have : (l ++ l').getD j [] = l.getD j [] := by simp only [List.getD_eq_getElem?_getD]; rw [List.getElem?_append_left hj]
          rw [this]; exact hx
        · simp only [cellC, cell1, cellR, Cont.len] at hx ⊢
          have : (l ++ l').getD (l.length + j) [] = l'.getD j [] := by simp only [List.getD_eq_getElem?_getD]; rw [List.getElem?_append_right (by omega)]; simp
          rw [this]; exact hx
    | _ => cases h
  | rows2 k l =>
    cases d with
    | rows2 k' l' =>
      simp only [Cont.app] at h
      cases hk : beqK k k' with
      | false => rw [hk] at h; cases h
      | true =>
        rw [hk] at h
        cases h
        have := beqK_eq hk
        subst this
        refine ⟨by simp [Cont.len], rfl, rfl, rfl, fun S w => ⟨fun j x hj hx => ?_, fun j x hx => ?_⟩⟩
        · simp only [cellC, cell1, cellR2, Cont.len] at hx hj ⊢
          have : (l ++ l').getD j [] = l.getD j [] := by simp only [List.getD_eq_getElem?_getD]; rw [List.getElem?_append_left hj]
          rw [this]; exact hx
        · simp only [cellC, cell1, cellR2, Cont.len] at hx ⊢
          have : (l ++ l').getD (l.length + j) [] = l'.getD j [] := by simp only [List.getD_eq_getElem?_getD]; rw [List.getElem?_append_right (by omega)]; simp
          rw [this]; exact hx
    | _ => cases h
  | cols n cs => cases d <;> cases h
end Go.Abs
