import Derived.Test.YtmaoicbiekgmhaaAbsOps9
namespace Go.Abs
open Go Go.RowKit
set_option linter.unusedVariables false
set_option linter.unusedSimpArgs false

theorem mem_lcat {α : Type} {x : α} {l r : List α} : x ∈ lcat l r ↔ x ∈ l ∨ x ∈ r := by rw [lcat_eq]; exact List.mem_append

section
variable {D : Ctx} {B0 : Nat} {w0 : W0} {E : Env} {st : ASt} {act : Act} {w : World}

/-- the block of a slice whose content is known -/
theorem contA_block (hR : Rel D B0 w0 E st act w) {hl : Nat → Option Blk} (hm : ∀ id b, hl id = some b → hlook st.h id = some b) {x : AVal} {c : Cont} (h : contA hl x = some c) {u : Value} (hu : RelV E w x u) (h0 : 0 < c.len)
    {k : Nat} (hk : vBlock u = some k) : E.S k ∨ ∃ id, id ∈ rowIds x ∧ ∃ b v, hl id = some b ∧ E.ρ id = some v ∧ vBlock v = some k := by
  unfold contA at h
  split at h
  · cases h
    simp only [RelV] at hu
    obtain ⟨A, cap, rfl, _, hx⟩ := hu
    obtain ⟨a, rfl, hS, _⟩ := hx h0
    simp [vBlock] at hk
    subst hk
    exact .inl hS
  · rename_i id
    split at h
    · rename_i e c' f hb
      simp only [RelV] at hu
      exact .inr ⟨id, by simp [rowIds], _, u, hb, hu, hk⟩
    · cases h
  · rename_i id off len
    simp only [RelV] at hu
    obtain ⟨A, n, cap, hρ, hle, A', hA', _, rfl⟩ := hu
    have key : ∀ e c0 f, hl id = some ⟨.row e c0, f⟩ → (match c0 with
        | .ints k l => some (Cont.ints k ((l.drop off).take len))
        | .rows k l => some (.rows k ((l.drop off).take len))
        | .rows2 k l => some (.rows2 k ((l.drop off).take len))
        | _ => none) = some c → E.S k ∨ ∃ id', id' ∈ rowIds (.win id off len) ∧ ∃ b v, hl id' = some b ∧ E.ρ id' = some v ∧ vBlock v = some k := by
      intro e c0 f hb hc
      obtain ⟨v, hv, ⟨xs, ho, hx⟩, _⟩ := hR.heap _ _ (hm _ _ hb)
      rw [hρ] at hv
      cases hv
      have hn : n = c0.len := by
        cases A with
        | none => have := ownsRow_nil_len ho rfl; omega
        | some a => exact (ownsRow_cells ho rfl).1
      obtain ⟨s1, s2, s3, hcell⟩ := winCont_spec hc (by omega)
      rw [s3] at h0
      cases A with
      | none => have := ownsRow_nil_len ho rfl; omega
      | some a =>
        rw [hA' h0] at hk
        simp [vBlock, add_block] at hk
        exact .inr ⟨id, by simp [rowIds], _, _, hb, hρ, by simp [vBlock, hk]⟩
    split at h
    · rename_i hb; exact key _ _ _ hb h
    · rename_i hb; exact key _ _ _ hb h
    · rename_i hb; exact key _ _ _ hb h
    · cases h
  · rename_i id off m lo len
    simp only [RelV] at hu
    obtain ⟨b, A, cap, hρ, hle, hcap, hA, rfl⟩ := hu
    split at h
    · rename_i e cs f hb
      split at h
      · rename_i pre k' m' l post hs
        cases hbm : Nat.beq m m' with
        | false => rw [hbm] at h; cases h
        | true =>
          rw [hbm] at h
          cases h
          simp only [Cont.len, List.length_take, List.length_drop] at h0
          rw [hA (by omega)] at hk
          simp [vBlock] at hk
          exact .inr ⟨id, by simp [rowIds], _, _, hb, hρ, by simp [vBlock, hk]⟩
      · cases h
    · cases h
  · cases h

mutual
/-- a value handed over -/
theorem xport_rel (hR : Rel D B0 w0 E st act w) {hl : Nat → Option Blk} (hm : ∀ id b, hl id = some b → hlook st.h id = some b) {S' : Nat → Prop} (hS : ∀ b, E.S b → S' b) :
    ∀ (a : AVal) (u : Value), RelV E w a u → (∀ id, id ∈ rowIds a → ∀ b v k, hl id = some b → E.ρ id = some v → vBlock v = some k → S' k) → RelV ⟨S', fun _ => none⟩ w (xport hl a) u
  | .own id, u, h, hi => by
    simp only [xport]
    split
    · rename_i c hc
      simp only [RelV]
      exact slC_of_reads (E' := ⟨S', fun _ => none⟩) (contA_reads hR hm hc h) hS fun h0 k hk => by
        rcases contA_block hR hm hc h h0 hk with hk | ⟨id', h1, b, v, h2, h3, h4⟩
        · exact hS _ hk
        · exact hi id' h1 b v k h2 h3 h4
    · simp only [RelV]
  | .win id off len, u, h, hi => by
    simp only [xport]
    split
    · rename_i c hc
      simp only [RelV]
      exact slC_of_reads (E' := ⟨S', fun _ => none⟩) (contA_reads hR hm hc h) hS fun h0 k hk => by
        rcases contA_block hR hm hc h h0 hk with hk | ⟨id', h1, b, v, h2, h3, h4⟩
        · exact hS _ hk
        · exact hi id' h1 b v k h2 h3 h4
    · simp only [RelV]
  | .awin id off m lo len, u, h, hi => by
    simp only [xport]
    split
    · rename_i c hc
      simp only [RelV]
      exact slC_of_reads (E' := ⟨S', fun _ => none⟩) (contA_reads hR hm hc h) hS fun h0 k hk => by
        rcases contA_block hR hm hc h h0 hk with hk | ⟨id', h1, b, v, h2, h3, h4⟩
        · exact hS _ hk
        · exact hi id' h1 b v k h2 h3 h4
    · simp only [RelV]
  | .ptr _ _, u, h, hi => by simp only [xport, RelV]
  | .pel _ _ _, u, h, hi => by simp only [xport, RelV]
  | .apel _ _ _ _, u, h, hi => by simp only [xport, RelV]
  | .sta _, u, h, hi => by simp only [xport, RelV]
  | .glob _ _, u, h, hi => by simp only [xport, RelV]
  | .gel _ _ _ _, u, h, hi => by simp only [xport, RelV]
  | .fr _ _, u, h, hi => by simp only [xport, RelV]
  | .agg l, u, h, hi => by
    simp only [xport, RelV] at h ⊢
    obtain ⟨cs, h1, h2⟩ := h
    exact ⟨cs, h1, xportF_rel hR hm hS l cs h2 (by simpa only [rowIds] using hi)⟩
  | .tuple l, u, h, hi => by
    simp only [xport, RelV] at h ⊢
    obtain ⟨vs, h1, h2⟩ := h
    exact ⟨vs, h1, xports_rel hR hm hS l vs h2 (by simpa only [rowIds] using hi)⟩
  | .fn f a b, u, h, hi => by
    simp only [xport, RelV] at h ⊢
    obtain ⟨x, y, h1, h2, h3⟩ := h
    simp only [rowIds] at hi
    exact ⟨x, y, h1, xports_rel hR hm hS a x h2 (fun id hid => hi id (mem_lcat.2 (.inl hid))), xports_rel hR hm hS b y h3 (fun id hid => hi id (mem_lcat.2 (.inr hid)))⟩
  | .iface t x, u, h, hi => by
    simp only [xport, RelV] at h ⊢
    obtain ⟨y, h1, h2⟩ := h
    exact ⟨y, h1, xport_rel hR hm hS x y h2 (by simpa only [rowIds] using hi)⟩
  | .v x, u, h, hi => by simp only [xport, RelV] at h ⊢; exact h
  | .bot, u, h, hi => by simp only [xport, RelV]
  | .sl c, u, h, hi => by simp only [xport, RelV] at h ⊢; exact SlC.mono ⟨hS, fun _ _ => rfl⟩ h
  | .arr k n l, u, h, hi => by simp only [xport, RelV] at h ⊢; exact h
theorem xports_rel (hR : Rel D B0 w0 E st act w) {hl : Nat → Option Blk} (hm : ∀ id b, hl id = some b → hlook st.h id = some b) {S' : Nat → Prop} (hS : ∀ b, E.S b → S' b) :
    ∀ (l : List AVal) (vs : List Value), RelVs E w l vs → (∀ id, id ∈ rowIdsL l → ∀ b v k, hl id = some b → E.ρ id = some v → vBlock v = some k → S' k) → RelVs ⟨S', fun _ => none⟩ w (xports hl l) vs
  | [], vs, h, _ => by simp only [xports, RelVs] at h ⊢; exact h
  | a :: r, vs, h, hi => by
    simp only [xports, RelVs] at h ⊢
    obtain ⟨u, us, h1, h2, h3⟩ := h
    simp only [rowIdsL] at hi
    exact ⟨u, us, h1, xport_rel hR hm hS a u h2 (fun id hid => hi id (mem_lcat.2 (.inl hid))), xports_rel hR hm hS r us h3 (fun id hid => hi id (mem_lcat.2 (.inr hid)))⟩
theorem xportF_rel (hR : Rel D B0 w0 E st act w) {hl : Nat → Option Blk} (hm : ∀ id b, hl id = some b → hlook st.h id = some b) {S' : Nat → Prop} (hS : ∀ b, E.S b → S' b) :
    ∀ (l : List AVal) (cs : List Value), RelF E w l cs → (∀ id, id ∈ rowIdsL l → ∀ b v k, hl id = some b → E.ρ id = some v → vBlock v = some k → S' k) → RelF ⟨S', fun _ => none⟩ w (xports hl l) cs
  | [], cs, h, _ => by simp only [xports, RelF] at h ⊢; exact h
  | a :: r, cs, h, hi => by
    simp only [rowIdsL] at hi
    rcases relF_cons h with ⟨k', n, l, cs', rfl, h1, rfl, h3⟩ | ⟨ha, u, cs', rfl, h2, h3, h4⟩
    · simp only [xports, xport]
      exact relF_arr h1 (xportF_rel hR hm hS r cs' h3 (fun id hid => hi id (mem_lcat.2 (.inr hid))))
    · simp only [xports]
      refine relF_one ?_ h2 (xport_rel hR hm hS a u h3 (fun id hid => hi id (mem_lcat.2 (.inl hid)))) (xportF_rel hR hm hS r cs' h4 (fun id hid => hi id (mem_lcat.2 (.inr hid))))
      intro k n l
      cases a <;> simp only [xport] <;> first
        | exact absurd rfl (ha _ _ _)
        | (split <;> simp)
        | simp
end
end
end Go.Abs
