import Derived.Test.YtmaoicbiekgmhaaAbsLoop
import Derived.LoopN
namespace Go.Abs
open Go Go.RowKit
set_option linter.unusedVariables false
set_option linter.unusedSimpArgs false

def conv : AExit → Exit
  | .normal => .normal
  | .exit id => .exit id
  | .ret => .ret

/-- where a piece of code ends -/
def Lands (D : Ctx) (B0 : Nat) (w0 : W0) (E0 : Env) (w00 : World) (ex : AExit) (st : ASt) (e : Exit) (a : Act) (w : World) : Prop :=
  e = conv ex ∧ ∃ E', Up E0 E' w00 w ∧ Rel D B0 w0 E' st a w ∧ Dom E' st.n

def CodeOk (D : Ctx) (c : Code) (ex : AExit) (st st' : ASt) : Prop :=
  ∀ (B0 : Nat) (w0 : W0) E act w, Rel D B0 w0 E st act w → Dom E st.n → c.wp D.P (Lands D B0 w0 E w ex st') act w

section
variable {D : Ctx} {B0 : Nat} {w0 : W0}

theorem Lands.up {E0 E1 : Env} {w00 w1 : World} {ex : AExit} {st : ASt} {e : Exit} {a : Act} {w : World} (k : Up E0 E1 w00 w1) (h : Lands D B0 w0 E1 w1 ex st e a w) : Lands D B0 w0 E0 w00 ex st e a w := by
  obtain ⟨h1, E', h2, h3⟩ := h
  exact ⟨h1, E', k.trans h2, h3⟩

theorem look_retF (f : List (Nat × AVal)) : ∀ (ts : List Nat) (t : Nat), look (retF f ts) t = look f t ∨ look (retF f ts) t = .bot
  | [], t => .inr rfl
  | a :: r, t => by
    simp only [retF, look]
    cases hb : Nat.beq a t with
    | true => have := Nat.eq_of_beq_eq_true hb; subst this; exact .inl rfl
    | false => exact look_retF f r t
theorem Rel.retF {E : Env} {st : ASt} {act : Act} {w : World} (h : Rel D B0 w0 E st act w) (ts : List Nat) : Rel D B0 w0 E { st with f := Abs.retF st.f ts } act w :=
  { h with
    tmps := fun t => by
      have e := look_retF st.f ts t
      revert e
      simp only
      generalize look (Abs.retF st.f ts) t = x
      rintro (rfl | rfl)
      · exact h.tmps t
      · exact relV_bot _ }

theorem iter_ok (hG2 : GlobsPlain D) {c : Code} (hc : ∀ (st : ASt) (K : AExit → ASt → Option R) (r : R), codeA D c st K = some r → ∃ ex st', K ex st' = some r ∧ st'.m = st.m ∧ CodeOk D c ex st st')
    {h : Hint} {n : Nat} {ids : List Nat} {K : AExit → ASt → Option R} : ∀ (k : Nat) (st : ASt) (r : R), iter h n ids (codeA D c) K k st = some r →
    ∃ ex st', K ex st' = some r ∧ st'.m = st.m ∧ ∀ (B0 : Nat) (w0 : W0) E0 w00 E act w, Dom E0 n → Up E0 E w00 w → Rel D B0 w0 E st act w → Dom E st.n → Code.rounds D.P c (Lands D B0 w0 E0 w00 ex st') (k + 1) act w := by
  have enter : ∀ {E0 E E' : Env} {w00 w : World}, Dom E0 n → Up E0 E w00 w → E'.S = E.S → (∀ id, id < n → E'.ρ id = E.ρ id) → Up E0 E' w00 w := by
    intro E0 E E' w00 w hD hup hS hρ
    exact ⟨⟨fun b hb => by rw [hS]; exact hup.keeps.sub b hb, hup.keeps.blk⟩, fun id u hu => by rw [hρ id (hD id u hu)]; exact hup.ρ id u hu⟩
  have round : ∀ (k : Nat) (next : ASt → Option R) (st : ASt) (r : R), codeA D c st (knot h n ids K next) = some r →
      (∀ st1, next st1 = some r → ∃ ex st', K ex st' = some r ∧ st'.m = st1.m ∧ ∀ (B0 : Nat) (w0 : W0) E0 w00 E act w, Dom E0 n → Up E0 E w00 w → Rel D B0 w0 E st1 act w → Dom E st1.n → Code.rounds D.P c (Lands D B0 w0 E0 w00 ex st') k act w) →
      ∃ ex st', K ex st' = some r ∧ st'.m = st.m ∧ ∀ (B0 : Nat) (w0 : W0) E0 w00 E act w, Dom E0 n → Up E0 E w00 w → Rel D B0 w0 E st act w → Dom E st.n → Code.rounds D.P c (Lands D B0 w0 E0 w00 ex st') (k + 1) act w := by
    intro k next st r hi hnext
    obtain ⟨ex1, st2, hK, hm2, hok⟩ := hc st _ r hi
    cases ex1 with
    | normal =>
      simp only [knot] at hK
      split at hK
      · rename_i st1 hn
        obtain ⟨hm, hle, hnorm⟩ := norm_ok hG2 hn
        obtain ⟨ex, st', h1, h2, h3⟩ := hnext st1 hK
        refine ⟨ex, st', h1, by rw [h2, hm, hm2], fun B0 w0 E0 w00 E act w hD hup hR hD2 => ?_⟩
        rw [rounds_succ]
        refine wp_mono (hok B0 w0 E act w hR hD2) (fun e a w' hL => ?_)
        obtain ⟨rfl, E2, k1, k2, k3⟩ := hL
        obtain ⟨E', hS, hρ, hR', hD'⟩ := hnorm B0 w0 E2 a w' k2
        exact h3 B0 w0 E0 w00 E' a w' hD (enter hD (hup.trans k1) hS hρ) hR' hD'
      · cases hK
    | exit j =>
      simp only [knot] at hK
      split at hK
      · rename_i st1 hn
        obtain ⟨hm, hle, hnorm⟩ := norm_ok hG2 hn
        refine ⟨.exit j, st1, hK, by rw [hm, hm2], fun B0 w0 E0 w00 E act w hD hup hR hD2 => ?_⟩
        rw [rounds_succ]
        refine wp_mono (hok B0 w0 E act w hR hD2) (fun e a w' hL => ?_)
        obtain ⟨rfl, E2, k1, k2, k3⟩ := hL
        obtain ⟨E', hS, hρ, hR', hD'⟩ := hnorm B0 w0 E2 a w' k2
        exact ⟨rfl, E', enter hD (hup.trans k1) hS hρ, hR', hD'⟩
      · cases hK
    | ret =>
      refine ⟨.ret, _, hK, hm2, fun B0 w0 E0 w00 E act w hD hup hR hD2 => ?_⟩
      rw [rounds_succ]
      refine wp_mono (hok B0 w0 E act w hR hD2) (fun e a w' hL => ?_)
      obtain ⟨rfl, E2, k1, k2, k3⟩ := hL
      exact ⟨rfl, E2, hup.trans k1, k2.retF _, k3⟩
  intro k
  induction k with
  | zero =>
    intro st r hi
    exact round 0 _ st r hi (fun st1 h => by cases h)
  | succ k ih =>
    intro st r hi
    exact round (k + 1) _ st r hi (fun st1 h => ih st1 r h)

/-- CODE. -/
theorem code_ok (hG : GOk D) (hG2 : GlobsPlain D) (hI : InlOk D) (hmix : D.P.follows .mixedOrders = true) : ∀ (c : Code), (∀ c', c' ∈ loopsOf c → LoopOk D c') → ∀ (st : ASt) (K : AExit → ASt → Option R) (r : R), codeA D c st K = some r →
    ∃ ex st', K ex st' = some r ∧ st'.m = st.m ∧ CodeOk D c ex st st' := by
  intro c
  induction c with
  | skip =>
    intro hL st K r h
    exact ⟨.normal, st, h, rfl, fun B0 w0 E act w hR hD => wp_skip ⟨rfl, E, Up.refl _ _, hR, hD⟩⟩
  | label l =>
    intro hL st K r h
    exact ⟨.normal, st, h, rfl, fun B0 w0 E act w hR hD => wp_label ⟨rfl, E, Up.refl _ _, hR, hD⟩⟩
  | region id ops draw =>
    intro hL st K r h
    cases draw with
    | false =>
      simp only [codeA] at h
      obtain ⟨st', h1, h2, h4⟩ := region_ok (id := id) hG hG2 hI h
      exact ⟨.normal, st', h1, h2, fun B0 w0 E act w hR hD => h4 B0 w0 E act w _ hR hD (fun E' a' w' k1 k2 k3 => ⟨rfl, E', k1, k2, k3⟩)⟩
    | true =>
      simp only [codeA] at h
      obtain ⟨st', h1, h2, h3, h4⟩ := draw_ok (id := id) hG hG2 hmix h
      exact ⟨.normal, st', h1, h2, fun B0 w0 E act w hR hD => h4 B0 w0 E act w _ hR hD (fun E' a' w' k1 k2 k3 => ⟨rfl, E', k1, k2, k3⟩)⟩
  | seq a b iha ihb =>
    intro hL st K r h
    simp only [codeA] at h
    obtain ⟨ex1, st1, h1, h2, h3⟩ := iha (fun c' hc => hL c' (by simp [loopsOf, hc])) st _ r h
    cases ex1 with
    | normal =>
      obtain ⟨ex, st', k1, k2, k3⟩ := ihb (fun c' hc => hL c' (by simp [loopsOf, hc])) st1 K r h1
      refine ⟨ex, st', k1, k2.trans h2, fun B0 w0 E act w hR hD => wp_seq (wp_mono (h3 B0 w0 E act w hR hD) (fun e a w' hL => ?_))⟩
      obtain ⟨rfl, E1, u1, u2, u3⟩ := hL
      exact wp_mono (k3 B0 w0 E1 a w' u2 u3) (fun e a w'' hL => hL.up u1)
    | exit j =>
      refine ⟨.exit j, st1, h1, h2, fun B0 w0 E act w hR hD => wp_seq (wp_mono (h3 B0 w0 E act w hR hD) (fun e a w' hL => ?_))⟩
      have h5 := hL
      obtain ⟨rfl, _⟩ := hL
      exact h5
    | ret =>
      refine ⟨.ret, st1, h1, h2, fun B0 w0 E act w hR hD => wp_seq (wp_mono (h3 B0 w0 E act w hR hD) (fun e a w' hL => ?_))⟩
      have h5 := hL
      obtain ⟨rfl, _⟩ := hL
      exact h5
  | cond x a b iha ihb =>
    intro hL st K r h
    simp only [codeA] at h
    split at h
    · rename_i t ht
      have hcv : ∀ {B0 : Nat} {w0 : W0} {E act w}, Rel D B0 w0 E st act w → act.eval x = .bool t := by
        intro B0 w0 E act w hR
        have := hR.ev x
        rw [ht] at this
        simpa only [RelV] using this
      rcases br_some h with ⟨rfl, h4⟩ | ⟨rfl, h4⟩
      · obtain ⟨ex, st', k1, k2, k3⟩ := iha (fun c' hc => hL c' (by simp [loopsOf, hc])) st K r h4
        exact ⟨ex, st', k1, k2, fun B0 w0 E act w hR hD => wp_cond (hcv hR) (k3 B0 w0 E act w hR hD)⟩
      · obtain ⟨ex, st', k1, k2, k3⟩ := ihb (fun c' hc => hL c' (by simp [loopsOf, hc])) st K r h4
        exact ⟨ex, st', k1, k2, fun B0 w0 E act w hR hD => wp_cond (hcv hR) (k3 B0 w0 E act w hR hD)⟩
    · cases h
  | block id c ih =>
    intro hL st K r h
    simp only [codeA] at h
    obtain ⟨ex1, st1, h1, h2, h3⟩ := ih (fun c' hc => hL c' (by simpa [loopsOf] using hc)) st _ r h
    cases ex1 with
    | normal =>
      refine ⟨.normal, st1, h1, h2, fun B0 w0 E act w hR hD => wp_block (wp_mono (h3 B0 w0 E act w hR hD) (fun e a w' hL => ?_))⟩
      have h5 := hL
      obtain ⟨rfl, _⟩ := hL
      exact h5
    | ret =>
      refine ⟨.ret, st1, h1, h2, fun B0 w0 E act w hR hD => wp_block (wp_mono (h3 B0 w0 E act w hR hD) (fun e a w' hL => ?_))⟩
      have h5 := hL
      obtain ⟨rfl, _⟩ := hL
      exact h5
    | exit j =>
      cases hb : Nat.beq j id with
      | true =>
        simp only [hb, cond_true] at h1
        have := Nat.eq_of_beq_eq_true hb
        subst this
        refine ⟨.normal, st1, h1, h2, fun B0 w0 E act w hR hD => wp_block (wp_mono (h3 B0 w0 E act w hR hD) (fun e a w' hL => ?_))⟩
        obtain ⟨rfl, h5⟩ := hL
        simp only [conv, Exit.inBlock, if_true]
        exact ⟨rfl, h5⟩
      | false =>
        simp only [hb, cond_false] at h1
        have hne := Nat.ne_of_beq_eq_false hb
        refine ⟨.exit j, st1, h1, h2, fun B0 w0 E act w hR hD => wp_block (wp_mono (h3 B0 w0 E act w hR hD) (fun e a w' hL => ?_))⟩
        obtain ⟨rfl, h5⟩ := hL
        simp only [conv, Exit.inBlock, if_neg hne]
        exact ⟨rfl, h5⟩
  | loop c ih =>
    intro hL st K r h
    simp only [codeA] at h
    split at h
    · cases h
    · rename_i st1 hn
      split at h
      · rename_i s hs
        obtain ⟨k, hk⟩ := hL c (by simp [loopsOf]) s hs st1 K r h
        obtain ⟨hb1, hb2⟩ := norm_back hn
        unfold itA at hk
        rw [hb1, hb2] at hk
        obtain ⟨hm, hle, hnorm⟩ := norm_ok hG2 hn
        obtain ⟨ex, st', h1, h2, h3⟩ := iter_ok hG2 (ih (fun c' hc => hL c' (by simp [loopsOf, hc]))) k st1 r hk
        refine ⟨ex, st', h1, h2.trans hm, fun B0 w0 E act w hR hD => wp_loop_rounds (k + 1) ?_⟩
        obtain ⟨E', hS, hρ, hR', hD'⟩ := hnorm B0 w0 E act w hR
        exact h3 B0 w0 E w E' act w hD ⟨⟨fun b hb => by rw [hS]; exact hb, fun _ _ => rfl⟩, fun id u hu => by rw [hρ id (hD id u hu)]; exact hu⟩ hR' hD'
      · cases h
  | exit id =>
    intro hL st K r h
    exact ⟨.exit id, st, h, rfl, fun B0 w0 E act w hR hD => wp_exit ⟨rfl, E, Up.refl _ _, hR, hD⟩⟩
  | ret =>
    intro hL st K r h
    exact ⟨.ret, st, h, rfl, fun B0 w0 E act w hR hD => wp_ret ⟨rfl, E, Up.refl _ _, hR, hD⟩⟩
  | rangeFunc => intro hL st K r h; simp [codeA] at h
  | scope => intro hL st K r h; simp [codeA] at h
  | goto => intro hL st K r h; simp [codeA] at h
  | refuse => intro hL st K r h; simp [codeA] at h
end
end Go.Abs
