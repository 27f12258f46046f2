/-
  LmotsSigns, part F: an interpreter of my own over abstract values, the pure functions, the walks and the plain law.
-/

import Derived.Test.YtknjpkgnideplaaDoorLmotsSignsE
import Derived.Laws.Sem
import Derived.KernelRfl
import Derived.IntWalk

section
namespace Go.Abs
open Go Go.RowKit
set_option linter.unusedVariables false
set_option linter.unusedSimpArgs false
section
variable {D : Ctx} {B0 : Nat} {w0 : W0} {E : Env} {st : ASt} {act : Act} {w : World}
theorem relX_plain {S : Nat → Prop} {B : Nat} {a : AVal} {u : Value} (h : RelV (noEnv S) w a u) (h1 : ∀ l, a ≠ .agg l) (h2 : ∀ l, a ≠ .tuple l) : RelX S w B a u [] := by
  cases a <;> simp only [RelX] <;> first
    | exact absurd rfl (h1 _)
    | exact absurd rfl (h2 _)
    | exact ⟨h, trivial⟩
    | exact ⟨h, rfl⟩
    | (simp only [RelV] at h; done)
def Outs (E : Env) (st : ASt) (ids : List Nat) (bs : List Nat) : Prop :=
  bs.Nodup ∧ ∀ k, k ∈ bs → ∃ id, id ∈ ids ∧ ∃ b v, hlook st.h id = some b ∧ b.frz = false ∧ E.ρ id = some v ∧ vBlock v = some k
theorem Outs.nil {ids : List Nat} : Outs E st ids [] := ⟨List.nodup_nil, fun k hk => by simp at hk⟩
theorem nodupN_append : ∀ (l r : List Nat), nodupN (lcat l r) = true → nodupN l = true ∧ nodupN r = true ∧ ∀ x, x ∈ l → x ∉ r
  | [], r, h => ⟨rfl, h, fun x hx => by simp at hx⟩
  | a :: l, r, h => by
    simp only [lcat, nodupN, Bool.and_eq_true, Bool.not_eq_true'] at h
    obtain ⟨h1, h2⟩ := h
    obtain ⟨k1, k2, k3⟩ := nodupN_append l r h2
    have hm : a ∉ l ∧ a ∉ r := by
      constructor
      · intro hx
        rw [memN_true.2 (mem_lcat.2 (.inl hx))] at h1
        cases h1
      · intro hx
        rw [memN_true.2 (mem_lcat.2 (.inr hx))] at h1
        cases h1
    refine ⟨?_, k2, fun x hx => ?_⟩
    · simp only [nodupN, Bool.and_eq_true, Bool.not_eq_true']
      refine ⟨?_, k1⟩
      cases hq : memN a l with
      | false => rfl
      | true => exact absurd (memN_true.1 hq) hm.1
    · rcases List.mem_cons.1 hx with rfl | hx
      · exact hm.2
      · exact k3 x hx
theorem Outs.append (hR : Rel D B0 w0 E st act w) {i1 i2 : List Nat} {b1 b2 : List Nat} (hn : ∀ x, x ∈ i1 → x ∉ i2) (h1 : Outs E st i1 b1) (h2 : Outs E st i2 b2) : Outs E st (lcat i1 i2) (b1 ++ b2) := by
  refine ⟨List.nodup_append.2 ⟨h1.1, h2.1, fun x hx y hy he => ?_⟩, fun k hk => ?_⟩
  · subst he
    obtain ⟨id, g1, b, v, g2, g3, g4, g5⟩ := h1.2 x hx
    obtain ⟨id', f1, b', v', f2, f3, f4, f5⟩ := h2.2 x hy
    exact hR.apart id id' b b' v v' x g2 g3 f2 f3 (by rintro rfl; exact hn _ g1 f1) g4 f4 g5 f5
  · rcases List.mem_append.1 hk with hk | hk
    · obtain ⟨id, g1, rest⟩ := h1.2 k hk
      exact ⟨id, mem_lcat.2 (.inl g1), rest⟩
    · obtain ⟨id, g1, rest⟩ := h2.2 k hk
      exact ⟨id, mem_lcat.2 (.inr g1), rest⟩
mutual
theorem xres_rel (hR : Rel D B0 w0 E st act w) {l0 : List Nat} (hi : ∀ id, id ∈ l0 → ∀ b v k, hlook st.h id = some b → E.ρ id = some v → vBlock v = some k → E.S k) :
    ∀ (a : AVal) (u : Value), RelV E w a u → (∀ id, id ∈ winIds a → id ∈ l0) → nodupN (ownIds a) = true → ∃ bs, RelX E.S w B0 (xres (hlook st.h) a) u bs ∧ Outs E st (ownIds a) bs
  | .own id, u, h, hw, hn => by
    simp only [RelV] at h
    simp only [xres]
    split
    · rename_i e c hb
      obtain ⟨v, hv, hrow, hns, _⟩ := hR.heap _ _ hb
      rw [h] at hv
      cases hv
      refine ⟨(vBlock u).toList, ?_, ?_, fun k hk => ?_⟩
      · simp only [RelX]
        exact ⟨hrow, trivial⟩
      · cases vBlock u <;> simp
      · refine ⟨id, by simp [ownIds], _, u, hb, rfl, h, ?_⟩
        cases hvb : vBlock u with
        | none => rw [hvb] at hk; simp at hk
        | some k' => rw [hvb] at hk; simp at hk; rw [hk]
    · rename_i e c hb
      refine ⟨[], ?_, Outs.nil⟩
      obtain ⟨v, hv, _, _, hs⟩ := hR.heap _ _ hb
      have hc : contA (hlook st.h) (.own id) = some c := by simp only [contA, hb]
      have := contA_slC hR (fun _ _ h => h) (S' := E.S) (fun _ h => h) hc (u := u) (by simp only [RelV]; exact h) (fun id' hid' b' v' k hb' hv' hk => by
        simp only [rowIds, List.mem_singleton] at hid'
        subst hid'
        rw [hb] at hb'
        cases hb'
        rw [hv] at hv'
        cases hv'
        exact hs rfl k hk)
      exact relX_plain (by simp only [RelV, noEnv]; exact this) (fun _ h => by cases h) (fun _ h => by cases h)
    · exact ⟨[], relX_plain (by simp only [RelV]) (fun _ h => by cases h) (fun _ h => by cases h), Outs.nil⟩
  | .agg l, u, h, hw, hn => by
    simp only [RelV] at h
    obtain ⟨cs, h1, h2⟩ := h
    obtain ⟨bs, k1, k2⟩ := xresF_rel hR hi l cs h2 (by simpa only [winIds] using hw) (by simpa only [ownIds] using hn)
    exact ⟨bs, by simp only [xres, RelX]; exact ⟨cs, h1, k1⟩, by simpa only [ownIds] using k2⟩
  | .tuple l, u, h, hw, hn => by
    simp only [RelV] at h
    obtain ⟨vs, h1, h2⟩ := h
    obtain ⟨bs, k1, k2⟩ := xresL_rel hR hi l vs h2 (by simpa only [winIds] using hw) (by simpa only [ownIds] using hn)
    exact ⟨bs, by simp only [xres, RelX]; exact ⟨vs, h1, k1⟩, by simpa only [ownIds] using k2⟩
  | .v x, u, h, hw, hn => ⟨[], relX_plain (xport_rel hR (fun _ _ h => h) (fun _ h => h) (.v x) u h (fun id hid => by simp [rowIds] at hid)) (fun _ h => by cases h) (fun _ h => by cases h), Outs.nil⟩
  | .bot, u, h, hw, hn => ⟨[], relX_plain (xport_rel hR (fun _ _ h => h) (fun _ h => h) .bot u h (fun id hid => by simp [rowIds] at hid)) (fun _ h => by cases h) (fun _ h => by cases h), Outs.nil⟩
  | .sl c, u, h, hw, hn => ⟨[], relX_plain (xport_rel hR (fun _ _ h => h) (fun _ h => h) (.sl c) u h (fun id hid => by simp [rowIds] at hid)) (fun _ h => by cases h) (fun _ h => by cases h), Outs.nil⟩
  | .arr k n l, u, h, hw, hn => ⟨[], relX_plain (xport_rel hR (fun _ _ h => h) (fun _ h => h) (.arr k n l) u h (fun id hid => by simp [rowIds] at hid)) (fun _ h => by cases h) (fun _ h => by cases h), Outs.nil⟩
  | .win id off len, u, h, hw, hn => ⟨[], relX_plain (xport_rel hR (fun _ _ h => h) (fun _ h => h) (.win id off len) u h (fun id' hid b v k hb hv hk => hi id' (hw id' (by simpa [winIds, rowIds] using hid)) b v k hb hv hk)) (fun _ h => by simp only [xres, xport] at h; split at h <;> cases h) (fun _ h => by simp only [xres, xport] at h; split at h <;> cases h), Outs.nil⟩
  | .awin id off m lo len, u, h, hw, hn => ⟨[], relX_plain (xport_rel hR (fun _ _ h => h) (fun _ h => h) (.awin id off m lo len) u h (fun id' hid b v k hb hv hk => hi id' (hw id' (by simpa [winIds, rowIds] using hid)) b v k hb hv hk)) (fun _ h => by simp only [xres, xport] at h; split at h <;> cases h) (fun _ h => by simp only [xres, xport] at h; split at h <;> cases h), Outs.nil⟩
  | .ptr id off, u, h, hw, hn => ⟨[], relX_plain (by simp only [xres, xport, RelV]) (fun _ h => by cases h) (fun _ h => by cases h), Outs.nil⟩
  | .pel id sz i, u, h, hw, hn => ⟨[], relX_plain (by simp only [xres, xport, RelV]) (fun _ h => by cases h) (fun _ h => by cases h), Outs.nil⟩
  | .apel id off m i, u, h, hw, hn => ⟨[], relX_plain (by simp only [xres, xport, RelV]) (fun _ h => by cases h) (fun _ h => by cases h), Outs.nil⟩
  | .sta l, u, h, hw, hn => ⟨[], relX_plain (by simp only [xres, xport, RelV]) (fun _ h => by cases h) (fun _ h => by cases h), Outs.nil⟩
  | .fn f a b, u, h, hw, hn => ⟨[], relX_plain (xport_rel hR (fun _ _ h => h) (fun _ h => h) (.fn f a b) u h (fun id' hid b' v k hb hv hk => hi id' (hw id' (by simpa [winIds, rowIds] using hid)) b' v k hb hv hk)) (fun _ h => by cases h) (fun _ h => by cases h), Outs.nil⟩
  | .iface t x, u, h, hw, hn => ⟨[], relX_plain (xport_rel hR (fun _ _ h => h) (fun _ h => h) (.iface t x) u h (fun id' hid b' v k hb hv hk => hi id' (hw id' (by simpa [winIds, rowIds] using hid)) b' v k hb hv hk)) (fun _ h => by cases h) (fun _ h => by cases h), Outs.nil⟩
  | .fr e c, u, h, hw, hn => by simp only [RelV] at h
  | .glob g off, u, h, hw, hn => ⟨[], relX_plain (by simp only [xres, xport, RelV]) (fun _ h => by cases h) (fun _ h => by cases h), Outs.nil⟩
  | .gel g off m i, u, h, hw, hn => ⟨[], relX_plain (by simp only [xres, xport, RelV]) (fun _ h => by cases h) (fun _ h => by cases h), Outs.nil⟩
theorem xresL_rel (hR : Rel D B0 w0 E st act w) {l0 : List Nat} (hi : ∀ id, id ∈ l0 → ∀ b v k, hlook st.h id = some b → E.ρ id = some v → vBlock v = some k → E.S k) :
    ∀ (l : List AVal) (vs : List Value), RelVs E w l vs → (∀ id, id ∈ winIdsL l → id ∈ l0) → nodupN (ownIdsL l) = true → ∃ bs, RelXs E.S w B0 (xresL (hlook st.h) l) vs bs ∧ Outs E st (ownIdsL l) bs
  | [], vs, h, hw, hn => by
    simp only [RelVs] at h
    exact ⟨[], by simp only [xresL, RelXs]; exact ⟨h, trivial⟩, Outs.nil⟩
  | a :: r, vs, h, hw, hn => by
    simp only [RelVs] at h
    obtain ⟨u, us, rfl, h2, h3⟩ := h
    simp only [ownIdsL] at hn ⊢
    simp only [winIdsL] at hw
    obtain ⟨n1, n2, n3⟩ := nodupN_append _ _ hn
    obtain ⟨b1, k1, k2⟩ := xres_rel hR hi a u h2 (fun id hid => hw id (mem_lcat.2 (.inl hid))) n1
    obtain ⟨b2, j1, j2⟩ := xresL_rel hR hi r us h3 (fun id hid => hw id (mem_lcat.2 (.inr hid))) n2
    exact ⟨b1 ++ b2, by simp only [xresL, RelXs]; exact ⟨u, us, b1, b2, rfl, rfl, k1, j1⟩, k2.append hR n3 j2⟩
theorem xresF_rel (hR : Rel D B0 w0 E st act w) {l0 : List Nat} (hi : ∀ id, id ∈ l0 → ∀ b v k, hlook st.h id = some b → E.ρ id = some v → vBlock v = some k → E.S k) :
    ∀ (l : List AVal) (cs : List Value), RelF E w l cs → (∀ id, id ∈ winIdsL l → id ∈ l0) → nodupN (ownIdsL l) = true → ∃ bs, RelXF E.S w B0 (xresL (hlook st.h) l) cs bs ∧ Outs E st (ownIdsL l) bs
  | [], cs, h, hw, hn => by
    simp only [RelF] at h
    exact ⟨[], by simp only [xresL, RelXF]; exact ⟨h, trivial⟩, Outs.nil⟩
  | a :: r, cs, h, hw, hn => by
    simp only [ownIdsL] at hn ⊢
    simp only [winIdsL] at hw
    obtain ⟨n1, n2, n3⟩ := nodupN_append _ _ hn
    rcases relF_cons h with ⟨k', n, l, cs', rfl, h1, rfl, h3⟩ | ⟨ha, u, cs', rfl, h2, h3, h4⟩
    · obtain ⟨b2, j1, j2⟩ := xresF_rel hR hi r cs' h3 (fun id hid => hw id (mem_lcat.2 (.inr hid))) n2
      exact ⟨b2, by simp only [xresL, xres, xport, RelXF]; exact ⟨cs', h1, rfl, j1⟩, by simpa only [ownIds, lcat] using j2⟩
    · obtain ⟨b1, k1, k2⟩ := xres_rel hR hi a u h3 (fun id hid => hw id (mem_lcat.2 (.inl hid))) n1
      obtain ⟨b2, j1, j2⟩ := xresF_rel hR hi r cs' h4 (fun id hid => hw id (mem_lcat.2 (.inr hid))) n2
      refine ⟨b1 ++ b2, ?_, k2.append hR n3 j2⟩
      have hx : ∀ k n l, xres (hlook st.h) a ≠ .arr k n l := by
        intro k n l
        cases a <;> simp only [xres, xport] <;> first
          | exact ha _ _ _
          | (intro h; cases h; done)
          | (split <;> (intro h; cases h; done))
      simp only [xresL]
      revert k1 hx
      generalize xres (hlook st.h) a = y
      intro k1 hx
      cases y <;> simp only [RelXF] <;> first
        | exact absurd rfl (hx _ _ _)
        | exact ⟨u, cs', b1, b2, rfl, h2, rfl, k1, j1⟩
end
mutual
theorem sigV_rel {S : Nat → Prop} {B : Nat} : ∀ (s : Sh) (a : AVal) (u : Value) (bs : List Nat), RelX S w B a u bs → RelX S w B (sigV s a) u bs
  | .any, a, u, bs, h => by simpa only [sigV] using h
  | .sl c, a, u, bs, h => by
    simp only [sigV]
    rcases nilTo_eq c (.sl c) a with ⟨rfl, hc, e⟩ | e
    · rw [e]
      simp only [RelX, RelV] at h ⊢
      obtain ⟨rfl, rfl⟩ := h
      exact ⟨slC_nil hc, rfl⟩
    · rw [e]; exact h
  | .fr e c, a, u, bs, h => by
    simp only [sigV]
    rcases nilTo_eq c (.fr e c) a with ⟨rfl, hc, e⟩ | e
    · rw [e]
      simp only [RelX, RelV] at h ⊢
      obtain ⟨rfl, rfl⟩ := h
      exact ⟨⟨[], ownsRow_nil hc, fun j x h => by simp at h⟩, rfl⟩
    · rw [e]; exact h
  | .agg ss, a, u, bs, h => by
    cases a with
    | agg l =>
      simp only [sigV, RelX] at h ⊢
      obtain ⟨cs, h1, h2⟩ := h
      exact ⟨cs, h1, sigF_rel ss l cs bs h2⟩
    | _ => simpa only [sigV] using h
theorem sigA_rel {S : Nat → Prop} {B : Nat} : ∀ (sig : List Sh) (l : List AVal) (vs : List Value) (bs : List Nat), RelXs S w B l vs bs → RelXs S w B (sigA sig l) vs bs
  | [], [], vs, bs, h => by simpa only [sigA] using h
  | s :: ss, [], vs, bs, h => by simpa only [sigA] using h
  | [], a :: r, vs, bs, h => by simpa only [sigA] using h
  | s :: ss, a :: r, vs, bs, h => by
    simp only [sigA, RelXs] at h ⊢
    obtain ⟨u, us, b1, b2, h1, h2, h3, h4⟩ := h
    exact ⟨u, us, b1, b2, h1, h2, sigV_rel s a u b1 h3, sigA_rel ss r us b2 h4⟩
theorem sigF_rel {S : Nat → Prop} {B : Nat} : ∀ (sig : List Sh) (l : List AVal) (vs : List Value) (bs : List Nat), RelXF S w B l vs bs → RelXF S w B (sigA sig l) vs bs
  | [], [], vs, bs, h => by simpa only [sigA] using h
  | s :: ss, [], vs, bs, h => by simpa only [sigA] using h
  | [], a :: r, vs, bs, h => by simpa only [sigA] using h
  | s :: ss, a :: r, vs, bs, h => by
    simp only [sigA]
    rcases relXF_cons h with ⟨k, n, l, cs', rfl, h1, h2, h3⟩ | ⟨ha, u, cs', b1, b2, h1, h2, h3, h4, h5⟩
    · have e : sigV s (.arr k n l) = .arr k n l := by cases s <;> simp only [sigV, nilTo]
      rw [e]
      simp only [RelXF]
      exact ⟨cs', h1, h2, sigF_rel ss r cs' bs h3⟩
    · have hx : ∀ k n l, sigV s a ≠ .arr k n l := by
        intro k n l he
        cases s with
        | sl c => 
          simp only [sigV] at he
          rcases nilTo_eq c (.sl c) a with ⟨rfl, hc, e⟩ | e
          · rw [e] at he; cases he
          · rw [e] at he; exact ha _ _ _ he
        | fr t c => 
          simp only [sigV] at he
          rcases nilTo_eq c (.fr t c) a with ⟨rfl, hc, e⟩ | e
          · rw [e] at he; cases he
          · rw [e] at he; exact ha _ _ _ he
        | agg ss => cases a <;> simp only [sigV] at he <;> first | (cases he; done) | exact ha _ _ _ he
        | any => simp only [sigV] at he; exact ha _ _ _ he
      have k1 := sigV_rel s a u b1 h4
      have k2 := sigF_rel ss r cs' b2 h5
      generalize sigV s a = y at k1 hx ⊢
      cases y <;> simp only [RelXF] <;> first
        | exact absurd rfl (hx _ _ _)
        | exact ⟨u, cs', b1, b2, h1, h2, h3, k1, k2⟩
end
theorem cellV_ok (hR : Rel D B0 w0 E st act w) {t : Nat} {ty : TypeId} {a : AVal} (h : cellV D st t ty = some a) : ∃ u, RelV E w a u ∧ (do loadVar ty (← asAddr (act.tmps.getD t undef)) : Sem Value).run D.P w = .ok u w := by
  unfold cellV at h
  split at h
  · rename_i g sz hg hs
    split at h
    · rename_i mid hp
      obtain ⟨ad, cs, hu, hl, hsz, hc⟩ := placeOf_ok hp (fun _ _ h => h) hR (hR.tmps t)
      have lv : ∀ u, (if g then u = .agg cs.toArray else cs = [u]) → (do loadVar ty (← asAddr (act.tmps.getD t undef)) : Sem Value).run D.P w = .ok u w := by
        intro u hu'
        have := run_loadAt hg hs ad cs hsz hc u hu'
        rw [hu]
        simpa [Instr.loadAt, Instr.sureAddr, asAddr] using this
      cases g with
      | true =>
        simp only [cond_true] at h
        cases h
        exact ⟨_, relV_aggOf hl, lv _ (by simp)⟩
      | false =>
        simp only [cond_false] at h
        split at h
        · cases h
        · rename_i a' ha
          cases h
          obtain ⟨u, rfl, _, hv⟩ := relF_single hl (fun k n l e => ha k n l (by rw [e]))
          exact ⟨u, hv, lv u (by simp)⟩
        · cases h
    · cases h
  · cases h
theorem resV_ok (hR : Rel D B0 w0 E st act w) : ∀ (rs : List ResultVar) (l : List AVal), resV D st rs = some l → ∃ vs, RelVs E w l vs ∧
    ∀ (g : ResultVar → Sem Value), (∀ t, g (.tmp t) = pure (act.tmps.getD t undef)) → (∀ a t, g (.cell a t) = do loadVar t (← asAddr (act.tmps.getD a undef))) → (rs.mapM g).run D.P w = .ok vs w
  | [], l, h => by
    simp only [resV] at h
    cases h
    exact ⟨[], by simp only [RelVs], fun g hg _ => rfl⟩
  | .cell a t :: r, l, h => by
    simp only [resV] at h
    split at h
    · rename_i x l' hx hl'
      cases h
      obtain ⟨vs, h1, h2⟩ := resV_ok hR r l' hl'
      obtain ⟨u, h3, h4⟩ := cellV_ok hR hx
      refine ⟨u :: vs, by simp only [RelVs]; exact ⟨_, _, rfl, h3, h1⟩, fun g hg hg2 => ?_⟩
      simp only [List.mapM_cons, Sem.run_bind, hg2] at h4 ⊢
      rw [h4]
      simp only [Sem.run_pure, Result.andThen_ok, h2 g hg hg2]
    · cases h
  | .tmp t :: r, l, h => by
    simp only [resV] at h
    split at h
    · rename_i l' hl'
      cases h
      obtain ⟨vs, h1, h2⟩ := resV_ok hR r l' hl'
      refine ⟨act.tmps.getD t undef :: vs, by simp only [RelVs]; exact ⟨_, _, rfl, hR.tmps t, h1⟩, fun g hg hg2 => ?_⟩
      simp only [List.mapM_cons, hg, Sem.run_bind, Sem.run_pure, Result.andThen_ok, h2 g hg hg2]
    · cases h
theorem look_initF : ∀ (l : List AVal) (i t : Nat), look (initF i l) t = if i ≤ t then l.getD (t - i) .bot else .bot
  | [], i, t => by simp [initF, look]
  | a :: r, i, t => by
    simp only [initF, look, look_initF r (i + 1) t]
    cases hb : Nat.beq i t with
    | true =>
      have := Nat.eq_of_beq_eq_true hb
      subst this
      simp
    | false =>
      have := Nat.ne_of_beq_eq_false hb
      simp only [cond_false]
      by_cases h1 : i + 1 ≤ t
      · rw [if_pos h1, if_pos (by omega), show t - i = (t - (i + 1)) + 1 by omega]
        simp
      · rw [if_neg h1, if_neg (by omega)]
theorem relVs_getD : ∀ (l : List AVal) (vs : List Value), RelVs E w l vs → ∀ t, t < l.length → RelV E w (l.getD t .bot) (vs.getD t undef)
  | [], vs, h, t, ht => by simp at ht
  | a :: r, vs, h, t, ht => by
    simp only [RelVs] at h
    obtain ⟨u, us, rfl, h1, h2⟩ := h
    cases t with
    | zero => simpa using h1
    | succ t => simpa using relVs_getD r us h2 t (by simpa using ht)
end
theorem initF_ok {E : Env} {w : World} {args : List AVal} {cargs : List Value} {m : Nat} (hargs : RelVs E w args cargs) (hle : args.length ≤ m) (t : Nat) :
    RelV E w (look (initF 0 args) t) ((cargs.toArray ++ Array.replicate (m - cargs.toArray.size) undef).getD t undef) := by
  have hlen := relVs_len _ _ hargs
  simp only [look_initF, Nat.zero_le, if_true, Nat.sub_zero]
  by_cases ht : t < args.length
  · have := relVs_getD args cargs hargs t ht
    have e : (cargs.toArray ++ Array.replicate (m - cargs.toArray.size) undef).getD t undef = cargs.getD t undef := by
      rw [Array.getD_eq_getD_getElem?, Array.getElem?_append_left (by simp; omega)]
      simp
    rw [e]
    exact this
  · have e : args.getD t .bot = .bot := by
      rw [List.getD_eq_getElem?_getD, List.getElem?_eq_none (by omega)]
      rfl
    rw [e]
    exact relV_bot _
theorem tail_ok {D : Ctx} (hG : GOk D) (hG2 : GlobsPlain D) (hI : InlOk D) (hmix : D.P.follows .mixedOrders = true) {fn : Func} {c : Code} (hL : ∀ c', c' ∈ loopsOf c → LoopOk D c') (sig : List Sh) {st0 : ASt} {K : AVal → Option R} {r : R}
    (h : codeA D c st0 (fun ex st => match ex with
        | .exit _ => none
        | .normal => outA D sig fn st K
        | .ret => outA D sig fn st K) = some r) :
    ∃ y, K y = some r ∧ ∀ (S : Nat → Prop) (w : World) (act : Act) (w1 : World) (E : Env), Rel D w.heap.size ⟨w, S⟩ E st0 act w1 → Dom E st0.n →
      c.wp D.P (bodyPost D.P fn fun e w' => ∃ v Sn bs, e = .returned v ∧ Below w.heap.size w w' ∧ (∀ b, Sn b → S b ∨ (w.heap.size ≤ b ∧ b < w'.heap.size)) ∧ RelX Sn w' w.heap.size y v bs ∧ bs.Nodup ∧ ∀ b, b ∈ bs → ¬ Sn b) act w1 := by
  obtain ⟨ex, st, hK, hm, hcode⟩ := code_ok hG hG2 hI hmix c hL _ _ r h
  have hout : (ex = .normal ∨ ex = .ret) ∧ outA D sig fn st K = some r := by
    cases ex with
    | normal => exact ⟨.inl rfl, hK⟩
    | ret => exact ⟨.inr rfl, hK⟩
    | exit j => cases hK
  obtain ⟨hex, hout⟩ := hout
  unfold outA at hout
  split at hout
  · cases hout
  · rename_i l hl
    cases hnd : nodupN (ownIdsL l) with
    | false => rw [hnd] at hout; cases hout
    | true =>
      rw [hnd] at hout
      simp only [cond_true] at hout
      refine ⟨_, hout, fun S w act w1 E hRel hDom => ?_⟩
      refine wp_mono (hcode _ _ E act w1 hRel hDom) (fun e a w' hL => ?_)
      obtain ⟨rfl, E', hup, hR, hD⟩ := hL
      have hres : a.defers = [] ∧ ∃ v, (results fn a.tmps).run D.P w' = .ok v w' ∧ ∃ Sn bs, Below w.heap.size w w' ∧ (∀ b, Sn b → S b ∨ (w.heap.size ≤ b ∧ b < w'.heap.size)) ∧ RelX Sn w' w.heap.size (oneOf (sigA sig (xresL (hlook (lcat (freeze (hlook st.h) (lcat (winIdsL l) (giveIdsL sig l)) []) st.h)) l))) v bs ∧ bs.Nodup ∧ ∀ b, b ∈ bs → ¬ Sn b := by
        refine ⟨hR.defers, ?_⟩
        obtain ⟨vs, hvs, hrun⟩ := resV_ok hR _ _ hl
        obtain ⟨E1, hρ1, up1, hR1, hfS, _⟩ := rel_freeze (hl := hlook st.h) (fun _ _ h => h) (lcat (winIdsL l) (giveIdsL sig l)) hR
        have hvs1 := RelVs.mono up1 l vs hvs
        obtain ⟨bs, hx, ho⟩ := xresL_rel hR1 (l0 := lcat (winIdsL l) (giveIdsL sig l)) (fun id hid b v k hb hv hk => by
          have hfz := ‹∀ id b, hlook (lcat (freeze (hlook st.h) (lcat (winIdsL l) (giveIdsL sig l)) []) st.h) id = some b → ∃ b', hlook st.h id = some b' ∧ b'.b = b.b› id b hb
          obtain ⟨b', hb', _⟩ := hfz
          exact hfS id hid b' v k hb' (by rw [← hρ1]; exact hv) hk) l vs hvs1 (fun _ h => mem_lcat.2 (.inl h)) hnd
        have hx2 := sigA_rel sig _ _ _ hx
        refine ⟨if h : vs.toArray.size = 1 then vs.toArray[0] else .tuple vs.toArray, ?_, E1.S, bs, hR.below, fun b hb => ?_, ?_, ho.1, fun b hb hS => ?_⟩
        · unfold results
          rw [Array.mapM_eq_mapM_toList]
          simp only [Sem.run_bind, Sem.run_map]
          rw [hrun _ (fun _ => rfl) (fun _ _ => rfl)]
          rfl
        · rcases hR1.sNew b hb with h | h
          · exact .inl h
          · exact .inr ⟨h, hR1.sOld b hb⟩
        · generalize hy : sigA sig (xresL (hlook (lcat (freeze (hlook st.h) (lcat (winIdsL l) (giveIdsL sig l)) []) st.h)) l) = y at hx2
          have hly : y.length = vs.length := by
            have : ∀ (y : List AVal) (vs : List Value) (bs : List Nat), RelXs E1.S w' w.heap.size y vs bs → y.length = vs.length := by
              intro y
              induction y with
              | nil => intro vs bs h; simp only [RelXs] at h; rw [h.1]; rfl
              | cons a r ih =>
                intro vs bs h
                simp only [RelXs] at h
                obtain ⟨u, us, b1, b2, rfl, _, _, h⟩ := h
                simp [ih us b2 h]
            exact this y vs bs hx2
          match y, vs, hx2, hly with
          | [], [], hx2, _ => exact (by simp only [oneOf, RelX]; exact ⟨[], rfl, hx2⟩)
          | [a], [u], hx2, _ =>
            simp only [RelXs] at hx2
            obtain ⟨u', us, b1, b2, h1, h2, h3, h4, h5⟩ := hx2
            cases h1
            subst h5
            subst h2
            simpa [oneOf] using h3
          | a :: b :: r, u :: u' :: us, hx2, _ =>
            simp only [oneOf, RelX]
            exact ⟨_, by simp, hx2⟩
        · obtain ⟨id, _, b', v, h2, h3, h4, h5⟩ := ho.2 b hb
          obtain ⟨v', hv', _, hns, _⟩ := hR1.heap id b' h2
          rw [h4] at hv'
          cases hv'
          exact hns h3 b h5 hS
      obtain ⟨hdf, v, hrun, Sn, bs, k1, k2, k3, k4, k5⟩ := hres
      rcases hex with rfl | rfl
      · exact ⟨hdf, v, hrun, v, Sn, bs, rfl, k1, k2, k3, k4, k5⟩
      · exact ⟨hdf, v, hrun, v, Sn, bs, rfl, k1, k2, k3, k4, k5⟩
theorem body_sound {D : Ctx} (hG : GOk D) (hG2 : GlobsPlain D) (hI : InlOk D) (hmix : D.P.follows .mixedOrders = true) {f : FuncId} {fn : Func} (hf : D.P.funcs[f]? = some fn) (hL : ∀ c, fn.body = some c → ∀ c', c' ∈ loopsOf c → LoopOk D c') (sig : List Sh) :
    SoundAt D.P D.globs f (bodyA D fn sig) := by
  intro args K r h
  unfold bodyA at h
  split at h
  · cases h
  · rename_i c hb
    cases hle : Nat.ble args.length fn.ntmps with
    | false => rw [hle] at h; cases h
    | true =>
      rw [hle] at h
      simp only [cond_true] at h
      have hle := Nat.le_of_ble_eq_true hle
      obtain ⟨y, hK, hrest⟩ := tail_ok hG hG2 hI hmix (hL c hb) sig h
      refine ⟨y, hK, fun S w cargs hSw hgl hargs => ?_⟩
      have hlen := relVs_len _ _ hargs
      have hR0 : Rel D w.heap.size ⟨w, S⟩ (noEnv S) ⟨initF 0 args, [], 0, fn.ntmps⟩ { tmps := cargs.toArray ++ Array.replicate (fn.ntmps - cargs.toArray.size) undef, defers := [] } w := by
        refine ⟨Below.refl _ _, Nat.le_refl _, by simp; omega, rfl, fun t => ?_, fun id b hb => by simp [hlook] at hb, fun id id' b b' u u' k hb => by simp [hlook] at hb, hSw, fun b hb => .inl hb, fun id u hu => by simp [noEnv] at hu, hgl⟩
        simp only [look_initF, Nat.zero_le, if_true, Nat.sub_zero]
        by_cases ht : t < args.length
        · have := relVs_getD args cargs hargs t ht
          have e : (cargs.toArray ++ Array.replicate (fn.ntmps - cargs.toArray.size) undef).getD t undef = cargs.getD t undef := by
            rw [Array.getD_eq_getD_getElem?, Array.getElem?_append_left (by simp; omega)]
            simp
          rw [e]
          exact this
        · have e : args.getD t .bot = .bot := by
            rw [List.getD_eq_getElem?_getD, List.getElem?_eq_none (by omega)]
            rfl
          rw [e]
          exact relV_bot _
      exact calls_of_wp hf hb (hrest S w _ w (noEnv S) hR0 (fun id u hu => by simp [noEnv] at hu))
theorem Rel.swap {D : Ctx} {B0 : Nat} {w0 : W0} {E E' : Env} {f f' : List (Nat × AVal)} {h h' : Hp} {n n' m m' : Nat} {act act' : Act} {w w' : World} (hR : Rel D B0 w0 E ⟨f, h, n, m⟩ act w) (up : Up E E' w w')
    (hR' : Rel D B0 w0 E' ⟨f', h', n', m'⟩ act' w') : Rel D B0 w0 E' ⟨f, h', n', m⟩ act w' where
  below := hR'.below
  base := hR'.base
  size := hR.size
  defers := hR.defers
  tmps := fun t => RelV.mono up _ _ (hR.tmps t)
  heap := hR'.heap
  apart := hR'.apart
  sOld := hR'.sOld
  sNew := hR'.sNew
  form := hR'.form
  globs := hR'.globs
theorem bodyIn_ok {D : Ctx} (hG : GOk D) (hG2 : GlobsPlain D) (hI : InlOk D) (hmix : D.P.follows .mixedOrders = true) {f : FuncId} {fn : Func} (hf : D.P.funcs[f]? = some fn) (hL : ∀ c, fn.body = some c → ∀ c', c' ∈ loopsOf c → LoopOk D c') :
    RunOk D f (bodyIn D fn) := by
  intro args h n K r hb
  unfold bodyIn at hb
  split at hb
  · cases hb
  · rename_i c hc
    cases hle : Nat.ble args.length fn.ntmps with
    | false => rw [hle] at hb; cases hb
    | true =>
      rw [hle] at hb
      simp only [cond_true] at hb
      have hle := Nat.le_of_ble_eq_true hle
      obtain ⟨ex, st, hK, hm, hcode⟩ := code_ok hG hG2 hI hmix c (hL c hc) _ _ r hb
      have hout : (ex = .normal ∨ ex = .ret) ∧ bodyIn.outIn D fn st K = some r := by
        cases ex with
        | normal => exact ⟨.inl rfl, hK⟩
        | ret => exact ⟨.inr rfl, hK⟩
        | exit j => cases hK
      obtain ⟨hex, hout⟩ := hout
      unfold bodyIn.outIn at hout
      split at hout
      · cases hout
      · rename_i l hl
        refine ⟨_, _, _, hout, fun B0 w0 E f' m act w cargs hR hD hargs => ?_⟩
        have hlen := relVs_len _ _ hargs
        have hR0 : Rel D B0 w0 E ⟨initF 0 args, h, n, fn.ntmps⟩ { tmps := cargs.toArray ++ Array.replicate (fn.ntmps - cargs.toArray.size) undef, defers := [] } w :=
          { hR with
            size := by simp; omega
            defers := rfl
            tmps := initF_ok hargs hle }
        refine calls_of_wp hf hc (wp_mono (hcode _ _ E _ w hR0 hD) (fun e a w' hL => ?_))
        obtain ⟨rfl, E', hup, hR', hD'⟩ := hL
        obtain ⟨vs, hvs, hrun⟩ := resV_ok hR' _ _ hl
        have hres : a.defers = [] ∧ ∃ v, (results fn a.tmps).run D.P w' = .ok v w' ∧ RelV E' w' (oneOf l) v := by
          refine ⟨hR'.defers, if h : vs.toArray.size = 1 then vs.toArray[0] else .tuple vs.toArray, ?_, ?_⟩
          · unfold results
            rw [Array.mapM_eq_mapM_toList]
            simp only [Sem.run_bind, Sem.run_map]
            rw [hrun _ (fun _ => rfl) (fun _ _ => rfl)]
            rfl
          · have hly := relVs_len _ _ hvs
            match l, vs, hvs, hly with
            | [], [], hvs, _ => exact (by simp only [oneOf, RelV]; exact ⟨[], rfl, hvs⟩)
            | [x], [u], hvs, _ =>
              simp only [RelVs] at hvs
              obtain ⟨u', us, h1, h2, h3⟩ := hvs
              cases h1
              simpa [oneOf] using h2
            | x :: y :: r, u :: u' :: us, hvs, _ =>
              simp only [oneOf, RelV]
              exact ⟨_, by simp, hvs⟩
        obtain ⟨hdf, v, hrun, hv⟩ := hres
        rcases hex with rfl | rfl
        · exact ⟨hdf, v, hrun, v, E', rfl, hup, hR.swap hup hR', hD', hv⟩
        · exact ⟨hdf, v, hrun, v, E', rfl, hup, hR.swap hup hR', hD', hv⟩
end Go.Abs
end

section
namespace Go.Abs
open Go
structure Proved (P : Program) (globs : List (Nat × List AVal)) (f : FuncId) (s : Spec) : Prop where
  enters : Enters P f
  sound : SoundAt P globs f s
def GAll (P : Program) (globs : List (Nat × List AVal)) : List (Nat × Spec) → Prop
  | [] => True
  | (f, s) :: r => Proved P globs f s ∧ GAll P globs r
theorem gok_of {D : Ctx} (h : GAll D.P D.globs D.G) : GOk D := by
  intro f s hs
  have : ∀ (l : List (Nat × Spec)), GAll D.P D.globs l → assocS l f = some s → Enters D.P f ∧ SoundAt D.P D.globs f s := by
    intro l
    induction l with
    | nil => intro _ h; simp [assocS] at h
    | cons x r ih =>
      obtain ⟨k, s'⟩ := x
      intro hg h
      simp only [assocS] at h
      cases hb : Nat.beq k f with
      | true =>
        rw [hb] at h
        cases h
        have := Nat.eq_of_beq_eq_true hb
        subst this
        exact ⟨hg.1.enters, hg.1.sound⟩
      | false => rw [hb] at h; exact ih hg.2 h
  exact this D.G h hs
theorem globsPlain_nil {D : Ctx} (h : D.globs = []) : GlobsPlain D := by
  intro g l hg
  rw [h] at hg
  simp [assoc] at hg
def plainL : List AVal → Bool
  | [] => true
  | .arr .. :: r => plainL r
  | .v _ :: r => plainL r
  | _ :: _ => false
theorem plainL_rel {E E' : Env} {w : World} : ∀ (l : List AVal) (cs : List Value), plainL l = true → RelF E w l cs → RelF E' w l cs
  | [], cs, _, h => by simpa only [RelF] using h
  | a :: r, cs, hp, h => by
    rcases relF_cons h with ⟨k, n, l, cs', rfl, h1, rfl, h3⟩ | ⟨ha, u, cs', rfl, h2, h3, h4⟩
    · exact relF_arr h1 (plainL_rel r cs' hp h3)
    · cases a <;> simp only [plainL] at hp <;> first
        | exact absurd rfl (ha _ _ _)
        | (simp only [RelV] at h3; exact relF_one ha h2 (by simp only [RelV]; exact h3) (plainL_rel r cs' hp h4))
        | cases hp
def plainG : List (Nat × List AVal) → Bool
  | [] => true
  | (_, l) :: r => plainL l && plainG r
theorem globsPlain_of {D : Ctx} (h : plainG D.globs = true) : GlobsPlain D := by
  intro g l hg E E' w cs hr _
  refine plainL_rel l cs ?_ hr
  revert h hg
  generalize D.globs = gs
  induction gs with
  | nil => intro h hg; simp [assoc] at hg
  | cons x r ih =>
    obtain ⟨k, m⟩ := x
    intro h hg
    simp only [plainG, Bool.and_eq_true] at h
    simp only [assoc] at hg
    cases hb : Nat.beq k g with
    | true => rw [hb] at hg; cases hg; exact h.1
    | false => rw [hb] at hg; exact ih h.2 hg
def IAll (D : Ctx) : List (Nat × ISpec) → Prop
  | [] => True
  | (g, s) :: r => (Enters D.P g ∧ RunOk D g s) ∧ IAll D r
theorem inl_of {D : Ctx} (h : IAll D D.inl) : InlOk D := by
  intro g s hs
  have : ∀ (l : List (Nat × ISpec)), IAll D l → iassoc l g = some s → Enters D.P g ∧ RunOk D g s := by
    intro l
    induction l with
    | nil => intro _ h; simp [iassoc] at h
    | cons x r ih =>
      obtain ⟨k, s'⟩ := x
      intro hg h
      simp only [iassoc] at h
      cases hb : Nat.beq k g with
      | true =>
        rw [hb] at h
        cases h
        have := Nat.eq_of_beq_eq_true hb
        subst this
        exact hg.1
      | false => rw [hb] at h; exact ih hg.2 h
  exact this D.inl h hs
def loopAt (fn : Func) (id : Nat) : Code :=
  match fn.body with
  | some c => findC (loopsOf c) id
  | none => .skip
  where findC : List Code → Nat → Code
  | [], _ => .skip
  | c :: r, id => bif Nat.beq (firstRegion c) id then c else findC r id
theorem loopOk_of {D : Ctx} {c : Code} {s0 : LSpec} (h0 : lassoc D.loops (firstRegion c) = some s0) (h : ∀ st K r, s0 st K = some r → ∃ k, itA D c K k st = some r) : LoopOk D c := by
  intro s hs
  rw [h0] at hs
  cases hs
  exact h
def AllLoops (D : Ctx) : List Code → Prop
  | [] => True
  | c :: r => LoopOk D c ∧ AllLoops D r
theorem allLoops {D : Ctx} : ∀ (l : List Code), AllLoops D l → ∀ c, c ∈ l → LoopOk D c
  | [], _, c, h => by simp at h
  | a :: r, h, c, hc => by
    rcases List.mem_cons.1 hc with rfl | hc
    · exact h.1
    · exact allLoops r h.2 c hc
theorem proved_of {D : Ctx} {f : FuncId} {fn : Func} {c : Code} {s : Spec} (sig : List Sh) (hmix : D.P.follows .mixedOrders = true) (hgl : GlobsPlain D) (hf : D.P.funcs[f]? = some fn) (hn : (fn.name == "runtime.NumGoroutine") = false) (hb : fn.body = some c)
    (hG : GAll D.P D.globs D.G) (hI : IAll D D.inl) (hL : AllLoops D (loopsOf c)) (h : ∀ args K r, s args K = some r → bodyA D fn sig args K = some r) : Proved D.P D.globs f s := by
  refine ⟨⟨fn, hf, hn, by rw [hb]; rfl⟩, fun args K r hs => ?_⟩
  exact body_sound (gok_of hG) hgl (inl_of hI) hmix hf (fun c' hc' => by rw [hb] at hc'; cases hc'; exact allLoops _ hL) sig args K r (h args K r hs)
theorem run_of {D D' : Ctx} {f : FuncId} {fn : Func} {c : Code} {s : ISpec} (hP : D'.P = D.P) (hgg : D'.globs = D.globs) (hmix : D.P.follows .mixedOrders = true) (hgl : GlobsPlain D) (hf : D.P.funcs[f]? = some fn) (hn : (fn.name == "runtime.NumGoroutine") = false) (hb : fn.body = some c)
    (hG : GAll D.P D.globs D.G) (hI : IAll D D.inl) (hL : AllLoops D (loopsOf c)) (h : ∀ args hh n K r, s args hh n K = some r → bodyIn D fn args hh n K = some r) : Enters D'.P f ∧ RunOk D' f s := by
  refine ⟨⟨fn, by rw [hP]; exact hf, hn, by rw [hb]; rfl⟩, fun args hh n K r hs => ?_⟩
  have h1 := bodyIn_ok (gok_of hG) hgl (inl_of hI) hmix hf (fun c' hc' => by rw [hb] at hc'; cases hc'; exact allLoops _ hL) args hh n K r (h args hh n K r hs)
  obtain ⟨v, h', n', k1, k2⟩ := h1
  refine ⟨v, h', n', k1, fun B0 w0 E f m act w cargs hR hD ha => ?_⟩
  have hR' : Rel D B0 w0 E ⟨f, hh, n, m⟩ act w := { hR with globs := by rw [← hgg]; exact hR.globs }
  rw [hP]
  refine (k2 B0 w0 E f m act w cargs hR' hD ha).mono ?_
  rintro e w' ⟨u, E', rfl, g1, g2, g3, g4⟩
  exact ⟨u, E', rfl, g1, { g2 with globs := by rw [hgg]; exact g2.globs }, g3, g4⟩
theorem br_eq_some {b : Bool} {x y : Option R} {r : R} : br b x y = some r ↔ (b = true ∧ x = some r) ∨ (b = false ∧ y = some r) := by
  unfold br
  cases b <;> simp
@[simp] theorem br_tt {α : Type} (x y : α) : br true x y = x := by unfold br; rfl
@[simp] theorem br_ff {α : Type} (x y : α) : br false x y = y := by unfold br; rfl
theorem br_pos {α : Type} {p : Prop} [Decidable p] (h : p) (x y : α) : br (decide p) x y = x := by rw [decide_eq_true h]; exact br_tt x y
theorem br_neg {α : Type} {p : Prop} [Decidable p] (h : ¬ p) (x y : α) : br (decide p) x y = y := by rw [decide_eq_false h]; exact br_ff x y
def roundA (D : Ctx) (c : Code) (K : AExit → ASt → Option R) (next : ASt → Option R) (st : ASt) : Option R :=
  codeA D c st (knot (hintOf D.hints (firstRegion c)) (st.n - (hintOf D.hints (firstRegion c)).rows.length) (keysOf (dropN (hintOf D.hints (firstRegion c)).rows.length st.h)) K next)
theorem itA_succ (D : Ctx) (c : Code) (K : AExit → ASt → Option R) (k : Nat) (st : ASt) : itA D c K (k + 1) st = roundA D c K (itA D c K k) st := by
  unfold roundA
  show iter _ _ _ _ _ _ _ = _
  simp only [iter]
  congr 1
  funext ex st'
  cases ex with
  | normal =>
    simp only [knot]
    split
    · rename_i st1 hn
      obtain ⟨h1, h2⟩ := norm_back hn
      unfold itA
      rw [h1, h2]
    · rfl
  | exit id => rfl
  | ret => rfl
theorem itA_zero (D : Ctx) (c : Code) (K : AExit → ASt → Option R) (st : ASt) : itA D c K 0 st = roundA D c K (fun _ => none) st := rfl
theorem loop_ind {X : Type} {D : Ctx} {c : Code} {K : AExit → ASt → Option R} {r : R} (S : X → ASt) (P : X → Prop) (μ : X → Nat)
    (hstep : ∀ x, P x → ∀ next, (∀ x', P x' → μ x' < μ x → next (S x') = some r) → roundA D c K next (S x) = some r) {x : X} (hx : P x) : ∃ k, itA D c K k (S x) = some r := by
  have key : ∀ m x, μ x ≤ m → P x → itA D c K m (S x) = some r := by
    intro m
    induction m with
    | zero =>
      intro x hm hP
      rw [itA_zero]
      exact hstep x hP _ (fun x' _ h => by omega)
    | succ m ih =>
      intro x hm hP
      rw [itA_succ]
      exact hstep x hP _ (fun x' hx' h => ih x' (by omega) hx')
  exact ⟨μ x, key _ x (Nat.le_refl _) hx⟩
end Go.Abs
end

section
namespace Go.Abs
open Go
def lim : Nat := 1099511627776
theorem i64w {x : Int} (h : -9223372036854775808 ≤ x) (h2 : x ≤ 9223372036854775807) : IntKind.i64.wrap x = x := IntWalk.i64_in x ⟨h, h2⟩
theorem br_k {b c : Bool} (h : b = c) {α : Type} (x y : α) : br b x y = br c x y := by rw [h]
theorem drop_getD {α : Type} (l : List α) (d : α) (i : Nat) (h : i < l.length) : l.drop i = l.getD i d :: l.drop (i + 1) := by
  rw [List.drop_eq_getElem_cons h]
  simp [List.getD_eq_getElem?_getD, h]
theorem pre_some {p : Prop} [Decidable p] {x : Option R} {r : R} (h : br (decide p) x none = some r) : p ∧ x = some r := by
  obtain ⟨h1, h2⟩ := br_true h
  exact ⟨of_decide_eq_true h1, h2⟩
end Go.Abs
end

section
/- The pure side: loops as rounds that go on, with rounds enough for any loop of a program. -/
namespace Go.Abs
open Go
theorem FU_ex : ∃ n : Nat, n = 18446744073709551616 := ⟨_, rfl⟩
noncomputable def FU : Nat := Classical.choose FU_ex
theorem FU_eq : FU = 18446744073709551616 := Classical.choose_spec FU_ex
def lpN {X Y ρ : Type} (stp : X → (X → Option ρ) → (Y → Option ρ) → Option ρ) (K : Y → Option ρ) : Nat → X → Option ρ
  | 0, x => stp x (fun _ => none) K
  | n + 1, x => stp x (lpN stp K n) K
noncomputable def lp {X Y ρ : Type} (stp : X → (X → Option ρ) → (Y → Option ρ) → Option ρ) (x : X) (K : Y → Option ρ) : Option ρ := lpN stp K FU x
theorem lp_eq {X Y ρ : Type} {stp : X → (X → Option ρ) → (Y → Option ρ) → Option ρ} {K : Y → Option ρ} {r : Option ρ} (P : X → Prop) (μ : X → Nat)
    (step : ∀ x, P x → ∀ next, (∀ x', P x' → μ x' < μ x → next x' = r) → stp x next K = r) {x : X} (hx : P x) (hm : μ x ≤ 18446744073709551616) : lp stp x K = r := by
  have key : ∀ n x, P x → μ x ≤ n → lpN stp K n x = r := by
    intro n
    induction n with
    | zero => intro x hx hm; exact step x hx _ (fun x' _ h => by omega)
    | succ n ih => intro x hx hm; exact step x hx _ (fun x' hx' h => ih x' hx' (by omega))
  exact key FU x hx (by rw [FU_eq]; exact hm)
theorem shut_ex {α : Sort _} (a : α) : ∃ b, b = a := ⟨a, rfl⟩
noncomputable def shut {α : Sort _} (a : α) : α := Classical.choose (shut_ex a)
theorem shut_eq {α : Sort _} (a : α) : shut a = a := Classical.choose_spec (shut_ex a)
def vMap {X : Type} (o : Option X) (f : X → Option R) : Option R :=
  match o with
  | some x => f x
  | none => none
theorem loopOk_lp {D : Ctx} {c : Code} {X Y : Type} (S : X → ASt) {V : ASt → Option X} (hV : ∀ st x, V st = some x → st = S x)
    {stp : X → (X → Option R) → (Y → Option R) → Option R} {enc : (AExit → ASt → Option R) → Y → Option R}
    {L : LSpec} (h0 : lassoc D.loops (firstRegion c) = some L) (hL : ∀ st K, L st K = vMap (V st) (fun x => lp stp x (enc K)))
    (h : ∀ K next x, roundA D c K next (S x) = stp x (fun x' => next (S x')) (enc K)) : LoopOk D c := by
  refine loopOk_of h0 (fun st K r hr => ?_)
  rw [hL] at hr
  unfold vMap at hr
  split at hr
  · rename_i x hx
    rw [hV st x hx]
    refine ⟨FU, ?_⟩
    rw [← hr]
    have key : ∀ n x, itA D c K n (S x) = lpN stp (enc K) n x := by
      intro n
      induction n with
      | zero => intro x; rw [itA_zero, h]; rfl
      | succ n ih =>
        intro x
        rw [itA_succ, h]
        simp only [lpN]
        congr 1
        funext x'
        exact ih x'
    exact key FU x
  · cases hr
theorem proved_coer {P : Program} {globs : List (Nat × List AVal)} {f : FuncId} {s : Spec} (ss : List Sh) (h : Proved P globs f s) : Proved P globs f (fun args K => s (coerL ss args) K) :=
  ⟨h.enters, fun args K r hs => by
    obtain ⟨a, h1, h2⟩ := h.sound (coerL ss args) K r hs
    exact ⟨a, h1, fun S w cargs hS hg ha => h2 S w cargs hS hg (coerL_rel ss args cargs ha)⟩⟩
@[congr] theorem br_congr {α : Type} {b c : Bool} (h : b = c) (x y : α) : br b x y = br c x y := by rw [h]
end Go.Abs
end
