/-
  XmssRight, part 8: an interpreter of my own over abstract values, the pure functions, the walks and the plain law.
-/

import Derived.Test.YtjhnljhjpnjieaaDoorXmssRightG
import Derived.Laws.Sem
import Derived.KernelRfl
import Derived.IntWalk

section
namespace Go.Abs
open Go Go.RowKit
set_option linter.unusedVariables false
set_option linter.unusedSimpArgs false
section
variable {D : Ctx} {B0 : Nat} {w0 : W0} {E : Env} {st : ASt} {act : Act} {w : World}
theorem relX_plain {S : Nat → Prop} {B : Nat} {a : AVal} {u : Value} (h : RelV (noEnv S) w a u) (h1 : ∀ l, a ≠ .agg l) (h2 : ∀ l, a ≠ .tuple l) : RelX S w B a u [] := by
 cases a <;> simp only [RelX] <;> first
  | exact absurd rfl (h1 _)
  | exact absurd rfl (h2 _)
  | exact ⟨h, trivial⟩
  | exact ⟨h, rfl⟩
  | (simp only [RelV] at h; done)
def Outs (E : Env) (st : ASt) (ids : List Nat) (bs : List Nat) : Prop :=
 bs.Nodup ∧ ∀ k, k ∈ bs → ∃ id, id ∈ ids ∧ ∃ b v, hlook st.h id = some b ∧ b.frz = false ∧ E.ρ id = some v ∧ vBlock v = some k
theorem Outs.nil {ids : List Nat} : Outs E st ids [] := ⟨List.nodup_nil, fun k hk => by simp at hk⟩
theorem nodupN_append : ∀ (l r : List Nat), nodupN (lcat l r) = true → nodupN l = true ∧ nodupN r = true ∧ ∀ x, x ∈ l → x ∉ r
 | [], r, h => ⟨rfl, h, fun x hx => by simp at hx⟩
 | a :: l, r, h => by
  simp only [lcat, nodupN, Bool.and_eq_true, Bool.not_eq_true'] at h
  obtain ⟨h1, h2⟩ := h
  obtain ⟨k1, k2, k3⟩ := nodupN_append l r h2
  have hm : a ∉ l ∧ a ∉ r := by
   constructor
   ·intro hx
    rw [memN_true.2 (mem_lcat.2 (.inl hx))] at h1
    cases h1
   ·intro hx
    rw [memN_true.2 (mem_lcat.2 (.inr hx))] at h1
    cases h1
  refine ⟨?_, k2, fun x hx => ?_⟩
  ·simp only [nodupN, Bool.and_eq_true, Bool.not_eq_true']
   refine ⟨?_, k1⟩
   cases hq : memN a l with
   | false => rfl
   | true => exact absurd (memN_true.1 hq) hm.1
  ·rcases List.mem_cons.1 hx with rfl | hx
   ·exact hm.2
   ·exact k3 x hx
theorem Outs.append (hR : Rel D B0 w0 E st act w) {i1 i2 : List Nat} {b1 b2 : List Nat} (hn : ∀ x, x ∈ i1 → x ∉ i2) (h1 : Outs E st i1 b1) (h2 : Outs E st i2 b2) : Outs E st (lcat i1 i2) (b1 ++ b2) := by
 refine ⟨List.nodup_append.2 ⟨h1.1, h2.1, fun x hx y hy he => ?_⟩, fun k hk => ?_⟩
 ·subst he
  obtain ⟨id, g1, b, v, g2, g3, g4, g5⟩ := h1.2 x hx
  obtain ⟨id', f1, b', v', f2, f3, f4, f5⟩ := h2.2 x hy
  exact hR.apart id id' b b' v v' x g2 g3 f2 f3 (by rintro rfl; exact hn _ g1 f1) g4 f4 g5 f5
 ·rcases List.mem_append.1 hk with hk | hk
  ·obtain ⟨id, g1, rest⟩ := h1.2 k hk
   exact ⟨id, mem_lcat.2 (.inl g1), rest⟩
  ·obtain ⟨id, g1, rest⟩ := h2.2 k hk
   exact ⟨id, mem_lcat.2 (.inr g1), rest⟩
mutual
theorem xres_rel (hR : Rel D B0 w0 E st act w) {l0 : List Nat} (hi : ∀ id, id ∈ l0 → ∀ b v k, hlook st.h id = some b → E.ρ id = some v → vBlock v = some k → E.S k) :
    ∀ (a : AVal) (u : Value), RelV E w a u → (∀ id, id ∈ winIds a → id ∈ l0) → nodupN (ownIds a) = true → ∃ bs, RelX E.S w B0 (xres (hlook st.h) a) u bs ∧ Outs E st (ownIds a) bs
 | .own id, u, h, hw, hn => by
  simp only [RelV] at h
  simp only [xres]
  split
  ·rename_i e c hb
   obtain ⟨v, hv, hrow, hns, _⟩ := hR.heap _ _ hb
   rw [h] at hv
   cases hv
   refine ⟨(vBlock u).toList, ?_, ?_, fun k hk => ?_⟩
   ·simp only [RelX]
    exact ⟨hrow, trivial⟩
   ·cases vBlock u <;> simp
   ·refine ⟨id, by simp [ownIds], _, u, hb, rfl, h, ?_⟩
    cases hvb : vBlock u with
    | none => rw [hvb] at hk; simp at hk
    | some k' => rw [hvb] at hk; simp at hk; rw [hk]
  ·rename_i e c hb
   refine ⟨[], ?_, Outs.nil⟩
   obtain ⟨v, hv, _, _, hs⟩ := hR.heap _ _ hb
   have hc : contA (hlook st.h) (.own id) = some c := by simp only [contA, hb]
   have := contA_slC hR (fun _ _ h => h) (S' := E.S) (fun _ h => h) hc (u := u) (by simp only [RelV]; exact h) (fun id' hid' b' v' k hb' hv' hk => by
    simp only [rowIds, List.mem_singleton] at hid'
    subst hid'
    rw [hb] at hb'
    cases hb'
    rw [hv] at hv'
    cases hv'
    exact hs rfl k hk)
   exact relX_plain (by simp only [RelV, noEnv]; exact this) (fun _ h => by cases h) (fun _ h => by cases h)
  ·exact ⟨[], relX_plain (by simp only [RelV]) (fun _ h => by cases h) (fun _ h => by cases h), Outs.nil⟩
 | .agg l, u, h, hw, hn => by
  simp only [RelV] at h
  obtain ⟨cs, h1, h2⟩ := h
  obtain ⟨bs, k1, k2⟩ := xresF_rel hR hi l cs h2 (by simpa only [winIds] using hw) (by simpa only [ownIds] using hn)
  exact ⟨bs, by simp only [xres, RelX]; exact ⟨cs, h1, k1⟩, by simpa only [ownIds] using k2⟩
 | .tuple l, u, h, hw, hn => by
  simp only [RelV] at h
  obtain ⟨vs, h1, h2⟩ := h
  obtain ⟨bs, k1, k2⟩ := xresL_rel hR hi l vs h2 (by simpa only [winIds] using hw) (by simpa only [ownIds] using hn)
  exact ⟨bs, by simp only [xres, RelX]; exact ⟨vs, h1, k1⟩, by simpa only [ownIds] using k2⟩
 | .v x, u, h, hw, hn => ⟨[], relX_plain (xport_rel hR (fun _ _ h => h) (fun _ h => h) (.v x) u h (fun id hid => by simp [rowIds] at hid)) (fun _ h => by cases h) (fun _ h => by cases h), Outs.nil⟩
 | .bot, u, h, hw, hn => ⟨[], relX_plain (xport_rel hR (fun _ _ h => h) (fun _ h => h) .bot u h (fun id hid => by simp [rowIds] at hid)) (fun _ h => by cases h) (fun _ h => by cases h), Outs.nil⟩
 | .sl c, u, h, hw, hn => ⟨[], relX_plain (xport_rel hR (fun _ _ h => h) (fun _ h => h) (.sl c) u h (fun id hid => by simp [rowIds] at hid)) (fun _ h => by cases h) (fun _ h => by cases h), Outs.nil⟩
 | .arr k n l, u, h, hw, hn => ⟨[], relX_plain (xport_rel hR (fun _ _ h => h) (fun _ h => h) (.arr k n l) u h (fun id hid => by simp [rowIds] at hid)) (fun _ h => by cases h) (fun _ h => by cases h), Outs.nil⟩
 | .win id off len, u, h, hw, hn => ⟨[], relX_plain (xport_rel hR (fun _ _ h => h) (fun _ h => h) (.win id off len) u h (fun id' hid b v k hb hv hk => hi id' (hw id' (by simpa [winIds, rowIds] using hid)) b v k hb hv hk)) (fun _ h => by simp only [xres, xport] at h; split at h <;> cases h) (fun _ h => by simp only [xres, xport] at h; split at h <;> cases h), Outs.nil⟩
 | .awin id off m lo len, u, h, hw, hn => ⟨[], relX_plain (xport_rel hR (fun _ _ h => h) (fun _ h => h) (.awin id off m lo len) u h (fun id' hid b v k hb hv hk => hi id' (hw id' (by simpa [winIds, rowIds] using hid)) b v k hb hv hk)) (fun _ h => by simp only [xres, xport] at h; split at h <;> cases h) (fun _ h => by simp only [xres, xport] at h; split at h <;> cases h), Outs.nil⟩
 | .ptr id off, u, h, hw, hn => ⟨[], relX_plain (by simp only [xres, xport, RelV]) (fun _ h => by cases h) (fun _ h => by cases h), Outs.nil⟩
 | .pel id sz i, u, h, hw, hn => ⟨[], relX_plain (by simp only [xres, xport, RelV]) (fun _ h => by cases h) (fun _ h => by cases h), Outs.nil⟩
 | .apel id off m i, u, h, hw, hn => ⟨[], relX_plain (by simp only [xres, xport, RelV]) (fun _ h => by cases h) (fun _ h => by cases h), Outs.nil⟩
 | .sta l, u, h, hw, hn => ⟨[], relX_plain (xport_rel hR (fun _ _ h => h) (fun _ h => h) (.sta l) u h (fun id hid => by simp [rowIds] at hid)) (fun _ h => by simp only [xres, xport] at h; cases hb : bndL 0 l <;> rw [hb] at h <;> cases h) (fun _ h => by simp only [xres, xport] at h; cases hb : bndL 0 l <;> rw [hb] at h <;> cases h), Outs.nil⟩
 | .fn f a b, u, h, hw, hn => ⟨[], relX_plain (xport_rel hR (fun _ _ h => h) (fun _ h => h) (.fn f a b) u h (fun id' hid b' v k hb hv hk => hi id' (hw id' (by simpa [winIds, rowIds] using hid)) b' v k hb hv hk)) (fun _ h => by cases h) (fun _ h => by cases h), Outs.nil⟩
 | .iface t x, u, h, hw, hn => ⟨[], relX_plain (xport_rel hR (fun _ _ h => h) (fun _ h => h) (.iface t x) u h (fun id' hid b' v k hb hv hk => hi id' (hw id' (by simpa [winIds, rowIds] using hid)) b' v k hb hv hk)) (fun _ h => by cases h) (fun _ h => by cases h), Outs.nil⟩
 | .fr e c, u, h, hw, hn => by simp only [RelV] at h
 | .glob g off, u, h, hw, hn => ⟨[], relX_plain (by simp only [xres, xport, RelV]) (fun _ h => by cases h) (fun _ h => by cases h), Outs.nil⟩
 | .gel g off m i, u, h, hw, hn => ⟨[], relX_plain (by simp only [xres, xport, RelV]) (fun _ h => by cases h) (fun _ h => by cases h), Outs.nil⟩
 | .yld id ts vs, u, h, hw, hn => ⟨[], relX_plain (by simp only [xres, xport, RelV]) (fun _ h => by cases h) (fun _ h => by cases h), Outs.nil⟩
 | .alt t f fa fc g ga gc, u, h, hw, hn => ⟨[], relX_plain (xport_rel hR (fun _ _ h => h) (fun _ h => h) (.alt t f fa fc g ga gc) u h (fun id' hid b' v k hb hv hk => hi id' (hw id' (by simpa [winIds, rowIds] using hid)) b' v k hb hv hk)) (fun _ h => by cases h) (fun _ h => by cases h), Outs.nil⟩
theorem xresL_rel (hR : Rel D B0 w0 E st act w) {l0 : List Nat} (hi : ∀ id, id ∈ l0 → ∀ b v k, hlook st.h id = some b → E.ρ id = some v → vBlock v = some k → E.S k) :
    ∀ (l : List AVal) (vs : List Value), RelVs E w l vs → (∀ id, id ∈ winIdsL l → id ∈ l0) → nodupN (ownIdsL l) = true → ∃ bs, RelXs E.S w B0 (xresL (hlook st.h) l) vs bs ∧ Outs E st (ownIdsL l) bs
 | [], vs, h, hw, hn => by
  simp only [RelVs] at h
  exact ⟨[], by simp only [xresL, RelXs]; exact ⟨h, trivial⟩, Outs.nil⟩
 | a :: r, vs, h, hw, hn => by
  simp only [RelVs] at h
  obtain ⟨u, us, rfl, h2, h3⟩ := h
  simp only [ownIdsL] at hn ⊢
  simp only [winIdsL] at hw
  obtain ⟨n1, n2, n3⟩ := nodupN_append _ _ hn
  obtain ⟨b1, k1, k2⟩ := xres_rel hR hi a u h2 (fun id hid => hw id (mem_lcat.2 (.inl hid))) n1
  obtain ⟨b2, j1, j2⟩ := xresL_rel hR hi r us h3 (fun id hid => hw id (mem_lcat.2 (.inr hid))) n2
  exact ⟨b1 ++ b2, by simp only [xresL, RelXs]; exact ⟨u, us, b1, b2, rfl, rfl, k1, j1⟩, k2.append hR n3 j2⟩
theorem xresF_rel (hR : Rel D B0 w0 E st act w) {l0 : List Nat} (hi : ∀ id, id ∈ l0 → ∀ b v k, hlook st.h id = some b → E.ρ id = some v → vBlock v = some k → E.S k) :
    ∀ (l : List AVal) (cs : List Value), RelF E w l cs → (∀ id, id ∈ winIdsL l → id ∈ l0) → nodupN (ownIdsL l) = true → ∃ bs, RelXF E.S w B0 (xresL (hlook st.h) l) cs bs ∧ Outs E st (ownIdsL l) bs
 | [], cs, h, hw, hn => by
  simp only [RelF] at h
  exact ⟨[], by simp only [xresL, RelXF]; exact ⟨h, trivial⟩, Outs.nil⟩
 | a :: r, cs, h, hw, hn => by
  simp only [ownIdsL] at hn ⊢
  simp only [winIdsL] at hw
  obtain ⟨n1, n2, n3⟩ := nodupN_append _ _ hn
  rcases relF_cons h with ⟨k', n, l, cs', rfl, h1, rfl, h3⟩ | ⟨ha, u, cs', rfl, h2, h3, h4⟩
  ·obtain ⟨b2, j1, j2⟩ := xresF_rel hR hi r cs' h3 (fun id hid => hw id (mem_lcat.2 (.inr hid))) n2
   exact ⟨b2, by simp only [xresL, xres, xport, RelXF]; exact ⟨cs', h1, rfl, j1⟩, by simpa only [ownIds, lcat] using j2⟩
  ·obtain ⟨b1, k1, k2⟩ := xres_rel hR hi a u h3 (fun id hid => hw id (mem_lcat.2 (.inl hid))) n1
   obtain ⟨b2, j1, j2⟩ := xresF_rel hR hi r cs' h4 (fun id hid => hw id (mem_lcat.2 (.inr hid))) n2
   refine ⟨b1 ++ b2, ?_, k2.append hR n3 j2⟩
   have hx : ∀ k n l, xres (hlook st.h) a ≠ .arr k n l := by
    intro k n l
    cases a <;> simp only [xres, xport] <;> first
     | exact ha _ _ _
     | (intro h; cases h; done)
     | (rename_i z; cases bndL 0 z <;> (intro h; cases h; done))
     | (split <;> (intro h; cases h; done))
   simp only [xresL]
   revert k1 hx
   generalize xres (hlook st.h) a = y
   intro k1 hx
   cases y <;> simp only [RelXF] <;> first
    | exact absurd rfl (hx _ _ _)
    | exact ⟨u, cs', b1, b2, rfl, h2, rfl, k1, j1⟩
end
mutual
theorem sigV_rel {S : Nat → Prop} {B : Nat} : ∀ (s : Sh) (a : AVal) (u : Value) (bs : List Nat), RelX S w B a u bs → RelX S w B (sigV s a) u bs
 | .any, a, u, bs, h => by simpa only [sigV] using h
 | .alt f fa fc g ga gc, a, u, bs, h => by
  simp only [sigV]
  rcases altTo_eq f fa fc g ga gc a with ⟨rfl, e⟩ | ⟨x, y, rfl, e⟩ | ⟨x, y, rfl, e⟩ | e
  ·rw [e]; simp only [RelX] at h ⊢; exact ⟨relV_alt.2 (.inl ⟨rfl, by simpa only [RelV] using h.1⟩), h.2⟩
  ·rw [e]; simp only [RelX] at h ⊢; exact ⟨relV_alt.2 (.inr (.inl ⟨rfl, h.1⟩)), h.2⟩
  ·rw [e]; simp only [RelX] at h ⊢; exact ⟨relV_alt.2 (.inr (.inr ⟨rfl, h.1⟩)), h.2⟩
  ·rw [e]; exact h
 | .sl c, a, u, bs, h => by
  simp only [sigV]
  rcases nilTo_eq c (.sl c) a with ⟨rfl, hc, e⟩ | e
  ·rw [e]
   simp only [RelX, RelV] at h ⊢
   obtain ⟨rfl, rfl⟩ := h
   exact ⟨slC_nil hc, rfl⟩
  ·rw [e]; exact h
 | .fr e c, a, u, bs, h => by
  simp only [sigV]
  rcases nilTo_eq c (.fr e c) a with ⟨rfl, hc, e⟩ | e
  ·rw [e]
   simp only [RelX, RelV] at h ⊢
   obtain ⟨rfl, rfl⟩ := h
   exact ⟨⟨[], ownsRow_nil hc, fun j x h => by simp at h⟩, rfl⟩
  ·rw [e]; exact h
 | .agg ss, a, u, bs, h => by
  cases a with
  | agg l =>
   simp only [sigV, RelX] at h ⊢
   obtain ⟨cs, h1, h2⟩ := h
   exact ⟨cs, h1, sigF_rel ss l cs bs h2⟩
  | fn f a c =>
   simp only [sigV, RelX, RelV] at h ⊢
   obtain ⟨⟨x, y, h1, h2, h3⟩, h4⟩ := h
   exact ⟨⟨x, y, h1, h2, coerL_rel ss c y h3⟩, h4⟩
  | _ => simpa only [sigV] using h
theorem sigA_rel {S : Nat → Prop} {B : Nat} : ∀ (sig : List Sh) (l : List AVal) (vs : List Value) (bs : List Nat), RelXs S w B l vs bs → RelXs S w B (sigA sig l) vs bs
 | [], [], vs, bs, h => by simpa only [sigA] using h
 | s :: ss, [], vs, bs, h => by simpa only [sigA] using h
 | [], a :: r, vs, bs, h => by simpa only [sigA] using h
 | s :: ss, a :: r, vs, bs, h => by
  simp only [sigA, RelXs] at h ⊢
  obtain ⟨u, us, b1, b2, h1, h2, h3, h4⟩ := h
  exact ⟨u, us, b1, b2, h1, h2, sigV_rel s a u b1 h3, sigA_rel ss r us b2 h4⟩
theorem sigF_rel {S : Nat → Prop} {B : Nat} : ∀ (sig : List Sh) (l : List AVal) (vs : List Value) (bs : List Nat), RelXF S w B l vs bs → RelXF S w B (sigA sig l) vs bs
 | [], [], vs, bs, h => by simpa only [sigA] using h
 | s :: ss, [], vs, bs, h => by simpa only [sigA] using h
 | [], a :: r, vs, bs, h => by simpa only [sigA] using h
 | s :: ss, a :: r, vs, bs, h => by
  simp only [sigA]
  rcases relXF_cons h with ⟨k, n, l, cs', rfl, h1, h2, h3⟩ | ⟨ha, u, cs', b1, b2, h1, h2, h3, h4, h5⟩
  ·have e : sigV s (.arr k n l) = .arr k n l := by cases s <;> simp only [sigV, nilTo, altTo]
   rw [e]
   simp only [RelXF]
   exact ⟨cs', h1, h2, sigF_rel ss r cs' bs h3⟩
  ·have hx : ∀ k n l, sigV s a ≠ .arr k n l := by
     intro k n l he
     cases s with
     | sl c => 
      simp only [sigV] at he
      rcases nilTo_eq c (.sl c) a with ⟨rfl, hc, e⟩ | e
      ·rw [e] at he; cases he
      ·rw [e] at he; exact ha _ _ _ he
     | fr t c => 
      simp only [sigV] at he
      rcases nilTo_eq c (.fr t c) a with ⟨rfl, hc, e⟩ | e
      ·rw [e] at he; cases he
      ·rw [e] at he; exact ha _ _ _ he
     | agg ss => cases a <;> simp only [sigV] at he <;> first | (cases he; done) | exact ha _ _ _ he
     | any => simp only [sigV] at he; exact ha _ _ _ he
     | alt f fa fc g ga gc => simp only [sigV] at he; exact altTo_arr ha _ _ _ he
   have k1 := sigV_rel s a u b1 h4
   have k2 := sigF_rel ss r cs' b2 h5
   generalize sigV s a = y at k1 hx ⊢
   cases y <;> simp only [RelXF] <;> first
    | exact absurd rfl (hx _ _ _)
    | exact ⟨u, cs', b1, b2, h1, h2, h3, k1, k2⟩
end
theorem cellV_ok (hR : Rel D B0 w0 E st act w) {t : Nat} {ty : TypeId} {a : AVal} (h : cellV D st t ty = some a) : ∃ u, RelV E w a u ∧ (do loadVar ty (← asAddr (act.tmps.getD t undef)) : Sem Value).run D.P w = .ok u w := by
 unfold cellV at h
 split at h
 ·rename_i g sz hg hs
  split at h
  ·rename_i mid hp
   obtain ⟨ad, cs, hu, hl, hsz, hc⟩ := placeOf_ok hp (fun _ _ h => h) hR (hR.tmps t)
   have lv : ∀ u, (if g then u = .agg cs.toArray else cs = [u]) → (do loadVar ty (← asAddr (act.tmps.getD t undef)) : Sem Value).run D.P w = .ok u w := by
    intro u hu'
    have := run_loadAt hg hs ad cs hsz hc u hu'
    rw [hu]
    simpa [Instr.loadAt, Instr.sureAddr, asAddr] using this
   cases g with
   | true =>
    simp only [cond_true] at h
    cases h
    exact ⟨_, relV_aggOf hl, lv _ (by simp)⟩
   | false =>
    simp only [cond_false] at h
    split at h
    ·cases h
    ·rename_i a' ha
     cases h
     obtain ⟨u, rfl, _, hv⟩ := relF_single hl (fun k n l e => ha k n l (by rw [e]))
     exact ⟨u, hv, lv u (by simp)⟩
    ·cases h
  ·cases h
 ·cases h
theorem resV_ok (hR : Rel D B0 w0 E st act w) : ∀ (rs : List ResultVar) (l : List AVal), resV D st rs = some l → ∃ vs, RelVs E w l vs ∧
    ∀ (g : ResultVar → Sem Value), (∀ t, g (.tmp t) = pure (act.tmps.getD t undef)) → (∀ a t, g (.cell a t) = do loadVar t (← asAddr (act.tmps.getD a undef))) → (rs.mapM g).run D.P w = .ok vs w
 | [], l, h => by
  simp only [resV] at h
  cases h
  exact ⟨[], by simp only [RelVs], fun g hg _ => rfl⟩
 | .cell a t :: r, l, h => by
  simp only [resV] at h
  split at h
  ·rename_i x l' hx hl'
   cases h
   obtain ⟨vs, h1, h2⟩ := resV_ok hR r l' hl'
   obtain ⟨u, h3, h4⟩ := cellV_ok hR hx
   refine ⟨u :: vs, by simp only [RelVs]; exact ⟨_, _, rfl, h3, h1⟩, fun g hg hg2 => ?_⟩
   simp only [List.mapM_cons, Sem.run_bind, hg2] at h4 ⊢
   rw [h4]
   simp only [Sem.run_pure, Result.andThen_ok, h2 g hg hg2]
  ·cases h
 | .tmp t :: r, l, h => by
  simp only [resV] at h
  split at h
  ·rename_i l' hl'
   cases h
   obtain ⟨vs, h1, h2⟩ := resV_ok hR r l' hl'
   refine ⟨act.tmps.getD t undef :: vs, by simp only [RelVs]; exact ⟨_, _, rfl, hR.tmps t, h1⟩, fun g hg hg2 => ?_⟩
   simp only [List.mapM_cons, hg, Sem.run_bind, Sem.run_pure, Result.andThen_ok, h2 g hg hg2]
  ·cases h
theorem look_initF : ∀ (l : List AVal) (i t : Nat), look (initF i l) t = if i ≤ t then l.getD (t - i) .bot else .bot
 | [], i, t => by simp [initF, look]
 | a :: r, i, t => by
  simp only [initF, look, look_initF r (i + 1) t]
  cases hb : Nat.beq i t with
  | true =>
   have := Nat.eq_of_beq_eq_true hb
   subst this
   simp
  | false =>
   have := Nat.ne_of_beq_eq_false hb
   simp only [cond_false]
   by_cases h1 : i + 1 ≤ t
   ·rw [if_pos h1, if_pos (by omega), show t - i = (t - (i + 1)) + 1 by omega]
    simp
   ·rw [if_neg h1, if_neg (by omega)]
theorem relVs_getD : ∀ (l : List AVal) (vs : List Value), RelVs E w l vs → ∀ t, t < l.length → RelV E w (l.getD t .bot) (vs.getD t undef)
 | [], vs, h, t, ht => by simp at ht
 | a :: r, vs, h, t, ht => by
  simp only [RelVs] at h
  obtain ⟨u, us, rfl, h1, h2⟩ := h
  cases t with
  | zero => simpa using h1
  | succ t => simpa using relVs_getD r us h2 t (by simpa using ht)
end
theorem initF_ok {E : Env} {w : World} {args : List AVal} {cargs : List Value} {m : Nat} (hargs : RelVs E w args cargs) (hle : args.length ≤ m) (t : Nat) :
    RelV E w (look (initF 0 args) t) ((cargs.toArray ++ Array.replicate (m - cargs.toArray.size) undef).getD t undef) := by
 have hlen := relVs_len _ _ hargs
 simp only [look_initF, Nat.zero_le, if_true, Nat.sub_zero]
 by_cases ht : t < args.length
 ·have := relVs_getD args cargs hargs t ht
  have e : (cargs.toArray ++ Array.replicate (m - cargs.toArray.size) undef).getD t undef = cargs.getD t undef := by
   rw [Array.getD_eq_getD_getElem?, Array.getElem?_append_left (by simp; omega)]
   simp
  rw [e]
  exact this
 ·have e : args.getD t .bot = .bot := by
    rw [List.getD_eq_getElem?_getD, List.getElem?_eq_none (by omega)]
    rfl
  rw [e]
  exact relV_bot _
theorem shut_ok {D : Ctx} (hG2 : GlobsPlain D) {B0 : Nat} {w0 : W0} {E : Env} {st : ASt} {fn : Func} {tmps : Array Value} {R : Ending → World → Prop}
    (hend : ∀ w', Rel D B0 w0 E st ⟨tmps, []⟩ w' → ∃ v, (results fn tmps).run D.P w' = .ok v w' ∧ R (.returned v) w') :
    ∀ (ds : List Deferred) (w : World), Rel D B0 w0 E st ⟨tmps, ds⟩ w → LeavesInM (FR none) 0 D.P fn tmps R ds .returning w
 | [], w, hR => hend w hR
 | d :: r, w, hR => by
  have hm := hR.marks
  obtain ⟨⟨b, rfl, hB, hS, hb, hnot⟩, hrest⟩ := hm
  refine ⟨by simp, .inl ⟨b, w.putObj b (.deferred none), rfl, run_takeDeferred hb, shut_ok hG2 hend r _ ?_⟩⟩
  have hoth : ∀ k, k ≠ b → (w.putObj b (.deferred none)).heap[k]? = w.heap[k]? := fun k hk => World.putObj_heap_other hk
  have hms : ∀ ds, Marks B0 E w ds → (∀ d', d' ∈ ds → d'.target ≠ .collected b) → Marks B0 E (w.putObj b (.deferred none)) ds := by
   intro ds
   induction ds with
   | nil => intro _ _; trivial
   | cons x r ih =>
    intro h h2
    obtain ⟨⟨b', rfl, g2, g3, g4, g5⟩, g6⟩ := h
    refine ⟨⟨b', rfl, g2, g3, ?_, g5⟩, ih g6 (fun d' hd' => h2 d' (List.mem_cons_of_mem _ hd'))⟩
    rw [hoth b' (by rintro rfl; exact h2 _ (List.mem_cons_self ..) rfl)]
    exact g4
  refine hR.turn (D' := D) (E' := E) (act' := ⟨tmps, r⟩) hG2 w0.y rfl rfl (turn_putObj hb (by simp) (by simp)) (below_putObj hB) (fun _ _ h => h) (fun _ _ _ => rfl) (fun _ _ _ => ⟨rfl, fun _ _ => rfl⟩) rfl (fun h => ?_) (hms r hrest hnot) (fun id l T hy => ?_) (fun id u hu => hR.form id u hu)
  ·have := hR.idle h
   simp at this
  ·obtain ⟨h1, h2, Y, r0, h3, h4, h5⟩ := hR.recs id l T hy
   exact ⟨h1, h2, Y, r0, h3, by rw [hoth l (by rintro rfl; rw [hb] at h4; cases h4)]; exact h4, h5⟩
theorem tail_ok {D : Ctx} (hG : GOk D) (hG2 : GlobsPlain D) (hI : InlOk D) (hmix : D.P.follows .mixedOrders = true) {fn : Func} {c : Code} (hL : ∀ c', c' ∈ loopsOf c → LoopOk D c') (hRg : ∀ c', c' ∈ rangesOf c → RangeOk D c') (sig : List Sh) {st0 : ASt} {K : AVal → Option R} {r : R}
    (h : codeA D c st0 (fun ex st => match ex with
        | .exit _ => none
        | .normal => outA D sig fn st K
        | .ret => outA D sig fn st K) = some r) :
    ∃ y, K y = some r ∧ ∀ (S : Nat → Prop) (w : World) (act : Act) (w1 : World) (E : Env), Rel D w.heap.size ⟨w, S, none⟩ E st0 act w1 → Dom E st0.n →
     c.wpIn (FR none) 0 D.P (bodyPostM (FR none) 0 D.P fn fun e w' => ∃ v Sn bs, e = .returned v ∧ Below w.heap.size w w' ∧ (∀ b, Sn b → S b ∨ (w.heap.size ≤ b ∧ b < w'.heap.size)) ∧ RelX Sn w' w.heap.size y v bs ∧ bs.Nodup ∧ ∀ b, b ∈ bs → ¬ Sn b) act w1 := by
 obtain ⟨ex, st, hK, hm, hcode⟩ := code_ok hG hG2 hI hmix c hL hRg _ _ r h
 have hout : (ex = .normal ∨ ex = .ret) ∧ outA D sig fn st K = some r := by
  cases ex with
  | normal => exact ⟨.inl rfl, hK⟩
  | ret => exact ⟨.inr rfl, hK⟩
  | exit j => cases hK
 obtain ⟨hex, hout⟩ := hout
 unfold outA at hout
 split at hout
 ·cases hout
 ·rename_i l hl
  cases hnd : nodupN (ownIdsL l) with
  | false => rw [hnd] at hout; cases hout
  | true =>
   rw [hnd] at hout
   simp only [cond_true] at hout
   refine ⟨_, hout, fun S w act w1 E hRel hDom => ?_⟩
   refine wpIn_mono (hcode none 0 _ _ E act w1 (fun _ => rfl) hRel hDom) (fun e a w' hL => ?_)
   obtain ⟨rfl, E', hup, hRa, hD⟩ := hL
   have hres : ∀ w', Rel D w.heap.size ⟨w, S, none⟩ E' st ⟨a.tmps, []⟩ w' → ∃ v, (results fn a.tmps).run D.P w' = .ok v w' ∧ ∃ Sn bs, Below w.heap.size w w' ∧ (∀ b, Sn b → S b ∨ (w.heap.size ≤ b ∧ b < w'.heap.size)) ∧ RelX Sn w' w.heap.size (oneOf (sigA sig (xresL (hlook (lcat (freeze (hlook st.h) (lcat (winIdsL l) (giveIdsL sig l)) []) st.h)) l))) v bs ∧ bs.Nodup ∧ ∀ b, b ∈ bs → ¬ Sn b := by
    intro w' hR
    obtain ⟨vs, hvs, hrun⟩ := resV_ok hR _ _ hl
    obtain ⟨E1, hρ1, up1, hR1, hfS, _⟩ := rel_freeze (hl := hlook st.h) (fun _ _ h => h) (lcat (winIdsL l) (giveIdsL sig l)) hR
    have hvs1 := RelVs.mono up1 l vs hvs
    obtain ⟨bs, hx, ho⟩ := xresL_rel hR1 (l0 := lcat (winIdsL l) (giveIdsL sig l)) (fun id hid b v k hb hv hk => by
     have hfz := ‹∀ id b, hlook (lcat (freeze (hlook st.h) (lcat (winIdsL l) (giveIdsL sig l)) []) st.h) id = some b → ∃ b', hlook st.h id = some b' ∧ b'.b = b.b› id b hb
     obtain ⟨b', hb', _⟩ := hfz
     exact hfS id hid b' v k hb' (by rw [← hρ1]; exact hv) hk) l vs hvs1 (fun _ h => mem_lcat.2 (.inl h)) hnd
    have hx2 := sigA_rel sig _ _ _ hx
    refine ⟨if h : vs.toArray.size = 1 then vs.toArray[0] else .tuple vs.toArray, ?_, E1.S, bs, hR.below, fun b hb => ?_, ?_, ho.1, fun b hb hS => ?_⟩
    ·unfold results
     rw [Array.mapM_eq_mapM_toList]
     simp only [Sem.run_bind, Sem.run_map]
     rw [hrun _ (fun _ => rfl) (fun _ _ => rfl)]
     rfl
    ·rcases hR1.sNew b hb with h | h
     ·exact .inl h
     ·exact .inr ⟨h, hR1.sOld b hb⟩
    ·generalize hy : sigA sig (xresL (hlook (lcat (freeze (hlook st.h) (lcat (winIdsL l) (giveIdsL sig l)) []) st.h)) l) = y at hx2
     have hly : y.length = vs.length := by
      have : ∀ (y : List AVal) (vs : List Value) (bs : List Nat), RelXs E1.S w' w.heap.size y vs bs → y.length = vs.length := by
       intro y
       induction y with
       | nil => intro vs bs h; simp only [RelXs] at h; rw [h.1]; rfl
       | cons a r ih =>
        intro vs bs h
        simp only [RelXs] at h
        obtain ⟨u, us, b1, b2, rfl, _, _, h⟩ := h
        simp [ih us b2 h]
      exact this y vs bs hx2
     match y, vs, hx2, hly with
     | [], [], hx2, _ => exact (by simp only [oneOf, RelX]; exact ⟨[], rfl, hx2⟩)
     | [a], [u], hx2, _ =>
      simp only [RelXs] at hx2
      obtain ⟨u', us, b1, b2, h1, h2, h3, h4, h5⟩ := hx2
      cases h1
      subst h5
      subst h2
      simpa [oneOf] using h3
     | a :: b :: r, u :: u' :: us, hx2, _ =>
      simp only [oneOf, RelX]
      exact ⟨_, by simp, hx2⟩
    ·obtain ⟨id, _, b', v, h2, h3, h4, h5⟩ := ho.2 b hb
     obtain ⟨v', hv', _, hns, _⟩ := hR1.heap id b' h2
     rw [h4] at hv'
     cases hv'
     exact hns h3 b h5 hS
   have hend := shut_ok (fn := fn) hG2 (R := fun e w' => ∃ v Sn bs, e = .returned v ∧ Below w.heap.size w w' ∧ (∀ b, Sn b → S b ∨ (w.heap.size ≤ b ∧ b < w'.heap.size)) ∧ RelX Sn w' w.heap.size (oneOf (sigA sig (xresL (hlook (lcat (freeze (hlook st.h) (lcat (winIdsL l) (giveIdsL sig l)) []) st.h)) l))) v bs ∧ bs.Nodup ∧ ∀ b, b ∈ bs → ¬ Sn b) (tmps := a.tmps) (fun w'' hR'' => by
    obtain ⟨v, hrun, Sn, bs, k1, k2, k3, k4, k5⟩ := hres w'' hR''
    exact ⟨v, hrun, v, Sn, bs, rfl, k1, k2, k3, k4, k5⟩) a.defers w' hRa
   rcases hex with rfl | rfl
   ·exact hend
   ·exact hend
theorem body_sound {D : Ctx} (hG : GOk D) (hG2 : GlobsPlain D) (hI : InlOk D) (hmix : D.P.follows .mixedOrders = true) {f : FuncId} {fn : Func} (hf : D.P.funcs[f]? = some fn) (hL : ∀ c, fn.body = some c → ∀ c', c' ∈ loopsOf c → LoopOk D c') (hRg : ∀ c, fn.body = some c → ∀ c', c' ∈ rangesOf c → RangeOk D c') (sig : List Sh) :
    SoundAt D.P D.globs f (bodyA D fn sig) := by
 intro args K r h
 unfold bodyA at h
 split at h
 ·cases h
 ·rename_i c hb
  cases hle : Nat.ble args.length fn.ntmps with
  | false => rw [hle] at h; cases h
  | true =>
   rw [hle] at h
   simp only [cond_true] at h
   have hle := Nat.le_of_ble_eq_true hle
   obtain ⟨y, hK, hrest⟩ := tail_ok hG hG2 hI hmix (hL c hb) (hRg c hb) sig h
   refine ⟨y, hK, fun S w cargs hSw hgl hargs => ?_⟩
   have hlen := relVs_len _ _ hargs
   have hR0 : Rel D w.heap.size ⟨w, S, none⟩ (noEnv S) ⟨initF 0 args, [], 0, fn.ntmps⟩ { tmps := cargs.toArray ++ Array.replicate (fn.ntmps - cargs.toArray.size) undef, defers := [] } w := by
    refine ⟨Below.refl _ _, Nat.le_refl _, by simp; omega, fun _ => rfl, trivial, recOk_none rfl, fun t => ?_, fun id b hb => by simp [hlook] at hb, fun id id' b b' u u' k hb => by simp [hlook] at hb, hSw, fun b hb => .inl hb, fun id u hu => by simp [noEnv] at hu, hgl⟩
    simp only [look_initF, Nat.zero_le, if_true, Nat.sub_zero]
    by_cases ht : t < args.length
    ·have := relVs_getD args cargs hargs t ht
     have e : (cargs.toArray ++ Array.replicate (fn.ntmps - cargs.toArray.size) undef).getD t undef = cargs.getD t undef := by
      rw [Array.getD_eq_getD_getElem?, Array.getElem?_append_left (by simp; omega)]
      simp
     rw [e]
     exact this
    ·have e : args.getD t .bot = .bot := by
       rw [List.getD_eq_getElem?_getD, List.getElem?_eq_none (by omega)]
       rfl
     rw [e]
     exact relV_bot _
   exact callsIn_FR.1 (callsIn_of_wp_marks (F := FR none) (n := 0) hf hb trivial (hrest S w _ w (noEnv S) hR0 (fun id u hu => by simp [noEnv] at hu)))
theorem bodyIn_ok {D : Ctx} (hG : GOk D) (hG2 : GlobsPlain D) (hI : InlOk D) (hmix : D.P.follows .mixedOrders = true) {f : FuncId} {fn : Func} (hf : D.P.funcs[f]? = some fn) (hL : ∀ c, fn.body = some c → ∀ c', c' ∈ loopsOf c → LoopOk D c') (hRg : ∀ c, fn.body = some c → ∀ c', c' ∈ rangesOf c → RangeOk D c') (htop : D.top = false) :
    RunOk D f (bodyIn D fn) := by
 intro args h n K r hb
 unfold bodyIn at hb
 split at hb
 ·cases hb
 ·rename_i c hc
  cases hle : Nat.ble args.length fn.ntmps with
  | false => rw [hle] at hb; cases hb
  | true =>
   rw [hle] at hb
   simp only [cond_true] at hb
   have hle := Nat.le_of_ble_eq_true hle
   obtain ⟨ex, st, hK, hm, hcode⟩ := code_ok hG hG2 hI hmix c (hL c hc) (hRg c hc) _ _ r hb
   have hout : (ex = .normal ∨ ex = .ret) ∧ bodyIn.outIn D fn st K = some r := by
    cases ex with
    | normal => exact ⟨.inl rfl, hK⟩
    | ret => exact ⟨.inr rfl, hK⟩
    | exit j => cases hK
   obtain ⟨hex, hout⟩ := hout
   unfold bodyIn.outIn at hout
   split at hout
   ·cases hout
   ·rename_i l hl
    refine ⟨_, _, _, hout, fun B0 w0 E f' m act w cargs hR hD hargs => ?_⟩
    have hlen := relVs_len _ _ hargs
    have hR0 : Rel D B0 w0 E ⟨initF 0 args, h, n, fn.ntmps⟩ { tmps := cargs.toArray ++ Array.replicate (fn.ntmps - cargs.toArray.size) undef, defers := [] } w :=
     { hR with
       size := by simp; omega
       idle := fun _ => rfl
       marks := trivial
       tmps := initF_ok hargs hle }
    refine callsIn_FR.1 (callsIn_of_wp (F := FR none) (n := 0) hf hc trivial (wpIn_mono (hcode none 0 _ _ E _ w (fun _ => rfl) hR0 hD) (fun e a w' hL => ?_)))
    obtain ⟨rfl, E', hup, hR', hD'⟩ := hL
    obtain ⟨vs, hvs, hrun⟩ := resV_ok hR' _ _ hl
    have hres : a.defers = [] ∧ ∃ v, (results fn a.tmps).run D.P w' = .ok v w' ∧ RelV E' w' (oneOf l) v := by
     refine ⟨hR'.idle htop, if h : vs.toArray.size = 1 then vs.toArray[0] else .tuple vs.toArray, ?_, ?_⟩
     ·unfold results
      rw [Array.mapM_eq_mapM_toList]
      simp only [Sem.run_bind, Sem.run_map]
      rw [hrun _ (fun _ => rfl) (fun _ _ => rfl)]
      rfl
     ·have hly := relVs_len _ _ hvs
      match l, vs, hvs, hly with
      | [], [], hvs, _ => exact (by simp only [oneOf, RelV]; exact ⟨[], rfl, hvs⟩)
      | [x], [u], hvs, _ =>
       simp only [RelVs] at hvs
       obtain ⟨u', us, h1, h2, h3⟩ := hvs
       cases h1
       simpa [oneOf] using h2
      | x :: y :: r, u :: u' :: us, hvs, _ =>
       simp only [oneOf, RelV]
       exact ⟨_, by simp, hvs⟩
    obtain ⟨hdf, v, hrun, hv⟩ := hres
    rcases hex with rfl | rfl
    ·exact ⟨hdf, v, hrun, v, E', rfl, hup, hR.swap hup hR', hD', hv⟩
    ·exact ⟨hdf, v, hrun, v, E', rfl, hup, hR.swap hup hR', hD', hv⟩
abbrev setT (tmps : Array Value) (x : Tmp × Value) : Array Value := tmps.setIfInBounds x.1 x.2
theorem setT_size : ∀ (l : List (Tmp × Value)) (T : Array Value), (l.foldl setT T).size = T.size
 | [], T => rfl
 | x :: r, T => by
  rw [List.foldl_cons, setT_size r]
  simp
theorem setT_other : ∀ (ps : List Tmp) (cs : List Value) (T : Array Value) (t : Nat), t ∉ ps → ((ps.zip cs).foldl setT T).getD t undef = T.getD t undef
 | [], cs, T, t, h => rfl
 | p :: ps, [], T, t, h => rfl
 | p :: ps, c :: cs, T, t, h => by
  simp only [List.mem_cons, not_or] at h
  rw [List.zip_cons_cons, List.foldl_cons, setT_other ps cs _ t h.2]
  simp only [setT, Array.getD_eq_getD_getElem?, Array.getElem?_setIfInBounds, if_neg (Ne.symm h.1)]
theorem zipF_rel {E : Env} {w : World} {rest : List (Nat × AVal)} {t m : Nat} : ∀ (ps : List Tmp) (args : List AVal) (cs : List Value) (T : Array Value), nodupN ps = true → allLt m ps = true → T.size = m → args.length = ps.length → RelVs E w args cs →
    (t ∉ ps → RelV E w (look rest t) (T.getD t undef)) → RelV E w (look (lcat (zipF ps args) rest) t) (((ps.zip cs).foldl setT T).getD t undef)
 | [], args, cs, T, hn, hl, hT, hlen, ha, hr => by
  simp only [zipF, lcat, List.zip_nil_left, List.foldl_nil]
  exact hr (by simp)
 | p :: ps, [], cs, T, hn, hl, hT, hlen, ha, hr => by simp at hlen
 | p :: ps, a :: args, cs, T, hn, hl, hT, hlen, ha, hr => by
  simp only [RelVs] at ha
  obtain ⟨u, us, rfl, h1, h2⟩ := ha
  simp only [nodupN, Bool.and_eq_true, Bool.not_eq_true'] at hn
  simp only [allLt, Bool.and_eq_true] at hl
  simp only [zipF, lcat, look, List.zip_cons_cons, List.foldl_cons]
  have hlt : p < m := by simpa using hl.1
  cases hb : Nat.beq p t with
  | true =>
   have := Nat.eq_of_beq_eq_true hb
   subst this
   simp only [cond_true]
   rw [setT_other ps us _ p (fun hm => by rw [memN_true.2 hm] at hn; cases hn.1)]
   simp only [setT, Array.getD_eq_getD_getElem?, Array.getElem?_setIfInBounds]
   rw [if_pos trivial, if_pos (by rw [hT]; exact hlt)]
   exact h1
  | false =>
   simp only [cond_false]
   refine zipF_rel ps args us _ hn.2 hl.2 (by simp [setT, hT]) (by simpa using hlen) h2 (fun hm => ?_)
   have hne : p ≠ t := Nat.ne_of_beq_eq_false hb
   simp only [setT, Array.getD_eq_getD_getElem?, Array.getElem?_setIfInBounds, if_neg hne]
   have := hr (by simp only [List.mem_cons, not_or]; exact ⟨Ne.symm hne, hm⟩)
   rw [Array.getD_eq_getD_getElem?] at this
   exact this
theorem zipTs_rel {E : Env} {w : World} {t : Nat} : ∀ (ts : List Nat) (vs : List AVal) (T : Array Value), RelVs E w vs (ts.map fun t => T.getD t undef) → RelV E w (look (zipF ts vs) t) (T.getD t undef)
 | [], vs, T, h => by simp only [zipF, look]; exact relV_bot _
 | p :: ts, [], T, h => by simp only [zipF, look]; exact relV_bot _
 | p :: ts, a :: vs, T, h => by
  simp only [RelVs, List.map_cons] at h
  obtain ⟨u, us, h0, h1, h2⟩ := h
  cases h0
  simp only [zipF, look]
  cases hb : Nat.beq p t with
  | true =>
   have := Nat.eq_of_beq_eq_true hb
   subst this
   exact h1
  | false => exact zipTs_rel ts vs T h2
theorem rangeOk_nil {D : Ctx} (h : D.rng = []) : ∀ c, RangeOk D c := by
 intro c
 cases c <;> first
  | trivial
  | (intro e he; rw [h] at he; simp [rassoc] at he)
theorem roundY_ok {Db Di : Ctx} {Y : YCtx} (hG : GOk Db) (hG2 : GlobsPlain Db) (hI : InlOk Db) (hmix : Db.P.follows .mixedOrders = true) (hP : Di.P = Db.P) (hgl : Di.globs = Db.globs) (hyi : Di.y = some { Y with ready := true }) (hyb : Db.y = some { Y with ready := false })
    (hti : Di.top = false) (htb : Db.top = false) (hrng : Db.rng = []) (hLa : ∀ c', c' ∈ loopsOf Y.assign → LoopOk Db c') (hLb : ∀ c', c' ∈ loopsOf Y.body → LoopOk Db c') : RoundOk Di (roundY Db Y) := by
 intro ts vs args h n K r hs
 unfold roundY at hs
 cases hq : Nat.beq args.length Y.ps.size && nodupN Y.ps.toList && allLt Y.m Y.ps.toList with
 | false => rw [hq] at hs; cases hs
 | true =>
  rw [hq] at hs
  simp only [cond_true] at hs
  simp only [Bool.and_eq_true] at hq
  obtain ⟨⟨hlen, hnd⟩, hlt⟩ := hq
  have hlen := Nat.eq_of_beq_eq_true hlen
  obtain ⟨ex, st1, hK1, hm1, hA⟩ := code_ok hG hG2 hI hmix Y.assign hLa (fun c _ => rangeOk_nil hrng c) _ _ r hs
  cases ex with
  | exit j => cases hK1
  | ret => cases hK1
  | normal =>
   simp only at hK1
   obtain ⟨ex2, st2, hK2, hm2, hB⟩ := code_ok hG hG2 hI hmix Y.body hLb (fun c _ => rangeOk_nil hrng c) _ _ r hK1
   cases ex2 with
   | exit j => cases hK2
   | ret => cases hK2
   | normal =>
    simp only at hK2
    refine ⟨_, _, hK2, fun B0 w0 E f m act w cargs id l T hR hD hargs hρ hvs => ?_⟩
    obtain ⟨hy0⟩ : Nonempty (w0.y = some (id, l, T)) := by
     rcases hR.form id _ hρ with (⟨_, _, _, h⟩ | ⟨_, h⟩) | ⟨l', T', h1, h2⟩
     ·cases h
     ·cases h
     ·cases h2
      exact ⟨h1⟩
    obtain ⟨hBl, hSl, Y', r0, hY', hl, hT, hps, has, hbo, hsz, hrdy⟩ := hR.recs id l T hy0
    rw [hyi] at hY'
    cases hY'
    obtain ⟨hst, hpd⟩ := hrdy rfl
    simp only at hps has hbo hsz
    have hcl := relVs_len _ _ hargs
    refine ⟨r0, hl, by rw [hps]; simp; omega, fun n0 q => ?_⟩
    rw [hP]
    show RoundIn (FR none) n0 Db.P l r0.fn _ r0.assign r0.body w _
    rw [has, hbo]
    refine roundIn_of_wpIn (F := FR none) trivial ?_
    have hfold : (r0.params.zip cargs.toArray).foldl (fun tmps (t, a) => tmps.setIfInBounds t a) r0.tmps = (Y.ps.toList.zip cargs).foldl setT T := by
     rw [hps, hT, ← Array.foldl_toList, Array.toList_zip]
    rw [hfold]
    have hrec2 : ∀ (E' : Env) (w' : World) (o : Loop), E'.S l → w'.heap[l]? = some (.loop o) → o.tmps = T → o.params = Y.ps → o.assign = Y.assign → o.body = Y.body → RecOk Db B0 w0 E' w' := by
     intro E' w' o k1 k2 k3 k4 k5 k6 id' l' T' hy
     rw [hy0] at hy
     cases hy
     exact ⟨hBl, k1, _, o, hyb, k2, k3, k4, k5, k6, hsz, fun h => by cases h⟩
    have hR0 : Rel Db B0 w0 E ⟨lcat (zipF Y.ps.toList args) (zipF ts vs), h, n, Y.m⟩ ⟨(Y.ps.toList.zip cargs).foldl setT T, []⟩ w :=
     { below := hR.below
       base := hR.base
       size := by rw [setT_size]; exact hsz
       idle := fun _ => rfl
       marks := trivial
       recs := hrec2 E w r0 hSl hl hT hps has hbo
       tmps := fun t => zipF_rel _ _ _ _ hnd hlt hsz (by simpa using hlen) hargs (fun _ => zipTs_rel ts vs T hvs)
       heap := hR.heap
       apart := hR.apart
       sOld := hR.sOld
       sNew := hR.sNew
       form := hR.form
       globs := by rw [← hgl]; exact hR.globs }
    refine wpIn_mono (hA (some l) n0 B0 w0 E _ w (fun h => by rw [htb] at h; cases h) hR0 hD) (fun e a w1 hL => ?_)
    obtain ⟨rfl, E1, u1, hR1, hD1⟩ := hL
    have hl1 : w1.heap[l]? = some (.loop r0) := by rw [u1.keeps.blk _ hSl]; exact hl
    have hlt1 : l < w1.heap.size := (Array.getElem?_eq_some_iff.1 hl1).1
    have hS1 := u1.keeps.sub _ hSl
    refine ⟨_, run_beginRound hl1 hst, ?_⟩
    have hw0 : w0 = ⟨w0.w, w0.S0, w0.y⟩ := rfl
    have hbusy : (w1.putObj l (.loop { r0 with state := .busy })).heap[l]? = some (.loop { r0 with state := .busy }) := World.putObj_heap_same hlt1
    have hR2 : Rel Db B0 w0 E1 st1 a (w1.putObj l (.loop { r0 with state := .busy })) := by
     refine hR1.turn (D' := Db) (E' := E1) (act' := a) hG2 w0.y rfl rfl (turn_putObj hl1 (by simp) (by simp)) (below_putObj hBl) (fun _ _ h => h) (fun _ _ _ => rfl) (fun _ _ _ => ⟨rfl, fun _ _ => rfl⟩) rfl (fun h => hR1.idle h) ?_ (hrec2 _ _ _ hS1 hbusy hT hps has hbo) (fun id u hu => hR1.form id u hu)
     rw [hR1.idle htb]
     trivial
    refine wpIn_mono (hB (some l) n0 B0 w0 E1 a _ (fun h => by rw [htb] at h; cases h) hR2 hD1) (fun e a2 w3 hL => ?_)
    obtain ⟨rfl, E2, u2, hR3, hD3⟩ := hL
    have hl3 : w3.heap[l]? = some (.loop { r0 with state := .busy }) := by rw [u2.keeps.blk _ hS1]; exact hbusy
    have hlt3 : l < w3.heap.size := (Array.getElem?_eq_some_iff.1 hl3).1
    have hend := run_endRound (P := Db.P) none hl3
    have hobj : ({ ({ r0 with state := .busy } : Loop) with state := if (none : Option Code).isNone then LoopState.ready else LoopState.done, pending := none } : Loop) = r0 := by
     cases r0
     simp only at hst hpd
     subst hst
     subst hpd
     rfl
    rw [hobj] at hend
    refine ⟨_, _, hend, E2, rfl, ?_, ?_, hD3⟩
    ·have hk : ∀ b, b ≠ l → (w3.putObj l (.loop r0)).heap[b]? = w3.heap[b]? := fun b hb => World.putObj_heap_other hb
     refine ⟨⟨fun b hb => u2.keeps.sub _ (u1.keeps.sub _ hb), fun b hb => ?_⟩, fun id u hu => u2.ρ _ _ (u1.ρ _ _ hu)⟩
     by_cases hbl : b = l
     ·subst hbl
      rw [World.putObj_heap_same hlt3, hl]
     ·rw [hk b hbl, u2.keeps.blk _ (u1.keeps.sub _ hb), World.putObj_heap_other hbl, u1.keeps.blk _ hb]
    ·have up : Up E E2 w (w3.putObj l (.loop r0)) := by
       refine ⟨⟨fun b hb => u2.keeps.sub _ (u1.keeps.sub _ hb), fun b hb => ?_⟩, fun id u hu => u2.ρ _ _ (u1.ρ _ _ hu)⟩
       by_cases hbl : b = l
       ·subst hbl
        rw [World.putObj_heap_same hlt3, hl]
       ·rw [World.putObj_heap_other hbl, u2.keeps.blk _ (u1.keeps.sub _ hb), World.putObj_heap_other hbl, u1.keeps.blk _ hb]
     have hRt : Rel Di B0 w0 E2 ⟨st2.f, st2.h, st2.n, st2.m⟩ ⟨a2.tmps, []⟩ (w3.putObj l (.loop r0)) := by
      refine hR3.turn (D' := Di) (E' := E2) (act' := ⟨a2.tmps, []⟩) hG2 w0.y hgl rfl (turn_putObj hl3 (by simp) (by simp)) (below_putObj hBl) (fun _ _ h => h) (fun _ _ _ => rfl) (fun _ _ _ => ⟨rfl, fun _ _ => rfl⟩) rfl (fun h => rfl) trivial (fun id' l' T' hy => ?_) (fun id u hu => hR3.form id u hu)
      have hy := hy0.symm.trans hy
      cases hy
      exact ⟨hBl, u2.keeps.sub _ hS1, _, r0, hyi, World.putObj_heap_same hlt3, hT, hps, has, hbo, hsz, fun _ => ⟨hst, hpd⟩⟩
     exact Rel.swap hR up hRt
end Go.Abs
end

section
namespace Go.Abs
open Go
structure Proved (P : Program) (globs : List (Nat × List AVal)) (f : FuncId) (s : Spec) : Prop where
 enters : Enters P f
 sound : SoundAt P globs f s
def GAll (P : Program) (globs : List (Nat × List AVal)) : List (Nat × Spec) → Prop
 | [] => True
 | (f, s) :: r => Proved P globs f s ∧ GAll P globs r
theorem gok_of {D : Ctx} (h : GAll D.P D.globs D.G) : GOk D := by
 intro f s hs
 have : ∀ (l : List (Nat × Spec)), GAll D.P D.globs l → assocS l f = some s → Enters D.P f ∧ SoundAt D.P D.globs f s := by
  intro l
  induction l with
  | nil => intro _ h; simp [assocS] at h
  | cons x r ih =>
   obtain ⟨k, s'⟩ := x
   intro hg h
   simp only [assocS] at h
   cases hb : Nat.beq k f with
   | true =>
    rw [hb] at h
    cases h
    have := Nat.eq_of_beq_eq_true hb
    subst this
    exact ⟨hg.1.enters, hg.1.sound⟩
   | false => rw [hb] at h; exact ih hg.2 h
 exact this D.G h hs
def plainL : List AVal → Bool
 | [] => true
 | .arr .. :: r => plainL r
 | .v _ :: r => plainL r
 | _ :: _ => false
theorem plainL_rel {E E' : Env} {w : World} : ∀ (l : List AVal) (cs : List Value), plainL l = true → RelF E w l cs → RelF E' w l cs
 | [], cs, _, h => by simpa only [RelF] using h
 | a :: r, cs, hp, h => by
  rcases relF_cons h with ⟨k, n, l, cs', rfl, h1, rfl, h3⟩ | ⟨ha, u, cs', rfl, h2, h3, h4⟩
  ·exact relF_arr h1 (plainL_rel r cs' hp h3)
  ·cases a <;> simp only [plainL] at hp <;> first
     | exact absurd rfl (ha _ _ _)
     | (simp only [RelV] at h3; exact relF_one ha h2 (by simp only [RelV]; exact h3) (plainL_rel r cs' hp h4))
     | cases hp
def plainG : List (Nat × List AVal) → Bool
 | [] => true
 | (_, l) :: r => plainL l && plainG r
theorem globsPlain_of {D : Ctx} (h : plainG D.globs = true) : GlobsPlain D := by
 intro g l hg E E' w cs hr _
 refine plainL_rel l cs ?_ hr
 revert h hg
 generalize D.globs = gs
 induction gs with
 | nil => intro h hg; simp [assoc] at hg
 | cons x r ih =>
  obtain ⟨k, m⟩ := x
  intro h hg
  simp only [plainG, Bool.and_eq_true] at h
  simp only [assoc] at hg
  cases hb : Nat.beq k g with
  | true => rw [hb] at hg; cases hg; exact h.1
  | false => rw [hb] at hg; exact ih h.2 hg
def IAll (D : Ctx) : List (Nat × ISpec) → Prop
 | [] => True
 | (g, s) :: r => (Enters D.P g ∧ RunOk D g s) ∧ IAll D r
theorem inl_of {D : Ctx} (h : IAll D D.inl) (hY : ∀ s, D.ys = some s → RoundOk D s) : InlOk D := by
 refine ⟨?_, hY⟩
 intro g s hs
 have : ∀ (l : List (Nat × ISpec)), IAll D l → iassoc l g = some s → Enters D.P g ∧ RunOk D g s := by
  intro l
  induction l with
  | nil => intro _ h; simp [iassoc] at h
  | cons x r ih =>
   obtain ⟨k, s'⟩ := x
   intro hg h
   simp only [iassoc] at h
   cases hb : Nat.beq k g with
   | true =>
    rw [hb] at h
    cases h
    have := Nat.eq_of_beq_eq_true hb
    subst this
    exact hg.1
   | false => rw [hb] at h; exact ih hg.2 h
 exact this D.inl h hs
def loopAt (fn : Func) (id : Nat) : Code :=
 match fn.body with
 | some c => findC (loopsOf c) id
 | none => .skip
 where findC : List Code → Nat → Code
 | [], _ => .skip
 | c :: r, id => bif Nat.beq (firstRegion c) id then c else findC r id
theorem loopOk_of {D : Ctx} {c : Code} {s0 : LSpec} (h0 : lassoc D.loops (firstRegion c) = some s0) (h : ∀ st K r, s0 st K = some r → ∃ k, itA D c K k st = some r) : LoopOk D c := by
 intro s hs
 rw [h0] at hs
 cases hs
 exact h
def AllLoops (D : Ctx) : List Code → Prop
 | [] => True
 | c :: r => LoopOk D c ∧ AllLoops D r
theorem allLoops {D : Ctx} : ∀ (l : List Code), AllLoops D l → ∀ c, c ∈ l → LoopOk D c
 | [], _, c, h => by simp at h
 | a :: r, h, c, hc => by
  rcases List.mem_cons.1 hc with rfl | hc
  ·exact h.1
  ·exact allLoops r h.2 c hc
theorem noYield {D : Ctx} (h : D.ys = none) : ∀ s, D.ys = some s → RoundOk D s := by
 intro s hs
 rw [h] at hs
 cases hs
def AllRanges (D : Ctx) : List Code → Prop
 | [] => True
 | c :: r => RangeOk D c ∧ AllRanges D r
theorem allRanges {D : Ctx} : ∀ (l : List Code), AllRanges D l → ∀ c, c ∈ l → RangeOk D c
 | [], _, c, h => by simp at h
 | a :: r, h, c, hc => by
  rcases List.mem_cons.1 hc with rfl | hc
  ·exact h.1
  ·exact allRanges r h.2 c hc
theorem noRanges {D : Ctx} (h : D.rng = []) : ∀ (l : List Code), AllRanges D l
 | [] => trivial
 | c :: r => ⟨rangeOk_nil h c, noRanges h r⟩
def rngAt (fn : Func) (id : Nat) : Code :=
 match fn.body with
 | some c => findR (rangesOf c) id
 | none => .skip
 where findR : List Code → Nat → Code
 | [], _ => .skip
 | c :: r, id => match c with
  | .rangeFunc g ps a b => bif Nat.beq (firstRegion b) id then .rangeFunc g ps a b else findR r id
  | _ => findR r id
def ycOf (c : Code) (m : Nat) (ready : Bool) : YCtx :=
 match c with
 | .rangeFunc _ ps a b => ⟨ps, a, b, m, ready⟩
 | _ => ⟨#[], .skip, .skip, m, ready⟩
def rbOf : Code → Code
 | .rangeFunc _ _ _ b => b
 | _ => .skip
theorem rangeOk_of {D Di : Ctx} {c : Code} {e : RngE} (h0 : rassoc D.rng (firstRegion (rbOf c)) = some e) (hP : Di.P = D.P) (hgl : Di.globs = D.globs) (hy : Di.y = some (ycOf c e.m true)) (h : Enters D.P e.g ∧ RunOk Di e.g e.s) : RangeOk D c := by
 cases c <;> first
  | trivial
  | (intro e' he'; simp only [rbOf] at h0; rw [h0] at he'; cases he'; exact ⟨Di, hP, hgl, hy, h⟩)
theorem proved_of {D : Ctx} {f : FuncId} {fn : Func} {c : Code} {s : Spec} (sig : List Sh) (hmix : D.P.follows .mixedOrders = true) (hgl : GlobsPlain D) (hf : D.P.funcs[f]? = some fn) (hn : (fn.name == "runtime.NumGoroutine") = false) (hb : fn.body = some c)
    (hG : GAll D.P D.globs D.G) (hI : IAll D D.inl) (hL : AllLoops D (loopsOf c)) (h : ∀ args K r, s args K = some r → bodyA D fn sig args K = some r) (hRg : AllRanges D (rangesOf c) := by exact noRanges rfl _) (hY : D.ys = none := by rfl) : Proved D.P D.globs f s := by
 refine ⟨⟨fn, hf, hn, by rw [hb]; rfl⟩, fun args K r hs => ?_⟩
 exact body_sound (gok_of hG) hgl (inl_of hI (noYield hY)) hmix hf (fun c' hc' => by rw [hb] at hc'; cases hc'; exact allLoops _ hL) (fun c' hc' => by rw [hb] at hc'; cases hc'; exact allRanges _ hRg) sig args K r (h args K r hs)
theorem run_of {D D' : Ctx} {f : FuncId} {fn : Func} {c : Code} {s : ISpec} (hP : D'.P = D.P) (hgg : D'.globs = D.globs) (hmix : D.P.follows .mixedOrders = true) (hgl : GlobsPlain D) (hf : D.P.funcs[f]? = some fn) (hn : (fn.name == "runtime.NumGoroutine") = false) (hb : fn.body = some c)
    (hG : GAll D.P D.globs D.G) (hI : IAll D D.inl) (hL : AllLoops D (loopsOf c)) (h : ∀ args hh n K r, s args hh n K = some r → bodyIn D fn args hh n K = some r) (hy : D'.y = D.y := by rfl) (htop : D.top = false := by rfl) (hRg : AllRanges D (rangesOf c) := by exact noRanges rfl _) (hY : ∀ s, D.ys = some s → RoundOk D s := by exact noYield rfl) : Enters D'.P f ∧ RunOk D' f s := by
 refine ⟨⟨fn, by rw [hP]; exact hf, hn, by rw [hb]; rfl⟩, fun args hh n K r hs => ?_⟩
 have h1 := bodyIn_ok (gok_of hG) hgl (inl_of hI hY) hmix hf (fun c' hc' => by rw [hb] at hc'; cases hc'; exact allLoops _ hL) (fun c' hc' => by rw [hb] at hc'; cases hc'; exact allRanges _ hRg) htop args hh n K r (h args hh n K r hs)
 obtain ⟨v, h', n', k1, k2⟩ := h1
 refine ⟨v, h', n', k1, fun B0 w0 E f m act w cargs hR hD ha => ?_⟩
 have hrec : ∀ {E w}, RecOk D' B0 w0 E w → RecOk D B0 w0 E w := by
  intro E w h
  unfold RecOk at h ⊢
  rw [← hy]
  exact h
 have hrec' : ∀ {E w}, RecOk D B0 w0 E w → RecOk D' B0 w0 E w := by
  intro E w h
  unfold RecOk at h ⊢
  rw [hy]
  exact h
 have hR' : Rel D B0 w0 E ⟨[], hh, n, 0⟩ ⟨#[], []⟩ w :=
  { hR with
    size := rfl
    idle := fun _ => rfl
    marks := trivial
    recs := hrec hR.recs
    tmps := fun t => relV_bot _
    globs := by rw [← hgg]; exact hR.globs }
 rw [hP]
 refine (k2 B0 w0 E [] 0 _ w cargs hR' hD ha).mono ?_
 rintro e w' ⟨u, E', rfl, g1, g2, g3, g4⟩
 have hR2 : Rel D' B0 w0 E' ⟨[], h', n', 0⟩ ⟨#[], []⟩ w' := { g2 with idle := fun _ => rfl, marks := trivial, recs := hrec' g2.recs, globs := by rw [hgg]; exact g2.globs }
 exact ⟨u, E', rfl, g1, Rel.swap hR g1 hR2, g3, g4⟩
@[simp] theorem br_tt {α : Type} (x y : α) : br true x y = x := by unfold br; rfl
@[simp] theorem br_ff {α : Type} (x y : α) : br false x y = y := by unfold br; rfl
theorem br_pos {α : Type} {p : Prop} [Decidable p] (h : p) (x y : α) : br (decide p) x y = x := by rw [decide_eq_true h]; exact br_tt x y
theorem br_neg {α : Type} {p : Prop} [Decidable p] (h : ¬ p) (x y : α) : br (decide p) x y = y := by rw [decide_eq_false h]; exact br_ff x y
def roundA (D : Ctx) (c : Code) (K : AExit → ASt → Option R) (next : ASt → Option R) (st : ASt) : Option R :=
 codeA D c st (knot (hintOf D.hints (firstRegion c)) (st.n - (hintOf D.hints (firstRegion c)).rows.length) (keysOf (dropN (hintOf D.hints (firstRegion c)).rows.length st.h)) K next)
theorem itA_succ (D : Ctx) (c : Code) (K : AExit → ASt → Option R) (k : Nat) (st : ASt) : itA D c K (k + 1) st = roundA D c K (itA D c K k) st := by
 unfold roundA
 show iter _ _ _ _ _ _ _ = _
 simp only [iter]
 congr 1
 funext ex st'
 cases ex with
 | normal =>
  simp only [knot]
  split
  ·rename_i st1 hn
   obtain ⟨h1, h2⟩ := norm_back hn
   unfold itA
   rw [h1, h2]
  ·rfl
 | exit id => rfl
 | ret => rfl
theorem itA_zero (D : Ctx) (c : Code) (K : AExit → ASt → Option R) (st : ASt) : itA D c K 0 st = roundA D c K (fun _ => none) st := rfl
end Go.Abs
end

section
namespace Go.Abs
open Go
theorem i64w {x : Int} (h : -9223372036854775808 ≤ x) (h2 : x ≤ 9223372036854775807) : IntKind.i64.wrap x = x := IntWalk.i64_in x ⟨h, h2⟩
theorem pre_some {p : Prop} [Decidable p] {x : Option R} {r : R} (h : br (decide p) x none = some r) : p ∧ x = some r := by
 obtain ⟨h1, h2⟩ := br_true h
 exact ⟨of_decide_eq_true h1, h2⟩
end Go.Abs
end

section
/- The pure side: loops as rounds that go on, with rounds enough for any loop of a program. -/
namespace Go.Abs
open Go
theorem FU_ex : ∃ n : Nat, n = 18446744073709551616 := ⟨_, rfl⟩
noncomputable def FU : Nat := Classical.choose FU_ex
theorem FU_eq : FU = 18446744073709551616 := Classical.choose_spec FU_ex
def lpN {X Y ρ : Type} (stp : X → (X → Option ρ) → (Y → Option ρ) → Option ρ) (K : Y → Option ρ) : Nat → X → Option ρ
 | 0, x => stp x (fun _ => none) K
 | n + 1, x => stp x (lpN stp K n) K
noncomputable def lp {X Y ρ : Type} (stp : X → (X → Option ρ) → (Y → Option ρ) → Option ρ) (x : X) (K : Y → Option ρ) : Option ρ := lpN stp K FU x
theorem lp_eq {X Y ρ : Type} {stp : X → (X → Option ρ) → (Y → Option ρ) → Option ρ} {K : Y → Option ρ} {r : Option ρ} (P : X → Prop) (μ : X → Nat)
    (step : ∀ x, P x → ∀ next, (∀ x', P x' → μ x' < μ x → next x' = r) → stp x next K = r) {x : X} (hx : P x) (hm : μ x ≤ 18446744073709551616) : lp stp x K = r := by
 have key : ∀ n x, P x → μ x ≤ n → lpN stp K n x = r := by
  intro n
  induction n with
  | zero => intro x hx hm; exact step x hx _ (fun x' _ h => by omega)
  | succ n ih => intro x hx hm; exact step x hx _ (fun x' hx' h => ih x' hx' (by omega))
 exact key FU x hx (by rw [FU_eq]; exact hm)
theorem shut_ex {α : Sort _} (a : α) : ∃ b, b = a := ⟨a, rfl⟩
noncomputable def shut {α : Sort _} (a : α) : α := Classical.choose (shut_ex a)
theorem shut_eq {α : Sort _} (a : α) : shut a = a := Classical.choose_spec (shut_ex a)
def vMap {X : Type} (o : Option X) (f : X → Option R) : Option R :=
 match o with
 | some x => f x
 | none => none
theorem loopOk_lp {D : Ctx} {c : Code} {X Y : Type} (S : X → ASt) {V : ASt → Option X} (hV : ∀ st x, V st = some x → st = S x)
    {stp : X → (X → Option R) → (Y → Option R) → Option R} {enc : (AExit → ASt → Option R) → Y → Option R}
    {L : LSpec} (h0 : lassoc D.loops (firstRegion c) = some L) (hL : ∀ st K, L st K = vMap (V st) (fun x => lp stp x (enc K)))
    (h : ∀ K next x, roundA D c K next (S x) = stp x (fun x' => next (S x')) (enc K)) : LoopOk D c := by
 refine loopOk_of h0 (fun st K r hr => ?_)
 rw [hL] at hr
 unfold vMap at hr
 split at hr
 ·rename_i x hx
  rw [hV st x hx]
  refine ⟨FU, ?_⟩
  rw [← hr]
  have key : ∀ n x, itA D c K n (S x) = lpN stp (enc K) n x := by
   intro n
   induction n with
   | zero => intro x; rw [itA_zero, h]; rfl
   | succ n ih =>
    intro x
    rw [itA_succ, h]
    simp only [lpN]
    congr 1
    funext x'
    exact ih x'
  exact key FU x
 ·cases hr
theorem proved_coer {P : Program} {globs : List (Nat × List AVal)} {f : FuncId} {s : Spec} (ss : List Sh) (h : Proved P globs f s) : Proved P globs f (fun args K => s (coerL ss args) K) :=
 ⟨h.enters, fun args K r hs => by
  obtain ⟨a, h1, h2⟩ := h.sound (coerL ss args) K r hs
  exact ⟨a, h1, fun S w cargs hS hg ha => h2 S w cargs hS hg (coerL_rel ss args cargs ha)⟩⟩
@[congr] theorem br_congr {α : Type} {b c : Bool} (h : b = c) (x y : α) : br b x y = br c x y := by rw [h]
end Go.Abs
end
