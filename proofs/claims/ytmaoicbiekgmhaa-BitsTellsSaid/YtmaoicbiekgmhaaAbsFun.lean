import Derived.Test.YtmaoicbiekgmhaaAbsSound
import Derived.Laws.Sem
namespace Go.Abs
open Go Go.RowKit
set_option linter.unusedVariables false
set_option linter.unusedSimpArgs false

section
variable {D : Ctx} {B0 : Nat} {w0 : W0} {E : Env} {st : ASt} {act : Act} {w : World}

theorem relX_plain {S : Nat → Prop} {B : Nat} {a : AVal} {u : Value} (h : RelV (noEnv S) w a u) (h1 : ∀ l, a ≠ .agg l) (h2 : ∀ l, a ≠ .tuple l) : RelX S w B a u [] := by
  cases a <;> simp only [RelX] <;> first
    | exact absurd rfl (h1 _)
    | exact absurd rfl (h2 _)
    | exact ⟨h, trivial⟩
    | exact ⟨h, rfl⟩
    | (simp only [RelV] at h; done)

/-- the own rows that go out with a result -/
def Outs (E : Env) (st : ASt) (ids : List Nat) (bs : List Nat) : Prop :=
  bs.Nodup ∧ ∀ k, k ∈ bs → ∃ id, id ∈ ids ∧ ∃ b v, hlook st.h id = some b ∧ b.frz = false ∧ E.ρ id = some v ∧ vBlock v = some k

theorem Outs.nil {ids : List Nat} : Outs E st ids [] := ⟨List.nodup_nil, fun k hk => by simp at hk⟩

theorem nodupN_append : ∀ (l r : List Nat), nodupN (lcat l r) = true → nodupN l = true ∧ nodupN r = true ∧ ∀ x, x ∈ l → x ∉ r
  | [], r, h => ⟨rfl, h, fun x hx => by simp at hx⟩
  | a :: l, r, h => by
    simp only [lcat, nodupN, Bool.and_eq_true, Bool.not_eq_true'] at h
    obtain ⟨h1, h2⟩ := h
    obtain ⟨k1, k2, k3⟩ := nodupN_append l r h2
    have hm : a ∉ l ∧ a ∉ r := by
      constructor
      · intro hx
        rw [memN_true.2 (mem_lcat.2 (.inl hx))] at h1
        cases h1
      · intro hx
        rw [memN_true.2 (mem_lcat.2 (.inr hx))] at h1
        cases h1
    refine ⟨?_, k2, fun x hx => ?_⟩
    · simp only [nodupN, Bool.and_eq_true, Bool.not_eq_true']
      refine ⟨?_, k1⟩
      cases hq : memN a l with
      | false => rfl
      | true => exact absurd (memN_true.1 hq) hm.1
    · rcases List.mem_cons.1 hx with rfl | hx
      · exact hm.2
      · exact k3 x hx

theorem Outs.append (hR : Rel D B0 w0 E st act w) {i1 i2 : List Nat} {b1 b2 : List Nat} (hn : ∀ x, x ∈ i1 → x ∉ i2) (h1 : Outs E st i1 b1) (h2 : Outs E st i2 b2) : Outs E st (lcat i1 i2) (b1 ++ b2) := by
  refine ⟨List.nodup_append.2 ⟨h1.1, h2.1, fun x hx y hy he => ?_⟩, fun k hk => ?_⟩
  · subst he
    obtain ⟨id, g1, b, v, g2, g3, g4, g5⟩ := h1.2 x hx
    obtain ⟨id', f1, b', v', f2, f3, f4, f5⟩ := h2.2 x hy
    exact hR.apart id id' b b' v v' x g2 g3 f2 f3 (by rintro rfl; exact hn _ g1 f1) g4 f4 g5 f5
  · rcases List.mem_append.1 hk with hk | hk
    · obtain ⟨id, g1, rest⟩ := h1.2 k hk
      exact ⟨id, mem_lcat.2 (.inl g1), rest⟩
    · obtain ⟨id, g1, rest⟩ := h2.2 k hk
      exact ⟨id, mem_lcat.2 (.inr g1), rest⟩

mutual
theorem xres_rel (hR : Rel D B0 w0 E st act w) {l0 : List Nat} (hi : ∀ id, id ∈ l0 → ∀ b v k, hlook st.h id = some b → E.ρ id = some v → vBlock v = some k → E.S k) :
    ∀ (a : AVal) (u : Value), RelV E w a u → (∀ id, id ∈ winIds a → id ∈ l0) → nodupN (ownIds a) = true → ∃ bs, RelX E.S w B0 (xres (hlook st.h) a) u bs ∧ Outs E st (ownIds a) bs
  | .own id, u, h, hw, hn => by
    simp only [RelV] at h
    simp only [xres]
    split
    · rename_i e c hb
      obtain ⟨v, hv, hrow, hns, _⟩ := hR.heap _ _ hb
      rw [h] at hv
      cases hv
      refine ⟨(vBlock u).toList, ?_, ?_, fun k hk => ?_⟩
      · simp only [RelX]
        exact ⟨hrow, trivial⟩
      · cases vBlock u <;> simp
      · refine ⟨id, by simp [ownIds], _, u, hb, rfl, h, ?_⟩
        cases hvb : vBlock u with
        | none => rw [hvb] at hk; simp at hk
        | some k' => rw [hvb] at hk; simp at hk; rw [hk]
    · rename_i e c hb
      refine ⟨[], ?_, Outs.nil⟩
      obtain ⟨v, hv, _, _, hs⟩ := hR.heap _ _ hb
      have hc : contA (hlook st.h) (.own id) = some c := by simp only [contA, hb]
      have := contA_slC hR (fun _ _ h => h) (S' := E.S) (fun _ h => h) hc (u := u) (by simp only [RelV]; exact h) (fun id' hid' b' v' k hb' hv' hk => by
        simp only [rowIds, List.mem_singleton] at hid'
        subst hid'
        rw [hb] at hb'
        cases hb'
        rw [hv] at hv'
        cases hv'
        exact hs rfl k hk)
      exact relX_plain (by simp only [RelV, noEnv]; exact this) (fun _ h => by cases h) (fun _ h => by cases h)
    · exact ⟨[], relX_plain (by simp only [RelV]) (fun _ h => by cases h) (fun _ h => by cases h), Outs.nil⟩
  | .agg l, u, h, hw, hn => by
    simp only [RelV] at h
    obtain ⟨cs, h1, h2⟩ := h
    obtain ⟨bs, k1, k2⟩ := xresF_rel hR hi l cs h2 (by simpa only [winIds] using hw) (by simpa only [ownIds] using hn)
    exact ⟨bs, by simp only [xres, RelX]; exact ⟨cs, h1, k1⟩, by simpa only [ownIds] using k2⟩
  | .tuple l, u, h, hw, hn => by
    simp only [RelV] at h
    obtain ⟨vs, h1, h2⟩ := h
    obtain ⟨bs, k1, k2⟩ := xresL_rel hR hi l vs h2 (by simpa only [winIds] using hw) (by simpa only [ownIds] using hn)
    exact ⟨bs, by simp only [xres, RelX]; exact ⟨vs, h1, k1⟩, by simpa only [ownIds] using k2⟩
  | .v x, u, h, hw, hn => ⟨[], relX_plain (xport_rel hR (fun _ _ h => h) (fun _ h => h) (.v x) u h (fun id hid => by simp [rowIds] at hid)) (fun _ h => by cases h) (fun _ h => by cases h), Outs.nil⟩
  | .bot, u, h, hw, hn => ⟨[], relX_plain (xport_rel hR (fun _ _ h => h) (fun _ h => h) .bot u h (fun id hid => by simp [rowIds] at hid)) (fun _ h => by cases h) (fun _ h => by cases h), Outs.nil⟩
  | .sl c, u, h, hw, hn => ⟨[], relX_plain (xport_rel hR (fun _ _ h => h) (fun _ h => h) (.sl c) u h (fun id hid => by simp [rowIds] at hid)) (fun _ h => by cases h) (fun _ h => by cases h), Outs.nil⟩
  | .arr k n l, u, h, hw, hn => ⟨[], relX_plain (xport_rel hR (fun _ _ h => h) (fun _ h => h) (.arr k n l) u h (fun id hid => by simp [rowIds] at hid)) (fun _ h => by cases h) (fun _ h => by cases h), Outs.nil⟩
  | .win id off len, u, h, hw, hn => ⟨[], relX_plain (xport_rel hR (fun _ _ h => h) (fun _ h => h) (.win id off len) u h (fun id' hid b v k hb hv hk => hi id' (hw id' (by simpa [winIds, rowIds] using hid)) b v k hb hv hk)) (fun _ h => by simp only [xres, xport] at h; split at h <;> cases h) (fun _ h => by simp only [xres, xport] at h; split at h <;> cases h), Outs.nil⟩
  | .awin id off m lo len, u, h, hw, hn => ⟨[], relX_plain (xport_rel hR (fun _ _ h => h) (fun _ h => h) (.awin id off m lo len) u h (fun id' hid b v k hb hv hk => hi id' (hw id' (by simpa [winIds, rowIds] using hid)) b v k hb hv hk)) (fun _ h => by simp only [xres, xport] at h; split at h <;> cases h) (fun _ h => by simp only [xres, xport] at h; split at h <;> cases h), Outs.nil⟩
  | .ptr id off, u, h, hw, hn => ⟨[], relX_plain (by simp only [xres, xport, RelV]) (fun _ h => by cases h) (fun _ h => by cases h), Outs.nil⟩
  | .pel id sz i, u, h, hw, hn => ⟨[], relX_plain (by simp only [xres, xport, RelV]) (fun _ h => by cases h) (fun _ h => by cases h), Outs.nil⟩
  | .apel id off m i, u, h, hw, hn => ⟨[], relX_plain (by simp only [xres, xport, RelV]) (fun _ h => by cases h) (fun _ h => by cases h), Outs.nil⟩
  | .sta l, u, h, hw, hn => ⟨[], relX_plain (by simp only [xres, xport, RelV]) (fun _ h => by cases h) (fun _ h => by cases h), Outs.nil⟩
  | .fn f a b, u, h, hw, hn => ⟨[], relX_plain (xport_rel hR (fun _ _ h => h) (fun _ h => h) (.fn f a b) u h (fun id' hid b' v k hb hv hk => hi id' (hw id' (by simpa [winIds, rowIds] using hid)) b' v k hb hv hk)) (fun _ h => by cases h) (fun _ h => by cases h), Outs.nil⟩
  | .iface t x, u, h, hw, hn => ⟨[], relX_plain (xport_rel hR (fun _ _ h => h) (fun _ h => h) (.iface t x) u h (fun id' hid b' v k hb hv hk => hi id' (hw id' (by simpa [winIds, rowIds] using hid)) b' v k hb hv hk)) (fun _ h => by cases h) (fun _ h => by cases h), Outs.nil⟩
  | .fr e c, u, h, hw, hn => by simp only [RelV] at h
  | .glob g off, u, h, hw, hn => ⟨[], relX_plain (by simp only [xres, xport, RelV]) (fun _ h => by cases h) (fun _ h => by cases h), Outs.nil⟩
  | .gel g off m i, u, h, hw, hn => ⟨[], relX_plain (by simp only [xres, xport, RelV]) (fun _ h => by cases h) (fun _ h => by cases h), Outs.nil⟩
theorem xresL_rel (hR : Rel D B0 w0 E st act w) {l0 : List Nat} (hi : ∀ id, id ∈ l0 → ∀ b v k, hlook st.h id = some b → E.ρ id = some v → vBlock v = some k → E.S k) :
    ∀ (l : List AVal) (vs : List Value), RelVs E w l vs → (∀ id, id ∈ winIdsL l → id ∈ l0) → nodupN (ownIdsL l) = true → ∃ bs, RelXs E.S w B0 (xresL (hlook st.h) l) vs bs ∧ Outs E st (ownIdsL l) bs
  | [], vs, h, hw, hn => by
    simp only [RelVs] at h
    exact ⟨[], by simp only [xresL, RelXs]; exact ⟨h, trivial⟩, Outs.nil⟩
  | a :: r, vs, h, hw, hn => by
    simp only [RelVs] at h
    obtain ⟨u, us, rfl, h2, h3⟩ := h
    simp only [ownIdsL] at hn ⊢
    simp only [winIdsL] at hw
    obtain ⟨n1, n2, n3⟩ := nodupN_append _ _ hn
    obtain ⟨b1, k1, k2⟩ := xres_rel hR hi a u h2 (fun id hid => hw id (mem_lcat.2 (.inl hid))) n1
    obtain ⟨b2, j1, j2⟩ := xresL_rel hR hi r us h3 (fun id hid => hw id (mem_lcat.2 (.inr hid))) n2
    exact ⟨b1 ++ b2, by simp only [xresL, RelXs]; exact ⟨u, us, b1, b2, rfl, rfl, k1, j1⟩, k2.append hR n3 j2⟩
theorem xresF_rel (hR : Rel D B0 w0 E st act w) {l0 : List Nat} (hi : ∀ id, id ∈ l0 → ∀ b v k, hlook st.h id = some b → E.ρ id = some v → vBlock v = some k → E.S k) :
    ∀ (l : List AVal) (cs : List Value), RelF E w l cs → (∀ id, id ∈ winIdsL l → id ∈ l0) → nodupN (ownIdsL l) = true → ∃ bs, RelXF E.S w B0 (xresL (hlook st.h) l) cs bs ∧ Outs E st (ownIdsL l) bs
  | [], cs, h, hw, hn => by
    simp only [RelF] at h
    exact ⟨[], by simp only [xresL, RelXF]; exact ⟨h, trivial⟩, Outs.nil⟩
  | a :: r, cs, h, hw, hn => by
    simp only [ownIdsL] at hn ⊢
    simp only [winIdsL] at hw
    obtain ⟨n1, n2, n3⟩ := nodupN_append _ _ hn
    rcases relF_cons h with ⟨k', n, l, cs', rfl, h1, rfl, h3⟩ | ⟨ha, u, cs', rfl, h2, h3, h4⟩
    · obtain ⟨b2, j1, j2⟩ := xresF_rel hR hi r cs' h3 (fun id hid => hw id (mem_lcat.2 (.inr hid))) n2
      exact ⟨b2, by simp only [xresL, xres, xport, RelXF]; exact ⟨cs', h1, rfl, j1⟩, by simpa only [ownIds, lcat] using j2⟩
    · obtain ⟨b1, k1, k2⟩ := xres_rel hR hi a u h3 (fun id hid => hw id (mem_lcat.2 (.inl hid))) n1
      obtain ⟨b2, j1, j2⟩ := xresF_rel hR hi r cs' h4 (fun id hid => hw id (mem_lcat.2 (.inr hid))) n2
      refine ⟨b1 ++ b2, ?_, k2.append hR n3 j2⟩
      have hx : ∀ k n l, xres (hlook st.h) a ≠ .arr k n l := by
        intro k n l
        cases a <;> simp only [xres, xport] <;> first
          | exact ha _ _ _
          | (intro h; cases h; done)
          | (split <;> (intro h; cases h; done))
      simp only [xresL]
      revert k1 hx
      generalize xres (hlook st.h) a = y
      intro k1 hx
      cases y <;> simp only [RelXF] <;> first
        | exact absurd rfl (hx _ _ _)
        | exact ⟨u, cs', b1, b2, rfl, h2, rfl, k1, j1⟩
end

theorem sig1_rel {S : Nat → Prop} {B : Nat} {s : Option (TypeId × Cont)} {a : AVal} {u : Value} {bs : List Nat} (h : RelX S w B a u bs) : RelX S w B (sig1 s a) u bs := by
  unfold sig1
  split
  · rename_i e c
    cases hq : Nat.beq c.len 0 with
    | false => exact h
    | true =>
      simp only [cond_true]
      simp only [RelX, RelV] at h
      obtain ⟨rfl, rfl⟩ := h
      simp only [RelX]
      exact ⟨⟨[], ownsRow_nil (Nat.eq_of_beq_eq_true hq), fun j x h => by simp at h⟩, rfl⟩
  · exact h
theorem sigA_rel {S : Nat → Prop} {B : Nat} : ∀ (sig : List (Option (TypeId × Cont))) (l : List AVal) (vs : List Value) (bs : List Nat), RelXs S w B l vs bs → RelXs S w B (sigA sig l) vs bs
  | [], [], vs, bs, h => h
  | s :: ss, [], vs, bs, h => h
  | [], a :: r, vs, bs, h => h
  | s :: ss, a :: r, vs, bs, h => by
    simp only [sigA, RelXs] at h ⊢
    obtain ⟨u, us, b1, b2, h1, h2, h3, h4⟩ := h
    exact ⟨u, us, b1, b2, h1, h2, sig1_rel h3, sigA_rel ss r us b2 h4⟩

theorem resV_ok (hR : Rel D B0 w0 E st act w) : ∀ (rs : List ResultVar) (l : List AVal), resV st.f rs = some l → ∃ vs, RelVs E w l vs ∧
    ∀ (P : Program) (g : ResultVar → Sem Value), (∀ t, g (.tmp t) = pure (act.tmps.getD t undef)) → (rs.mapM g).run P w = .ok vs w
  | [], l, h => by
    simp only [resV] at h
    cases h
    exact ⟨[], by simp only [RelVs], fun P g hg => rfl⟩
  | .cell _ _ :: r, l, h => by simp [resV] at h
  | .tmp t :: r, l, h => by
    simp only [resV] at h
    split at h
    · rename_i l' hl'
      cases h
      obtain ⟨vs, h1, h2⟩ := resV_ok hR r l' hl'
      refine ⟨act.tmps.getD t undef :: vs, by simp only [RelVs]; exact ⟨_, _, rfl, hR.tmps t, h1⟩, fun P g hg => ?_⟩
      simp only [List.mapM_cons, hg, Sem.run_bind, Sem.run_pure, Result.andThen_ok, h2 P g hg]
    · cases h

theorem look_initF : ∀ (l : List AVal) (i t : Nat), look (initF i l) t = if i ≤ t then l.getD (t - i) .bot else .bot
  | [], i, t => by simp [initF, look]
  | a :: r, i, t => by
    simp only [initF, look, look_initF r (i + 1) t]
    cases hb : Nat.beq i t with
    | true =>
      have := Nat.eq_of_beq_eq_true hb
      subst this
      simp
    | false =>
      have := Nat.ne_of_beq_eq_false hb
      simp only [cond_false]
      by_cases h1 : i + 1 ≤ t
      · rw [if_pos h1, if_pos (by omega), show t - i = (t - (i + 1)) + 1 by omega]
        simp
      · rw [if_neg h1, if_neg (by omega)]

theorem relVs_getD : ∀ (l : List AVal) (vs : List Value), RelVs E w l vs → ∀ t, t < l.length → RelV E w (l.getD t .bot) (vs.getD t undef)
  | [], vs, h, t, ht => by simp at ht
  | a :: r, vs, h, t, ht => by
    simp only [RelVs] at h
    obtain ⟨u, us, rfl, h1, h2⟩ := h
    cases t with
    | zero => simpa using h1
    | succ t => simpa using relVs_getD r us h2 t (by simpa using ht)
end

theorem initF_ok {E : Env} {w : World} {args : List AVal} {cargs : List Value} {m : Nat} (hargs : RelVs E w args cargs) (hle : args.length ≤ m) (t : Nat) :
    RelV E w (look (initF 0 args) t) ((cargs.toArray ++ Array.replicate (m - cargs.toArray.size) undef).getD t undef) := by
  have hlen := relVs_len _ _ hargs
  simp only [look_initF, Nat.zero_le, if_true, Nat.sub_zero]
  by_cases ht : t < args.length
  · have := relVs_getD args cargs hargs t ht
    have e : (cargs.toArray ++ Array.replicate (m - cargs.toArray.size) undef).getD t undef = cargs.getD t undef := by
      rw [Array.getD_eq_getD_getElem?, Array.getElem?_append_left (by simp; omega)]
      simp
    rw [e]
    exact this
  · have e : args.getD t .bot = .bot := by
      rw [List.getD_eq_getElem?_getD, List.getElem?_eq_none (by omega)]
      rfl
    rw [e]
    exact relV_bot _

/-- A FUNCTION's BODY. -/
theorem body_sound {D : Ctx} (hG : GOk D) (hG2 : GlobsPlain D) (hI : InlOk D) (hmix : D.P.follows .mixedOrders = true) {f : FuncId} {fn : Func} (hf : D.P.funcs[f]? = some fn) (hL : ∀ c, fn.body = some c → ∀ c', c' ∈ loopsOf c → LoopOk D c') (sig : List (Option (TypeId × Cont))) :
    SoundAt D.P D.globs f (bodyA D fn sig) := by
  intro args K r h
  unfold bodyA at h
  split at h
  · cases h
  · rename_i c hb
    cases hle : Nat.ble args.length fn.ntmps with
    | false => rw [hle] at h; cases h
    | true =>
      rw [hle] at h
      simp only [cond_true] at h
      have hle := Nat.le_of_ble_eq_true hle
      obtain ⟨ex, st, hK, hm, hcode⟩ := code_ok hG hG2 hI hmix c (hL c hb) _ _ r h
      have hout : (ex = .normal ∨ ex = .ret) ∧ outA sig fn st K = some r := by
        cases ex with
        | normal => exact ⟨.inl rfl, hK⟩
        | ret => exact ⟨.inr rfl, hK⟩
        | exit j => cases hK
      obtain ⟨hex, hout⟩ := hout
      unfold outA at hout
      split at hout
      · cases hout
      · rename_i l hl
        cases hnd : nodupN (ownIdsL l) with
        | false => rw [hnd] at hout; cases hout
        | true =>
          rw [hnd] at hout
          simp only [cond_true] at hout
          refine ⟨_, hout, fun S w cargs hSw hgl hargs => ?_⟩
          have hlen := relVs_len _ _ hargs
          have hR0 : Rel D w.heap.size ⟨w, S⟩ (noEnv S) ⟨initF 0 args, [], 0, fn.ntmps⟩ { tmps := cargs.toArray ++ Array.replicate (fn.ntmps - cargs.toArray.size) undef, defers := [] } w := by
            refine ⟨Below.refl _ _, Nat.le_refl _, by simp; omega, rfl, fun t => ?_, fun id b hb => by simp [hlook] at hb, fun id id' b b' u u' k hb => by simp [hlook] at hb, hSw, fun b hb => .inl hb, fun id u hu => by simp [noEnv] at hu, hgl⟩
            simp only [look_initF, Nat.zero_le, if_true, Nat.sub_zero]
            by_cases ht : t < args.length
            · have := relVs_getD args cargs hargs t ht
              have e : (cargs.toArray ++ Array.replicate (fn.ntmps - cargs.toArray.size) undef).getD t undef = cargs.getD t undef := by
                rw [Array.getD_eq_getD_getElem?, Array.getElem?_append_left (by simp; omega)]
                simp
              rw [e]
              exact this
            · have e : args.getD t .bot = .bot := by
                rw [List.getD_eq_getElem?_getD, List.getElem?_eq_none (by omega)]
                rfl
              rw [e]
              exact relV_bot _
          refine calls_of_wp hf hb (wp_mono (hcode _ _ (noEnv S) _ w hR0 (fun id u hu => by simp [noEnv] at hu)) (fun e a w' hL => ?_))
          obtain ⟨rfl, E', hup, hR, hD⟩ := hL
          have hres : a.defers = [] ∧ ∃ v, (results fn a.tmps).run D.P w' = .ok v w' ∧ ∃ Sn bs, Below w.heap.size w w' ∧ (∀ b, Sn b → S b ∨ (w.heap.size ≤ b ∧ b < w'.heap.size)) ∧ RelX Sn w' w.heap.size (oneOf (sigA sig (xresL (hlook (lcat (freeze (hlook st.h) (winIdsL l) []) st.h)) l))) v bs ∧ bs.Nodup ∧ ∀ b, b ∈ bs → ¬ Sn b := by
            refine ⟨hR.defers, ?_⟩
            obtain ⟨vs, hvs, hrun⟩ := resV_ok hR _ _ hl
            obtain ⟨E1, hρ1, up1, hR1, hfS, _⟩ := rel_freeze (hl := hlook st.h) (fun _ _ h => h) (winIdsL l) hR
            obtain ⟨vs1, hvs1, hrun1⟩ := resV_ok hR1 _ _ hl
            have hvv : vs1 = vs := by
              have h1 := hrun D.P (fun | .tmp t => pure (a.tmps.getD t undef) | _ => pure undef) (fun _ => rfl)
              rw [hrun1 D.P _ (fun _ => rfl)] at h1
              cases h1
              rfl
            subst hvv
            obtain ⟨bs, hx, ho⟩ := xresL_rel hR1 (l0 := winIdsL l) (fun id hid b v k hb hv hk => by
              have hfz := ‹∀ id b, hlook (lcat (freeze (hlook st.h) (winIdsL l) []) st.h) id = some b → ∃ b', hlook st.h id = some b' ∧ b'.b = b.b› id b hb
              obtain ⟨b', hb', _⟩ := hfz
              exact hfS id hid b' v k hb' (by rw [← hρ1]; exact hv) hk) l vs1 hvs1 (fun _ h => h) hnd
            have hx2 := sigA_rel sig _ _ _ hx
            refine ⟨if h : vs1.toArray.size = 1 then vs1.toArray[0] else .tuple vs1.toArray, ?_, E1.S, bs, hR.below, fun b hb => ?_, ?_, ho.1, fun b hb hS => ?_⟩
            · unfold results
              rw [Array.mapM_eq_mapM_toList]
              simp only [Sem.run_bind, Sem.run_map]
              rw [hrun1 D.P _ (fun _ => rfl)]
              rfl
            · rcases hR1.sNew b hb with h | h
              · exact .inl h
              · exact .inr ⟨h, hR1.sOld b hb⟩
            · generalize hy : sigA sig (xresL (hlook (lcat (freeze (hlook st.h) (winIdsL l) []) st.h)) l) = y at hx2
              have hly : y.length = vs1.length := by
                have : ∀ (y : List AVal) (vs : List Value) (bs : List Nat), RelXs E1.S w' w.heap.size y vs bs → y.length = vs.length := by
                  intro y
                  induction y with
                  | nil => intro vs bs h; simp only [RelXs] at h; rw [h.1]; rfl
                  | cons a r ih =>
                    intro vs bs h
                    simp only [RelXs] at h
                    obtain ⟨u, us, b1, b2, rfl, _, _, h⟩ := h
                    simp [ih us b2 h]
                exact this y vs1 bs hx2
              match y, vs1, hx2, hly with
              | [], [], hx2, _ => exact (by simp only [oneOf, RelX]; exact ⟨[], rfl, hx2⟩)
              | [a], [u], hx2, _ =>
                simp only [RelXs] at hx2
                obtain ⟨u', us, b1, b2, h1, h2, h3, h4, h5⟩ := hx2
                cases h1
                subst h5
                subst h2
                simpa [oneOf] using h3
              | a :: b :: r, u :: u' :: us, hx2, _ =>
                simp only [oneOf, RelX]
                exact ⟨_, by simp, hx2⟩
            · obtain ⟨id, _, b', v, h2, h3, h4, h5⟩ := ho.2 b hb
              obtain ⟨v', hv', _, hns, _⟩ := hR1.heap id b' h2
              rw [h4] at hv'
              cases hv'
              exact hns h3 b h5 hS
          obtain ⟨hdf, v, hrun, Sn, bs, k1, k2, k3, k4, k5⟩ := hres
          rcases hex with rfl | rfl
          · exact ⟨hdf, v, hrun, v, Sn, bs, rfl, k1, k2, k3, k4, k5⟩
          · exact ⟨hdf, v, hrun, v, Sn, bs, rfl, k1, k2, k3, k4, k5⟩

/-- what a state says of another frame's slots is kept -/
theorem Rel.swap {D : Ctx} {B0 : Nat} {w0 : W0} {E E' : Env} {f f' : List (Nat × AVal)} {h h' : Hp} {n n' m m' : Nat} {act act' : Act} {w w' : World} (hR : Rel D B0 w0 E ⟨f, h, n, m⟩ act w) (up : Up E E' w w')
    (hR' : Rel D B0 w0 E' ⟨f', h', n', m'⟩ act' w') : Rel D B0 w0 E' ⟨f, h', n', m⟩ act w' where
  below := hR'.below
  base := hR'.base
  size := hR.size
  defers := hR.defers
  tmps := fun t => RelV.mono up _ _ (hR.tmps t)
  heap := hR'.heap
  apart := hR'.apart
  sOld := hR'.sOld
  sNew := hR'.sNew
  form := hR'.form
  globs := hR'.globs

/-- A FUNCTION's BODY within its caller's memory. -/
theorem bodyIn_ok {D : Ctx} (hG : GOk D) (hG2 : GlobsPlain D) (hI : InlOk D) (hmix : D.P.follows .mixedOrders = true) {f : FuncId} {fn : Func} (hf : D.P.funcs[f]? = some fn) (hL : ∀ c, fn.body = some c → ∀ c', c' ∈ loopsOf c → LoopOk D c') :
    RunOk D f (bodyIn D fn) := by
  intro args h n K r hb
  unfold bodyIn at hb
  split at hb
  · cases hb
  · rename_i c hc
    cases hle : Nat.ble args.length fn.ntmps with
    | false => rw [hle] at hb; cases hb
    | true =>
      rw [hle] at hb
      simp only [cond_true] at hb
      have hle := Nat.le_of_ble_eq_true hle
      obtain ⟨ex, st, hK, hm, hcode⟩ := code_ok hG hG2 hI hmix c (hL c hc) _ _ r hb
      have hout : (ex = .normal ∨ ex = .ret) ∧ bodyIn.outIn fn st K = some r := by
        cases ex with
        | normal => exact ⟨.inl rfl, hK⟩
        | ret => exact ⟨.inr rfl, hK⟩
        | exit j => cases hK
      obtain ⟨hex, hout⟩ := hout
      unfold bodyIn.outIn at hout
      split at hout
      · cases hout
      · rename_i l hl
        refine ⟨_, _, _, hout, fun B0 w0 E f' m act w cargs hR hD hargs => ?_⟩
        have hlen := relVs_len _ _ hargs
        have hR0 : Rel D B0 w0 E ⟨initF 0 args, h, n, fn.ntmps⟩ { tmps := cargs.toArray ++ Array.replicate (fn.ntmps - cargs.toArray.size) undef, defers := [] } w :=
          { hR with
            size := by simp; omega
            defers := rfl
            tmps := initF_ok hargs hle }
        refine calls_of_wp hf hc (wp_mono (hcode _ _ E _ w hR0 hD) (fun e a w' hL => ?_))
        obtain ⟨rfl, E', hup, hR', hD'⟩ := hL
        obtain ⟨vs, hvs, hrun⟩ := resV_ok hR' _ _ hl
        have hres : a.defers = [] ∧ ∃ v, (results fn a.tmps).run D.P w' = .ok v w' ∧ RelV E' w' (oneOf l) v := by
          refine ⟨hR'.defers, if h : vs.toArray.size = 1 then vs.toArray[0] else .tuple vs.toArray, ?_, ?_⟩
          · unfold results
            rw [Array.mapM_eq_mapM_toList]
            simp only [Sem.run_bind, Sem.run_map]
            rw [hrun D.P _ (fun _ => rfl)]
            rfl
          · have hly := relVs_len _ _ hvs
            match l, vs, hvs, hly with
            | [], [], hvs, _ => exact (by simp only [oneOf, RelV]; exact ⟨[], rfl, hvs⟩)
            | [x], [u], hvs, _ =>
              simp only [RelVs] at hvs
              obtain ⟨u', us, h1, h2, h3⟩ := hvs
              cases h1
              simpa [oneOf] using h2
            | x :: y :: r, u :: u' :: us, hvs, _ =>
              simp only [oneOf, RelV]
              exact ⟨_, by simp, hvs⟩
        obtain ⟨hdf, v, hrun, hv⟩ := hres
        rcases hex with rfl | rfl
        · exact ⟨hdf, v, hrun, v, E', rfl, hup, hR.swap hup hR', hD', hv⟩
        · exact ⟨hdf, v, hrun, v, E', rfl, hup, hR.swap hup hR', hD', hv⟩
end Go.Abs
