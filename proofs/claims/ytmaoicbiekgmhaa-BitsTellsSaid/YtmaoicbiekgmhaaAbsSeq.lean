import Derived.Test.YtmaoicbiekgmhaaAbsCode
namespace Go.Abs
open Go Go.RowKit
set_option linter.unusedVariables false
set_option linter.unusedSimpArgs false

structure EqS (a b : ASt) : Prop where
  f : ∀ t, look a.f t = look b.f t
  h : ∀ id, hlook a.h id = hlook b.h id
  m : a.m = b.m

theorem EqS.refl (a : ASt) : EqS a a := ⟨fun _ => rfl, fun _ => rfl, rfl⟩
theorem EqS.symm {a b : ASt} (h : EqS a b) : EqS b a := ⟨fun t => (h.f t).symm, fun t => (h.h t).symm, h.m.symm⟩
theorem EqS.trans {a b c : ASt} (h : EqS a b) (k : EqS b c) : EqS a c := ⟨fun t => (h.f t).trans (k.f t), fun t => (h.h t).trans (k.h t), h.m.trans k.m⟩

def Dom (E : Env) (n : Nat) : Prop := ∀ id u, E.ρ id = some u → id < n

section
variable {D : Ctx} {B0 : Nat} {w0 : W0} {E : Env} {act : Act} {w : World} {ops : Array Oper}

theorem Rel.eqS {a b : ASt} (h : Rel D B0 w0 E a act w) (e : EqS a b) : Rel D B0 w0 E b act w where
  below := h.below
  base := h.base
  size := h.size.trans e.m
  defers := h.defers
  tmps := fun t => by rw [← e.f t]; exact h.tmps t
  heap := fun id b hb => h.heap id b (by rw [e.h id]; exact hb)
  apart := fun id id' b b' u u' k h1 h2 h3 h4 => h.apart id id' b b' u u' k (by rw [e.h id]; exact h1) h2 (by rw [e.h id']; exact h3) h4
  sOld := h.sOld
  sNew := h.sNew
  form := h.form
  globs := h.globs

theorem put_same {st : ASt} {t : Nat} {a : AVal} (h : look st.f t = a) : EqS st (st.put (some t) a) := by
  refine ⟨fun t' => ?_, fun _ => rfl, rfl⟩
  simp only [ASt.put]
  rw [look_putF]
  split
  · rename_i hc
    cases hc.1
    exact h
  · rfl

/-- what the guard says -/
def GuardIs (ops : Array Oper) (o : Oper) (st : ASt) (q : Bool) : Prop :=
  match o.guard with
  | none => q = true
  | some (j, want) => ∃ t, guardT ops j = some t ∧ ((∃ b, look st.f t = .v (.bool b) ∧ q = (b == want)) ∨ (∃ x, look st.f t = .v (.tuple x) ∧ q = false))

theorem guardA_some {o : Oper} {st : ASt} {F S : ASt → Option R} {r : R} (h : guardA ops o st F S = some r) :
    ∃ st', EqS st st' ∧ st'.n = st.n ∧ ((GuardIs ops o st true ∧ F st' = some r) ∨ (GuardIs ops o st false ∧ S st' = some r)) := by
  unfold guardA at h
  unfold GuardIs
  split at h
  · rename_i hg
    rw [hg]
    exact ⟨st, EqS.refl _, rfl, .inl ⟨rfl, h⟩⟩
  · rename_i j want hg
    rw [hg]
    split at h
    · cases h
    · rename_i t ht
      split at h
      · rename_i b hb
        rcases br_some h with ⟨rfl, h4⟩ | ⟨rfl, h4⟩
        · cases want with
          | true => exact ⟨_, put_same hb, rfl, .inl ⟨⟨t, ht, .inl ⟨true, hb, rfl⟩⟩, h4⟩⟩
          | false => exact ⟨_, put_same hb, rfl, .inr ⟨⟨t, ht, .inl ⟨true, hb, rfl⟩⟩, h4⟩⟩
        · cases want with
          | true => exact ⟨_, put_same hb, rfl, .inr ⟨⟨t, ht, .inl ⟨false, hb, rfl⟩⟩, h4⟩⟩
          | false => exact ⟨_, put_same hb, rfl, .inl ⟨⟨t, ht, .inl ⟨false, hb, rfl⟩⟩, h4⟩⟩
      · rename_i x hx
        exact ⟨st, EqS.refl _, rfl, .inr ⟨⟨t, ht, .inr ⟨x, hx, rfl⟩⟩, h⟩⟩
      · cases h

theorem GuardIs.wanted {o : Oper} {st : ASt} {q : Bool} (h : GuardIs ops o st q) (hR : Rel D B0 w0 E st act w) : Region.wanted o (yielded ops act.tmps) = q := by
  unfold GuardIs at h
  unfold Region.wanted
  split at h
  · rename_i hg
    rw [hg]
    exact h.symm
  · rename_i j want hg
    rw [hg]
    obtain ⟨t, ht, ⟨b, hb, rfl⟩ | ⟨x, hb, rfl⟩⟩ := h
    · have h1 := hR.tmps t
      rw [hb] at h1
      simp only [RelV] at h1
      have h2 : yielded ops act.tmps j = some b := by
        unfold yielded
        unfold guardT at ht
        rw [ht]
        simp only [Option.bind_some]
        rw [Array.getD_eq_getD_getElem?] at h1
        cases hx : act.tmps[t]? with
        | none => rw [hx] at h1; simp [undef] at h1
        | some x => rw [hx] at h1; simp at h1; subst h1; rfl
      simp only [h2]
      cases b <;> cases want <;> rfl
    · have h1 := hR.tmps t
      rw [hb] at h1
      simp only [RelV] at h1
      have h2 : yielded ops act.tmps j = none := by
        unfold yielded
        unfold guardT at ht
        rw [ht]
        simp only [Option.bind_some]
        rw [Array.getD_eq_getD_getElem?] at h1
        cases hx : act.tmps[t]? with
        | none => rfl
        | some y => rw [hx] at h1; simp at h1; subst h1; rfl
      simp only [h2]
      cases want <;> rfl

theorem relV_bot (u : Value) : RelV E w .bot u := by simp only [RelV]
theorem relV_undef : RelV E w (.v undef) undef := by simp only [RelV]

theorem Up.dom {E E' : Env} {n n' : Nat} {st : ASt} (hd : Dom E n) (hle : n ≤ n') (h : ∀ id x, E'.ρ id = some x → E.ρ id = some x ∨ (n ≤ id ∧ id < n')) : Dom E' n' := by
  intro id u hu
  rcases h id u hu with h | h
  · exact Nat.lt_of_lt_of_le (hd id u h) hle
  · exact h.2

/-- what is asked of a function that is run within its caller's memory -/
def RunOk (D : Ctx) (g : FuncId) (s : ISpec) : Prop :=
  ∀ (args : List AVal) (h : Hp) (n : Nat) (K : AVal → Hp → Nat → Option R) (r : R), s args h n K = some r → ∃ v h' n', K v h' n' = some r ∧
    ∀ (B0 : Nat) (w0 : W0) (E : Env) (f : List (Nat × AVal)) (m : Nat) (act : Act) (w : World) (cargs : List Value), Rel D B0 w0 E ⟨f, h, n, m⟩ act w → Dom E n → RelVs E w args cargs →
      Calls D.P g cargs.toArray w fun e w' => ∃ u E', e = .returned u ∧ Up E E' w w' ∧ Rel D B0 w0 E' ⟨f, h', n', m⟩ act w' ∧ Dom E' n' ∧ RelV E' w' v u

def InlOk (D : Ctx) : Prop := ∀ g s, iassoc D.inl g = some s → Enters D.P g ∧ RunOk D g s

theorem directOf_some {op : Op} {g : Nat} {as : List Operand} (h : directOf op = some (g, as)) : ∃ xs at_, op = .call ⟨.value (.func g), xs, at_⟩ ∧ as = xs.toList := by
  unfold directOf at h
  split at h
  · cases h; exact ⟨_, _, rfl, rfl⟩
  · cases h

/-- AN OPERATION of a region in order. -/
theorem doA_ok (hG : GOk D) (hG2 : GlobsPlain D) (hI : InlOk D) {o : Oper} {st : ASt} {K : ASt → Option R} {r : R} (h : doA D o st K = some r) :
    ∃ st', K st' = some r ∧ st'.m = st.m ∧ ∀ (B0 : Nat) (w0 : W0) E act w (next : Act → World → Prop) (Q : Exit → Act → World → Prop), Rel D B0 w0 E st act w → Dom E st.n →
      (∀ E' act' w', Up E E' w w' → Rel D B0 w0 E' st' act' w' → Dom E' st'.n → next act' w') → o.wp D.P act w next Q := by
  unfold doA at h
  split at h
  · rename_i s as hi
    unfold inlOf at hi
    split at hi
    · rename_i g as' hd
      split at hi
      · rename_i s' hs
        cases hi
        obtain ⟨xs, at_, hop, rfl⟩ := directOf_some hd
        obtain ⟨hent, hrun⟩ := hI g s hs
        obtain ⟨v, h', n', hK, hcall⟩ := hrun _ _ _ _ r h
        refine ⟨_, hK, rfl, fun B0 w0 E act w next Q hR hD hnext => ?_⟩
        have hc := hcall B0 w0 E st.f st.m act w (xs.toList.map act.eval) hR hD (hR.evs _)
        have hexec : (execOp act.eval o).run D.P w = .ok (.enter g (xs.toList.map act.eval).toArray) w := by
          have e1 : (#[] ++ Array.map act.eval xs) ++ #[] = (xs.toList.map act.eval).toArray := by
            apply Array.ext'
            simp
          have hfn : act.eval (.func g) = .func (.func g) #[] #[] := rfl
          obtain ⟨dst, op, type, pos, after, guard⟩ := o
          simp only at hop
          subst hop
          simp only [execOp, resolve, hfn, Deferred.ofValue, invoke, Sem.run_bind, Sem.run_pure, Result.andThen_ok, e1, run_callFunc hent]
        unfold Oper.wp
        rw [hexec, Oper.upon_enter]
        refine hc.mono ?_
        rintro e w' ⟨u, E', rfl, k1, k2, k3, k4⟩
        exact hnext E' _ w' k1 (Rel.put (st := ⟨st.f, h', n', st.m⟩) k2 k4 o.dst) k3
      · cases hi
    · cases hi
  · unfold opA at h
    obtain ⟨eff, hK, hle, hok⟩ := core_ok (dst := o.dst) (type := o.type) (pos := o.pos) (after := o.after) (guard := o.guard) hG hG2 h
    refine ⟨_, hK, rfl, fun B0 w0 E act w next Q hR hD hnext => ?_⟩
    refine hok B0 w0 st rfl (fun id b hb => ?_) rfl E act w hR (fun id h1 h2 => ?_) _ Q (fun E' w' u k1 k2 k3 => ?_)
    · unfold mask at hb
      cases hm : mentionsL id (evs st.f (opnds o.op)) with
      | true => rw [hm] at hb; exact hb
      | false => rw [hm] at hb; cases hb
    · cases hx : E.ρ id with
      | none => rfl
      | some x => have := hD id x hx; omega
    · exact hnext E' _ w' k1 k3 (Up.dom (st := st) (n := st.n) hD hle k2)

/-- A REGION IN ORDER. -/
theorem opsA_ok (hG : GOk D) (hG2 : GlobsPlain D) (hI : InlOk D) : ∀ (rest : List Oper) (i : Nat) (st : ASt) (K : ASt → Option R) (r : R), ops.toList.drop i = rest → opsA D ops rest st K = some r →
    ∃ st', K st' = some r ∧ st'.m = st.m ∧ ∀ (B0 : Nat) (w0 : W0) E act w Q, Rel D B0 w0 E st act w → Dom E st.n →
      (∀ E' act' w', Up E E' w w' → Rel D B0 w0 E' st' act' w' → Dom E' st'.n → Q Exit.normal act' w') → wpOps D.P ops Q (List.range' i rest.length) act w
  | [], i, st, K, r, hd, h => ⟨st, h, rfl, fun B0 w0 E act w Q hR hD hQ => hQ E act w (Up.refl _ _) hR hD⟩
  | o :: rest, i, st, K, r, hd, h => by
    have hoi : ops[i]? = some o := by
      have : (ops.toList.drop i)[0]? = some o := by rw [hd]; rfl
      simpa using this
    have hd' : ops.toList.drop (i + 1) = rest := by
      rw [← List.drop_drop, hd]; rfl
    unfold opsA at h
    obtain ⟨s1, e1, hn1, hc⟩ := guardA_some h
    rcases hc with ⟨hg, h⟩ | ⟨hg, h⟩
    · obtain ⟨s2, hK, hm2, hok⟩ := doA_ok hG hG2 hI h
      obtain ⟨st', h1, h2, h4⟩ := opsA_ok hG hG2 hI rest (i + 1) _ K r hd' hK
      refine ⟨st', h1, h2.trans (hm2.trans e1.m.symm), fun B0 w0 E act w Q hR hD hQ => ?_⟩
      simp only [List.length_cons, List.range'_succ, wpOps, hoi]
      rw [if_pos (hg.wanted hR)]
      refine .inl ?_
      refine hok B0 w0 E act w _ Q (hR.eqS e1) (by rw [hn1]; exact hD) (fun E' a' w' k1 k2 k3 => ?_)
      exact h4 B0 w0 E' a' w' Q k2 k3 (fun E2 a2 w2 k4 k5 k6 => hQ E2 a2 w2 (k1.trans k4) k5 k6)
    · obtain ⟨st', h1, h2, h4⟩ := opsA_ok hG hG2 hI rest (i + 1) _ K r hd' h
      refine ⟨st', h1, h2.trans e1.m.symm, fun B0 w0 E act w Q hR hD hQ => ?_⟩
      simp only [List.length_cons, List.range'_succ, wpOps, hoi]
      rw [if_neg (by rw [hg.wanted hR]; simp)]
      refine h4 B0 w0 E _ w Q ((hR.eqS e1).put relV_undef _) ?_ hQ
      simp only [ASt.put]
      rw [hn1]
      exact hD

theorem region_ok (hG : GOk D) (hG2 : GlobsPlain D) (hI : InlOk D) {id : Nat} {st : ASt} {K : ASt → Option R} {r : R} (h : opsA D ops ops.toList st K = some r) :
    ∃ st', K st' = some r ∧ st'.m = st.m ∧ ∀ (B0 : Nat) (w0 : W0) E act w Q, Rel D B0 w0 E st act w → Dom E st.n →
      (∀ E' act' w', Up E E' w w' → Rel D B0 w0 E' st' act' w' → Dom E' st'.n → Q Exit.normal act' w') → (Code.region id ops false).wp D.P Q act w := by
  obtain ⟨st', h1, h2, h4⟩ := opsA_ok hG hG2 hI ops.toList 0 st K r rfl h
  refine ⟨st', h1, h2, fun B0 w0 E act w Q hR hD hQ => wp_region ?_⟩
  have := h4 B0 w0 E act w Q hR hD hQ
  rw [List.range_eq_range']
  simpa using this
end
end Go.Abs
