/-
  XmssHypers, part 26: an interpreter of my own over abstract values, the pure functions, the walks and the plain law.
-/

import Derived.Test.YtjhnljhjpnjieaaGreatDoorXmssHypersV
import Derived.LaidMore
import Derived.FnData
import Derived.OpenShut

/- Package variables that the program's text lays. -/
namespace Go.Abs
open Go Go.Deep Go.ChangeShapes
set_option linter.unusedVariables false
theorem bhz (S : Nat → Prop) (w : World) : aoy [] S w := fun g l h => by simp [assoc] at h
theorem agx {S : Nat → Prop} {w : World} {g : Nat} {l : List AVal} {r : List (Nat × List AVal)} (h0 : S g ∧ ∃ cs e fz, w.heap[g]? = some (.cells cs e fz) ∧ ou (tq S) w l cs.toList) (h : aoy r S w) : aoy ((g, l) :: r) S w := by
 intro g' l' hg
 simp only [assoc] at hg
 cases hb : Nat.beq g g' with
 | true =>
  rw [hb] at hg
  cases hg
  have := Nat.eq_of_beq_eq_true hb
  subst this
  exact h0
 | false =>
  rw [hb] at hg
  exact h g' l' hg
theorem atq {H : Type} {k : IntKind} : ∀ (l : List Int) (cs : List Value) (xs : List (DataW H × List MemPlace)), cs.length = l.length → xs.length = l.length →
    xs.map (·.1) = l.map (fun z => .lit (.int k z)) → (∀ i, i < l.length → ∃ n, (cs.drop i).take 1 = [.int k n] ∧ xs[i]? = some (.lit (.int k n), [])) → cs = l.map (Value.int k)
 | [], cs, xs, h1, h2, h3, h4 => by
  have : cs = [] := List.eq_nil_of_length_eq_zero h1
  rw [this]; rfl
 | z :: l, [], xs, h1, h2, h3, h4 => by simp at h1
 | z :: l, c :: cs, [], h1, h2, h3, h4 => by simp at h2
 | z :: l, c :: cs, x :: xs, h1, h2, h3, h4 => by
  simp only [List.length_cons, Nat.add_right_cancel_iff] at h1 h2
  simp only [List.map_cons, List.cons.injEq] at h3
  obtain ⟨n, e1, e2⟩ := h4 0 (by simp)
  simp only [List.drop_zero, List.take_succ_cons, List.take_zero, List.cons.injEq, and_true] at e1
  simp only [List.getElem?_cons_zero, Option.some.injEq] at e2
  have e3 := h3.1
  rw [e2] at e3
  simp only [DataW.lit.injEq, Lit.int.injEq, true_and] at e3
  rw [atq l cs xs h1 h2 h3.2 (fun i hi => by
   obtain ⟨n, f1, f2⟩ := h4 (i + 1) (by simp; omega)
   exact ⟨n, by simpa using f1, by simpa using f2⟩)]
  rw [e1, e3]
  rfl
theorem anl {P : Program} {w : World} {name : String} {d : DataW Unit} {r : List (String × DataW Unit)} {ps : List MemPlace} (h : DataW.LaidVars P w ((name, d) :: r) ps) {g t e n : Nat} {k : IntKind} {l : List Int}
    (hg : P.globalNamed name = some g) (ht : (P.globals[g]?).map (·.type) = some t) (hu : P.underlying t = some (.array n e)) (he : P.underlying e = some (.int k)) (hc : P.cellsOf e = 1) (hct : P.cellsOf t = n) (hl : l.length = n)
    (hd : d = .agg (l.map fun z => .lit (.int k z))) : (bek w g ∧ ∃ cs et fz, w.heap[g]? = some (.cells cs et fz) ∧ ou (tq (bek w)) w [.arr k n l] cs.toList) ∧ ∃ q, DataW.LaidVars P w r q := by
 obtain ⟨g', t', cs, fuel, p, q, h1, h2, h3, h4, h5, _⟩ := h
 obtain rfl := Option.some.inj (hg.symm.trans h1)
 obtain rfl := Option.some.inj (ht.symm.trans h2)
 refine ⟨?_, q, h5⟩
 obtain ⟨xs, m, rfl, hx, hlen, hxl, hel⟩ := DataW.trod_array hu h4
 simp only [Prod.mk.injEq] at hx
 rw [hd] at hx
 simp only [DataW.agg.injEq] at hx
 rw [hct] at hlen
 have hcs : cs.toList = l.map (Value.int k) := by
  refine atq l cs.toList xs (by rw [hlen, hl]) (by rw [hxl, hl]) hx.1.symm (fun i hi => ?_)
  have := hel i (by omega)
  rw [hc, Nat.mul_one] at this
  obtain ⟨y, hy⟩ : ∃ y, xs[i]? = some y := ⟨xs[i]'(by omega), List.getElem?_eq_getElem (by omega)⟩
  rw [hy] at this
  obtain ⟨z, e1, e2, _⟩ := DataW.trod_int he this
  exact ⟨z, e1, by rw [hy, e2]⟩
 have hheap : ∃ et fz, w.heap[g]? = some (.cells cs et fz) := by
  unfold World.var? at h3
  rw [hg, Option.bind_some] at h3
  split at h3
  ·rename_i c et fz hh
   cases h3
   exact ⟨_, _, hh⟩
  ·cases h3
 obtain ⟨et, fz, hh⟩ := hheap
 refine ⟨(Array.getElem?_eq_some_iff.1 hh).1, cs, et, fz, hh, ?_⟩
 rw [hcs]
 simp only [ou]
 exact ⟨[], hl, by simp, rfl⟩
end Go.Abs
