/-
  MacStarts, part T: an interpreter of my own over abstract values, the pure functions, the walks and the plain law.
-/

import Derived.Test.YtjhnljhjpnjieaaDoorMacStartsQ
import Derived.LaidMore
import Derived.FnData
import Derived.OpenShut

/- Package variables that the program's text lays. -/
namespace Go.Abs
open Go Go.Deep Go.ChangeShapes
set_option linter.unusedVariables false
theorem globsOk_nil (S : Nat → Prop) (w : World) : GlobsOk [] S w := fun g l h => by simp [assoc] at h
theorem globsOk_cons {S : Nat → Prop} {w : World} {g : Nat} {l : List AVal} {r : List (Nat × List AVal)} (h0 : S g ∧ ∃ cs e fz, w.heap[g]? = some (.cells cs e fz) ∧ RelF (noEnv S) w l cs.toList) (h : GlobsOk r S w) : GlobsOk ((g, l) :: r) S w := by
 intro g' l' hg
 simp only [assoc] at hg
 cases hb : Nat.beq g g' with
 | true =>
  rw [hb] at hg
  cases hg
  have := Nat.eq_of_beq_eq_true hb
  subst this
  exact h0
 | false =>
  rw [hb] at hg
  exact h g' l' hg
theorem list_of_parts {H : Type} {k : IntKind} : ∀ (l : List Int) (cs : List Value) (xs : List (DataW H × List MemPlace)), cs.length = l.length → xs.length = l.length →
    xs.map (·.1) = l.map (fun z => .lit (.int k z)) → (∀ i, i < l.length → ∃ n, (cs.drop i).take 1 = [.int k n] ∧ xs[i]? = some (.lit (.int k n), [])) → cs = l.map (Value.int k)
 | [], cs, xs, h1, h2, h3, h4 => by
  have : cs = [] := List.eq_nil_of_length_eq_zero h1
  rw [this]; rfl
 | z :: l, [], xs, h1, h2, h3, h4 => by simp at h1
 | z :: l, c :: cs, [], h1, h2, h3, h4 => by simp at h2
 | z :: l, c :: cs, x :: xs, h1, h2, h3, h4 => by
  simp only [List.length_cons, Nat.add_right_cancel_iff] at h1 h2
  simp only [List.map_cons, List.cons.injEq] at h3
  obtain ⟨n, e1, e2⟩ := h4 0 (by simp)
  simp only [List.drop_zero, List.take_succ_cons, List.take_zero, List.cons.injEq, and_true] at e1
  simp only [List.getElem?_cons_zero, Option.some.injEq] at e2
  have e3 := h3.1
  rw [e2] at e3
  simp only [DataW.lit.injEq, Lit.int.injEq, true_and] at e3
  rw [list_of_parts l cs xs h1 h2 h3.2 (fun i hi => by
   obtain ⟨n, f1, f2⟩ := h4 (i + 1) (by simp; omega)
   exact ⟨n, by simpa using f1, by simpa using f2⟩)]
  rw [e1, e3]
  rfl
theorem laid_cons {P : Program} {w : World} {name : String} {d : DataW Unit} {r : List (String × DataW Unit)} {ps : List MemPlace} (h : DataW.LaidVars P w ((name, d) :: r) ps) {g t e n : Nat} {k : IntKind} {l : List Int}
    (hg : P.globalNamed name = some g) (ht : (P.globals[g]?).map (·.type) = some t) (hu : P.underlying t = some (.array n e)) (he : P.underlying e = some (.int k)) (hc : P.cellsOf e = 1) (hct : P.cellsOf t = n) (hl : l.length = n)
    (hd : d = .agg (l.map fun z => .lit (.int k z))) : (allB w g ∧ ∃ cs et fz, w.heap[g]? = some (.cells cs et fz) ∧ RelF (noEnv (allB w)) w [.arr k n l] cs.toList) ∧ ∃ q, DataW.LaidVars P w r q := by
 obtain ⟨g', t', cs, fuel, p, q, h1, h2, h3, h4, h5, _⟩ := h
 obtain rfl := Option.some.inj (hg.symm.trans h1)
 obtain rfl := Option.some.inj (ht.symm.trans h2)
 refine ⟨?_, q, h5⟩
 obtain ⟨xs, m, rfl, hx, hlen, hxl, hel⟩ := DataW.trod_array hu h4
 simp only [Prod.mk.injEq] at hx
 rw [hd] at hx
 simp only [DataW.agg.injEq] at hx
 rw [hct] at hlen
 have hcs : cs.toList = l.map (Value.int k) := by
  refine list_of_parts l cs.toList xs (by rw [hlen, hl]) (by rw [hxl, hl]) hx.1.symm (fun i hi => ?_)
  have := hel i (by omega)
  rw [hc, Nat.mul_one] at this
  obtain ⟨y, hy⟩ : ∃ y, xs[i]? = some y := ⟨xs[i]'(by omega), List.getElem?_eq_getElem (by omega)⟩
  rw [hy] at this
  obtain ⟨z, e1, e2, _⟩ := DataW.trod_int he this
  exact ⟨z, e1, by rw [hy, e2]⟩
 have hheap : ∃ et fz, w.heap[g]? = some (.cells cs et fz) := by
  unfold World.var? at h3
  rw [hg, Option.bind_some] at h3
  split at h3
  ·rename_i c et fz hh
   cases h3
   exact ⟨_, _, hh⟩
  ·cases h3
 obtain ⟨et, fz, hh⟩ := hheap
 refine ⟨(Array.getElem?_eq_some_iff.1 hh).1, cs, et, fz, hh, ?_⟩
 rw [hcs]
 simp only [RelF]
 exact ⟨[], hl, by simp, rfl⟩
theorem flat_cells {k : IntKind} {m : Nat} : ∀ (ls : List (List Int)) (cs : List Value), cs.length = ls.length * m → (∀ l, l ∈ ls → l.length = m) →
    (∀ i, i < ls.length → (cs.drop (i * m)).take m = (ls.getD i []).map (Value.int k)) → cs = ls.flatten.map (Value.int k) ∧ ls.flatten.length = ls.length * m
 | [], cs, h1, _, _ => by
  have : cs = [] := List.eq_nil_of_length_eq_zero (by simpa using h1)
  subst this
  simp
 | l :: ls, cs, h1, h2, h3 => by
  simp only [List.length_cons, Nat.succ_mul] at h1
  have e0 := h3 0 (by simp)
  simp only [Nat.zero_mul, List.drop_zero, List.getD_cons_zero] at e0
  obtain ⟨g1, g2⟩ := flat_cells (k := k) ls (cs.drop m) (by rw [List.length_drop, h1]; omega) (fun x hx => h2 x (List.mem_cons_of_mem _ hx)) (fun i hi => by
   have := h3 (i + 1) (by simp; omega)
   rw [List.getD_cons_succ] at this
   rw [List.drop_drop, show m + i * m = (i + 1) * m by rw [Nat.succ_mul]; omega]
   exact this)
  refine ⟨?_, by rw [List.flatten_cons, List.length_append, g2, h2 l (List.mem_cons_self ..), List.length_cons, Nat.succ_mul, Nat.add_comm]⟩
  rw [List.flatten_cons, List.map_append, ← g1, ← e0, List.take_append_drop]
theorem laid_cons2 {P : Program} {w : World} {name : String} {d : DataW Unit} {r : List (String × DataW Unit)} {ps : List MemPlace} (h : DataW.LaidVars P w ((name, d) :: r) ps) {g t e f n m : Nat} {k : IntKind} {ls : List (List Int)}
    (hg : P.globalNamed name = some g) (ht : (P.globals[g]?).map (·.type) = some t) (hu : P.underlying t = some (.array n e)) (he : P.underlying e = some (.array m f)) (hf : P.underlying f = some (.int k)) (hc : P.cellsOf f = 1) (hce : P.cellsOf e = m) (hct : P.cellsOf t = n * m) (hl : ls.length = n)
    (hls : (ls.all fun l => Nat.beq l.length m) = true)
    (hd : d = .agg (ls.map fun l => .agg (l.map fun z => .lit (.int k z)))) : (allB w g ∧ ∃ cs et fz, w.heap[g]? = some (.cells cs et fz) ∧ RelF (noEnv (allB w)) w [.arr k (n * m) ls.flatten] cs.toList) ∧ ∃ q, DataW.LaidVars P w r q := by
 have hls : ∀ l, l ∈ ls → l.length = m := fun l h => Nat.eq_of_beq_eq_true (List.all_eq_true.1 hls l h)
 obtain ⟨g', t', cs, fuel, p, q, h1, h2, h3, h4, h5, _⟩ := h
 obtain rfl := Option.some.inj (hg.symm.trans h1)
 obtain rfl := Option.some.inj (ht.symm.trans h2)
 refine ⟨?_, q, h5⟩
 obtain ⟨xs, fu, rfl, hx, hlen, hxl, hel⟩ := DataW.trod_array hu h4
 simp only [Prod.mk.injEq] at hx
 rw [hd] at hx
 simp only [DataW.agg.injEq] at hx
 rw [hct] at hlen
 have hcs : ∀ i, i < ls.length → (cs.toList.drop (i * m)).take m = (ls.getD i []).map (Value.int k) := by
  intro i hi
  have h6 := hel i (by omega)
  rw [hce] at h6
  obtain ⟨y, hy⟩ : ∃ y, xs[i]? = some y := ⟨xs[i]'(by omega), List.getElem?_eq_getElem (by omega)⟩
  rw [hy] at h6
  obtain ⟨zs, fu', rfl, hz, hzlen, hzl, hzel⟩ := DataW.trod_array he h6
  have hgi : ls.getD i [] = ls[i] := by rw [List.getD_eq_getElem?_getD, List.getElem?_eq_getElem hi]; rfl
  have hli : (ls.getD i []).length = m := by rw [hgi]; exact hls _ (List.getElem_mem hi)
  have hy1 : y.1 = DataW.agg ((ls.getD i []).map fun z => .lit (.int k z)) := by
   have := congrArg (fun l => l[i]?) hx.1
   simp only [List.getElem?_map, hy, List.getElem?_eq_getElem hi, Option.map_some, Option.some.injEq] at this
   rw [hgi, ← this]
  rw [hz] at hy1
  simp only [DataW.agg.injEq] at hy1
  refine list_of_parts (ls.getD i []) _ zs (by rw [hzlen, hce, hli]) (by rw [hzl, hli]) hy1 (fun j hj => ?_)
  have h7 := hzel j (by omega)
  rw [hc, Nat.mul_one] at h7
  obtain ⟨v, hv⟩ : ∃ v, zs[j]? = some v := ⟨zs[j]'(by omega), List.getElem?_eq_getElem (by omega)⟩
  rw [hv] at h7
  obtain ⟨z, e1, e2, _⟩ := DataW.trod_int hf h7
  exact ⟨z, e1, by rw [hv, e2]⟩
 have hheap : ∃ et fz, w.heap[g]? = some (.cells cs et fz) := by
  unfold World.var? at h3
  rw [hg, Option.bind_some] at h3
  split at h3
  ·rename_i c et fz hh
   cases h3
   exact ⟨_, _, hh⟩
  ·cases h3
 obtain ⟨et, fz, hh⟩ := hheap
 obtain ⟨f1, f2⟩ := flat_cells ls cs.toList (by rw [hlen, hl]) hls hcs
 refine ⟨(Array.getElem?_eq_some_iff.1 hh).1, cs, et, fz, hh, ?_⟩
 have := relF_arr (E := noEnv (allB w)) (w := w) (k := k) (r := []) (cs' := []) (f2.trans (by rw [hl])) (by simp only [RelF])
 rw [List.append_nil, ← f1] at this
 exact this
end Go.Abs
