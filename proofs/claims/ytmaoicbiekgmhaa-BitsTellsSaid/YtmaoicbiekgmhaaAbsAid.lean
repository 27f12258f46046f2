import Derived.Test.YtmaoicbiekgmhaaAbsKit
import Derived.IntWalk
namespace Go.Abs
open Go

/-- so many elements a row may have -/
def lim : Nat := 1099511627776

theorem i64w {x : Int} (h : -9223372036854775808 ≤ x) (h2 : x ≤ 9223372036854775807) : IntKind.i64.wrap x = x := IntWalk.i64_in x ⟨h, h2⟩
theorem br_k {b c : Bool} (h : b = c) {α : Type} (x y : α) : br b x y = br c x y := by rw [h]

/-- the head of what is left -/
theorem drop_getD {α : Type} (l : List α) (d : α) (i : Nat) (h : i < l.length) : l.drop i = l.getD i d :: l.drop (i + 1) := by
  rw [List.drop_eq_getElem_cons h]
  simp [List.getD_eq_getElem?_getD, h]

theorem pre_some {p : Prop} [Decidable p] {x : Option R} {r : R} (h : br (decide p) x none = some r) : p ∧ x = some r := by
  obtain ⟨h1, h2⟩ := br_true h
  exact ⟨of_decide_eq_true h1, h2⟩
end Go.Abs
