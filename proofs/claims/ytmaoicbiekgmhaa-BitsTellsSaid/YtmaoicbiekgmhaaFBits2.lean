import Derived.Test.YtmaoicbiekgmhaaGBits2
open Go Go.Abs Go.Proofs
set_option linter.unusedVariables false
set_option linter.unusedSimpArgs false

namespace F31
theorem drop_set_lt (l : List Int) (i : Nat) (a : Int) (h : i < l.length) : (l.set i a).drop i = a :: l.drop (i + 1) := by
  rw [List.drop_eq_getElem_cons (by simpa using h)]
  simp [List.drop_set]
theorem loop : LoopOk D (loopAt Try.f31 5) := by
  refine loopOk_of lass5 (fun st K r h => ?_)
  unfold L5 at h
  split at h
  · rename_i v0 v6 h0 hV
    have := V5_ok hV
    subst this
    obtain ⟨⟨h1, h2, h3⟩, h⟩ := pre_some h
    unfold lim at h1
    refine loop_ind (fun x : Int × Int × List Int => S5 x.1 x.2.1 x.2.2) (fun x => x.2.2.length ≤ 1099511627776 ∧ -1 ≤ x.2.1 ∧ x.2.1 < (x.2.2.length : Int) ∧ K (.exit 0) (S5 (shn x.1 (x.2.1 + 1).toNat) (-1) (be x.1 (x.2.1 + 1).toNat ++ x.2.2.drop (x.2.1 + 1).toNat)) = some r) (fun x => (x.2.1 + 1).toNat) ?_ (x := (v0, v6, h0)) ⟨h1, h2, h3, h⟩
    rintro ⟨v, x, l⟩ ⟨h1, h2, h3, h⟩ next hn
    simp only at h1 h2 h3 h hn ⊢
    rw [round5]
    by_cases hx : 0 ≤ x
    · rw [br_pos hx, br_pos hx, br_pos h3, i64w (by omega) (by omega)]
      refine hn (v.fdiv ((2 : Int) ^ 8), x - 1, l.set x.toNat (IntKind.u8.wrap (bits BinOp.and IntKind.u64 v (255 : Int)))) ⟨by simpa using h1, by simp only; omega, by simp only [List.length_set]; omega, ?_⟩ (by simp only; omega)
      simp only
      rw [show (x + 1).toNat = x.toNat + 1 by omega] at h
      rw [show (x - 1 + 1).toNat = x.toNat by omega, drop_set_lt _ _ _ (by omega)]
      simpa only [be, shn, sh, List.append_assoc, List.cons_append, List.nil_append] using h
    · rw [br_neg hx]
      have : x = -1 := by omega
      subst this
      simpa [be, shn] using h
  · cases h
def text (n w : Int) : List Int := if 0 ≤ w ∧ w ≤ 65536 then be n w.toNat else []
def spec : Abs.Spec := fun args K => match args with
  | [.v (.int .u64 n), .v (.int .i64 w)] => K (.fr 5 (.ints .u8 (text n w)))
  | _ => none
theorem ok : Proved Try.prog [] 31 spec := by
  refine proved_of (D := D) (fn := Try.f31) (c := Try.f31.body.getD .skip) [some (5, .ints .u8 [])] (by kernel_rfl) rfl (by kernel_rfl) (by kernel_rfl) (by kernel_rfl) trivial trivial ?_ ?_
  · rw [loops]; exact ⟨loop, trivial⟩
  · intro args K r h
    unfold spec at h
    split at h
    · rename_i n w
      rw [body]
      unfold text at h
      by_cases hw : 0 ≤ w ∧ w ≤ 65536
      · rw [if_pos hw] at h
        rw [br_neg (by omega), br_neg (by omega), br_pos hw.1, br_pos (by omega), br_pos (by omega), i64w (by omega) (by omega), br_pos ⟨by simp; omega, by omega, by simp; omega⟩]
        rw [show (w - 1 + 1).toNat = w.toNat by omega, List.drop_eq_nil_of_le (by simp), List.append_nil]
        exact h
      · rw [if_neg hw] at h
        by_cases h1 : w < 0
        · rw [br_pos h1]; exact h
        · rw [br_neg h1, br_pos (by omega)]; exact h
    · cases h
end F31

namespace F32
theorem loop : LoopOk D (loopAt Try.f32 5) := by
  refine loopOk_of lass5 (fun st K r h => ?_)
  unfold L5 at h
  split at h
  · rename_i v0 v16 v17 h0 hV
    have := V5_ok hV
    subst this
    obtain ⟨⟨h1, h2, h3, h4⟩, h⟩ := pre_some h
    refine loop_ind (fun x : Int × List Int => S5 v0 v16 x.1 x.2) (fun x => 0 ≤ x.1 ∧ x.1 ≤ v16 ∧ v16 ≤ (x.2.length : Int) ∧ K (.exit 0) (S5 v0 v16 v16 (x.2.take x.1.toNat ++ le v0 x.1.toNat (v16 - x.1).toNat ++ x.2.drop v16.toNat)) = some r) (fun x => (v16 - x.1).toNat) ?_ (x := (v17, h0)) ⟨h1, h2, h4, h⟩
    rintro ⟨x, l⟩ ⟨h1, h2, h4, h⟩ next hn
    simp only at h1 h2 h4 h hn ⊢
    rw [round5]
    by_cases hx : x < v16
    · rw [br_pos hx, br_neg (by rw [i64w (by omega) (by omega)]; omega), br_pos h1, br_pos (by omega), i64w (x := x + 1) (by omega) (by omega), i64w (x := 8 * x) (by omega) (by omega)]
      refine hn (x + 1, _) ⟨by simp only; omega, by simp only; omega, by simp only [List.length_set]; exact h4, ?_⟩ (by simp only; omega)
      simp only
      rw [show (v16 - x).toNat = (v16 - (x + 1)).toNat + 1 by omega] at h
      rw [show (x + 1).toNat = x.toNat + 1 by omega]
      have e1 : (l.set x.toNat (IntKind.u8.wrap (v0.fdiv (2 ^ min (8 * x).toNat 64)))).take (x.toNat + 1) = l.take x.toNat ++ [byte v0 x.toNat] := by
        rw [List.take_add_one, List.take_set_of_le (Nat.le_refl _)]
        congr 1
        rw [List.getElem?_set_self (by omega)]
        simp only [byte, Option.toList]
        rw [show ((x.toNat : Nat) : Int) = x by omega]
      have e2 : (l.set x.toNat (IntKind.u8.wrap (v0.fdiv (2 ^ min (8 * x).toNat 64)))).drop v16.toNat = l.drop v16.toNat := by
        rw [List.drop_set_of_lt (by omega)]
      rw [e1, e2]
      simpa [le] using h
    · rw [br_neg hx]
      have : x = v16 := by omega
      subst this
      simpa [le] using h
  · cases h
def text (n w : Int) : List Int := if 0 ≤ w ∧ w ≤ 65536 then le n 0 (min 8 w.toNat) ++ List.replicate (w.toNat - 8) 0 else []
def spec : Abs.Spec := fun args K => match args with
  | [.v (.int .u64 n), .v (.int .i64 w)] => K (.fr 5 (.ints .u8 (text n w)))
  | _ => none
theorem ok : Proved Try.prog [] 32 spec := by
  refine proved_of (D := D) (fn := Try.f32) (c := Try.f32.body.getD .skip) [some (5, .ints .u8 [])] (by kernel_rfl) rfl (by kernel_rfl) (by kernel_rfl) (by kernel_rfl) trivial trivial ?_ ?_
  · rw [loops]; exact ⟨loop, trivial⟩
  · intro args K r h
    unfold spec at h
    split at h
    · rename_i n w
      rw [body]
      unfold text at h
      by_cases hw : 0 ≤ w ∧ w ≤ 65536
      · rw [if_pos hw] at h
        rw [br_neg (by omega), br_neg (by omega), br_pos hw.1, br_pos (by omega), br_pos (by omega)]
        by_cases h8 : (8 : Int) < w
        · rw [decide_eq_true h8]
          simp only [cond_true]
          rw [br_pos ⟨by omega, by omega, by omega, by simp; omega⟩]
          rw [show min 8 w.toNat = 8 by omega] at h
          simpa using h
        · rw [decide_eq_false h8]
          simp only [cond_false]
          rw [br_pos ⟨by omega, by omega, by omega, by simp; omega⟩]
          rw [show min 8 w.toNat = w.toNat by omega, show w.toNat - 8 = 0 by omega] at h
          simpa using h
      · rw [if_neg hw] at h
        by_cases h1 : w < 0
        · rw [br_pos h1]; exact h
        · rw [br_neg h1, br_pos (by omega)]; exact h
    · cases h
end F32

namespace F70
theorem swp_next (h : List Int) (i j : Nat) (h1 : i < j) (h2 : j < h.length) : swp ((h.set i (h.getD j 0)).set j (h.getD i 0)) (i + 1) j = swp h i (j + 1) := by
  unfold swp
  simp only [List.length_set]
  apply List.map_congr_left
  intro t ht
  have ht : t < h.length := by simpa using ht
  have g : ∀ q, ((h.set i (h.getD j 0)).set j (h.getD i 0)).getD q 0 = if q = j then h.getD i 0 else if q = i then h.getD j 0 else h.getD q 0 := by
    intro q
    simp only [List.getD_eq_getElem?_getD, List.getElem?_set, List.length_set]
    by_cases e1 : j = q
    · subst e1; simp [h2]
    · by_cases e2 : i = q
      · subst e2; simp [e1, show i < h.length by omega, Ne.symm e1]
      · simp [e1, e2, Ne.symm e1, Ne.symm e2]
  rw [g]
  by_cases c1 : i + 1 ≤ t ∧ t < j
  · rw [if_pos c1, if_pos (show i ≤ t ∧ t < j + 1 by omega), if_neg (by omega), if_neg (by omega)]
    congr 1; omega
  · rw [if_neg c1]
    by_cases c2 : t = j
    · rw [if_pos c2, if_pos (by omega)]; congr 1; omega
    · rw [if_neg c2]
      by_cases c3 : t = i
      · rw [if_pos c3, if_pos (by omega)]; congr 1; omega
      · rw [if_neg c3, if_neg (by omega)]
theorem swp_end (h : List Int) (i j : Nat) (h1 : j ≤ i + 1) : swp h i j = h := by
  unfold swp
  apply List.ext_getElem?
  intro t
  simp only [List.getElem?_map, List.getElem?_range]
  by_cases ht : t < h.length
  · rw [List.getElem?_range ht]
    simp only [Option.map_some]
    have : (if i ≤ t ∧ t < j then i + (j - 1 - t) else t) = t := by split <;> omega
    rw [this]
    simp [List.getD_eq_getElem?_getD, ht]
  · rw [List.getElem?_eq_none (by simpa using ht), List.getElem?_eq_none (by omega)]
    rfl
theorem swp_all (h : List Int) : swp h 0 h.length = h.reverse := by
  unfold swp
  apply List.ext_getElem?
  intro t
  by_cases ht : t < h.length
  · rw [List.getElem?_map, List.getElem?_range ht, List.getElem?_reverse ht]
    simp only [Option.map_some]
    rw [if_pos ⟨by omega, ht⟩]
    simp only [List.getD_eq_getElem?_getD, Nat.zero_add]
    rw [List.getElem?_eq_getElem (by omega)]
    rfl
  · rw [List.getElem?_eq_none (by simpa using ht), List.getElem?_eq_none (by simpa using ht)]
theorem loop : LoopOk D (loopAt Try.f70 1) := by
  refine loopOk_of lass1 (fun st K r h => ?_)
  unfold L1 at h
  split at h
  · rename_i v2 v3 h0 hV
    have := V1_ok hV
    subst this
    obtain ⟨⟨h1, h2, h3, h4⟩, h⟩ := pre_some h
    unfold lim at h1
    refine loop_ind (fun x : Int × Int × List Int => S1 x.1 x.2.1 x.2.2) (fun x => x.2.2.length ≤ 1099511627776 ∧ 0 ≤ x.1 ∧ x.1 ≤ x.2.1 + 1 ∧ x.2.1 < (x.2.2.length : Int) ∧ K (.exit 0) (S1 (x.1 + (x.2.1 - x.1 + 1) / 2) (x.2.1 - (x.2.1 - x.1 + 1) / 2) (swp x.2.2 x.1.toNat (x.2.1 + 1).toNat)) = some r) (fun x => (x.2.1 - x.1 + 1).toNat) ?_ (x := (v2, v3, h0)) ⟨h1, h2, h3, h4, h⟩
    rintro ⟨i, j, l⟩ ⟨h1, h2, h3, h4, h⟩ next hn
    simp only at h1 h2 h3 h4 h hn ⊢
    rw [round1]
    by_cases hx : i < j
    · rw [br_pos hx, br_pos (by omega), br_pos h4, br_pos h2, br_pos (by omega), br_pos h2, br_pos (by omega), br_pos (by omega), br_pos (by simp only [List.length_set]; exact h4), i64w (x := i + 1) (by omega) (by omega), i64w (x := j - 1) (by omega) (by omega)]
      refine hn (i + 1, j - 1, _) ⟨by simpa using h1, by simp only; omega, by simp only; omega, by simp only [List.length_set]; omega, ?_⟩ (by simp only; omega)
      simp only
      rw [show (i + 1).toNat = i.toNat + 1 by omega, show (j - 1 + 1).toNat = j.toNat by omega, swp_next l i.toNat j.toNat (by omega) (by omega), show j.toNat + 1 = (j + 1).toNat by omega, show i + 1 + (j - 1 - (i + 1) + 1) / 2 = i + (j - i + 1) / 2 by omega, show j - 1 - (j - 1 - (i + 1) + 1) / 2 = j - (j - i + 1) / 2 by omega]
      exact h
    · rw [br_neg hx]
      rw [swp_end _ _ _ (by omega)] at h
      by_cases he : i = j
      · subst he
        rw [show i + (i - i + 1) / 2 = i by omega, show i - (i - i + 1) / 2 = i by omega] at h
        exact h
      · rw [show i + (j - i + 1) / 2 = i by omega, show j - (j - i + 1) / 2 = j by omega] at h
        exact h
  · cases h
def spec : ISpec := fun args h n K => match args, h, n with
  | [.own 0], [(0, some ⟨.row 5 (.ints .u8 l), false⟩)], 1 => br (decide (l.length ≤ lim)) (K (.tuple []) [(0, some ⟨.row 5 (.ints .u8 l.reverse), false⟩)] 1) none
  | _, _, _ => none
theorem ok {D' : Ctx} (hP : D'.P = Try.prog) (hg : D'.globs = []) : Enters D'.P 70 ∧ RunOk D' 70 spec := by
  refine run_of (D := D) (fn := Try.f70) (c := Try.f70.body.getD .skip) hP hg (by kernel_rfl) rfl (by kernel_rfl) (by kernel_rfl) (by kernel_rfl) trivial trivial ?_ ?_
  · rw [loops]; exact ⟨loop, trivial⟩
  · intro args hh n K r h
    unfold spec at h
    split at h
    · rename_i l
      obtain ⟨hp, h⟩ := pre_some h
      unfold lim at hp
      rw [body, i64w (by omega) (by omega), br_pos ⟨by simpa [lim] using hp, by omega, by omega, by omega⟩]
      rw [show ((l.length : Int) - 1 + 1).toNat = l.length by omega, swp_all]
      exact h
    · cases h
end F70
