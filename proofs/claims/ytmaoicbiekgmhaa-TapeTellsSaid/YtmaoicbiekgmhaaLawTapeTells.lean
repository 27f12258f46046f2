/-
  TapeTells: for every input the law returns true, and each argument reads behind the call as it read before. No condition.
-/
import Derived.Test.YtmaoicbiekgmhaaTapeTellsI
import Derived.Test.YtmaoicbiekgmhaaTapeTellsK
import Derived.Test.YtmaoicbiekgmhaaTapeTellsJ
import Derived.Test.YtmaoicbiekgmhaaRows
import Derived.WalkKit
import Derived.ProofKit
import Derived.OpenShut
import Derived.ShutString
import Derived.ChangeOld
import Derived.SizedLaws
namespace Go.Proofs.Ytmaoicbiekgmhaa.tapeTells
open Go.ChangeShapes Go.WideShapes Go.ChangeAt Go.RowKit Go.Abs
set_option linter.unusedVariables false
theorem own : ownKnob Try.prog.godebug = none := by kernel_rfl
theorem laidOut : laidOutB Try.prog = true := by kernel_rfl
theorem func : Try.prog.funcs[4]? = some Try.f4 := by kernel_rfl
theorem params : Try.f4.params = #[24, 24, 3, 37] := by kernel_rfl
theorem uBool : Try.prog.underlying 4 = some .bool := by kernel_rfl
theorem g24 : goodT Try.prog 9 24 = true := by kernel_rfl
theorem a24 : isAggT Try.prog 24 = some true := by kernel_rfl
theorem e24 (l : List AVal) : Go.Abs.Good Try.prog 9 24 l = (∃ p1 q1, l = p1 ++ q1 ∧ (∃ xs, p1 = [.sl (.ints .u8 xs)] ∧ xs.length ≤ 140737488355328 ∧ ∀ x, x ∈ xs → wfI .u8 x) ∧ (∃ p2 q2, q1 = p2 ++ q2 ∧ (∃ n, p2 = [.v (.int .i64 n)] ∧ wfI .i64 n) ∧ (q2 = []))) := by kernel_rfl
theorem u3 : Try.prog.underlying 3 = some (.int .i64) := by kernel_rfl
theorem u37 : Try.prog.underlying 37 = some (.slice 3) := by kernel_rfl
theorem g37 : goodT Try.prog 9 37 = true := by kernel_rfl
theorem e37 (l : List AVal) : Go.Abs.Good Try.prog 9 37 l = (∃ xs, l = [.sl (.ints .i64 xs)] ∧ xs.length ≤ 140737488355328 ∧ ∀ x, x ∈ xs → wfI .i64 x) := by kernel_rfl
set_option maxRecDepth 100000 in
theorem lifted (os : Os) (started : os.Started) (H : Type) (enc : TypeId × Value → H) :
    ReturnsInHanded {} Try.checked os 4 .any (Rows.tapeTellsSpec.pre6 enc Try.prog Try.f4 Rows.tapeTellsRow.domain false) (Rows.tapeTellsSpec.post enc Try.prog Try.f4 false true false false) := by
  refine returnsInHanded_of_change_sized (C := Try.checked) own started (by kernel_rfl) func
    (ChangeSpec.witness6 (enc := enc) (C := Try.checked) false ⟨#[], #[.agg #[.slice none 0 0, .int .i64 0], .agg #[.slice none 0 0, .int .i64 0], .int .i64 0, .slice none 0 0], []⟩ 8 (by kernel_rfl) (by kernel_rfl) (by kernel_rfl) (by kernel_rfl)) ?_
  intro W base args ds gs before hval0 hW hcnd hsz0 _
  have hval : ∀ (j : Nat) t v, Try.f4.params[j]? = some t → args[j]? = some v → Value.okWide Try.prog W .any base t v := hval0
  have hW' := hW
  obtain ⟨p, q, hA0, hV, rfl, hfz, hnd⟩ := hW
  have hA : DataW.TrodAll enc Try.prog W 0 (fun _ => true) true Try.f4.params.toList args.toList ds p := hA0
  rw [params] at hA hval
  obtain ⟨v0, vs0, d0, ds0, p0, q0, hargs, rfl, rfl, h0, r0⟩ := trodAll_cons hA
  obtain ⟨v1, vs1, d1, ds1, p1, q1, rfl, rfl, rfl, h1, r1⟩ := trodAll_cons r0
  obtain ⟨v2, vs2, d2, ds2, p2, q2, rfl, rfl, rfl, h2, r2⟩ := trodAll_cons r1
  obtain ⟨v3, vs3, d3, ds3, p3, q3, rfl, rfl, rfl, h3, r3⟩ := trodAll_cons r2
  obtain ⟨rfl, rfl, rfl⟩ := trodAll_nil r3
  obtain rfl : args = #[v0, v1, v2, v3] := by cases args; simp_all
  obtain ⟨rfl, rfl⟩ := trodVars_none hV
  have lt0 := trod_blocks h0
  have k0 := h0
  have z0 : ∀ n, n ∈ d0.weights Try.prog 24 → n ≤ reachBytes := fun n hn => by simpa using List.all_eq_true.1 hsz0 _ (DataW.weights_mem_each (j := 0) (t := 24) (d := d0) (by rw [show Try.f4.params = _ from params]; rfl) rfl n hn)
  obtain ⟨l0, G0, s0⟩ := read_agg 9 g24 a24 (hval 0 24 v0 rfl rfl) h0 (z0)
  rw [e24] at G0
  obtain ⟨_, _, rfl, ⟨x0_Bytes, rfl, nx0_Bytes, wx0_Bytes⟩, ⟨_, _, rfl, ⟨x0_At, rfl, wx0_At⟩, rfl⟩⟩ := G0
  have lt1 := trod_blocks h1
  have k1 := h1
  have z1 : ∀ n, n ∈ d1.weights Try.prog 24 → n ≤ reachBytes := fun n hn => by simpa using List.all_eq_true.1 hsz0 _ (DataW.weights_mem_each (j := 1) (t := 24) (d := d1) (by rw [show Try.f4.params = _ from params]; rfl) rfl n hn)
  obtain ⟨l1, G1, s1⟩ := read_agg 9 g24 a24 (hval 1 24 v1 rfl rfl) h1 (z1)
  rw [e24] at G1
  obtain ⟨_, _, rfl, ⟨x1_Bytes, rfl, nx1_Bytes, wx1_Bytes⟩, ⟨_, _, rfl, ⟨x1_At, rfl, wx1_At⟩, rfl⟩⟩ := G1
  have lt2 := trod_blocks h2
  have k2 := h2
  obtain ⟨x2, rfl, rfl, rfl, wx2⟩ := open_int u3 (hval 2 3 v2 rfl rfl) h2
  have s2 : RelV (noEnv (allB W)) W (.v (.int .i64 x2)) (.int .i64 x2) := by simp only [RelV]
  have lt3 := trod_blocks h3
  have k3 := h3
  have z3 : ∀ n, n ∈ d3.weights Try.prog 37 → n ≤ reachBytes := fun n hn => by simpa using List.all_eq_true.1 hsz0 _ (DataW.weights_mem_each (j := 3) (t := 37) (d := d3) (by rw [show Try.f4.params = _ from params]; rfl) rfl n hn)
  obtain ⟨l3, G3, s3⟩ := read_slice 8 g37 u37 (hval 3 37 v3 rfl rfl) h3 (z3)
  rw [e37] at G3
  obtain ⟨x3, hl3, nx3, wx3⟩ := G3
  cases hl3
  clear hA0 hval0 hsz0
  have hs : ∀ K, L13_TapeTells.spec [.agg [.sl (.ints .u8 x0_Bytes), .v (.int .i64 x0_At)], .agg [.sl (.ints .u8 x1_Bytes), .v (.int .i64 x1_At)], .v (.int .i64 x2), .sl (.ints .i64 x3)] K = P.L13_TapeTells x0_Bytes x0_At x1_Bytes x1_At x2 x3 (fun r0 => K (.v (.bool r0))) := by intro K; kernel_rfl
  obtain ⟨a, hK, hrun⟩ := L13_TapeTells.ok.sound [.agg [.sl (.ints .u8 x0_Bytes), .v (.int .i64 x0_At)], .agg [.sl (.ints .u8 x1_Bytes), .v (.int .i64 x1_At)], .v (.int .i64 x2), .sl (.ints .i64 x3)] (fun v => match v with | .v (.bool true) => some (.v (.bool true)) | _ => none) (.v (.bool true)) (by
    rw [hs, Q.TapeTells x0_Bytes x0_At x1_Bytes x1_At x2 x3 nx0_Bytes wx0_Bytes wx0_At nx1_Bytes wx1_Bytes wx1_At wx2 nx3 wx3])
  have ha : a = .v (.bool true) := by
    split at hK
    · rfl
    · cases hK
  subst ha
  refine (hrun (allB W) W [_, _, _, _] (fun _ h => h) (fun g l h => by simp [assoc] at h) ?_).mono fun e W' he => ?_
  · simp only [RelVs]
    exact ⟨_, _, rfl, s0, ⟨_, _, rfl, s1, ⟨_, _, rfl, s2, ⟨_, _, rfl, s3, rfl⟩⟩⟩⟩
  obtain ⟨v, Sn, bs, rfl, bel, _, hv, _⟩ := he
  simp only [RelX, RelV] at hv
  obtain ⟨rfl, _⟩ := hv
  exact ⟨_, rfl, _, _, _, [], _, [], hW', trodAll_mk1 (shut_bool uBool _), trodAll_cons_mk (Below.trod laidOut (by kernel_rfl) (of_decide_eq_true (by kernel_rfl)) k0 bel lt0) (trodAll_cons_mk (Below.trod laidOut (by kernel_rfl) (of_decide_eq_true (by kernel_rfl)) k1 bel lt1) (trodAll_cons_mk (Below.trod laidOut (by kernel_rfl) (of_decide_eq_true (by kernel_rfl)) k2 bel lt2) (trodAll_cons_mk (Below.trod laidOut (by kernel_rfl) (of_decide_eq_true (by kernel_rfl)) k3 bel lt3) (trodAll_mk0)))), rfl, bel.frame _, fun h => by cases h⟩
theorem over : Rows.tapeTellsRow.holds Try.pinned (OpenSpec.ofChange Rows.tapeTellsSpec) :=
  OpenClaim.holds_of_wide 4 Try.f4 rfl rfl rfl rfl rfl rfl rfl ⟨rfl, rfl, rfl, rfl, rfl⟩ rfl rfl rfl rfl rfl (by kernel_rfl) func (by kernel_rfl)
    (of_decide_eq_true (by kernel_rfl)) (by unfold Func.isWrapper; first | (rw [if_pos (by decide +kernel)]; kernel_rfl) | (rw [if_neg (by decide +kernel)]; exact ⟨rfl, rfl⟩))
    (fun os started H enc _ => lifted os started H enc)
theorem proved : Rows.TapeTellsSaid := over
end Go.Proofs.Ytmaoicbiekgmhaa.tapeTells
