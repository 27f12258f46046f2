/-
  LmotsTells: for every input the law returns true, and each argument reads behind the call as it read before. No condition.
-/
import Derived.Test.YtmaoicbiekgmhaaLmotsTellsG
import Derived.Test.YtmaoicbiekgmhaaLmotsTellsJ
import Derived.Test.YtmaoicbiekgmhaaLmotsTellsH
import Derived.Test.YtmaoicbiekgmhaaRows
import Derived.WalkKit
import Derived.ProofKit
import Derived.OpenShut
import Derived.ShutString
import Derived.ChangeOld
import Derived.SizedLaws
namespace Go.Proofs.Ytmaoicbiekgmhaa.lmotsTells
open Go.ChangeShapes Go.WideShapes Go.ChangeAt Go.RowKit Go.Abs
set_option linter.unusedVariables false
theorem own : ownKnob Try.prog.godebug = none := by kernel_rfl
theorem laidOut : laidOutB Try.prog = true := by kernel_rfl
theorem func : Try.prog.funcs[7]? = some Try.f7 := by kernel_rfl
theorem params : Try.f7.params = #[3, 22] := by kernel_rfl
theorem uBool : Try.prog.underlying 4 = some .bool := by kernel_rfl
theorem u3 : Try.prog.underlying 3 = some (.int .i64) := by kernel_rfl
theorem u22 : Try.prog.underlying 22 = some (.slice 5) := by kernel_rfl
theorem g22 : goodT Try.prog 9 22 = true := by kernel_rfl
theorem e22 (l : List AVal) : Go.Abs.Good Try.prog 9 22 l = (∃ xs, l = [.sl (.ints .u8 xs)] ∧ xs.length ≤ 140737488355328 ∧ ∀ x, x ∈ xs → wfI .u8 x) := by kernel_rfl
set_option maxRecDepth 100000 in
theorem lifted (os : Os) (started : os.Started) (H : Type) (enc : TypeId × Value → H) :
    ReturnsInHanded {} Try.checked os 7 .any (Rows.lmotsTellsSpec.pre6 enc Try.prog Try.f7 Rows.lmotsTellsRow.domain false) (Rows.lmotsTellsSpec.post enc Try.prog Try.f7 false true false false) := by
  refine returnsInHanded_of_change_sized (C := Try.checked) own started (by kernel_rfl) func
    (ChangeSpec.witness6 (enc := enc) (C := Try.checked) false ⟨#[], #[.int .i64 0, .slice none 0 0], []⟩ 8 (by kernel_rfl) (by kernel_rfl) (by kernel_rfl) (by kernel_rfl)) ?_
  intro W base args ds gs before hval0 hW hcnd hsz0 _
  have hval : ∀ (j : Nat) t v, Try.f7.params[j]? = some t → args[j]? = some v → Value.okWide Try.prog W .any base t v := hval0
  have hW' := hW
  obtain ⟨p, q, hA0, hV, rfl, hfz, hnd⟩ := hW
  have hA : DataW.TrodAll enc Try.prog W 0 (fun _ => true) true Try.f7.params.toList args.toList ds p := hA0
  rw [params] at hA hval
  obtain ⟨v0, vs0, d0, ds0, p0, q0, hargs, rfl, rfl, h0, r0⟩ := trodAll_cons hA
  obtain ⟨v1, vs1, d1, ds1, p1, q1, rfl, rfl, rfl, h1, r1⟩ := trodAll_cons r0
  obtain ⟨rfl, rfl, rfl⟩ := trodAll_nil r1
  obtain rfl : args = #[v0, v1] := by cases args; simp_all
  obtain ⟨rfl, rfl⟩ := trodVars_none hV
  have lt0 := trod_blocks h0
  have k0 := h0
  obtain ⟨x0, rfl, rfl, rfl, wx0⟩ := open_int u3 (hval 0 3 v0 rfl rfl) h0
  have s0 : RelV (noEnv (allB W)) W (.v (.int .i64 x0)) (.int .i64 x0) := by simp only [RelV]
  have lt1 := trod_blocks h1
  have k1 := h1
  have z1 : ∀ n, n ∈ d1.weights Try.prog 22 → n ≤ reachBytes := fun n hn => by simpa using List.all_eq_true.1 hsz0 _ (DataW.weights_mem_each (j := 1) (t := 22) (d := d1) (by rw [show Try.f7.params = _ from params]; rfl) rfl n hn)
  obtain ⟨l1, G1, s1⟩ := read_slice 8 g22 u22 (hval 1 22 v1 rfl rfl) h1 (z1)
  rw [e22] at G1
  obtain ⟨x1, hl1, nx1, wx1⟩ := G1
  cases hl1
  clear hA0 hval0 hsz0
  have hs : ∀ K, L14_LmotsTells.spec [.v (.int .i64 x0), .sl (.ints .u8 x1)] K = P.L14_LmotsTells x0 x1 (fun r0 => K (.v (.bool r0))) := by intro K; kernel_rfl
  obtain ⟨a, hK, hrun⟩ := L14_LmotsTells.ok.sound [.v (.int .i64 x0), .sl (.ints .u8 x1)] (fun v => match v with | .v (.bool true) => some (.v (.bool true)) | _ => none) (.v (.bool true)) (by
    rw [hs, Q.LmotsTells x0 x1 wx0 nx1 wx1])
  have ha : a = .v (.bool true) := by
    split at hK
    · rfl
    · cases hK
  subst ha
  refine (hrun (allB W) W [_, _] (fun _ h => h) (fun g l h => by simp [assoc] at h) ?_).mono fun e W' he => ?_
  · simp only [RelVs]
    exact ⟨_, _, rfl, s0, ⟨_, _, rfl, s1, rfl⟩⟩
  obtain ⟨v, Sn, bs, rfl, bel, _, hv, _⟩ := he
  simp only [RelX, RelV] at hv
  obtain ⟨rfl, _⟩ := hv
  exact ⟨_, rfl, _, _, _, [], _, [], hW', trodAll_mk1 (shut_bool uBool _), trodAll_cons_mk (Below.trod laidOut (by kernel_rfl) (of_decide_eq_true (by kernel_rfl)) k0 bel lt0) (trodAll_cons_mk (Below.trod laidOut (by kernel_rfl) (of_decide_eq_true (by kernel_rfl)) k1 bel lt1) (trodAll_mk0)), rfl, bel.frame _, fun h => by cases h⟩
theorem over : Rows.lmotsTellsRow.holds Try.pinned (OpenSpec.ofChange Rows.lmotsTellsSpec) :=
  OpenClaim.holds_of_wide 7 Try.f7 rfl rfl rfl rfl rfl rfl rfl ⟨rfl, rfl, rfl, rfl, rfl⟩ rfl rfl rfl rfl rfl (by kernel_rfl) func (by kernel_rfl)
    (of_decide_eq_true (by kernel_rfl)) (by unfold Func.isWrapper; first | (rw [if_pos (by decide +kernel)]; kernel_rfl) | (rw [if_neg (by decide +kernel)]; exact ⟨rfl, rfl⟩))
    (fun os started H enc _ => lifted os started H enc)
theorem proved : Rows.LmotsTellsSaid := over
end Go.Proofs.Ytmaoicbiekgmhaa.lmotsTells
