/-
  BitsRounds: for every input the law returns true, and each argument reads behind the call as it read before. No condition.
-/
import Derived.Test.YtmaoicbiekgmhaaBitsRoundsI
import Derived.Test.YtmaoicbiekgmhaaBitsRoundsL
import Derived.Test.YtmaoicbiekgmhaaBitsRoundsJ
import Derived.Test.YtmaoicbiekgmhaaRows
import Derived.WalkKit
import Derived.ProofKit
import Derived.OpenShut
import Derived.ShutString
import Derived.ChangeOld
import Derived.SizedLaws
namespace Go.Proofs.Ytmaoicbiekgmhaa.bitsRounds
open Go.ChangeShapes Go.WideShapes Go.ChangeAt Go.RowKit Go.Abs
set_option linter.unusedVariables false
theorem own : ownKnob Try.prog.godebug = none := by kernel_rfl
theorem laidOut : laidOutB Try.prog = true := by kernel_rfl
theorem func : Try.prog.funcs[10]? = some Try.f10 := by kernel_rfl
theorem params : Try.f10.params = #[45, 22] := by kernel_rfl
theorem uBool : Try.prog.underlying 4 = some .bool := by kernel_rfl
theorem u45 : Try.prog.underlying 45 = some (.int .u64) := by kernel_rfl
theorem u22 : Try.prog.underlying 22 = some (.slice 5) := by kernel_rfl
theorem g22 : goodT Try.prog 9 22 = true := by kernel_rfl
theorem e22 (l : List AVal) : Go.Abs.Good Try.prog 9 22 l = (∃ xs, l = [.sl (.ints .u8 xs)] ∧ xs.length ≤ 140737488355328 ∧ ∀ x, x ∈ xs → wfI .u8 x) := by kernel_rfl
set_option maxRecDepth 100000 in
theorem lifted (os : Os) (started : os.Started) (H : Type) (enc : TypeId × Value → H) :
    ReturnsInHanded {} Try.checked os 10 .any (Rows.bitsRoundsSpec.pre6 enc Try.prog Try.f10 Rows.bitsRoundsRow.domain false) (Rows.bitsRoundsSpec.post enc Try.prog Try.f10 false true false false) := by
  refine returnsInHanded_of_change_sized (C := Try.checked) own started (by kernel_rfl) func
    (ChangeSpec.witness6 (enc := enc) (C := Try.checked) false ⟨#[], #[.int .u64 0, .slice none 0 0], []⟩ 8 (by kernel_rfl) (by kernel_rfl) (by kernel_rfl) (by kernel_rfl)) ?_
  intro W base args ds gs before hval0 hW hcnd hsz0 _
  have hval : ∀ (j : Nat) t v, Try.f10.params[j]? = some t → args[j]? = some v → Value.okWide Try.prog W .any base t v := hval0
  have hW' := hW
  obtain ⟨p, q, hA0, hV, rfl, hfz, hnd⟩ := hW
  have hA : DataW.TrodAll enc Try.prog W 0 (fun _ => true) true Try.f10.params.toList args.toList ds p := hA0
  rw [params] at hA hval
  obtain ⟨v0, vs0, d0, ds0, p0, q0, hargs, rfl, rfl, h0, r0⟩ := trodAll_cons hA
  obtain ⟨v1, vs1, d1, ds1, p1, q1, rfl, rfl, rfl, h1, r1⟩ := trodAll_cons r0
  obtain ⟨rfl, rfl, rfl⟩ := trodAll_nil r1
  obtain rfl : args = #[v0, v1] := by cases args; simp_all
  obtain ⟨rfl, rfl⟩ := trodVars_none hV
  have lt0 := trod_blocks h0
  have k0 := h0
  obtain ⟨x0, rfl, rfl, rfl, wx0⟩ := open_int u45 (hval 0 45 v0 rfl rfl) h0
  have s0 : RelV (noEnv (allB W)) W (.v (.int .u64 x0)) (.int .u64 x0) := by simp only [RelV]
  have lt1 := trod_blocks h1
  have k1 := h1
  have z1 : ∀ n, n ∈ d1.weights Try.prog 22 → n ≤ reachBytes := fun n hn => by simpa using List.all_eq_true.1 hsz0 _ (DataW.weights_mem_each (j := 1) (t := 22) (d := d1) (by rw [show Try.f10.params = _ from params]; rfl) rfl n hn)
  obtain ⟨l1, G1, s1⟩ := read_slice 8 g22 u22 (hval 1 22 v1 rfl rfl) h1 (z1)
  rw [e22] at G1
  obtain ⟨x1, hl1, nx1, wx1⟩ := G1
  cases hl1
  clear hA0 hval0 hsz0
  have hs : ∀ K, L01_BitsRounds.spec [.v (.int .u64 x0), .sl (.ints .u8 x1)] K = P.L01_BitsRounds x0 x1 (fun r0 => K (.v (.bool r0))) := by intro K; kernel_rfl
  obtain ⟨a, hK, hrun⟩ := L01_BitsRounds.ok.sound [.v (.int .u64 x0), .sl (.ints .u8 x1)] (fun v => match v with | .v (.bool true) => some (.v (.bool true)) | _ => none) (.v (.bool true)) (by
    rw [hs, Q.BitsRounds x0 x1 wx0 nx1 wx1])
  have ha : a = .v (.bool true) := by
    split at hK
    · rfl
    · cases hK
  subst ha
  refine (hrun (allB W) W [_, _] (fun _ h => h) (fun g l h => by simp [assoc] at h) ?_).mono fun e W' he => ?_
  · simp only [RelVs]
    exact ⟨_, _, rfl, s0, ⟨_, _, rfl, s1, rfl⟩⟩
  obtain ⟨v, Sn, bs, rfl, bel, _, hv, _⟩ := he
  simp only [RelX, RelV] at hv
  obtain ⟨rfl, _⟩ := hv
  exact ⟨_, rfl, _, _, _, [], _, [], hW', trodAll_mk1 (shut_bool uBool _), trodAll_cons_mk (Below.trod laidOut (by kernel_rfl) (of_decide_eq_true (by kernel_rfl)) k0 bel lt0) (trodAll_cons_mk (Below.trod laidOut (by kernel_rfl) (of_decide_eq_true (by kernel_rfl)) k1 bel lt1) (trodAll_mk0)), rfl, bel.frame _, fun h => by cases h⟩
theorem over : Rows.bitsRoundsRow.holds Try.pinned (OpenSpec.ofChange Rows.bitsRoundsSpec) :=
  OpenClaim.holds_of_wide 10 Try.f10 rfl rfl rfl rfl rfl rfl rfl ⟨rfl, rfl, rfl, rfl, rfl⟩ rfl rfl rfl rfl rfl (by kernel_rfl) func (by kernel_rfl)
    (of_decide_eq_true (by kernel_rfl)) (by unfold Func.isWrapper; first | (rw [if_pos (by decide +kernel)]; kernel_rfl) | (rw [if_neg (by decide +kernel)]; exact ⟨rfl, rfl⟩))
    (fun os started H enc _ => lifted os started H enc)
theorem proved : Rows.BitsRoundsSaid := over
end Go.Proofs.Ytmaoicbiekgmhaa.bitsRounds
