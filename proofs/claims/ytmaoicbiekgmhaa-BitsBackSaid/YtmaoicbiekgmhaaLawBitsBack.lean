/-
  BitsBack: for every input the law returns true, and each argument reads behind the call as it read before. No condition.
-/
import Derived.Test.YtmaoicbiekgmhaaBitsBackI
import Derived.Test.YtmaoicbiekgmhaaBitsBackL
import Derived.Test.YtmaoicbiekgmhaaBitsBackJ
import Derived.Test.YtmaoicbiekgmhaaRows
import Derived.WalkKit
import Derived.ProofKit
import Derived.OpenShut
import Derived.ShutString
import Derived.ChangeOld
import Derived.SizedLaws
namespace Go.Proofs.Ytmaoicbiekgmhaa.bitsBack
open Go.ChangeShapes Go.WideShapes Go.ChangeAt Go.RowKit Go.Abs
set_option linter.unusedVariables false
theorem own : ownKnob Try.prog.godebug = none := by kernel_rfl
theorem laidOut : laidOutB Try.prog = true := by kernel_rfl
theorem func : Try.prog.funcs[11]? = some Try.f11 := by kernel_rfl
theorem params : Try.f11.params = #[45, 49, 5, 22, 22] := by kernel_rfl
theorem uBool : Try.prog.underlying 4 = some .bool := by kernel_rfl
theorem u45 : Try.prog.underlying 45 = some (.int .u64) := by kernel_rfl
theorem u49 : Try.prog.underlying 49 = some (.slice 62) := by kernel_rfl
theorem g49 : goodT Try.prog 9 49 = true := by kernel_rfl
theorem e49 (l : List AVal) : Go.Abs.Good Try.prog 9 49 l = (∃ xs, l = [.sl (.ints .u32 xs)] ∧ xs.length ≤ 140737488355328 ∧ ∀ x, x ∈ xs → wfI .u32 x) := by kernel_rfl
theorem u5 : Try.prog.underlying 5 = some (.int .u8) := by kernel_rfl
theorem u22 : Try.prog.underlying 22 = some (.slice 5) := by kernel_rfl
theorem g22 : goodT Try.prog 9 22 = true := by kernel_rfl
theorem e22 (l : List AVal) : Go.Abs.Good Try.prog 9 22 l = (∃ xs, l = [.sl (.ints .u8 xs)] ∧ xs.length ≤ 140737488355328 ∧ ∀ x, x ∈ xs → wfI .u8 x) := by kernel_rfl
set_option maxRecDepth 100000 in
theorem lifted (os : Os) (started : os.Started) (H : Type) (enc : TypeId × Value → H) :
    ReturnsInHanded {} Try.checked os 11 .any (Rows.bitsBackSpec.pre6 enc Try.prog Try.f11 Rows.bitsBackRow.domain false) (Rows.bitsBackSpec.post enc Try.prog Try.f11 false true false false) := by
  refine returnsInHanded_of_change_sized (C := Try.checked) own started (by kernel_rfl) func
    (ChangeSpec.witness6 (enc := enc) (C := Try.checked) false ⟨#[], #[.int .u64 0, .slice none 0 0, .int .u8 0, .slice none 0 0, .slice none 0 0], []⟩ 8 (by kernel_rfl) (by kernel_rfl) (by kernel_rfl) (by kernel_rfl)) ?_
  intro W base args ds gs before hval0 hW hcnd hsz0 _
  have hval : ∀ (j : Nat) t v, Try.f11.params[j]? = some t → args[j]? = some v → Value.okWide Try.prog W .any base t v := hval0
  have hW' := hW
  obtain ⟨p, q, hA0, hV, rfl, hfz, hnd⟩ := hW
  have hA : DataW.TrodAll enc Try.prog W 0 (fun _ => true) true Try.f11.params.toList args.toList ds p := hA0
  rw [params] at hA hval
  obtain ⟨v0, vs0, d0, ds0, p0, q0, hargs, rfl, rfl, h0, r0⟩ := trodAll_cons hA
  obtain ⟨v1, vs1, d1, ds1, p1, q1, rfl, rfl, rfl, h1, r1⟩ := trodAll_cons r0
  obtain ⟨v2, vs2, d2, ds2, p2, q2, rfl, rfl, rfl, h2, r2⟩ := trodAll_cons r1
  obtain ⟨v3, vs3, d3, ds3, p3, q3, rfl, rfl, rfl, h3, r3⟩ := trodAll_cons r2
  obtain ⟨v4, vs4, d4, ds4, p4, q4, rfl, rfl, rfl, h4, r4⟩ := trodAll_cons r3
  obtain ⟨rfl, rfl, rfl⟩ := trodAll_nil r4
  obtain rfl : args = #[v0, v1, v2, v3, v4] := by cases args; simp_all
  obtain ⟨rfl, rfl⟩ := trodVars_none hV
  have lt0 := trod_blocks h0
  have k0 := h0
  obtain ⟨x0, rfl, rfl, rfl, wx0⟩ := open_int u45 (hval 0 45 v0 rfl rfl) h0
  have s0 : RelV (noEnv (allB W)) W (.v (.int .u64 x0)) (.int .u64 x0) := by simp only [RelV]
  have lt1 := trod_blocks h1
  have k1 := h1
  have z1 : ∀ n, n ∈ d1.weights Try.prog 49 → n ≤ reachBytes := fun n hn => by simpa using List.all_eq_true.1 hsz0 _ (DataW.weights_mem_each (j := 1) (t := 49) (d := d1) (by rw [show Try.f11.params = _ from params]; rfl) rfl n hn)
  obtain ⟨l1, G1, s1⟩ := read_slice 8 g49 u49 (hval 1 49 v1 rfl rfl) h1 (z1)
  rw [e49] at G1
  obtain ⟨x1, hl1, nx1, wx1⟩ := G1
  cases hl1
  have lt2 := trod_blocks h2
  have k2 := h2
  obtain ⟨x2, rfl, rfl, rfl, wx2⟩ := open_int u5 (hval 2 5 v2 rfl rfl) h2
  have s2 : RelV (noEnv (allB W)) W (.v (.int .u8 x2)) (.int .u8 x2) := by simp only [RelV]
  have lt3 := trod_blocks h3
  have k3 := h3
  have z3 : ∀ n, n ∈ d3.weights Try.prog 22 → n ≤ reachBytes := fun n hn => by simpa using List.all_eq_true.1 hsz0 _ (DataW.weights_mem_each (j := 3) (t := 22) (d := d3) (by rw [show Try.f11.params = _ from params]; rfl) rfl n hn)
  obtain ⟨l3, G3, s3⟩ := read_slice 8 g22 u22 (hval 3 22 v3 rfl rfl) h3 (z3)
  rw [e22] at G3
  obtain ⟨x3, hl3, nx3, wx3⟩ := G3
  cases hl3
  have lt4 := trod_blocks h4
  have k4 := h4
  have z4 : ∀ n, n ∈ d4.weights Try.prog 22 → n ≤ reachBytes := fun n hn => by simpa using List.all_eq_true.1 hsz0 _ (DataW.weights_mem_each (j := 4) (t := 22) (d := d4) (by rw [show Try.f11.params = _ from params]; rfl) rfl n hn)
  obtain ⟨l4, G4, s4⟩ := read_slice 8 g22 u22 (hval 4 22 v4 rfl rfl) h4 (z4)
  rw [e22] at G4
  obtain ⟨x4, hl4, nx4, wx4⟩ := G4
  cases hl4
  clear hA0 hval0 hsz0
  have hs : ∀ K, L01_BitsBack.spec [.v (.int .u64 x0), .sl (.ints .u32 x1), .v (.int .u8 x2), .sl (.ints .u8 x3), .sl (.ints .u8 x4)] K = P.L01_BitsBack x0 x1 x2 x3 x4 (fun r0 => K (.v (.bool r0))) := by intro K; kernel_rfl
  obtain ⟨a, hK, hrun⟩ := L01_BitsBack.ok.sound [.v (.int .u64 x0), .sl (.ints .u32 x1), .v (.int .u8 x2), .sl (.ints .u8 x3), .sl (.ints .u8 x4)] (fun v => match v with | .v (.bool true) => some (.v (.bool true)) | _ => none) (.v (.bool true)) (by
    rw [hs, Q.BitsBack x0 x1 x2 x3 x4 wx0 nx1 wx1 wx2 nx3 wx3 nx4 wx4])
  have ha : a = .v (.bool true) := by
    split at hK
    · rfl
    · cases hK
  subst ha
  refine (hrun (allB W) W [_, _, _, _, _] (fun _ h => h) (fun g l h => by simp [assoc] at h) ?_).mono fun e W' he => ?_
  · simp only [RelVs]
    exact ⟨_, _, rfl, s0, ⟨_, _, rfl, s1, ⟨_, _, rfl, s2, ⟨_, _, rfl, s3, ⟨_, _, rfl, s4, rfl⟩⟩⟩⟩⟩
  obtain ⟨v, Sn, bs, rfl, bel, _, hv, _⟩ := he
  simp only [RelX, RelV] at hv
  obtain ⟨rfl, _⟩ := hv
  exact ⟨_, rfl, _, _, _, [], _, [], hW', trodAll_mk1 (shut_bool uBool _), trodAll_cons_mk (Below.trod laidOut (by kernel_rfl) (of_decide_eq_true (by kernel_rfl)) k0 bel lt0) (trodAll_cons_mk (Below.trod laidOut (by kernel_rfl) (of_decide_eq_true (by kernel_rfl)) k1 bel lt1) (trodAll_cons_mk (Below.trod laidOut (by kernel_rfl) (of_decide_eq_true (by kernel_rfl)) k2 bel lt2) (trodAll_cons_mk (Below.trod laidOut (by kernel_rfl) (of_decide_eq_true (by kernel_rfl)) k3 bel lt3) (trodAll_cons_mk (Below.trod laidOut (by kernel_rfl) (of_decide_eq_true (by kernel_rfl)) k4 bel lt4) (trodAll_mk0))))), rfl, bel.frame _, fun h => by cases h⟩
theorem over : Rows.bitsBackRow.holds Try.pinned (OpenSpec.ofChange Rows.bitsBackSpec) :=
  OpenClaim.holds_of_wide 11 Try.f11 rfl rfl rfl rfl rfl rfl rfl ⟨rfl, rfl, rfl, rfl, rfl⟩ rfl rfl rfl rfl rfl (by kernel_rfl) func (by kernel_rfl)
    (of_decide_eq_true (by kernel_rfl)) (by unfold Func.isWrapper; first | (rw [if_pos (by decide +kernel)]; kernel_rfl) | (rw [if_neg (by decide +kernel)]; exact ⟨rfl, rfl⟩))
    (fun os started H enc _ => lifted os started H enc)
theorem proved : Rows.BitsBackSaid := over
end Go.Proofs.Ytmaoicbiekgmhaa.bitsBack
