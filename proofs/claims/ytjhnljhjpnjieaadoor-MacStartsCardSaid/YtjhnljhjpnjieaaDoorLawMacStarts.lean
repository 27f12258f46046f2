/-
  MacStarts: for every input the law returns true, and each argument reads behind the call as it read before. No condition.
-/
import Derived.Test.YtjhnljhjpnjieaaDoorMacStartsP
import Derived.Test.YtjhnljhjpnjieaaDoorMacStartsS
import Derived.Test.YtjhnljhjpnjieaaDoorMacStartsQ
import Derived.Test.YtjhnljhjpnjieaaDoorMacStartsT
import Derived.Test.YtjhnljhjpnjieaaDoorMacStartsG
import Derived.Test.YtjhnljhjpnjieaaDoorTie
import Derived.Test.YtjhnljhjpnjieaaDoorCards
import Derived.SevenTiedAt
import Derived.LaidMore
import Derived.Stop.Joined
import Derived.LaidLaws
import Derived.Test.YtjhnljhjpnjieaaDoorRows
import Derived.WalkKit
import Derived.ProofKit
import Derived.OpenShut
import Derived.ShutString
import Derived.ChangeOld
import Derived.SizedLaws
namespace Go.Proofs.YtjhnljhjpnjieaaDoor.macStarts
open Go.ChangeShapes Go.WideShapes Go.ChangeAt Go.RowKit Go.Abs
set_option linter.unusedVariables false
theorem own : ownKnob Tryd.prog.godebug = none := by kernel_rfl
theorem laidOut : laidOutB Tryd.prog = true := by kernel_rfl
theorem func : Tryd.prog.funcs[5]? = some Tryd.f5 := by kernel_rfl
theorem params : Tryd.f5.params = #[5, 22, 22, 5, 5] := by kernel_rfl
theorem uBool : Tryd.prog.underlying 4 = some .bool := by kernel_rfl
theorem u5 : Tryd.prog.underlying 5 = some (.int .u8) := by kernel_rfl
theorem u22 : Tryd.prog.underlying 22 = some (.slice 5) := by kernel_rfl
theorem g22 : goodT Tryd.prog 9 22 = true := by kernel_rfl
theorem e22 (l : List AVal) : Go.Abs.Good Tryd.prog 9 22 l = (∃ xs, l = [.sl (.ints .u8 xs)] ∧ xs.length ≤ 140737488355328 ∧ ∀ x, x ∈ xs → wfI .u8 x) := by kernel_rfl
def laid : List (String × DataW Unit) := Rows.macStartsRow.laid
theorem door_met (os : Os) (args : Array Value) : laidMetH Tryd.prog laid ((World.doorLaid Tryd.prog 60 os).forCall (fun _ _ => 0) ⟨#[], args, []⟩).memory :=
  laidMetH_of_parts3 (fuel := 8) (laidMet_of_run' 8 (by kernel_rfl) (by kernel_rfl)) (by kernel_rfl) (by kernel_rfl)
theorem globs_of {W : World} (h : laidMetH Tryd.prog laid W) : GlobsOk GLO.gC (allB W) W := by
  rw [MakeChecks.laidMetH_plain _ _ _ (by kernel_rfl)] at h
  obtain ⟨ps, hV, _⟩ := h
  obtain ⟨g0, q0, hV0⟩ := laid_cons (l := P.kcon) (n := 24) (k := .u64) (t := 173) (e := 44) (g := 1) hV (by kernel_rfl) (by kernel_rfl) (by kernel_rfl) (by kernel_rfl) (by kernel_rfl) (by kernel_rfl) (by kernel_rfl) (by kernel_rfl)
  obtain ⟨g1, q1, hV1⟩ := laid_cons (l := P.kpla) (n := 24) (k := .i64) (t := 191) (e := 3) (g := 4) hV0 (by kernel_rfl) (by kernel_rfl) (by kernel_rfl) (by kernel_rfl) (by kernel_rfl) (by kernel_rfl) (by kernel_rfl) (by kernel_rfl)
  obtain ⟨g2, q2, hV2⟩ := laid_cons (l := P.ktur) (n := 24) (k := .i64) (t := 191) (e := 3) (g := 5) hV1 (by kernel_rfl) (by kernel_rfl) (by kernel_rfl) (by kernel_rfl) (by kernel_rfl) (by kernel_rfl) (by kernel_rfl) (by kernel_rfl)
  obtain ⟨g3, q3, hV3⟩ := laid_cons (l := P.roots256) (n := 64) (k := .u32) (t := 186) (e := 77) (g := 2) hV2 (by kernel_rfl) (by kernel_rfl) (by kernel_rfl) (by kernel_rfl) (by kernel_rfl) (by kernel_rfl) (by kernel_rfl) (by kernel_rfl)
  obtain ⟨g4, q4, hV4⟩ := laid_cons (l := P.roots512) (n := 80) (k := .u64) (t := 178) (e := 44) (g := 3) hV3 (by kernel_rfl) (by kernel_rfl) (by kernel_rfl) (by kernel_rfl) (by kernel_rfl) (by kernel_rfl) (by kernel_rfl) (by kernel_rfl)
  obtain ⟨g5, q5, hV5⟩ := laid_cons2 (ls := [[0, 0], [32, 64], [48, 128], [64, 128], [32, 136], [64, 72], [32, 168], [64, 136]]) (n := 8) (m := 2) (k := .i64) (t := 71) (e := 70) (f := 3) (g := 0) hV4 (by kernel_rfl) (by kernel_rfl) (by kernel_rfl) (by kernel_rfl) (by kernel_rfl) (by kernel_rfl) (by kernel_rfl) (by kernel_rfl) (by kernel_rfl) (by kernel_rfl) (by kernel_rfl)
  exact globsOk_cons g5 (globsOk_cons g0 (globsOk_cons g3 (globsOk_cons g4 (globsOk_cons g1 (globsOk_cons g2 (globsOk_nil _ _))))))
set_option maxRecDepth 100000 in
theorem lifted (os : Os) (started : os.Started) (H : Type) (enc : TypeId × Value → H) :
    ReturnsInHanded {} Tryd.checked os 5 .any (fun w args => (Rows.macStartsSpec.pre enc Tryd.prog Tryd.f5 [] false w args ∧ laidMetH Tryd.prog laid w) ∧ sizedMet enc Tryd.prog Tryd.f5 (OpenSpec.ofChange Rows.macStartsSpec) false w args)
      (Rows.macStartsSpec.post enc Tryd.prog Tryd.f5 false true false false) := by
  refine returnsInHanded_of_change_and (C := Tryd.checked) (X := fun w _ => laidMetH Tryd.prog laid w) (fun _ _ _ hh h => h.of_heap hh) own started (by kernel_rfl) func
    (ChangeSpec.witness_shaped (enc := enc) (C := Tryd.checked) (os := os) (X := fun w _ => laidMetH Tryd.prog laid w) false (World.doorLaid Tryd.prog 60 os) #[.int .u8 0, .slice none 0 0, .slice none 0 0, .int .u8 0, .int .u8 0] 8 rfl (World.shaped_of_RefB (by kernel_rfl) (by kernel_rfl)) (by kernel_rfl) (by kernel_rfl) (by kernel_rfl) (door_met os _)) ?_
  intro W base args ds gs before hval0 hW hcnd hsz0 hL _
  have hgl := globs_of hL
  have hval : ∀ (j : Nat) t v, Tryd.f5.params[j]? = some t → args[j]? = some v → Value.okWide Tryd.prog W .any base t v := hval0
  have hW' := hW
  obtain ⟨p, q, hA0, hV, rfl, hfz, hnd⟩ := hW
  have hA : DataW.TrodAll enc Tryd.prog W 0 (fun _ => true) true Tryd.f5.params.toList args.toList ds p := hA0
  rw [params] at hA hval
  obtain ⟨v0, vs0, d0, ds0, p0, q0, hargs, rfl, rfl, h0, r0⟩ := trodAll_cons hA
  obtain ⟨v1, vs1, d1, ds1, p1, q1, rfl, rfl, rfl, h1, r1⟩ := trodAll_cons r0
  obtain ⟨v2, vs2, d2, ds2, p2, q2, rfl, rfl, rfl, h2, r2⟩ := trodAll_cons r1
  obtain ⟨v3, vs3, d3, ds3, p3, q3, rfl, rfl, rfl, h3, r3⟩ := trodAll_cons r2
  obtain ⟨v4, vs4, d4, ds4, p4, q4, rfl, rfl, rfl, h4, r4⟩ := trodAll_cons r3
  obtain ⟨rfl, rfl, rfl⟩ := trodAll_nil r4
  obtain rfl : args = #[v0, v1, v2, v3, v4] := by cases args; simp_all
  obtain ⟨rfl, rfl⟩ := trodVars_none hV
  have lt0 := trod_blocks h0
  have k0 := h0
  obtain ⟨x0, rfl, rfl, rfl, wx0⟩ := open_int u5 (hval 0 5 v0 rfl rfl) h0
  have s0 : RelV (noEnv (allB W)) W (.v (.int .u8 x0)) (.int .u8 x0) := by simp only [RelV]
  have lt1 := trod_blocks h1
  have k1 := h1
  have z1 : ∀ n, n ∈ d1.weights Tryd.prog 22 → n ≤ reachBytes := fun n hn => by simpa using List.all_eq_true.1 hsz0 _ (DataW.weights_mem_each (j := 1) (t := 22) (d := d1) (by rw [show Tryd.f5.params = _ from params]; rfl) rfl n hn)
  obtain ⟨l1, G1, s1⟩ := read_slice 8 g22 u22 (hval 1 22 v1 rfl rfl) h1 (z1)
  rw [e22] at G1
  obtain ⟨x1, hl1, nx1, wx1⟩ := G1
  cases hl1
  have lt2 := trod_blocks h2
  have k2 := h2
  have z2 : ∀ n, n ∈ d2.weights Tryd.prog 22 → n ≤ reachBytes := fun n hn => by simpa using List.all_eq_true.1 hsz0 _ (DataW.weights_mem_each (j := 2) (t := 22) (d := d2) (by rw [show Tryd.f5.params = _ from params]; rfl) rfl n hn)
  obtain ⟨l2, G2, s2⟩ := read_slice 8 g22 u22 (hval 2 22 v2 rfl rfl) h2 (z2)
  rw [e22] at G2
  obtain ⟨x2, hl2, nx2, wx2⟩ := G2
  cases hl2
  have lt3 := trod_blocks h3
  have k3 := h3
  obtain ⟨x3, rfl, rfl, rfl, wx3⟩ := open_int u5 (hval 3 5 v3 rfl rfl) h3
  have s3 : RelV (noEnv (allB W)) W (.v (.int .u8 x3)) (.int .u8 x3) := by simp only [RelV]
  have lt4 := trod_blocks h4
  have k4 := h4
  obtain ⟨x4, rfl, rfl, rfl, wx4⟩ := open_int u5 (hval 4 5 v4 rfl rfl) h4
  have s4 : RelV (noEnv (allB W)) W (.v (.int .u8 x4)) (.int .u8 x4) := by simp only [RelV]
  clear hA0 hval0 hsz0
  have hs : ∀ K, L09_MacStarts.spec [.v (.int .u8 x0), .sl (.ints .u8 x1), .sl (.ints .u8 x2), .v (.int .u8 x3), .v (.int .u8 x4)] K = P.L09_MacStarts x0 x1 x2 x3 x4 (fun r0 => K (.v (.bool r0))) := by intro K; kernel_rfl
  obtain ⟨a, hK, hrun⟩ := L09_MacStarts.ok.sound [.v (.int .u8 x0), .sl (.ints .u8 x1), .sl (.ints .u8 x2), .v (.int .u8 x3), .v (.int .u8 x4)] (fun v => match v with | .v (.bool true) => some (.v (.bool true)) | _ => none) (.v (.bool true)) (by
    rw [hs, Q.MacStarts x0 x1 x2 x3 x4 wx0 nx1 wx1 nx2 wx2 wx3 wx4])
  have ha : a = .v (.bool true) := by
    split at hK
    · rfl
    · cases hK
  subst ha
  refine (hrun (allB W) W [_, _, _, _, _] (fun _ h => h) hgl ?_).mono fun e W' he => ?_
  · simp only [RelVs]
    exact ⟨_, _, rfl, s0, ⟨_, _, rfl, s1, ⟨_, _, rfl, s2, ⟨_, _, rfl, s3, ⟨_, _, rfl, s4, rfl⟩⟩⟩⟩⟩
  obtain ⟨v, Sn, bs, rfl, bel, _, hv, _⟩ := he
  simp only [RelX, RelV] at hv
  obtain ⟨rfl, _⟩ := hv
  exact ⟨_, rfl, _, _, _, [], _, [], hW', trodAll_mk1 (shut_bool uBool _), trodAll_cons_mk (Below.trod laidOut (by kernel_rfl) (of_decide_eq_true (by kernel_rfl)) k0 bel lt0) (trodAll_cons_mk (Below.trod laidOut (by kernel_rfl) (of_decide_eq_true (by kernel_rfl)) k1 bel lt1) (trodAll_cons_mk (Below.trod laidOut (by kernel_rfl) (of_decide_eq_true (by kernel_rfl)) k2 bel lt2) (trodAll_cons_mk (Below.trod laidOut (by kernel_rfl) (of_decide_eq_true (by kernel_rfl)) k3 bel lt3) (trodAll_cons_mk (Below.trod laidOut (by kernel_rfl) (of_decide_eq_true (by kernel_rfl)) k4 bel lt4) (trodAll_mk0))))), rfl, bel.frame _, fun h => by cases h⟩
theorem over : Rows.macStartsRow.holds Tryd.pinned (OpenSpec.ofChange Rows.macStartsSpec) :=
  OpenClaim.holds_of_wide 5 Tryd.f5 rfl rfl rfl rfl rfl rfl rfl ⟨rfl, rfl, rfl, rfl, rfl⟩ rfl rfl rfl rfl rfl (by kernel_rfl) func (by kernel_rfl)
    (of_decide_eq_true (by kernel_rfl)) (by unfold Func.isWrapper; first | (rw [if_pos (by decide +kernel)]; kernel_rfl) | (rw [if_neg (by decide +kernel)]; exact ⟨rfl, rfl⟩))
    (fun os started H enc _ => lifted os started H enc)
theorem proved : Rows.MacStartsCardSaid :=
  Claim7.holds_tied_plain_at .later [] [.data, .data, .data, .data, .data, .data] true (true, "d0402cb894078d5edbd9f61593cb55ea83faee7bbe0ecf6a9ddf87be153d093c") false
    over (fun _ h => by cases h) (by kernel_rfl) (fun _ h => by cases h) macStarts_row_tie rfl ⟨rfl, rfl⟩ (by kernel_rfl) rfl
    (fun f fn hf hfn => by
      obtain rfl : f = 5 := Option.some.inj ((show Tryd.prog.funcNamed "apostille/apostillelaw09.MacStarts" = some 5 by kernel_rfl).symm.trans hf) |>.symm
      obtain rfl : fn = Tryd.f5 := (Option.some.inj (func.symm.trans hfn)).symm
      exact ⟨by kernel_rfl, fun j t ht => by
        rw [params] at ht
        have hm : t ∈ [5, 22, 22, 5, 5] := by simpa using Array.mem_of_getElem? ht
        have hall : ([5, 22, 22, 5, 5].all fun u => !Tryd.prog.wantsStandIn u) = true := by kernel_rfl
        exact (show Tryd.prog.wantsStandIn t = false by simpa using List.all_eq_true.1 hall t hm)⟩)
    (by kernel_rfl)
end Go.Proofs.YtjhnljhjpnjieaaDoor.macStarts
