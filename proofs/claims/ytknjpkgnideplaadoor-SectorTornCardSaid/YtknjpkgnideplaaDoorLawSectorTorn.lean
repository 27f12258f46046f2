/-
  SectorTorn: for every input the law returns true, and each argument reads behind the call as it read before. No condition.
-/
import Derived.Test.YtknjpkgnideplaaDoorSectorTornJ
import Derived.Test.YtknjpkgnideplaaDoorSectorTornM
import Derived.Test.YtknjpkgnideplaaDoorSectorTornK
import Derived.Test.YtknjpkgnideplaaDoorSectorTornN
import Derived.Test.YtknjpkgnideplaaDoorSectorTornG
import Derived.Test.YtknjpkgnideplaaDoorTie
import Derived.Test.YtknjpkgnideplaaDoorCards
import Derived.SevenTiedAt
import Derived.LaidMore
import Derived.Stop.Joined
import Derived.LaidLaws
import Derived.Test.YtknjpkgnideplaaDoorRows
import Derived.WalkKit
import Derived.ProofKit
import Derived.OpenShut
import Derived.ShutString
import Derived.ChangeOld
import Derived.SizedLaws
namespace Go.Proofs.YtknjpkgnideplaaDoor.sectorTorn
open Go.ChangeShapes Go.WideShapes Go.ChangeAt Go.RowKit Go.Abs
set_option linter.unusedVariables false
theorem own : ownKnob Tryd.prog.godebug = none := by kernel_rfl
theorem laidOut : laidOutB Tryd.prog = true := by kernel_rfl
theorem func : Tryd.prog.funcs[9]? = some Tryd.f9 := by kernel_rfl
theorem params : Tryd.f9.params = #[50, 48, 3, 24] := by kernel_rfl
theorem uBool : Tryd.prog.underlying 4 = some .bool := by kernel_rfl
theorem g50 : goodT Tryd.prog 9 50 = true := by kernel_rfl
theorem a50 : isAggT Tryd.prog 50 = some true := by kernel_rfl
theorem e50 (l : List AVal) : Go.Abs.Good Tryd.prog 9 50 l = (∃ p1 q1, l = p1 ++ q1 ∧ (∃ xs, p1 = [.sl (.ints .u8 xs)] ∧ xs.length ≤ 140737488355328 ∧ ∀ x, x ∈ xs → wfI .u8 x) ∧ (∃ p2 q2, q1 = p2 ++ q2 ∧ (∃ xs, p2 = [.sl (.ints .u8 xs)] ∧ xs.length ≤ 140737488355328 ∧ ∀ x, x ∈ xs → wfI .u8 x) ∧ (q2 = []))) := by kernel_rfl
theorem g48 : goodT Tryd.prog 9 48 = true := by kernel_rfl
theorem a48 : isAggT Tryd.prog 48 = some true := by kernel_rfl
theorem e48 (l : List AVal) : Go.Abs.Good Tryd.prog 9 48 l = (∃ p3 q3, l = p3 ++ q3 ∧ (∃ n, p3 = [.v (.int .u64 n)] ∧ wfI .u64 n) ∧ (∃ p4 q4, q3 = p4 ++ q4 ∧ (∃ n, p4 = [.v (.int .u64 n)] ∧ wfI .u64 n) ∧ (q4 = []))) := by kernel_rfl
theorem u3 : Tryd.prog.underlying 3 = some (.int .i64) := by kernel_rfl
theorem u24 : Tryd.prog.underlying 24 = some (.slice 5) := by kernel_rfl
theorem g24 : goodT Tryd.prog 9 24 = true := by kernel_rfl
theorem e24 (l : List AVal) : Go.Abs.Good Tryd.prog 9 24 l = (∃ xs, l = [.sl (.ints .u8 xs)] ∧ xs.length ≤ 140737488355328 ∧ ∀ x, x ∈ xs → wfI .u8 x) := by kernel_rfl
def laid : List (String × DataW Unit) := Rows.sectorTornRow.laid
theorem door_met (os : Os) (args : Array Value) : laidMetH Tryd.prog laid ((World.doorLaid Tryd.prog 19 os).forCall (fun _ _ => 0) ⟨#[], args, []⟩).memory :=
  laidMetH_of_parts3 (fuel := 8) (laidMet_of_run' 8 (by kernel_rfl) (by kernel_rfl)) (by kernel_rfl) (by kernel_rfl)
theorem globs_of {W : World} (h : laidMetH Tryd.prog laid W) : GlobsOk GLO.gB (allB W) W := by
  rw [MakeChecks.laidMetH_plain _ _ _ (by kernel_rfl)] at h
  obtain ⟨ps, hV, _⟩ := h
  obtain ⟨g0, q0, hV0⟩ := laid_cons (l := P.roots256) (n := 64) (k := .u32) (t := 177) (e := 71) (g := 0) hV (by kernel_rfl) (by kernel_rfl) (by kernel_rfl) (by kernel_rfl) (by kernel_rfl) (by kernel_rfl) (by kernel_rfl) (by kernel_rfl)
  obtain ⟨g1, q1, hV1⟩ := laid_cons (l := P.roots512) (n := 80) (k := .u64) (t := 163) (e := 22) (g := 1) hV0 (by kernel_rfl) (by kernel_rfl) (by kernel_rfl) (by kernel_rfl) (by kernel_rfl) (by kernel_rfl) (by kernel_rfl) (by kernel_rfl)
  exact globsOk_cons g0 (globsOk_cons g1 (globsOk_nil _ _))
set_option maxRecDepth 100000 in
theorem lifted (os : Os) (started : os.Started) (H : Type) (enc : TypeId × Value → H) :
    ReturnsInHanded {} Tryd.checked os 9 .any (fun w args => (Rows.sectorTornSpec.pre enc Tryd.prog Tryd.f9 [] false w args ∧ laidMetH Tryd.prog laid w) ∧ sizedMet enc Tryd.prog Tryd.f9 (OpenSpec.ofChange Rows.sectorTornSpec) false w args)
      (Rows.sectorTornSpec.post enc Tryd.prog Tryd.f9 false true false false) := by
  refine returnsInHanded_of_change_and (C := Tryd.checked) (X := fun w _ => laidMetH Tryd.prog laid w) (fun _ _ _ hh h => h.of_heap hh) own started (by kernel_rfl) func
    (ChangeSpec.witness_shaped (enc := enc) (C := Tryd.checked) (os := os) (X := fun w _ => laidMetH Tryd.prog laid w) false (World.doorLaid Tryd.prog 19 os) #[.agg #[.slice none 0 0, .slice none 0 0], .agg #[.int .u64 0, .int .u64 0], .int .i64 0, .slice none 0 0] 8 rfl (World.shaped_of_RefB (by kernel_rfl) (by kernel_rfl)) (by kernel_rfl) (by kernel_rfl) (by kernel_rfl) (door_met os _)) ?_
  intro W base args ds gs before hval0 hW hcnd hsz0 hL _
  have hgl := globs_of hL
  have hval : ∀ (j : Nat) t v, Tryd.f9.params[j]? = some t → args[j]? = some v → Value.okWide Tryd.prog W .any base t v := hval0
  have hW' := hW
  obtain ⟨p, q, hA0, hV, rfl, hfz, hnd⟩ := hW
  have hA : DataW.TrodAll enc Tryd.prog W 0 (fun _ => true) true Tryd.f9.params.toList args.toList ds p := hA0
  rw [params] at hA hval
  obtain ⟨v0, vs0, d0, ds0, p0, q0, hargs, rfl, rfl, h0, r0⟩ := trodAll_cons hA
  obtain ⟨v1, vs1, d1, ds1, p1, q1, rfl, rfl, rfl, h1, r1⟩ := trodAll_cons r0
  obtain ⟨v2, vs2, d2, ds2, p2, q2, rfl, rfl, rfl, h2, r2⟩ := trodAll_cons r1
  obtain ⟨v3, vs3, d3, ds3, p3, q3, rfl, rfl, rfl, h3, r3⟩ := trodAll_cons r2
  obtain ⟨rfl, rfl, rfl⟩ := trodAll_nil r3
  obtain rfl : args = #[v0, v1, v2, v3] := by cases args; simp_all
  obtain ⟨rfl, rfl⟩ := trodVars_none hV
  have lt0 := trod_blocks h0
  have k0 := h0
  have z0 : ∀ n, n ∈ d0.weights Tryd.prog 50 → n ≤ reachBytes := fun n hn => by simpa using List.all_eq_true.1 hsz0 _ (DataW.weights_mem_each (j := 0) (t := 50) (d := d0) (by rw [show Tryd.f9.params = _ from params]; rfl) rfl n hn)
  obtain ⟨l0, G0, s0⟩ := read_agg 9 g50 a50 (hval 0 50 v0 rfl rfl) h0 (z0)
  rw [e50] at G0
  obtain ⟨_, _, rfl, ⟨x0_0, rfl, nx0_0, wx0_0⟩, ⟨_, _, rfl, ⟨x0_1, rfl, nx0_1, wx0_1⟩, rfl⟩⟩ := G0
  have lt1 := trod_blocks h1
  have k1 := h1
  have z1 : ∀ n, n ∈ d1.weights Tryd.prog 48 → n ≤ reachBytes := fun n hn => by simpa using List.all_eq_true.1 hsz0 _ (DataW.weights_mem_each (j := 1) (t := 48) (d := d1) (by rw [show Tryd.f9.params = _ from params]; rfl) rfl n hn)
  obtain ⟨l1, G1, s1⟩ := read_agg 9 g48 a48 (hval 1 48 v1 rfl rfl) h1 (z1)
  rw [e48] at G1
  obtain ⟨_, _, rfl, ⟨x1_Epoch, rfl, wx1_Epoch⟩, ⟨_, _, rfl, ⟨x1_Bound, rfl, wx1_Bound⟩, rfl⟩⟩ := G1
  have lt2 := trod_blocks h2
  have k2 := h2
  obtain ⟨x2, rfl, rfl, rfl, wx2⟩ := open_int u3 (hval 2 3 v2 rfl rfl) h2
  have s2 : RelV (noEnv (allB W)) W (.v (.int .i64 x2)) (.int .i64 x2) := by simp only [RelV]
  have lt3 := trod_blocks h3
  have k3 := h3
  have z3 : ∀ n, n ∈ d3.weights Tryd.prog 24 → n ≤ reachBytes := fun n hn => by simpa using List.all_eq_true.1 hsz0 _ (DataW.weights_mem_each (j := 3) (t := 24) (d := d3) (by rw [show Tryd.f9.params = _ from params]; rfl) rfl n hn)
  obtain ⟨l3, G3, s3⟩ := read_slice 8 g24 u24 (hval 3 24 v3 rfl rfl) h3 (z3)
  rw [e24] at G3
  obtain ⟨x3, hl3, nx3, wx3⟩ := G3
  cases hl3
  clear hA0 hval0 hsz0
  have hs : ∀ K, L28_SectorTorn.spec [.agg [.sl (.ints .u8 x0_0), .sl (.ints .u8 x0_1)], .agg [.v (.int .u64 x1_Epoch), .v (.int .u64 x1_Bound)], .v (.int .i64 x2), .sl (.ints .u8 x3)] K = P.L28_SectorTorn x0_0 x0_1 x1_Epoch x1_Bound x2 x3 (fun r0 => K (.v (.bool r0))) := by intro K; kernel_rfl
  obtain ⟨a, hK, hrun⟩ := L28_SectorTorn.ok.sound [.agg [.sl (.ints .u8 x0_0), .sl (.ints .u8 x0_1)], .agg [.v (.int .u64 x1_Epoch), .v (.int .u64 x1_Bound)], .v (.int .i64 x2), .sl (.ints .u8 x3)] (fun v => match v with | .v (.bool true) => some (.v (.bool true)) | _ => none) (.v (.bool true)) (by
    rw [hs, Q.SectorTorn x0_0 x0_1 x1_Epoch x1_Bound x2 x3 nx0_0 wx0_0 nx0_1 wx0_1 wx1_Epoch wx1_Bound wx2 nx3 wx3])
  have ha : a = .v (.bool true) := by
    split at hK
    · rfl
    · cases hK
  subst ha
  refine (hrun (allB W) W [_, _, _, _] (fun _ h => h) hgl ?_).mono fun e W' he => ?_
  · simp only [RelVs]
    exact ⟨_, _, rfl, s0, ⟨_, _, rfl, s1, ⟨_, _, rfl, s2, ⟨_, _, rfl, s3, rfl⟩⟩⟩⟩
  obtain ⟨v, Sn, bs, rfl, bel, _, hv, _⟩ := he
  simp only [RelX, RelV] at hv
  obtain ⟨rfl, _⟩ := hv
  exact ⟨_, rfl, _, _, _, [], _, [], hW', trodAll_mk1 (shut_bool uBool _), trodAll_cons_mk (Below.trod laidOut (by kernel_rfl) (of_decide_eq_true (by kernel_rfl)) k0 bel lt0) (trodAll_cons_mk (Below.trod laidOut (by kernel_rfl) (of_decide_eq_true (by kernel_rfl)) k1 bel lt1) (trodAll_cons_mk (Below.trod laidOut (by kernel_rfl) (of_decide_eq_true (by kernel_rfl)) k2 bel lt2) (trodAll_cons_mk (Below.trod laidOut (by kernel_rfl) (of_decide_eq_true (by kernel_rfl)) k3 bel lt3) (trodAll_mk0)))), rfl, bel.frame _, fun h => by cases h⟩
theorem over : Rows.sectorTornRow.holds Tryd.pinned (OpenSpec.ofChange Rows.sectorTornSpec) :=
  OpenClaim.holds_of_wide 9 Tryd.f9 rfl rfl rfl rfl rfl rfl rfl ⟨rfl, rfl, rfl, rfl, rfl⟩ rfl rfl rfl rfl rfl (by kernel_rfl) func (by kernel_rfl)
    (of_decide_eq_true (by kernel_rfl)) (by unfold Func.isWrapper; first | (rw [if_pos (by decide +kernel)]; kernel_rfl) | (rw [if_neg (by decide +kernel)]; exact ⟨rfl, rfl⟩))
    (fun os started H enc _ => lifted os started H enc)
theorem proved : Rows.SectorTornCardSaid :=
  Claim7.holds_tied_plain_at .later [] [.data, .data] true (true, "75743f0b73b4e7e28c5c2ad66f06eb873a2866bbc87d64bbce2c89560b6d2ebe") false
    over (fun _ h => by cases h) (by kernel_rfl) (fun _ h => by cases h) sectorTorn_row_tie rfl ⟨rfl, rfl⟩ (by kernel_rfl) rfl
    (fun f fn hf hfn => by
      obtain rfl : f = 9 := Option.some.inj ((show Tryd.prog.funcNamed "apostille/apostillelaw28.SectorTorn" = some 9 by kernel_rfl).symm.trans hf) |>.symm
      obtain rfl : fn = Tryd.f9 := (Option.some.inj (func.symm.trans hfn)).symm
      exact ⟨by kernel_rfl, fun j t ht => by
        rw [params] at ht
        have hm : t ∈ [50, 48, 3, 24] := by simpa using Array.mem_of_getElem? ht
        have hall : ([50, 48, 3, 24].all fun u => !Tryd.prog.wantsStandIn u) = true := by kernel_rfl
        exact (show Tryd.prog.wantsStandIn t = false by simpa using List.all_eq_true.1 hall t hm)⟩)
    (by kernel_rfl)
end Go.Proofs.YtknjpkgnideplaaDoor.sectorTorn
