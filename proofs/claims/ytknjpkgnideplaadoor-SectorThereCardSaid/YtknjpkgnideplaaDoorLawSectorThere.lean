/-
  SectorThere: for every input the law returns true, and each argument reads behind the call as it read before. No condition.
-/
import Derived.Test.YtknjpkgnideplaaDoorSectorThereJ
import Derived.Test.YtknjpkgnideplaaDoorSectorThereM
import Derived.Test.YtknjpkgnideplaaDoorSectorThereK
import Derived.Test.YtknjpkgnideplaaDoorSectorThereN
import Derived.Test.YtknjpkgnideplaaDoorSectorThereG
import Derived.Test.YtknjpkgnideplaaDoorTie
import Derived.Test.YtknjpkgnideplaaDoorCards
import Derived.SevenTiedAt
import Derived.LaidMore
import Derived.Stop.Joined
import Derived.LaidLaws
import Derived.Test.YtknjpkgnideplaaDoorRows
import Derived.WalkKit
import Derived.ProofKit
import Derived.OpenShut
import Derived.ShutString
import Derived.ChangeOld
import Derived.SizedLaws
namespace Go.Proofs.YtknjpkgnideplaaDoor.sectorThere
open Go.ChangeShapes Go.WideShapes Go.ChangeAt Go.RowKit Go.Abs
set_option linter.unusedVariables false
theorem own : ownKnob Tryd.prog.godebug = none := by kernel_rfl
theorem laidOut : laidOutB Tryd.prog = true := by kernel_rfl
theorem func : Tryd.prog.funcs[6]? = some Tryd.f6 := by kernel_rfl
theorem params : Tryd.f6.params = #[48, 24, 50] := by kernel_rfl
theorem uBool : Tryd.prog.underlying 4 = some .bool := by kernel_rfl
theorem g48 : goodT Tryd.prog 9 48 = true := by kernel_rfl
theorem a48 : isAggT Tryd.prog 48 = some true := by kernel_rfl
theorem e48 (l : List AVal) : Go.Abs.Good Tryd.prog 9 48 l = (∃ p1 q1, l = p1 ++ q1 ∧ (∃ n, p1 = [.v (.int .u64 n)] ∧ wfI .u64 n) ∧ (∃ p2 q2, q1 = p2 ++ q2 ∧ (∃ n, p2 = [.v (.int .u64 n)] ∧ wfI .u64 n) ∧ (q2 = []))) := by kernel_rfl
theorem u24 : Tryd.prog.underlying 24 = some (.slice 5) := by kernel_rfl
theorem g24 : goodT Tryd.prog 9 24 = true := by kernel_rfl
theorem e24 (l : List AVal) : Go.Abs.Good Tryd.prog 9 24 l = (∃ xs, l = [.sl (.ints .u8 xs)] ∧ xs.length ≤ 140737488355328 ∧ ∀ x, x ∈ xs → wfI .u8 x) := by kernel_rfl
theorem g50 : goodT Tryd.prog 9 50 = true := by kernel_rfl
theorem a50 : isAggT Tryd.prog 50 = some true := by kernel_rfl
theorem e50 (l : List AVal) : Go.Abs.Good Tryd.prog 9 50 l = (∃ p3 q3, l = p3 ++ q3 ∧ (∃ xs, p3 = [.sl (.ints .u8 xs)] ∧ xs.length ≤ 140737488355328 ∧ ∀ x, x ∈ xs → wfI .u8 x) ∧ (∃ p4 q4, q3 = p4 ++ q4 ∧ (∃ xs, p4 = [.sl (.ints .u8 xs)] ∧ xs.length ≤ 140737488355328 ∧ ∀ x, x ∈ xs → wfI .u8 x) ∧ (q4 = []))) := by kernel_rfl
def laid : List (String × DataW Unit) := Rows.sectorThereRow.laid
theorem door_met (os : Os) (args : Array Value) : laidMetH Tryd.prog laid ((World.doorLaid Tryd.prog 19 os).forCall (fun _ _ => 0) ⟨#[], args, []⟩).memory :=
  laidMetH_of_parts3 (fuel := 8) (laidMet_of_run' 8 (by kernel_rfl) (by kernel_rfl)) (by kernel_rfl) (by kernel_rfl)
theorem globs_of {W : World} (h : laidMetH Tryd.prog laid W) : GlobsOk GLO.gB (allB W) W := by
  rw [MakeChecks.laidMetH_plain _ _ _ (by kernel_rfl)] at h
  obtain ⟨ps, hV, _⟩ := h
  obtain ⟨g0, q0, hV0⟩ := laid_cons (l := P.roots256) (n := 64) (k := .u32) (t := 177) (e := 71) (g := 0) hV (by kernel_rfl) (by kernel_rfl) (by kernel_rfl) (by kernel_rfl) (by kernel_rfl) (by kernel_rfl) (by kernel_rfl) (by kernel_rfl)
  obtain ⟨g1, q1, hV1⟩ := laid_cons (l := P.roots512) (n := 80) (k := .u64) (t := 163) (e := 22) (g := 1) hV0 (by kernel_rfl) (by kernel_rfl) (by kernel_rfl) (by kernel_rfl) (by kernel_rfl) (by kernel_rfl) (by kernel_rfl) (by kernel_rfl)
  exact globsOk_cons g0 (globsOk_cons g1 (globsOk_nil _ _))
set_option maxRecDepth 100000 in
theorem lifted (os : Os) (started : os.Started) (H : Type) (enc : TypeId × Value → H) :
    ReturnsInHanded {} Tryd.checked os 6 .any (fun w args => (Rows.sectorThereSpec.pre enc Tryd.prog Tryd.f6 [] false w args ∧ laidMetH Tryd.prog laid w) ∧ sizedMet enc Tryd.prog Tryd.f6 (OpenSpec.ofChange Rows.sectorThereSpec) false w args)
      (Rows.sectorThereSpec.post enc Tryd.prog Tryd.f6 false true false false) := by
  refine returnsInHanded_of_change_and (C := Tryd.checked) (X := fun w _ => laidMetH Tryd.prog laid w) (fun _ _ _ hh h => h.of_heap hh) own started (by kernel_rfl) func
    (ChangeSpec.witness_shaped (enc := enc) (C := Tryd.checked) (os := os) (X := fun w _ => laidMetH Tryd.prog laid w) false (World.doorLaid Tryd.prog 19 os) #[.agg #[.int .u64 0, .int .u64 0], .slice none 0 0, .agg #[.slice none 0 0, .slice none 0 0]] 8 rfl (World.shaped_of_RefB (by kernel_rfl) (by kernel_rfl)) (by kernel_rfl) (by kernel_rfl) (by kernel_rfl) (door_met os _)) ?_
  intro W base args ds gs before hval0 hW hcnd hsz0 hL _
  have hgl := globs_of hL
  have hval : ∀ (j : Nat) t v, Tryd.f6.params[j]? = some t → args[j]? = some v → Value.okWide Tryd.prog W .any base t v := hval0
  have hW' := hW
  obtain ⟨p, q, hA0, hV, rfl, hfz, hnd⟩ := hW
  have hA : DataW.TrodAll enc Tryd.prog W 0 (fun _ => true) true Tryd.f6.params.toList args.toList ds p := hA0
  rw [params] at hA hval
  obtain ⟨v0, vs0, d0, ds0, p0, q0, hargs, rfl, rfl, h0, r0⟩ := trodAll_cons hA
  obtain ⟨v1, vs1, d1, ds1, p1, q1, rfl, rfl, rfl, h1, r1⟩ := trodAll_cons r0
  obtain ⟨v2, vs2, d2, ds2, p2, q2, rfl, rfl, rfl, h2, r2⟩ := trodAll_cons r1
  obtain ⟨rfl, rfl, rfl⟩ := trodAll_nil r2
  obtain rfl : args = #[v0, v1, v2] := by cases args; simp_all
  obtain ⟨rfl, rfl⟩ := trodVars_none hV
  have lt0 := trod_blocks h0
  have k0 := h0
  have z0 : ∀ n, n ∈ d0.weights Tryd.prog 48 → n ≤ reachBytes := fun n hn => by simpa using List.all_eq_true.1 hsz0 _ (DataW.weights_mem_each (j := 0) (t := 48) (d := d0) (by rw [show Tryd.f6.params = _ from params]; rfl) rfl n hn)
  obtain ⟨l0, G0, s0⟩ := read_agg 9 g48 a48 (hval 0 48 v0 rfl rfl) h0 (z0)
  rw [e48] at G0
  obtain ⟨_, _, rfl, ⟨x0_Epoch, rfl, wx0_Epoch⟩, ⟨_, _, rfl, ⟨x0_Bound, rfl, wx0_Bound⟩, rfl⟩⟩ := G0
  have lt1 := trod_blocks h1
  have k1 := h1
  have z1 : ∀ n, n ∈ d1.weights Tryd.prog 24 → n ≤ reachBytes := fun n hn => by simpa using List.all_eq_true.1 hsz0 _ (DataW.weights_mem_each (j := 1) (t := 24) (d := d1) (by rw [show Tryd.f6.params = _ from params]; rfl) rfl n hn)
  obtain ⟨l1, G1, s1⟩ := read_slice 8 g24 u24 (hval 1 24 v1 rfl rfl) h1 (z1)
  rw [e24] at G1
  obtain ⟨x1, hl1, nx1, wx1⟩ := G1
  cases hl1
  have lt2 := trod_blocks h2
  have k2 := h2
  have z2 : ∀ n, n ∈ d2.weights Tryd.prog 50 → n ≤ reachBytes := fun n hn => by simpa using List.all_eq_true.1 hsz0 _ (DataW.weights_mem_each (j := 2) (t := 50) (d := d2) (by rw [show Tryd.f6.params = _ from params]; rfl) rfl n hn)
  obtain ⟨l2, G2, s2⟩ := read_agg 9 g50 a50 (hval 2 50 v2 rfl rfl) h2 (z2)
  rw [e50] at G2
  obtain ⟨_, _, rfl, ⟨x2_0, rfl, nx2_0, wx2_0⟩, ⟨_, _, rfl, ⟨x2_1, rfl, nx2_1, wx2_1⟩, rfl⟩⟩ := G2
  clear hA0 hval0 hsz0
  have hs : ∀ K, L28_SectorThere.spec [.agg [.v (.int .u64 x0_Epoch), .v (.int .u64 x0_Bound)], .sl (.ints .u8 x1), .agg [.sl (.ints .u8 x2_0), .sl (.ints .u8 x2_1)]] K = P.L28_SectorThere x0_Epoch x0_Bound x1 x2_0 x2_1 (fun r0 => K (.v (.bool r0))) := by intro K; kernel_rfl
  obtain ⟨a, hK, hrun⟩ := L28_SectorThere.ok.sound [.agg [.v (.int .u64 x0_Epoch), .v (.int .u64 x0_Bound)], .sl (.ints .u8 x1), .agg [.sl (.ints .u8 x2_0), .sl (.ints .u8 x2_1)]] (fun v => match v with | .v (.bool true) => some (.v (.bool true)) | _ => none) (.v (.bool true)) (by
    rw [hs, Q.SectorThere x0_Epoch x0_Bound x1 x2_0 x2_1 wx0_Epoch wx0_Bound nx1 wx1 nx2_0 wx2_0 nx2_1 wx2_1])
  have ha : a = .v (.bool true) := by
    split at hK
    · rfl
    · cases hK
  subst ha
  refine (hrun (allB W) W [_, _, _] (fun _ h => h) hgl ?_).mono fun e W' he => ?_
  · simp only [RelVs]
    exact ⟨_, _, rfl, s0, ⟨_, _, rfl, s1, ⟨_, _, rfl, s2, rfl⟩⟩⟩
  obtain ⟨v, Sn, bs, rfl, bel, _, hv, _⟩ := he
  simp only [RelX, RelV] at hv
  obtain ⟨rfl, _⟩ := hv
  exact ⟨_, rfl, _, _, _, [], _, [], hW', trodAll_mk1 (shut_bool uBool _), trodAll_cons_mk (Below.trod laidOut (by kernel_rfl) (of_decide_eq_true (by kernel_rfl)) k0 bel lt0) (trodAll_cons_mk (Below.trod laidOut (by kernel_rfl) (of_decide_eq_true (by kernel_rfl)) k1 bel lt1) (trodAll_cons_mk (Below.trod laidOut (by kernel_rfl) (of_decide_eq_true (by kernel_rfl)) k2 bel lt2) (trodAll_mk0))), rfl, bel.frame _, fun h => by cases h⟩
theorem over : Rows.sectorThereRow.holds Tryd.pinned (OpenSpec.ofChange Rows.sectorThereSpec) :=
  OpenClaim.holds_of_wide 6 Tryd.f6 rfl rfl rfl rfl rfl rfl rfl ⟨rfl, rfl, rfl, rfl, rfl⟩ rfl rfl rfl rfl rfl (by kernel_rfl) func (by kernel_rfl)
    (of_decide_eq_true (by kernel_rfl)) (by unfold Func.isWrapper; first | (rw [if_pos (by decide +kernel)]; kernel_rfl) | (rw [if_neg (by decide +kernel)]; exact ⟨rfl, rfl⟩))
    (fun os started H enc _ => lifted os started H enc)
theorem proved : Rows.SectorThereCardSaid :=
  Claim7.holds_tied_plain_at .later [] [.data, .data] true (true, "75743f0b73b4e7e28c5c2ad66f06eb873a2866bbc87d64bbce2c89560b6d2ebe") false
    over (fun _ h => by cases h) (by kernel_rfl) (fun _ h => by cases h) sectorThere_row_tie rfl ⟨rfl, rfl⟩ (by kernel_rfl) rfl
    (fun f fn hf hfn => by
      obtain rfl : f = 6 := Option.some.inj ((show Tryd.prog.funcNamed "apostille/apostillelaw28.SectorThere" = some 6 by kernel_rfl).symm.trans hf) |>.symm
      obtain rfl : fn = Tryd.f6 := (Option.some.inj (func.symm.trans hfn)).symm
      exact ⟨by kernel_rfl, fun j t ht => by
        rw [params] at ht
        have hm : t ∈ [48, 24, 50] := by simpa using Array.mem_of_getElem? ht
        have hall : ([48, 24, 50].all fun u => !Tryd.prog.wantsStandIn u) = true := by kernel_rfl
        exact (show Tryd.prog.wantsStandIn t = false by simpa using List.all_eq_true.1 hall t hm)⟩)
    (by kernel_rfl)
end Go.Proofs.YtknjpkgnideplaaDoor.sectorThere
