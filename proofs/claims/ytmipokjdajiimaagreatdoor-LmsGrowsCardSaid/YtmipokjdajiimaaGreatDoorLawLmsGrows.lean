/-
  LmsGrows: for every input the law returns true, and each argument reads behind the call as it read before. No condition.
-/
import Derived.Test.YtmipokjdajiimaaGreatDoorLmsGrowsS
import Derived.Test.YtmipokjdajiimaaGreatDoorLmsGrowsV
import Derived.Test.YtmipokjdajiimaaGreatDoorLmsGrowsH
import Derived.Test.YtmipokjdajiimaaGreatDoorLmsGrowsJ
import Derived.Test.YtmipokjdajiimaaGreatDoorTie
import Derived.Test.YtmipokjdajiimaaGreatDoorCards
import Derived.SevenTiedAt
import Derived.LaidMore
import Derived.Stop.Joined
import Derived.LaidLaws
import Derived.Test.YtmipokjdajiimaaGreatDoorRows
import Derived.WalkKit
import Derived.ProofKit
import Derived.OpenShut
import Derived.ShutString
import Derived.ChangeOld
import Derived.SizedLaws
namespace Go.Proofs.YtmipokjdajiimaaGreatDoor.lmsGrows
open Go.ChangeShapes Go.WideShapes Go.ChangeAt Go.RowKit Go.Abs
set_option linter.unusedVariables false
theorem own : ownKnob Tryz.prog.godebug = none := by kernel_rfl
theorem laidOut : laidOutB Tryz.prog = true := by kernel_rfl
theorem func : Tryz.prog.funcs[4]? = some Tryz.f4 := by kernel_rfl
theorem params : Tryz.f4.params = #[40, 23, 23, 41, 23] := by kernel_rfl
theorem bxd : Tryz.prog.underlying 4 = some .bool := by kernel_rfl
theorem g40 : axv Tryz.prog 9 40 = true := by kernel_rfl
theorem a40 : ac0 Tryz.prog 40 = some true := by kernel_rfl
theorem e40 (l : List AVal) : Go.Abs.Good Tryz.prog 9 40 l = (∃ p1 q1, l = p1 ++ q1 ∧ (∃ n, p1 = [.v (.int .i64 n)] ∧ wfI .i64 n) ∧ (∃ p2 q2, q1 = p2 ++ q2 ∧ (∃ n, p2 = [.v (.int .i64 n)] ∧ wfI .i64 n) ∧ (q2 = []))) := by kernel_rfl
theorem u23 : Tryz.prog.underlying 23 = some (.slice 5) := by kernel_rfl
theorem g23 : axv Tryz.prog 9 23 = true := by kernel_rfl
theorem e23 (l : List AVal) : Go.Abs.Good Tryz.prog 9 23 l = (∃ xs, l = [.sl (.ints .u8 xs)] ∧ xs.length ≤ 140737488355328 ∧ ∀ x, x ∈ xs → wfI .u8 x) := by kernel_rfl
theorem u41 : Tryz.prog.underlying 41 = some (.int .u32) := by kernel_rfl
def laid : List (String × DataW Unit) := Rows.lmsGrowsRow.laid
theorem bk8 (os : Os) (args : Array Value) : laidMetH Tryz.prog laid ((World.doorLaid Tryz.prog 60 os).forCall (fun _ _ => 0) ⟨#[], args, []⟩).memory :=
  laidMetH_of_parts3 (fuel := 8) (laidMet_of_run' 8 (by kernel_rfl) (by kernel_rfl)) (by kernel_rfl) (by kernel_rfl)
theorem bjz {W : World} (h : laidMetH Tryz.prog laid W) : ajh GLO.gB (ba3 W) W := by
  rw [MakeChecks.laidMetH_plain _ _ _ (by kernel_rfl)] at h
  obtain ⟨ps, hV, _⟩ := h
  obtain ⟨g0, q0, hV0⟩ := azj (l := P.roots256) (n := 64) (k := .u32) (t := 167) (e := 41) (g := 0) hV (by kernel_rfl) (by kernel_rfl) (by kernel_rfl) (by kernel_rfl) (by kernel_rfl) (by kernel_rfl) (by kernel_rfl) (by kernel_rfl)
  obtain ⟨g1, q1, hV1⟩ := azj (l := P.roots512) (n := 80) (k := .u64) (t := 160) (e := 26) (g := 1) hV0 (by kernel_rfl) (by kernel_rfl) (by kernel_rfl) (by kernel_rfl) (by kernel_rfl) (by kernel_rfl) (by kernel_rfl) (by kernel_rfl)
  exact aql g0 (aql g1 (bb7 _ _))
set_option maxRecDepth 100000 in
theorem lifted (os : Os) (started : os.Started) (H : Type) (enc : TypeId × Value → H) :
    ReturnsInHanded {} Tryz.checked os 4 .any (fun w args => (Rows.lmsGrowsSpec.pre enc Tryz.prog Tryz.f4 [] false w args ∧ laidMetH Tryz.prog laid w) ∧ sizedMet enc Tryz.prog Tryz.f4 (OpenSpec.ofChange Rows.lmsGrowsSpec) false w args)
      (Rows.lmsGrowsSpec.post enc Tryz.prog Tryz.f4 false true false false) := by
  refine returnsInHanded_of_change_and (C := Tryz.checked) (X := fun w _ => laidMetH Tryz.prog laid w) (fun _ _ _ hh h => h.of_heap hh) own started (by kernel_rfl) func
    (ChangeSpec.witness_shaped (enc := enc) (C := Tryz.checked) (os := os) (X := fun w _ => laidMetH Tryz.prog laid w) false (World.doorLaid Tryz.prog 60 os) #[.agg #[.int .i64 0, .int .i64 0], .slice none 0 0, .slice none 0 0, .int .u32 0, .slice none 0 0] 8 rfl (World.shaped_of_RefB (by kernel_rfl) (by kernel_rfl)) (by kernel_rfl) (by kernel_rfl) (by kernel_rfl) (bk8 os _)) ?_
  intro W base args ds gs before hval0 hW hcnd hsz0 hL _
  have hgl := bjz hL
  have hval : ∀ (j : Nat) t v, Tryz.f4.params[j]? = some t → args[j]? = some v → Value.okWide Tryz.prog W .any base t v := hval0
  have hW' := hW
  obtain ⟨p, q, hA0, hV, rfl, hfz, hnd⟩ := hW
  have hA : DataW.TrodAll enc Tryz.prog W 0 (fun _ => true) true Tryz.f4.params.toList args.toList ds p := hA0
  rw [params] at hA hval
  obtain ⟨v0, vs0, d0, ds0, p0, q0, hargs, rfl, rfl, h0, r0⟩ := trodAll_cons hA
  obtain ⟨v1, vs1, d1, ds1, p1, q1, rfl, rfl, rfl, h1, r1⟩ := trodAll_cons r0
  obtain ⟨v2, vs2, d2, ds2, p2, q2, rfl, rfl, rfl, h2, r2⟩ := trodAll_cons r1
  obtain ⟨v3, vs3, d3, ds3, p3, q3, rfl, rfl, rfl, h3, r3⟩ := trodAll_cons r2
  obtain ⟨v4, vs4, d4, ds4, p4, q4, rfl, rfl, rfl, h4, r4⟩ := trodAll_cons r3
  obtain ⟨rfl, rfl, rfl⟩ := trodAll_nil r4
  obtain rfl : args = #[v0, v1, v2, v3, v4] := by cases args; simp_all
  obtain ⟨rfl, rfl⟩ := trodVars_none hV
  have lt0 := afr h0
  have k0 := h0
  have z0 : ∀ n, n ∈ d0.weights Tryz.prog 40 → n ≤ reachBytes := fun n hn => by simpa using List.all_eq_true.1 hsz0 _ (DataW.weights_mem_each (j := 0) (t := 40) (d := d0) (by rw [show Tryz.f4.params = _ from params]; rfl) rfl n hn)
  obtain ⟨l0, G0, s0⟩ := bj4 9 g40 a40 (hval 0 40 v0 rfl rfl) h0 (z0)
  rw [e40] at G0
  obtain ⟨_, _, rfl, ⟨x0_H, rfl, wx0_H⟩, ⟨_, _, rfl, ⟨x0_W, rfl, wx0_W⟩, rfl⟩⟩ := G0
  have lt1 := afr h1
  have k1 := h1
  have z1 : ∀ n, n ∈ d1.weights Tryz.prog 23 → n ≤ reachBytes := fun n hn => by simpa using List.all_eq_true.1 hsz0 _ (DataW.weights_mem_each (j := 1) (t := 23) (d := d1) (by rw [show Tryz.f4.params = _ from params]; rfl) rfl n hn)
  obtain ⟨l1, G1, s1⟩ := apv 8 g23 u23 (hval 1 23 v1 rfl rfl) h1 (z1)
  rw [e23] at G1
  obtain ⟨x1, hl1, nx1, wx1⟩ := G1
  cases hl1
  have lt2 := afr h2
  have k2 := h2
  have z2 : ∀ n, n ∈ d2.weights Tryz.prog 23 → n ≤ reachBytes := fun n hn => by simpa using List.all_eq_true.1 hsz0 _ (DataW.weights_mem_each (j := 2) (t := 23) (d := d2) (by rw [show Tryz.f4.params = _ from params]; rfl) rfl n hn)
  obtain ⟨l2, G2, s2⟩ := apv 8 g23 u23 (hval 2 23 v2 rfl rfl) h2 (z2)
  rw [e23] at G2
  obtain ⟨x2, hl2, nx2, wx2⟩ := G2
  cases hl2
  have lt3 := afr h3
  have k3 := h3
  obtain ⟨x3, rfl, rfl, rfl, wx3⟩ := open_int u41 (hval 3 41 v3 rfl rfl) h3
  have s3 : dh (ow (ba3 W)) W (.v (.int .u32 x3)) (.int .u32 x3) := by simp only [dh]
  have lt4 := afr h4
  have k4 := h4
  have z4 : ∀ n, n ∈ d4.weights Tryz.prog 23 → n ≤ reachBytes := fun n hn => by simpa using List.all_eq_true.1 hsz0 _ (DataW.weights_mem_each (j := 4) (t := 23) (d := d4) (by rw [show Tryz.f4.params = _ from params]; rfl) rfl n hn)
  obtain ⟨l4, G4, s4⟩ := apv 8 g23 u23 (hval 4 23 v4 rfl rfl) h4 (z4)
  rw [e23] at G4
  obtain ⟨x4, hl4, nx4, wx4⟩ := G4
  cases hl4
  clear hA0 hval0 hsz0
  have hs : ∀ K, yt.spec [.agg [.v (.int .i64 x0_H), .v (.int .i64 x0_W)], .sl (.ints .u8 x1), .sl (.ints .u8 x2), .v (.int .u32 x3), .sl (.ints .u8 x4)] K = P.yt x0_H x0_W x1 x2 x3 x4 (fun r0 => K (.v (.bool r0))) := by intro K; kernel_rfl
  obtain ⟨a, hK, hrun⟩ := yt.ok.sound [.agg [.v (.int .i64 x0_H), .v (.int .i64 x0_W)], .sl (.ints .u8 x1), .sl (.ints .u8 x2), .v (.int .u32 x3), .sl (.ints .u8 x4)] (fun v => match v with | .v (.bool true) => some (.v (.bool true)) | _ => none) (.v (.bool true)) (by
    rw [hs, Q.LmsGrows x0_H x0_W x1 x2 x3 x4 wx0_H wx0_W nx1 wx1 nx2 wx2 wx3 nx4 wx4])
  have ha : a = .v (.bool true) := by
    split at hK
    · rfl
    · cases hK
  subst ha
  refine (hrun (ba3 W) W [_, _, _, _, _] (fun _ h => h) hgl ?_).mono fun e W' he => ?_
  · simp only [je]
    exact ⟨_, _, rfl, s0, ⟨_, _, rfl, s1, ⟨_, _, rfl, s2, ⟨_, _, rfl, s3, ⟨_, _, rfl, s4, rfl⟩⟩⟩⟩⟩
  obtain ⟨v, Sn, bs, rfl, bel, _, hv, _⟩ := he
  simp only [uh, dh] at hv
  obtain ⟨rfl, _⟩ := hv
  exact ⟨_, rfl, _, _, _, [], _, [], hW', trodAll_mk1 (shut_bool bxd _), trodAll_cons_mk (Below.trod laidOut (by kernel_rfl) (of_decide_eq_true (by kernel_rfl)) k0 bel lt0) (trodAll_cons_mk (Below.trod laidOut (by kernel_rfl) (of_decide_eq_true (by kernel_rfl)) k1 bel lt1) (trodAll_cons_mk (Below.trod laidOut (by kernel_rfl) (of_decide_eq_true (by kernel_rfl)) k2 bel lt2) (trodAll_cons_mk (Below.trod laidOut (by kernel_rfl) (of_decide_eq_true (by kernel_rfl)) k3 bel lt3) (trodAll_cons_mk (Below.trod laidOut (by kernel_rfl) (of_decide_eq_true (by kernel_rfl)) k4 bel lt4) (trodAll_mk0))))), rfl, bel.frame _, fun h => by cases h⟩
theorem over : Rows.lmsGrowsRow.holds Tryz.pinned (OpenSpec.ofChange Rows.lmsGrowsSpec) :=
  OpenClaim.holds_of_wide 4 Tryz.f4 rfl rfl rfl rfl rfl rfl rfl ⟨rfl, rfl, rfl, rfl, rfl⟩ rfl rfl rfl rfl rfl (by kernel_rfl) func (by kernel_rfl)
    (of_decide_eq_true (by kernel_rfl)) (by unfold Func.isWrapper; first | (rw [if_pos (by decide +kernel)]; kernel_rfl) | (rw [if_neg (by decide +kernel)]; exact ⟨rfl, rfl⟩))
    (fun os started H enc _ => lifted os started H enc)
theorem proved : Rows.LmsGrowsCardSaid :=
  Claim7.holds_tied_plain_at .later [] [.data, .data] true (true, "1a91769c4e29560ebb0d256ae04051a5bc774d79054ea887e437f920383cb26c") false
    over (fun _ h => by cases h) (by kernel_rfl) (fun _ h => by cases h) lmsGrows_row_tie rfl ⟨rfl, rfl⟩ (by kernel_rfl) rfl
    (fun f fn hf hfn => by
      obtain rfl : f = 4 := Option.some.inj ((show Tryz.prog.funcNamed "apostille/apostillelaw15.LmsGrows" = some 4 by kernel_rfl).symm.trans hf) |>.symm
      obtain rfl : fn = Tryz.f4 := (Option.some.inj (func.symm.trans hfn)).symm
      exact ⟨by kernel_rfl, fun j t ht => by
        rw [params] at ht
        have hm : t ∈ [40, 23, 23, 41, 23] := by simpa using Array.mem_of_getElem? ht
        have hall : ([40, 23, 23, 41, 23].all fun u => !Tryz.prog.wantsStandIn u) = true := by kernel_rfl
        exact (show Tryz.prog.wantsStandIn t = false by simpa using List.all_eq_true.1 hall t hm)⟩)
    (by kernel_rfl)
end Go.Proofs.YtmipokjdajiimaaGreatDoor.lmsGrows
