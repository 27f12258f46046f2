/-
  SlhSigns: for every input the law returns true, and each argument reads behind the call as it read before. No condition.
-/
import Derived.Test.YtciddcopcdmnbaaGreatDoorSlhSignsY
import Derived.Test.YtciddcopcdmnbaaGreatDoorSlhSignsZC
import Derived.Test.YtciddcopcdmnbaaGreatDoorSlhSignsH
import Derived.Test.YtciddcopcdmnbaaGreatDoorSlhSignsJ
import Derived.Test.YtciddcopcdmnbaaGreatDoorTie
import Derived.Test.YtciddcopcdmnbaaGreatDoorCards
import Derived.SevenTiedAt
import Derived.LaidMore
import Derived.Stop.Joined
import Derived.LaidLaws
import Derived.Test.YtciddcopcdmnbaaGreatDoorRows
import Derived.WalkKit
import Derived.ProofKit
import Derived.OpenShut
import Derived.ShutString
import Derived.ChangeOld
import Derived.SizedLaws
namespace Go.Proofs.YtciddcopcdmnbaaGreatDoor.slhSigns
open Go.ChangeShapes Go.WideShapes Go.ChangeAt Go.RowKit Go.Abs
theorem own : ownKnob Tryz.prog.godebug = none := by kernel_rfl
theorem laidOut : laidOutB Tryz.prog = true := by kernel_rfl
theorem func : Tryz.prog.funcs[5]? = some Tryz.f5 := by kernel_rfl
theorem params : Tryz.f5.params = #[23, 24, 24, 24, 24] := by kernel_rfl
theorem che : Tryz.prog.underlying 4 = some .bool := by kernel_rfl
theorem g23 : blj Tryz.prog 9 23 = true := by kernel_rfl
theorem a23 : ahb Tryz.prog 23 = some true := by kernel_rfl
theorem e23 (l : List AVal) : Go.Abs.Good Tryz.prog 9 23 l = (∃ p1 q1, l = p1 ++ q1 ∧ (∃ n, p1 = [.v (.int .i64 n)] ∧ wfI .i64 n) ∧ (∃ p2 q2, q1 = p2 ++ q2 ∧ (∃ n, p2 = [.v (.int .i64 n)] ∧ wfI .i64 n) ∧ (∃ p3 q3, q2 = p3 ++ q3 ∧ (∃ n, p3 = [.v (.int .i64 n)] ∧ wfI .i64 n) ∧ (∃ p4 q4, q3 = p4 ++ q4 ∧ (∃ n, p4 = [.v (.int .i64 n)] ∧ wfI .i64 n) ∧ (∃ p5 q5, q4 = p5 ++ q5 ∧ (∃ n, p5 = [.v (.int .i64 n)] ∧ wfI .i64 n) ∧ (∃ p6 q6, q5 = p6 ++ q6 ∧ (∃ b, p6 = [.v (.bool b)]) ∧ (q6 = []))))))) := by kernel_rfl
theorem u24 : Tryz.prog.underlying 24 = some (.slice 5) := by kernel_rfl
theorem g24 : blj Tryz.prog 9 24 = true := by kernel_rfl
theorem e24 (l : List AVal) : Go.Abs.Good Tryz.prog 9 24 l = (∃ xs, l = [.sl (.ints .u8 xs)] ∧ xs.length ≤ 140737488355328 ∧ ∀ x, x ∈ xs → wfI .u8 x) := by kernel_rfl
def laid : List (String × DataW Unit) := Rows.slhSignsRow.laid
theorem byy (os : Os) (args : Array Value) : laidMetH Tryz.prog laid ((World.doorLaid Tryz.prog 60 os).forCall (fun _ _ => 0) ⟨#[], args, []⟩).memory :=
  laidMetH_of_parts3 (fuel := 8) (laidMet_of_run' 8 (by kernel_rfl) (by kernel_rfl)) (by kernel_rfl) (by kernel_rfl)
theorem by2 {W : World} (h : laidMetH Tryz.prog laid W) : auf [(0, [AVal.arr .i64 30 [16, 63, 7, 12, 14, 16, 66, 22, 6, 33, 24, 63, 7, 14, 17, 24, 66, 22, 8, 33, 32, 64, 8, 14, 22, 32, 68, 17, 9, 35]]), (1, [AVal.arr .i64 16 [0, 0, 32, 64, 48, 128, 64, 128, 32, 136, 64, 72, 32, 168, 64, 136]]), (2, [AVal.arr .u64 24 P.bu4]), (3, [AVal.arr .i64 24 P.b5h]), (4, [AVal.arr .i64 24 P.cax]), (5, [AVal.arr .u32 64 P.roots256]), (6, [AVal.arr .u64 80 P.roots512])] (bms W) W := by
  rw [MakeChecks.laidMetH_plain _ _ _ (by kernel_rfl)] at h
  obtain ⟨ps, hV, _⟩ := h
  obtain ⟨g0, q0, hV0⟩ := as5 (l := P.bu4) (n := 24) (k := .u64) (t := 186) (e := 53) (g := 2) hV (by kernel_rfl) (by kernel_rfl) (by kernel_rfl) (by kernel_rfl) (by kernel_rfl) (by kernel_rfl) (by kernel_rfl) (by kernel_rfl)
  obtain ⟨g1, q1, hV1⟩ := as5 (l := P.b5h) (n := 24) (k := .i64) (t := 218) (e := 3) (g := 3) hV0 (by kernel_rfl) (by kernel_rfl) (by kernel_rfl) (by kernel_rfl) (by kernel_rfl) (by kernel_rfl) (by kernel_rfl) (by kernel_rfl)
  obtain ⟨g2, q2, hV2⟩ := as5 (l := P.cax) (n := 24) (k := .i64) (t := 218) (e := 3) (g := 4) hV1 (by kernel_rfl) (by kernel_rfl) (by kernel_rfl) (by kernel_rfl) (by kernel_rfl) (by kernel_rfl) (by kernel_rfl) (by kernel_rfl)
  obtain ⟨g3, q3, hV3⟩ := as5 (l := P.roots256) (n := 64) (k := .u32) (t := 224) (e := 102) (g := 5) hV2 (by kernel_rfl) (by kernel_rfl) (by kernel_rfl) (by kernel_rfl) (by kernel_rfl) (by kernel_rfl) (by kernel_rfl) (by kernel_rfl)
  obtain ⟨g4, q4, hV4⟩ := as5 (l := P.roots512) (n := 80) (k := .u64) (t := 190) (e := 53) (g := 6) hV3 (by kernel_rfl) (by kernel_rfl) (by kernel_rfl) (by kernel_rfl) (by kernel_rfl) (by kernel_rfl) (by kernel_rfl) (by kernel_rfl)
  obtain ⟨g5, q5, hV5⟩ := bj4 (ls := [[0, 0], [32, 64], [48, 128], [64, 128], [32, 136], [64, 72], [32, 168], [64, 136]]) (n := 8) (m := 2) (k := .i64) (t := 180) (e := 179) (f := 3) (g := 1) hV4 (by kernel_rfl) (by kernel_rfl) (by kernel_rfl) (by kernel_rfl) (by kernel_rfl) (by kernel_rfl) (by kernel_rfl) (by kernel_rfl) (by kernel_rfl) (by kernel_rfl) (by kernel_rfl)
  obtain ⟨g6, q6, hV6⟩ := bj4 (ls := [[16, 63, 7, 12, 14], [16, 66, 22, 6, 33], [24, 63, 7, 14, 17], [24, 66, 22, 8, 33], [32, 64, 8, 14, 22], [32, 68, 17, 9, 35]]) (n := 6) (m := 5) (k := .i64) (t := 71) (e := 70) (f := 3) (g := 0) hV5 (by kernel_rfl) (by kernel_rfl) (by kernel_rfl) (by kernel_rfl) (by kernel_rfl) (by kernel_rfl) (by kernel_rfl) (by kernel_rfl) (by kernel_rfl) (by kernel_rfl) (by kernel_rfl)
  exact aey g6 (aey g5 (aey g0 (aey g1 (aey g2 (aey g3 (aey g4 (bqz _ _)))))))
set_option maxRecDepth 100000 in
theorem lifted (os : Os) (started : os.Started) (H : Type) (enc : TypeId × Value → H) :
    ReturnsInHanded {} Tryz.checked os 5 .any (fun w args => (Rows.slhSignsSpec.pre enc Tryz.prog Tryz.f5 [] false w args ∧ laidMetH Tryz.prog laid w) ∧ sizedMet enc Tryz.prog Tryz.f5 (OpenSpec.ofChange Rows.slhSignsSpec) false w args)
      (Rows.slhSignsSpec.post enc Tryz.prog Tryz.f5 false true false false) := by
  refine returnsInHanded_of_change_and (C := Tryz.checked) (X := fun w _ => laidMetH Tryz.prog laid w) (fun _ _ _ hh h => h.of_heap hh) own started (by kernel_rfl) func
    (ChangeSpec.witness_shaped (enc := enc) (C := Tryz.checked) (os := os) (X := fun w _ => laidMetH Tryz.prog laid w) false (World.doorLaid Tryz.prog 60 os) #[.agg #[.int .i64 0, .int .i64 0, .int .i64 0, .int .i64 0, .int .i64 0, .bool false], .slice none 0 0, .slice none 0 0, .slice none 0 0, .slice none 0 0] 8 rfl (World.shaped_of_RefB (by kernel_rfl) (by kernel_rfl)) (by kernel_rfl) (by kernel_rfl) (by kernel_rfl) (byy os _)) ?_
  intro W base args ds gs before hval0 hW hcnd hsz0 hL _
  have hgl := by2 hL
  have hval : ∀ (j : Nat) t v, Tryz.f5.params[j]? = some t → args[j]? = some v → Value.okWide Tryz.prog W .any base t v := hval0
  have hW' := hW
  obtain ⟨p, q, hA0, hV, rfl, hfz, hnd⟩ := hW
  have hA : DataW.TrodAll enc Tryz.prog W 0 (fun _ => true) true Tryz.f5.params.toList args.toList ds p := hA0
  rw [params] at hA hval
  obtain ⟨v0, vs0, d0, ds0, p0, q0, hargs, rfl, rfl, h0, r0⟩ := trodAll_cons hA
  obtain ⟨v1, vs1, d1, ds1, p1, q1, rfl, rfl, rfl, h1, r1⟩ := trodAll_cons r0
  obtain ⟨v2, vs2, d2, ds2, p2, q2, rfl, rfl, rfl, h2, r2⟩ := trodAll_cons r1
  obtain ⟨v3, vs3, d3, ds3, p3, q3, rfl, rfl, rfl, h3, r3⟩ := trodAll_cons r2
  obtain ⟨v4, vs4, d4, ds4, p4, q4, rfl, rfl, rfl, h4, r4⟩ := trodAll_cons r3
  obtain ⟨rfl, rfl, rfl⟩ := trodAll_nil r4
  obtain rfl : args = #[v0, v1, v2, v3, v4] := by cases args; simp_all
  obtain ⟨rfl, rfl⟩ := trodVars_none hV
  have lt0 := alg h0
  have k0 := h0
  have z0 : ∀ n, n ∈ d0.weights Tryz.prog 23 → n ≤ reachBytes := fun n hn => by simpa using List.all_eq_true.1 hsz0 _ (DataW.weights_mem_each (j := 0) (t := 23) (d := d0) (by rw [show Tryz.f5.params = _ from params]; rfl) rfl n hn)
  obtain ⟨l0, G0, s0⟩ := b0l 9 g23 a23 (hval 0 23 v0 rfl rfl) h0 (z0)
  rw [e23] at G0
  obtain ⟨_, _, rfl, ⟨x0_N, rfl, wx0_N⟩, ⟨_, _, rfl, ⟨x0_H, rfl, wx0_H⟩, ⟨_, _, rfl, ⟨x0_D, rfl, wx0_D⟩, ⟨_, _, rfl, ⟨x0_A, rfl, wx0_A⟩, ⟨_, _, rfl, ⟨x0_K, rfl, wx0_K⟩, ⟨_, _, rfl, ⟨x0_Shake, rfl⟩, rfl⟩⟩⟩⟩⟩⟩ := G0
  have lt1 := alg h1
  have k1 := h1
  have z1 : ∀ n, n ∈ d1.weights Tryz.prog 24 → n ≤ reachBytes := fun n hn => by simpa using List.all_eq_true.1 hsz0 _ (DataW.weights_mem_each (j := 1) (t := 24) (d := d1) (by rw [show Tryz.f5.params = _ from params]; rfl) rfl n hn)
  obtain ⟨l1, G1, s1⟩ := auu 8 g24 u24 (hval 1 24 v1 rfl rfl) h1 (z1)
  rw [e24] at G1
  obtain ⟨x1, hl1, nx1, wx1⟩ := G1
  cases hl1
  have lt2 := alg h2
  have k2 := h2
  have z2 : ∀ n, n ∈ d2.weights Tryz.prog 24 → n ≤ reachBytes := fun n hn => by simpa using List.all_eq_true.1 hsz0 _ (DataW.weights_mem_each (j := 2) (t := 24) (d := d2) (by rw [show Tryz.f5.params = _ from params]; rfl) rfl n hn)
  obtain ⟨l2, G2, s2⟩ := auu 8 g24 u24 (hval 2 24 v2 rfl rfl) h2 (z2)
  rw [e24] at G2
  obtain ⟨x2, hl2, nx2, wx2⟩ := G2
  cases hl2
  have lt3 := alg h3
  have k3 := h3
  have z3 : ∀ n, n ∈ d3.weights Tryz.prog 24 → n ≤ reachBytes := fun n hn => by simpa using List.all_eq_true.1 hsz0 _ (DataW.weights_mem_each (j := 3) (t := 24) (d := d3) (by rw [show Tryz.f5.params = _ from params]; rfl) rfl n hn)
  obtain ⟨l3, G3, s3⟩ := auu 8 g24 u24 (hval 3 24 v3 rfl rfl) h3 (z3)
  rw [e24] at G3
  obtain ⟨x3, hl3, nx3, wx3⟩ := G3
  cases hl3
  have lt4 := alg h4
  have k4 := h4
  have z4 : ∀ n, n ∈ d4.weights Tryz.prog 24 → n ≤ reachBytes := fun n hn => by simpa using List.all_eq_true.1 hsz0 _ (DataW.weights_mem_each (j := 4) (t := 24) (d := d4) (by rw [show Tryz.f5.params = _ from params]; rfl) rfl n hn)
  obtain ⟨l4, G4, s4⟩ := auu 8 g24 u24 (hval 4 24 v4 rfl rfl) h4 (z4)
  rw [e24] at G4
  obtain ⟨x4, hl4, nx4, wx4⟩ := G4
  cases hl4
  clear hA0 hval0 hsz0
  have hs : ∀ K, ab4.spec [.agg [.v (.int .i64 x0_N), .v (.int .i64 x0_H), .v (.int .i64 x0_D), .v (.int .i64 x0_A), .v (.int .i64 x0_K), .v (.bool x0_Shake)], .sl (.ints .u8 x1), .sl (.ints .u8 x2), .sl (.ints .u8 x3), .sl (.ints .u8 x4)] K = P.ab4 x0_N x0_H x0_D x0_A x0_K x0_Shake x1 x2 x3 x4 (fun r0 => K (.v (.bool r0))) := by intro K; kernel_rfl
  obtain ⟨a, hK, hrun⟩ := ab4.ok.sound [.agg [.v (.int .i64 x0_N), .v (.int .i64 x0_H), .v (.int .i64 x0_D), .v (.int .i64 x0_A), .v (.int .i64 x0_K), .v (.bool x0_Shake)], .sl (.ints .u8 x1), .sl (.ints .u8 x2), .sl (.ints .u8 x3), .sl (.ints .u8 x4)] (fun v => match v with | .v (.bool true) => some (.v (.bool true)) | _ => none) (.v (.bool true)) (by
    rw [hs, Q.SlhSigns x0_N x0_H x0_D x0_A x0_K x0_Shake x1 x2 x3 x4 wx0_N wx0_H wx0_D wx0_A wx0_K nx1 wx1 nx2 wx2 nx3 wx3 nx4 wx4])
  have ha : a = .v (.bool true) := by
    split at hK
    · rfl
    · cases hK
  subst ha
  refine (hrun (bms W) W [_, _, _, _, _] (fun _ h => h) hgl ?_).mono fun e W' he => ?_
  · simp only [mq]
    exact ⟨_, _, rfl, s0, ⟨_, _, rfl, s1, ⟨_, _, rfl, s2, ⟨_, _, rfl, s3, ⟨_, _, rfl, s4, rfl⟩⟩⟩⟩⟩
  obtain ⟨v, Sn, bs, rfl, bel, _, hv, _⟩ := he
  simp only [aau, ig] at hv
  obtain ⟨rfl, _⟩ := hv
  exact ⟨_, rfl, _, _, _, [], _, [], hW', trodAll_mk1 (shut_bool che _), trodAll_cons_mk (Below.trod laidOut (by kernel_rfl) (of_decide_eq_true (by kernel_rfl)) k0 bel lt0) (trodAll_cons_mk (Below.trod laidOut (by kernel_rfl) (of_decide_eq_true (by kernel_rfl)) k1 bel lt1) (trodAll_cons_mk (Below.trod laidOut (by kernel_rfl) (of_decide_eq_true (by kernel_rfl)) k2 bel lt2) (trodAll_cons_mk (Below.trod laidOut (by kernel_rfl) (of_decide_eq_true (by kernel_rfl)) k3 bel lt3) (trodAll_cons_mk (Below.trod laidOut (by kernel_rfl) (of_decide_eq_true (by kernel_rfl)) k4 bel lt4) (trodAll_mk0))))), rfl, bel.frame _, fun h => by cases h⟩
theorem over : Rows.slhSignsRow.holds Tryz.pinned (OpenSpec.ofChange Rows.slhSignsSpec) :=
  OpenClaim.holds_of_wide 5 Tryz.f5 rfl rfl rfl rfl rfl rfl rfl ⟨rfl, rfl, rfl, rfl, rfl⟩ rfl rfl rfl rfl rfl (by kernel_rfl) func (by kernel_rfl)
    (of_decide_eq_true (by kernel_rfl)) (by unfold Func.isWrapper; first | (rw [if_pos (by decide +kernel)]; kernel_rfl) | (rw [if_neg (by decide +kernel)]; exact ⟨rfl, rfl⟩))
    (fun os started H enc _ => lifted os started H enc)
theorem proved : Rows.SlhSignsCardSaid :=
  Claim7.holds_tied_plain_at .later [] [.data, .data, .data, .data, .data, .data, .data] true (true, "1e822253aac46bbbcefbbdaf89fcb24d5f5732a325da1ce9594c20ffadba8ada") false
    over (fun _ h => by cases h) (by kernel_rfl) (fun _ h => by cases h) slhSigns_row_tie rfl ⟨rfl, rfl⟩ (by kernel_rfl) rfl
    (fun f fn hf hfn => by
      obtain rfl : f = 5 := Option.some.inj ((show Tryz.prog.funcNamed "apostille/apostillelaw20.SlhSigns" = some 5 by kernel_rfl).symm.trans hf) |>.symm
      obtain rfl : fn = Tryz.f5 := (Option.some.inj (func.symm.trans hfn)).symm
      exact ⟨by kernel_rfl, fun j t ht => by
        rw [params] at ht
        have hm : t ∈ [23, 24, 24, 24, 24] := by simpa using Array.mem_of_getElem? ht
        have hall : ([23, 24, 24, 24, 24].all fun u => !Tryz.prog.wantsStandIn u) = true := by kernel_rfl
        exact (show Tryz.prog.wantsStandIn t = false by simpa using List.all_eq_true.1 hall t hm)⟩)
    (by kernel_rfl)
end Go.Proofs.YtciddcopcdmnbaaGreatDoor.slhSigns
