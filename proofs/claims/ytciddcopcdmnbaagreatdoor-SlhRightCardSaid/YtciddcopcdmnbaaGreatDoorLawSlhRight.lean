/-
  SlhRight: for every input the law returns true, and each argument reads behind the call as it read before. No condition.
-/
import Derived.Test.YtciddcopcdmnbaaGreatDoorSlhRightT
import Derived.Test.YtciddcopcdmnbaaGreatDoorSlhRightW
import Derived.Test.YtciddcopcdmnbaaGreatDoorSlhRightH
import Derived.Test.YtciddcopcdmnbaaGreatDoorSlhRightJ
import Derived.Test.YtciddcopcdmnbaaGreatDoorTie
import Derived.Test.YtciddcopcdmnbaaGreatDoorCards
import Derived.SevenTiedAt
import Derived.LaidMore
import Derived.Stop.Joined
import Derived.LaidLaws
import Derived.Test.YtciddcopcdmnbaaGreatDoorRows
import Derived.WalkKit
import Derived.ProofKit
import Derived.OpenShut
import Derived.ShutString
import Derived.ChangeOld
import Derived.SizedLaws
namespace Go.Proofs.YtciddcopcdmnbaaGreatDoor.slhRight
open Go.ChangeShapes Go.WideShapes Go.ChangeAt Go.RowKit Go.Abs
theorem own : ownKnob Tryz.prog.godebug = none := by kernel_rfl
theorem laidOut : laidOutB Tryz.prog = true := by kernel_rfl
theorem func : Tryz.prog.funcs[6]? = some Tryz.f6 := by kernel_rfl
theorem params : Tryz.f6.params = #[5, 4, 4, 47, 47, 47, 47, 24, 24] := by kernel_rfl
theorem b1e : Tryz.prog.underlying 4 = some .bool := by kernel_rfl
theorem u5 : Tryz.prog.underlying 5 = some (.int .u8) := by kernel_rfl
theorem u4 : Tryz.prog.underlying 4 = some .bool := by kernel_rfl
theorem g47 : aze Tryz.prog 9 47 = true := by kernel_rfl
theorem a47 : aex Tryz.prog 47 = some true := by kernel_rfl
theorem e47 (l : List AVal) : Go.Abs.Good Tryz.prog 9 47 l = (∃ xs, l = [.arr .u8 32 xs] ∧ xs.length = 32 ∧ ∀ x, x ∈ xs → wfI .u8 x) := by kernel_rfl
theorem u24 : Tryz.prog.underlying 24 = some (.slice 5) := by kernel_rfl
theorem g24 : aze Tryz.prog 9 24 = true := by kernel_rfl
theorem e24 (l : List AVal) : Go.Abs.Good Tryz.prog 9 24 l = (∃ xs, l = [.sl (.ints .u8 xs)] ∧ xs.length ≤ 140737488355328 ∧ ∀ x, x ∈ xs → wfI .u8 x) := by kernel_rfl
def laid : List (String × DataW Unit) := Rows.slhRightRow.laid
theorem bm0 (os : Os) (args : Array Value) : laidMetH Tryz.prog laid ((World.doorLaid Tryz.prog 60 os).forCall (fun _ _ => 0) ⟨#[], args, []⟩).memory :=
  laidMetH_of_parts3 (fuel := 8) (laidMet_of_run' 8 (by kernel_rfl) (by kernel_rfl)) (by kernel_rfl) (by kernel_rfl)
theorem bna {W : World} (h : laidMetH Tryz.prog laid W) : amo [(0, [AVal.arr .i64 30 [16, 63, 7, 12, 14, 16, 66, 22, 6, 33, 24, 63, 7, 14, 17, 24, 66, 22, 8, 33, 32, 64, 8, 14, 22, 32, 68, 17, 9, 35]]), (1, [AVal.arr .i64 16 [0, 0, 32, 64, 48, 128, 64, 128, 32, 136, 64, 72, 32, 168, 64, 136]]), (2, [AVal.arr .u64 24 P.bl7]), (3, [AVal.arr .i64 24 P.bsb]), (4, [AVal.arr .i64 24 P.bxc]), (5, [AVal.arr .u32 64 P.roots256]), (6, [AVal.arr .u64 80 P.roots512])] (aw3 W) W := by
  rw [MakeChecks.laidMetH_plain _ _ _ (by kernel_rfl)] at h
  obtain ⟨ps, hV, _⟩ := h
  obtain ⟨g0, q0, hV0⟩ := amr (l := P.bl7) (n := 24) (k := .u64) (t := 186) (e := 53) (g := 2) hV (by kernel_rfl) (by kernel_rfl) (by kernel_rfl) (by kernel_rfl) (by kernel_rfl) (by kernel_rfl) (by kernel_rfl) (by kernel_rfl)
  obtain ⟨g1, q1, hV1⟩ := amr (l := P.bsb) (n := 24) (k := .i64) (t := 218) (e := 3) (g := 3) hV0 (by kernel_rfl) (by kernel_rfl) (by kernel_rfl) (by kernel_rfl) (by kernel_rfl) (by kernel_rfl) (by kernel_rfl) (by kernel_rfl)
  obtain ⟨g2, q2, hV2⟩ := amr (l := P.bxc) (n := 24) (k := .i64) (t := 218) (e := 3) (g := 4) hV1 (by kernel_rfl) (by kernel_rfl) (by kernel_rfl) (by kernel_rfl) (by kernel_rfl) (by kernel_rfl) (by kernel_rfl) (by kernel_rfl)
  obtain ⟨g3, q3, hV3⟩ := amr (l := P.roots256) (n := 64) (k := .u32) (t := 224) (e := 102) (g := 5) hV2 (by kernel_rfl) (by kernel_rfl) (by kernel_rfl) (by kernel_rfl) (by kernel_rfl) (by kernel_rfl) (by kernel_rfl) (by kernel_rfl)
  obtain ⟨g4, q4, hV4⟩ := amr (l := P.roots512) (n := 80) (k := .u64) (t := 190) (e := 53) (g := 6) hV3 (by kernel_rfl) (by kernel_rfl) (by kernel_rfl) (by kernel_rfl) (by kernel_rfl) (by kernel_rfl) (by kernel_rfl) (by kernel_rfl)
  obtain ⟨g5, q5, hV5⟩ := ax2 (ls := [[0, 0], [32, 64], [48, 128], [64, 128], [32, 136], [64, 72], [32, 168], [64, 136]]) (n := 8) (m := 2) (k := .i64) (t := 180) (e := 179) (f := 3) (g := 1) hV4 (by kernel_rfl) (by kernel_rfl) (by kernel_rfl) (by kernel_rfl) (by kernel_rfl) (by kernel_rfl) (by kernel_rfl) (by kernel_rfl) (by kernel_rfl) (by kernel_rfl) (by kernel_rfl)
  obtain ⟨g6, q6, hV6⟩ := ax2 (ls := [[16, 63, 7, 12, 14], [16, 66, 22, 6, 33], [24, 63, 7, 14, 17], [24, 66, 22, 8, 33], [32, 64, 8, 14, 22], [32, 68, 17, 9, 35]]) (n := 6) (m := 5) (k := .i64) (t := 71) (e := 70) (f := 3) (g := 0) hV5 (by kernel_rfl) (by kernel_rfl) (by kernel_rfl) (by kernel_rfl) (by kernel_rfl) (by kernel_rfl) (by kernel_rfl) (by kernel_rfl) (by kernel_rfl) (by kernel_rfl) (by kernel_rfl)
  exact ac8 g6 (ac8 g5 (ac8 g0 (ac8 g1 (ac8 g2 (ac8 g3 (ac8 g4 (bdq _ _)))))))
set_option maxRecDepth 100000 in
theorem lifted (os : Os) (started : os.Started) (H : Type) (enc : TypeId × Value → H) :
    ReturnsInHanded {} Tryz.checked os 6 .any (fun w args => (Rows.slhRightSpec.pre enc Tryz.prog Tryz.f6 [] false w args ∧ laidMetH Tryz.prog laid w) ∧ sizedMet enc Tryz.prog Tryz.f6 (OpenSpec.ofChange Rows.slhRightSpec) false w args)
      (Rows.slhRightSpec.post enc Tryz.prog Tryz.f6 false true false false) := by
  refine returnsInHanded_of_change_and (C := Tryz.checked) (X := fun w _ => laidMetH Tryz.prog laid w) (fun _ _ _ hh h => h.of_heap hh) own started (by kernel_rfl) func
    (ChangeSpec.witness_shaped (enc := enc) (C := Tryz.checked) (os := os) (X := fun w _ => laidMetH Tryz.prog laid w) false (World.doorLaid Tryz.prog 60 os) #[.int .u8 0, .bool false, .bool false, .agg #[.int .u8 0, .int .u8 0, .int .u8 0, .int .u8 0, .int .u8 0, .int .u8 0, .int .u8 0, .int .u8 0, .int .u8 0, .int .u8 0, .int .u8 0, .int .u8 0, .int .u8 0, .int .u8 0, .int .u8 0, .int .u8 0, .int .u8 0, .int .u8 0, .int .u8 0, .int .u8 0, .int .u8 0, .int .u8 0, .int .u8 0, .int .u8 0, .int .u8 0, .int .u8 0, .int .u8 0, .int .u8 0, .int .u8 0, .int .u8 0, .int .u8 0, .int .u8 0], .agg #[.int .u8 0, .int .u8 0, .int .u8 0, .int .u8 0, .int .u8 0, .int .u8 0, .int .u8 0, .int .u8 0, .int .u8 0, .int .u8 0, .int .u8 0, .int .u8 0, .int .u8 0, .int .u8 0, .int .u8 0, .int .u8 0, .int .u8 0, .int .u8 0, .int .u8 0, .int .u8 0, .int .u8 0, .int .u8 0, .int .u8 0, .int .u8 0, .int .u8 0, .int .u8 0, .int .u8 0, .int .u8 0, .int .u8 0, .int .u8 0, .int .u8 0, .int .u8 0], .agg #[.int .u8 0, .int .u8 0, .int .u8 0, .int .u8 0, .int .u8 0, .int .u8 0, .int .u8 0, .int .u8 0, .int .u8 0, .int .u8 0, .int .u8 0, .int .u8 0, .int .u8 0, .int .u8 0, .int .u8 0, .int .u8 0, .int .u8 0, .int .u8 0, .int .u8 0, .int .u8 0, .int .u8 0, .int .u8 0, .int .u8 0, .int .u8 0, .int .u8 0, .int .u8 0, .int .u8 0, .int .u8 0, .int .u8 0, .int .u8 0, .int .u8 0, .int .u8 0], .agg #[.int .u8 0, .int .u8 0, .int .u8 0, .int .u8 0, .int .u8 0, .int .u8 0, .int .u8 0, .int .u8 0, .int .u8 0, .int .u8 0, .int .u8 0, .int .u8 0, .int .u8 0, .int .u8 0, .int .u8 0, .int .u8 0, .int .u8 0, .int .u8 0, .int .u8 0, .int .u8 0, .int .u8 0, .int .u8 0, .int .u8 0, .int .u8 0, .int .u8 0, .int .u8 0, .int .u8 0, .int .u8 0, .int .u8 0, .int .u8 0, .int .u8 0, .int .u8 0], .slice none 0 0, .slice none 0 0] 8 rfl (World.shaped_of_RefB (by kernel_rfl) (by kernel_rfl)) (by kernel_rfl) (by kernel_rfl) (by kernel_rfl) (bm0 os _)) ?_
  intro W base args ds gs before hval0 hW hcnd hsz0 hL _
  have hgl := bna hL
  have hval : ∀ (j : Nat) t v, Tryz.f6.params[j]? = some t → args[j]? = some v → Value.okWide Tryz.prog W .any base t v := hval0
  have hW' := hW
  obtain ⟨p, q, hA0, hV, rfl, hfz, hnd⟩ := hW
  have hA : DataW.TrodAll enc Tryz.prog W 0 (fun _ => true) true Tryz.f6.params.toList args.toList ds p := hA0
  rw [params] at hA hval
  obtain ⟨v0, vs0, d0, ds0, p0, q0, hargs, rfl, rfl, h0, r0⟩ := trodAll_cons hA
  obtain ⟨v1, vs1, d1, ds1, p1, q1, rfl, rfl, rfl, h1, r1⟩ := trodAll_cons r0
  obtain ⟨v2, vs2, d2, ds2, p2, q2, rfl, rfl, rfl, h2, r2⟩ := trodAll_cons r1
  obtain ⟨v3, vs3, d3, ds3, p3, q3, rfl, rfl, rfl, h3, r3⟩ := trodAll_cons r2
  obtain ⟨v4, vs4, d4, ds4, p4, q4, rfl, rfl, rfl, h4, r4⟩ := trodAll_cons r3
  obtain ⟨v5, vs5, d5, ds5, p5, q5, rfl, rfl, rfl, h5, r5⟩ := trodAll_cons r4
  obtain ⟨v6, vs6, d6, ds6, p6, q6, rfl, rfl, rfl, h6, r6⟩ := trodAll_cons r5
  obtain ⟨v7, vs7, d7, ds7, p7, q7, rfl, rfl, rfl, h7, r7⟩ := trodAll_cons r6
  obtain ⟨v8, vs8, d8, ds8, p8, q8, rfl, rfl, rfl, h8, r8⟩ := trodAll_cons r7
  obtain ⟨rfl, rfl, rfl⟩ := trodAll_nil r8
  obtain rfl : args = #[v0, v1, v2, v3, v4, v5, v6, v7, v8] := by cases args; simp_all
  obtain ⟨rfl, rfl⟩ := trodVars_none hV
  have lt0 := abn h0
  have k0 := h0
  obtain ⟨x0, rfl, rfl, rfl, wx0⟩ := open_int u5 (hval 0 5 v0 rfl rfl) h0
  have s0 : eu (uz (aw3 W)) W (.v (.int .u8 x0)) (.int .u8 x0) := by simp only [eu]
  have lt1 := abn h1
  have k1 := h1
  obtain ⟨x1, rfl, rfl, rfl⟩ := open_bool u4 (hval 1 4 v1 rfl rfl) h1
  have s1 : eu (uz (aw3 W)) W (.v (.bool x1)) (.bool x1) := by simp only [eu]
  have lt2 := abn h2
  have k2 := h2
  obtain ⟨x2, rfl, rfl, rfl⟩ := open_bool u4 (hval 2 4 v2 rfl rfl) h2
  have s2 : eu (uz (aw3 W)) W (.v (.bool x2)) (.bool x2) := by simp only [eu]
  have lt3 := abn h3
  have k3 := h3
  have z3 : ∀ n, n ∈ d3.weights Tryz.prog 47 → n ≤ reachBytes := fun n hn => by simpa using List.all_eq_true.1 hsz0 _ (DataW.weights_mem_each (j := 3) (t := 47) (d := d3) (by rw [show Tryz.f6.params = _ from params]; rfl) rfl n hn)
  obtain ⟨l3, G3, s3⟩ := aue 9 g47 a47 (hval 3 47 v3 rfl rfl) h3 (z3)
  rw [e47] at G3
  obtain ⟨x3, rfl, nx3, wx3⟩ := G3
  have lt4 := abn h4
  have k4 := h4
  have z4 : ∀ n, n ∈ d4.weights Tryz.prog 47 → n ≤ reachBytes := fun n hn => by simpa using List.all_eq_true.1 hsz0 _ (DataW.weights_mem_each (j := 4) (t := 47) (d := d4) (by rw [show Tryz.f6.params = _ from params]; rfl) rfl n hn)
  obtain ⟨l4, G4, s4⟩ := aue 9 g47 a47 (hval 4 47 v4 rfl rfl) h4 (z4)
  rw [e47] at G4
  obtain ⟨x4, rfl, nx4, wx4⟩ := G4
  have lt5 := abn h5
  have k5 := h5
  have z5 : ∀ n, n ∈ d5.weights Tryz.prog 47 → n ≤ reachBytes := fun n hn => by simpa using List.all_eq_true.1 hsz0 _ (DataW.weights_mem_each (j := 5) (t := 47) (d := d5) (by rw [show Tryz.f6.params = _ from params]; rfl) rfl n hn)
  obtain ⟨l5, G5, s5⟩ := aue 9 g47 a47 (hval 5 47 v5 rfl rfl) h5 (z5)
  rw [e47] at G5
  obtain ⟨x5, rfl, nx5, wx5⟩ := G5
  have lt6 := abn h6
  have k6 := h6
  have z6 : ∀ n, n ∈ d6.weights Tryz.prog 47 → n ≤ reachBytes := fun n hn => by simpa using List.all_eq_true.1 hsz0 _ (DataW.weights_mem_each (j := 6) (t := 47) (d := d6) (by rw [show Tryz.f6.params = _ from params]; rfl) rfl n hn)
  obtain ⟨l6, G6, s6⟩ := aue 9 g47 a47 (hval 6 47 v6 rfl rfl) h6 (z6)
  rw [e47] at G6
  obtain ⟨x6, rfl, nx6, wx6⟩ := G6
  have lt7 := abn h7
  have k7 := h7
  have z7 : ∀ n, n ∈ d7.weights Tryz.prog 24 → n ≤ reachBytes := fun n hn => by simpa using List.all_eq_true.1 hsz0 _ (DataW.weights_mem_each (j := 7) (t := 24) (d := d7) (by rw [show Tryz.f6.params = _ from params]; rfl) rfl n hn)
  obtain ⟨l7, G7, s7⟩ := axp 8 g24 u24 (hval 7 24 v7 rfl rfl) h7 (z7)
  rw [e24] at G7
  obtain ⟨x7, hl7, nx7, wx7⟩ := G7
  cases hl7
  have lt8 := abn h8
  have k8 := h8
  have z8 : ∀ n, n ∈ d8.weights Tryz.prog 24 → n ≤ reachBytes := fun n hn => by simpa using List.all_eq_true.1 hsz0 _ (DataW.weights_mem_each (j := 8) (t := 24) (d := d8) (by rw [show Tryz.f6.params = _ from params]; rfl) rfl n hn)
  obtain ⟨l8, G8, s8⟩ := axp 8 g24 u24 (hval 8 24 v8 rfl rfl) h8 (z8)
  rw [e24] at G8
  obtain ⟨x8, hl8, nx8, wx8⟩ := G8
  cases hl8
  clear hA0 hval0 hsz0
  have hs : ∀ K, aa0.spec [.v (.int .u8 x0), .v (.bool x1), .v (.bool x2), .arr .u8 32 x3, .arr .u8 32 x4, .arr .u8 32 x5, .arr .u8 32 x6, .sl (.ints .u8 x7), .sl (.ints .u8 x8)] K = P.aa0 x0 x1 x2 x3 x4 x5 x6 x7 x8 (fun r0 => K (.v (.bool r0))) := by intro K; kernel_rfl
  obtain ⟨a, hK, hrun⟩ := aa0.ok.sound [.v (.int .u8 x0), .v (.bool x1), .v (.bool x2), .arr .u8 32 x3, .arr .u8 32 x4, .arr .u8 32 x5, .arr .u8 32 x6, .sl (.ints .u8 x7), .sl (.ints .u8 x8)] (fun v => match v with | .v (.bool true) => some (.v (.bool true)) | _ => none) (.v (.bool true)) (by
    rw [hs, Q.SlhRight x0 x1 x2 x3 x4 x5 x6 x7 x8 wx0 nx3 wx3 nx4 wx4 nx5 wx5 nx6 wx6 nx7 wx7 nx8 wx8])
  have ha : a = .v (.bool true) := by
    split at hK
    · rfl
    · cases hK
  subst ha
  refine (hrun (aw3 W) W [_, _, _, _, _, _, _, _, _] (fun _ h => h) hgl ?_).mono fun e W' he => ?_
  · simp only [lg]
    exact ⟨_, _, rfl, s0, ⟨_, _, rfl, s1, ⟨_, _, rfl, s2, ⟨_, _, rfl, s3, ⟨_, _, rfl, s4, ⟨_, _, rfl, s5, ⟨_, _, rfl, s6, ⟨_, _, rfl, s7, ⟨_, _, rfl, s8, rfl⟩⟩⟩⟩⟩⟩⟩⟩⟩
  obtain ⟨v, Sn, bs, rfl, bel, _, hv, _⟩ := he
  simp only [aae, eu] at hv
  obtain ⟨rfl, _⟩ := hv
  exact ⟨_, rfl, _, _, _, [], _, [], hW', trodAll_mk1 (shut_bool b1e _), trodAll_cons_mk (Below.trod laidOut (by kernel_rfl) (of_decide_eq_true (by kernel_rfl)) k0 bel lt0) (trodAll_cons_mk (Below.trod laidOut (by kernel_rfl) (of_decide_eq_true (by kernel_rfl)) k1 bel lt1) (trodAll_cons_mk (Below.trod laidOut (by kernel_rfl) (of_decide_eq_true (by kernel_rfl)) k2 bel lt2) (trodAll_cons_mk (Below.trod laidOut (by kernel_rfl) (of_decide_eq_true (by kernel_rfl)) k3 bel lt3) (trodAll_cons_mk (Below.trod laidOut (by kernel_rfl) (of_decide_eq_true (by kernel_rfl)) k4 bel lt4) (trodAll_cons_mk (Below.trod laidOut (by kernel_rfl) (of_decide_eq_true (by kernel_rfl)) k5 bel lt5) (trodAll_cons_mk (Below.trod laidOut (by kernel_rfl) (of_decide_eq_true (by kernel_rfl)) k6 bel lt6) (trodAll_cons_mk (Below.trod laidOut (by kernel_rfl) (of_decide_eq_true (by kernel_rfl)) k7 bel lt7) (trodAll_cons_mk (Below.trod laidOut (by kernel_rfl) (of_decide_eq_true (by kernel_rfl)) k8 bel lt8) (trodAll_mk0))))))))), rfl, bel.frame _, fun h => by cases h⟩
theorem over : Rows.slhRightRow.holds Tryz.pinned (OpenSpec.ofChange Rows.slhRightSpec) :=
  OpenClaim.holds_of_wide 6 Tryz.f6 rfl rfl rfl rfl rfl rfl rfl ⟨rfl, rfl, rfl, rfl, rfl⟩ rfl rfl rfl rfl rfl (by kernel_rfl) func (by kernel_rfl)
    (of_decide_eq_true (by kernel_rfl)) (by unfold Func.isWrapper; first | (rw [if_pos (by decide +kernel)]; kernel_rfl) | (rw [if_neg (by decide +kernel)]; exact ⟨rfl, rfl⟩))
    (fun os started H enc _ => lifted os started H enc)
theorem proved : Rows.SlhRightCardSaid :=
  Claim7.holds_tied_plain_at .later [] [.data, .data, .data, .data, .data, .data, .data] true (true, "1e822253aac46bbbcefbbdaf89fcb24d5f5732a325da1ce9594c20ffadba8ada") false
    over (fun _ h => by cases h) (by kernel_rfl) (fun _ h => by cases h) slhRight_row_tie rfl ⟨rfl, rfl⟩ (by kernel_rfl) rfl
    (fun f fn hf hfn => by
      obtain rfl : f = 6 := Option.some.inj ((show Tryz.prog.funcNamed "apostille/apostillelaw20.SlhRight" = some 6 by kernel_rfl).symm.trans hf) |>.symm
      obtain rfl : fn = Tryz.f6 := (Option.some.inj (func.symm.trans hfn)).symm
      exact ⟨by kernel_rfl, fun j t ht => by
        rw [params] at ht
        have hm : t ∈ [5, 4, 4, 47, 47, 47, 47, 24, 24] := by simpa using Array.mem_of_getElem? ht
        have hall : ([5, 4, 4, 47, 47, 47, 47, 24, 24].all fun u => !Tryz.prog.wantsStandIn u) = true := by kernel_rfl
        exact (show Tryz.prog.wantsStandIn t = false by simpa using List.all_eq_true.1 hall t hm)⟩)
    (by kernel_rfl)
end Go.Proofs.YtciddcopcdmnbaaGreatDoor.slhRight
