/-
  ForsSigns: for every input the law returns true, and each argument reads behind the call as it read before. No condition.
-/
import Derived.Test.YtjhnljhjpnjieaaGreatDoorForsSignsT
import Derived.Test.YtjhnljhjpnjieaaGreatDoorForsSignsW
import Derived.Test.YtjhnljhjpnjieaaGreatDoorForsSignsH
import Derived.Test.YtjhnljhjpnjieaaGreatDoorForsSignsJ
import Derived.Test.YtjhnljhjpnjieaaGreatDoorTie
import Derived.Test.YtjhnljhjpnjieaaGreatDoorCards
import Derived.SevenTiedAt
import Derived.LaidMore
import Derived.Stop.Joined
import Derived.LaidLaws
import Derived.Test.YtjhnljhjpnjieaaGreatDoorRows
import Derived.WalkKit
import Derived.ProofKit
import Derived.OpenShut
import Derived.ShutString
import Derived.ChangeOld
import Derived.SizedLaws
namespace Go.Proofs.YtjhnljhjpnjieaaGreatDoor.forsSigns
open Go.ChangeShapes Go.WideShapes Go.ChangeAt Go.RowKit Go.Abs
set_option linter.unusedVariables false
theorem own : ownKnob Tryz.prog.godebug = none := by kernel_rfl
theorem laidOut : laidOutB Tryz.prog = true := by kernel_rfl
theorem func : Tryz.prog.funcs[4]? = some Tryz.f4 := by kernel_rfl
theorem params : Tryz.f4.params = #[23, 25, 26, 26, 26, 26] := by kernel_rfl
theorem b36 : Tryz.prog.underlying 4 = some .bool := by kernel_rfl
theorem g23 : aw4 Tryz.prog 9 23 = true := by kernel_rfl
theorem a23 : ads Tryz.prog 23 = some true := by kernel_rfl
theorem e23 (l : List AVal) : Go.Abs.Good Tryz.prog 9 23 l = (∃ p1 q1, l = p1 ++ q1 ∧ (∃ n, p1 = [.v (.int .i64 n)] ∧ wfI .i64 n) ∧ (∃ p2 q2, q1 = p2 ++ q2 ∧ (∃ n, p2 = [.v (.int .i64 n)] ∧ wfI .i64 n) ∧ (∃ p3 q3, q2 = p3 ++ q3 ∧ (∃ n, p3 = [.v (.int .i64 n)] ∧ wfI .i64 n) ∧ (∃ p4 q4, q3 = p4 ++ q4 ∧ (∃ n, p4 = [.v (.int .i64 n)] ∧ wfI .i64 n) ∧ (∃ p5 q5, q4 = p5 ++ q5 ∧ (∃ n, p5 = [.v (.int .i64 n)] ∧ wfI .i64 n) ∧ (∃ p6 q6, q5 = p6 ++ q6 ∧ (∃ b, p6 = [.v (.bool b)]) ∧ (q6 = []))))))) := by kernel_rfl
theorem g25 : aw4 Tryz.prog 9 25 = true := by kernel_rfl
theorem a25 : ads Tryz.prog 25 = some true := by kernel_rfl
theorem e25 (l : List AVal) : Go.Abs.Good Tryz.prog 9 25 l = (∃ xs, l = [.arr .u8 32 xs] ∧ xs.length = 32 ∧ ∀ x, x ∈ xs → wfI .u8 x) := by kernel_rfl
theorem u26 : Tryz.prog.underlying 26 = some (.slice 5) := by kernel_rfl
theorem g26 : aw4 Tryz.prog 9 26 = true := by kernel_rfl
theorem e26 (l : List AVal) : Go.Abs.Good Tryz.prog 9 26 l = (∃ xs, l = [.sl (.ints .u8 xs)] ∧ xs.length ≤ 140737488355328 ∧ ∀ x, x ∈ xs → wfI .u8 x) := by kernel_rfl
def laid : List (String × DataW Unit) := Rows.forsSignsRow.laid
theorem bm9 (os : Os) (args : Array Value) : laidMetH Tryz.prog laid ((World.doorLaid Tryz.prog 60 os).forCall (fun _ _ => 0) ⟨#[], args, []⟩).memory :=
  laidMetH_of_parts3 (fuel := 8) (laidMet_of_run' 8 (by kernel_rfl) (by kernel_rfl)) (by kernel_rfl) (by kernel_rfl)
theorem blp {W : World} (h : laidMetH Tryz.prog laid W) : al1 [(0, [AVal.arr .u64 24 P.bhz]), (1, [AVal.arr .i64 24 P.brf]), (2, [AVal.arr .i64 24 P.byh]), (3, [AVal.arr .u32 64 P.roots256]), (4, [AVal.arr .u64 80 P.roots512])] (bdl W) W := by
  rw [MakeChecks.laidMetH_plain _ _ _ (by kernel_rfl)] at h
  obtain ⟨ps, hV, _⟩ := h
  obtain ⟨g0, q0, hV0⟩ := al6 (l := P.bhz) (n := 24) (k := .u64) (t := 138) (e := 27) (g := 0) hV (by kernel_rfl) (by kernel_rfl) (by kernel_rfl) (by kernel_rfl) (by kernel_rfl) (by kernel_rfl) (by kernel_rfl) (by kernel_rfl)
  obtain ⟨g1, q1, hV1⟩ := al6 (l := P.brf) (n := 24) (k := .i64) (t := 177) (e := 3) (g := 1) hV0 (by kernel_rfl) (by kernel_rfl) (by kernel_rfl) (by kernel_rfl) (by kernel_rfl) (by kernel_rfl) (by kernel_rfl) (by kernel_rfl)
  obtain ⟨g2, q2, hV2⟩ := al6 (l := P.byh) (n := 24) (k := .i64) (t := 177) (e := 3) (g := 2) hV1 (by kernel_rfl) (by kernel_rfl) (by kernel_rfl) (by kernel_rfl) (by kernel_rfl) (by kernel_rfl) (by kernel_rfl) (by kernel_rfl)
  obtain ⟨g3, q3, hV3⟩ := al6 (l := P.roots256) (n := 64) (k := .u32) (t := 180) (e := 64) (g := 3) hV2 (by kernel_rfl) (by kernel_rfl) (by kernel_rfl) (by kernel_rfl) (by kernel_rfl) (by kernel_rfl) (by kernel_rfl) (by kernel_rfl)
  obtain ⟨g4, q4, hV4⟩ := al6 (l := P.roots512) (n := 80) (k := .u64) (t := 142) (e := 27) (g := 4) hV3 (by kernel_rfl) (by kernel_rfl) (by kernel_rfl) (by kernel_rfl) (by kernel_rfl) (by kernel_rfl) (by kernel_rfl) (by kernel_rfl)
  exact afu g0 (afu g1 (afu g2 (afu g3 (afu g4 (bew _ _)))))
set_option maxRecDepth 100000 in
theorem lifted (os : Os) (started : os.Started) (H : Type) (enc : TypeId × Value → H) :
    ReturnsInHanded {} Tryz.checked os 4 .any (fun w args => (Rows.forsSignsSpec.pre enc Tryz.prog Tryz.f4 [] false w args ∧ laidMetH Tryz.prog laid w) ∧ sizedMet enc Tryz.prog Tryz.f4 (OpenSpec.ofChange Rows.forsSignsSpec) false w args)
      (Rows.forsSignsSpec.post enc Tryz.prog Tryz.f4 false true false false) := by
  refine returnsInHanded_of_change_and (C := Tryz.checked) (X := fun w _ => laidMetH Tryz.prog laid w) (fun _ _ _ hh h => h.of_heap hh) own started (by kernel_rfl) func
    (ChangeSpec.witness_shaped (enc := enc) (C := Tryz.checked) (os := os) (X := fun w _ => laidMetH Tryz.prog laid w) false (World.doorLaid Tryz.prog 60 os) #[.agg #[.int .i64 0, .int .i64 0, .int .i64 0, .int .i64 0, .int .i64 0, .bool false], .agg #[.int .u8 0, .int .u8 0, .int .u8 0, .int .u8 0, .int .u8 0, .int .u8 0, .int .u8 0, .int .u8 0, .int .u8 0, .int .u8 0, .int .u8 0, .int .u8 0, .int .u8 0, .int .u8 0, .int .u8 0, .int .u8 0, .int .u8 0, .int .u8 0, .int .u8 0, .int .u8 0, .int .u8 0, .int .u8 0, .int .u8 0, .int .u8 0, .int .u8 0, .int .u8 0, .int .u8 0, .int .u8 0, .int .u8 0, .int .u8 0, .int .u8 0, .int .u8 0], .slice none 0 0, .slice none 0 0, .slice none 0 0, .slice none 0 0] 8 rfl (World.shaped_of_RefB (by kernel_rfl) (by kernel_rfl)) (by kernel_rfl) (by kernel_rfl) (by kernel_rfl) (bm9 os _)) ?_
  intro W base args ds gs before hval0 hW hcnd hsz0 hL _
  have hgl := blp hL
  have hval : ∀ (j : Nat) t v, Tryz.f4.params[j]? = some t → args[j]? = some v → Value.okWide Tryz.prog W .any base t v := hval0
  have hW' := hW
  obtain ⟨p, q, hA0, hV, rfl, hfz, hnd⟩ := hW
  have hA : DataW.TrodAll enc Tryz.prog W 0 (fun _ => true) true Tryz.f4.params.toList args.toList ds p := hA0
  rw [params] at hA hval
  obtain ⟨v0, vs0, d0, ds0, p0, q0, hargs, rfl, rfl, h0, r0⟩ := trodAll_cons hA
  obtain ⟨v1, vs1, d1, ds1, p1, q1, rfl, rfl, rfl, h1, r1⟩ := trodAll_cons r0
  obtain ⟨v2, vs2, d2, ds2, p2, q2, rfl, rfl, rfl, h2, r2⟩ := trodAll_cons r1
  obtain ⟨v3, vs3, d3, ds3, p3, q3, rfl, rfl, rfl, h3, r3⟩ := trodAll_cons r2
  obtain ⟨v4, vs4, d4, ds4, p4, q4, rfl, rfl, rfl, h4, r4⟩ := trodAll_cons r3
  obtain ⟨v5, vs5, d5, ds5, p5, q5, rfl, rfl, rfl, h5, r5⟩ := trodAll_cons r4
  obtain ⟨rfl, rfl, rfl⟩ := trodAll_nil r5
  obtain rfl : args = #[v0, v1, v2, v3, v4, v5] := by cases args; simp_all
  obtain ⟨rfl, rfl⟩ := trodVars_none hV
  have lt0 := afa h0
  have k0 := h0
  have z0 : ∀ n, n ∈ d0.weights Tryz.prog 23 → n ≤ reachBytes := fun n hn => by simpa using List.all_eq_true.1 hsz0 _ (DataW.weights_mem_each (j := 0) (t := 23) (d := d0) (by rw [show Tryz.f4.params = _ from params]; rfl) rfl n hn)
  obtain ⟨l0, G0, s0⟩ := bf9 9 g23 a23 (hval 0 23 v0 rfl rfl) h0 (z0)
  rw [e23] at G0
  obtain ⟨_, _, rfl, ⟨x0_N, rfl, wx0_N⟩, ⟨_, _, rfl, ⟨x0_H, rfl, wx0_H⟩, ⟨_, _, rfl, ⟨x0_D, rfl, wx0_D⟩, ⟨_, _, rfl, ⟨x0_A, rfl, wx0_A⟩, ⟨_, _, rfl, ⟨x0_K, rfl, wx0_K⟩, ⟨_, _, rfl, ⟨x0_Shake, rfl⟩, rfl⟩⟩⟩⟩⟩⟩ := G0
  have lt1 := afa h1
  have k1 := h1
  have z1 : ∀ n, n ∈ d1.weights Tryz.prog 25 → n ≤ reachBytes := fun n hn => by simpa using List.all_eq_true.1 hsz0 _ (DataW.weights_mem_each (j := 1) (t := 25) (d := d1) (by rw [show Tryz.f4.params = _ from params]; rfl) rfl n hn)
  obtain ⟨l1, G1, s1⟩ := bf9 9 g25 a25 (hval 1 25 v1 rfl rfl) h1 (z1)
  rw [e25] at G1
  obtain ⟨x1, rfl, nx1, wx1⟩ := G1
  have lt2 := afa h2
  have k2 := h2
  have z2 : ∀ n, n ∈ d2.weights Tryz.prog 26 → n ≤ reachBytes := fun n hn => by simpa using List.all_eq_true.1 hsz0 _ (DataW.weights_mem_each (j := 2) (t := 26) (d := d2) (by rw [show Tryz.f4.params = _ from params]; rfl) rfl n hn)
  obtain ⟨l2, G2, s2⟩ := am1 8 g26 u26 (hval 2 26 v2 rfl rfl) h2 (z2)
  rw [e26] at G2
  obtain ⟨x2, hl2, nx2, wx2⟩ := G2
  cases hl2
  have lt3 := afa h3
  have k3 := h3
  have z3 : ∀ n, n ∈ d3.weights Tryz.prog 26 → n ≤ reachBytes := fun n hn => by simpa using List.all_eq_true.1 hsz0 _ (DataW.weights_mem_each (j := 3) (t := 26) (d := d3) (by rw [show Tryz.f4.params = _ from params]; rfl) rfl n hn)
  obtain ⟨l3, G3, s3⟩ := am1 8 g26 u26 (hval 3 26 v3 rfl rfl) h3 (z3)
  rw [e26] at G3
  obtain ⟨x3, hl3, nx3, wx3⟩ := G3
  cases hl3
  have lt4 := afa h4
  have k4 := h4
  have z4 : ∀ n, n ∈ d4.weights Tryz.prog 26 → n ≤ reachBytes := fun n hn => by simpa using List.all_eq_true.1 hsz0 _ (DataW.weights_mem_each (j := 4) (t := 26) (d := d4) (by rw [show Tryz.f4.params = _ from params]; rfl) rfl n hn)
  obtain ⟨l4, G4, s4⟩ := am1 8 g26 u26 (hval 4 26 v4 rfl rfl) h4 (z4)
  rw [e26] at G4
  obtain ⟨x4, hl4, nx4, wx4⟩ := G4
  cases hl4
  have lt5 := afa h5
  have k5 := h5
  have z5 : ∀ n, n ∈ d5.weights Tryz.prog 26 → n ≤ reachBytes := fun n hn => by simpa using List.all_eq_true.1 hsz0 _ (DataW.weights_mem_each (j := 5) (t := 26) (d := d5) (by rw [show Tryz.f4.params = _ from params]; rfl) rfl n hn)
  obtain ⟨l5, G5, s5⟩ := am1 8 g26 u26 (hval 5 26 v5 rfl rfl) h5 (z5)
  rw [e26] at G5
  obtain ⟨x5, hl5, nx5, wx5⟩ := G5
  cases hl5
  clear hA0 hval0 hsz0
  have hs : ∀ K, xq.spec [.agg [.v (.int .i64 x0_N), .v (.int .i64 x0_H), .v (.int .i64 x0_D), .v (.int .i64 x0_A), .v (.int .i64 x0_K), .v (.bool x0_Shake)], .arr .u8 32 x1, .sl (.ints .u8 x2), .sl (.ints .u8 x3), .sl (.ints .u8 x4), .sl (.ints .u8 x5)] K = P.xq x0_N x0_H x0_D x0_A x0_K x0_Shake x1 x2 x3 x4 x5 (fun r0 => K (.v (.bool r0))) := by intro K; kernel_rfl
  obtain ⟨a, hK, hrun⟩ := xq.ok.sound [.agg [.v (.int .i64 x0_N), .v (.int .i64 x0_H), .v (.int .i64 x0_D), .v (.int .i64 x0_A), .v (.int .i64 x0_K), .v (.bool x0_Shake)], .arr .u8 32 x1, .sl (.ints .u8 x2), .sl (.ints .u8 x3), .sl (.ints .u8 x4), .sl (.ints .u8 x5)] (fun v => match v with | .v (.bool true) => some (.v (.bool true)) | _ => none) (.v (.bool true)) (by
    rw [hs, Q.ForsSigns x0_N x0_H x0_D x0_A x0_K x0_Shake x1 x2 x3 x4 x5 wx0_N wx0_H wx0_D wx0_A wx0_K nx1 wx1 nx2 wx2 nx3 wx3 nx4 wx4 nx5 wx5])
  have ha : a = .v (.bool true) := by
    split at hK
    · rfl
    · cases hK
  subst ha
  refine (hrun (bdl W) W [_, _, _, _, _, _] (fun _ h => h) hgl ?_).mono fun e W' he => ?_
  · simp only [jl]
    exact ⟨_, _, rfl, s0, ⟨_, _, rfl, s1, ⟨_, _, rfl, s2, ⟨_, _, rfl, s3, ⟨_, _, rfl, s4, ⟨_, _, rfl, s5, rfl⟩⟩⟩⟩⟩⟩
  obtain ⟨v, Sn, bs, rfl, bel, _, hv, _⟩ := he
  simp only [xk, eu] at hv
  obtain ⟨rfl, _⟩ := hv
  exact ⟨_, rfl, _, _, _, [], _, [], hW', trodAll_mk1 (shut_bool b36 _), trodAll_cons_mk (Below.trod laidOut (by kernel_rfl) (of_decide_eq_true (by kernel_rfl)) k0 bel lt0) (trodAll_cons_mk (Below.trod laidOut (by kernel_rfl) (of_decide_eq_true (by kernel_rfl)) k1 bel lt1) (trodAll_cons_mk (Below.trod laidOut (by kernel_rfl) (of_decide_eq_true (by kernel_rfl)) k2 bel lt2) (trodAll_cons_mk (Below.trod laidOut (by kernel_rfl) (of_decide_eq_true (by kernel_rfl)) k3 bel lt3) (trodAll_cons_mk (Below.trod laidOut (by kernel_rfl) (of_decide_eq_true (by kernel_rfl)) k4 bel lt4) (trodAll_cons_mk (Below.trod laidOut (by kernel_rfl) (of_decide_eq_true (by kernel_rfl)) k5 bel lt5) (trodAll_mk0)))))), rfl, bel.frame _, fun h => by cases h⟩
theorem over : Rows.forsSignsRow.holds Tryz.pinned (OpenSpec.ofChange Rows.forsSignsSpec) :=
  OpenClaim.holds_of_wide 4 Tryz.f4 rfl rfl rfl rfl rfl rfl rfl ⟨rfl, rfl, rfl, rfl, rfl⟩ rfl rfl rfl rfl rfl (by kernel_rfl) func (by kernel_rfl)
    (of_decide_eq_true (by kernel_rfl)) (by unfold Func.isWrapper; first | (rw [if_pos (by decide +kernel)]; kernel_rfl) | (rw [if_neg (by decide +kernel)]; exact ⟨rfl, rfl⟩))
    (fun os started H enc _ => lifted os started H enc)
theorem proved : Rows.ForsSignsCardSaid :=
  Claim7.holds_tied_plain_at .later [] [.data, .data, .data, .data, .data] true (true, "5154b91c117ce105d7b0a3954e9e0bbf65bc38b557ec9e08c9b5b2bc50f14600") false
    over (fun _ h => by cases h) (by kernel_rfl) (fun _ h => by cases h) forsSigns_row_tie rfl ⟨rfl, rfl⟩ (by kernel_rfl) rfl
    (fun f fn hf hfn => by
      obtain rfl : f = 4 := Option.some.inj ((show Tryz.prog.funcNamed "apostille/apostillelaw19.ForsSigns" = some 4 by kernel_rfl).symm.trans hf) |>.symm
      obtain rfl : fn = Tryz.f4 := (Option.some.inj (func.symm.trans hfn)).symm
      exact ⟨by kernel_rfl, fun j t ht => by
        rw [params] at ht
        have hm : t ∈ [23, 25, 26, 26, 26, 26] := by simpa using Array.mem_of_getElem? ht
        have hall : ([23, 25, 26, 26, 26, 26].all fun u => !Tryz.prog.wantsStandIn u) = true := by kernel_rfl
        exact (show Tryz.prog.wantsStandIn t = false by simpa using List.all_eq_true.1 hall t hm)⟩)
    (by kernel_rfl)
end Go.Proofs.YtjhnljhjpnjieaaGreatDoor.forsSigns
