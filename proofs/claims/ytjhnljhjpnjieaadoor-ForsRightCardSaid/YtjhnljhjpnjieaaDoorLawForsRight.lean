/-
  ForsRight: for every input the law returns true, and each argument reads behind the call as it read before. No condition.
-/
import Derived.Test.YtjhnljhjpnjieaaDoorForsRightQ
import Derived.Test.YtjhnljhjpnjieaaDoorForsRightS
import Derived.Test.YtjhnljhjpnjieaaDoorForsRightH
import Derived.Test.YtjhnljhjpnjieaaDoorForsRightJ
import Derived.Test.YtjhnljhjpnjieaaDoorTie
import Derived.Test.YtjhnljhjpnjieaaDoorCards
import Derived.SevenTiedAt
import Derived.LaidMore
import Derived.Stop.Joined
import Derived.LaidLaws
import Derived.Test.YtjhnljhjpnjieaaDoorRows
import Derived.WalkKit
import Derived.ProofKit
import Derived.OpenShut
import Derived.ShutString
import Derived.ChangeOld
import Derived.SizedLaws
namespace Go.Proofs.YtjhnljhjpnjieaaDoor.forsRight
open Go.ChangeShapes Go.WideShapes Go.ChangeAt Go.RowKit Go.Abs
set_option linter.unusedVariables false
theorem own : ownKnob Tryd.prog.godebug = none := by kernel_rfl
theorem laidOut : laidOutB Tryd.prog = true := by kernel_rfl
theorem func : Tryd.prog.funcs[8]? = some Tryd.f8 := by kernel_rfl
theorem params : Tryd.f8.params = #[5, 4, 5, 5, 43, 42, 42, 56] := by kernel_rfl
theorem bog : Tryd.prog.underlying 4 = some .bool := by kernel_rfl
theorem u5 : Tryd.prog.underlying 5 = some (.int .u8) := by kernel_rfl
theorem u4 : Tryd.prog.underlying 4 = some .bool := by kernel_rfl
theorem g43 : ark Tryd.prog 9 43 = true := by kernel_rfl
theorem a43 : abq Tryd.prog 43 = some true := by kernel_rfl
theorem e43 (l : List AVal) : Go.Abs.Good Tryd.prog 9 43 l = (∃ xs, l = [.arr .u8 32 xs] ∧ xs.length = 32 ∧ ∀ x, x ∈ xs → wfI .u8 x) := by kernel_rfl
theorem g42 : ark Tryd.prog 9 42 = true := by kernel_rfl
theorem a42 : abq Tryd.prog 42 = some true := by kernel_rfl
theorem e42 (l : List AVal) : Go.Abs.Good Tryd.prog 9 42 l = (∃ xs, l = [.arr .u8 32 xs] ∧ xs.length = 32 ∧ ∀ x, x ∈ xs → wfI .u8 x) := by kernel_rfl
theorem g56 : ark Tryd.prog 9 56 = true := by kernel_rfl
theorem a56 : abq Tryd.prog 56 = some true := by kernel_rfl
theorem e56 (l : List AVal) : Go.Abs.Good Tryd.prog 9 56 l = (∃ xs, l = [.arr .u8 8 xs] ∧ xs.length = 8 ∧ ∀ x, x ∈ xs → wfI .u8 x) := by kernel_rfl
def laid : List (String × DataW Unit) := Rows.forsRightRow.laid
theorem bdn (os : Os) (args : Array Value) : laidMetH Tryd.prog laid ((World.doorLaid Tryd.prog 60 os).forCall (fun _ _ => 0) ⟨#[], args, []⟩).memory :=
  laidMetH_of_parts3 (fuel := 8) (laidMet_of_run' 8 (by kernel_rfl) (by kernel_rfl)) (by kernel_rfl) (by kernel_rfl)
theorem bew {W : World} (h : laidMetH Tryd.prog laid W) : ah7 [(1, [AVal.arr .u64 24 P.bcl]), (2, [AVal.arr .u32 64 P.roots256]), (3, [AVal.arr .u64 80 P.roots512]), (4, [AVal.arr .i64 24 P.bid]), (5, [AVal.arr .i64 24 P.bmb])] (ar7 W) W := by
  rw [MakeChecks.laidMetH_plain _ _ _ (by kernel_rfl)] at h
  obtain ⟨ps, hV, _⟩ := h
  obtain ⟨g0, q0, hV0⟩ := aiu (l := P.bcl) (n := 24) (k := .u64) (t := 173) (e := 44) (g := 1) hV (by kernel_rfl) (by kernel_rfl) (by kernel_rfl) (by kernel_rfl) (by kernel_rfl) (by kernel_rfl) (by kernel_rfl) (by kernel_rfl)
  obtain ⟨g1, q1, hV1⟩ := aiu (l := P.bid) (n := 24) (k := .i64) (t := 191) (e := 3) (g := 4) hV0 (by kernel_rfl) (by kernel_rfl) (by kernel_rfl) (by kernel_rfl) (by kernel_rfl) (by kernel_rfl) (by kernel_rfl) (by kernel_rfl)
  obtain ⟨g2, q2, hV2⟩ := aiu (l := P.bmb) (n := 24) (k := .i64) (t := 191) (e := 3) (g := 5) hV1 (by kernel_rfl) (by kernel_rfl) (by kernel_rfl) (by kernel_rfl) (by kernel_rfl) (by kernel_rfl) (by kernel_rfl) (by kernel_rfl)
  obtain ⟨g3, q3, hV3⟩ := aiu (l := P.roots256) (n := 64) (k := .u32) (t := 186) (e := 77) (g := 2) hV2 (by kernel_rfl) (by kernel_rfl) (by kernel_rfl) (by kernel_rfl) (by kernel_rfl) (by kernel_rfl) (by kernel_rfl) (by kernel_rfl)
  obtain ⟨g4, q4, hV4⟩ := aiu (l := P.roots512) (n := 80) (k := .u64) (t := 178) (e := 44) (g := 3) hV3 (by kernel_rfl) (by kernel_rfl) (by kernel_rfl) (by kernel_rfl) (by kernel_rfl) (by kernel_rfl) (by kernel_rfl) (by kernel_rfl)
  exact adz g0 (adz g3 (adz g4 (adz g1 (adz g2 (awr _ _)))))
set_option maxRecDepth 100000 in
theorem lifted (os : Os) (started : os.Started) (H : Type) (enc : TypeId × Value → H) :
    ReturnsInHanded {} Tryd.checked os 8 .any (fun w args => (Rows.forsRightSpec.pre enc Tryd.prog Tryd.f8 [] false w args ∧ laidMetH Tryd.prog laid w) ∧ sizedMet enc Tryd.prog Tryd.f8 (OpenSpec.ofChange Rows.forsRightSpec) false w args)
      (Rows.forsRightSpec.post enc Tryd.prog Tryd.f8 false true false false) := by
  refine returnsInHanded_of_change_and (C := Tryd.checked) (X := fun w _ => laidMetH Tryd.prog laid w) (fun _ _ _ hh h => h.of_heap hh) own started (by kernel_rfl) func
    (ChangeSpec.witness_shaped (enc := enc) (C := Tryd.checked) (os := os) (X := fun w _ => laidMetH Tryd.prog laid w) false (World.doorLaid Tryd.prog 60 os) #[.int .u8 0, .bool false, .int .u8 0, .int .u8 0, .agg #[.int .u8 0, .int .u8 0, .int .u8 0, .int .u8 0, .int .u8 0, .int .u8 0, .int .u8 0, .int .u8 0, .int .u8 0, .int .u8 0, .int .u8 0, .int .u8 0, .int .u8 0, .int .u8 0, .int .u8 0, .int .u8 0, .int .u8 0, .int .u8 0, .int .u8 0, .int .u8 0, .int .u8 0, .int .u8 0, .int .u8 0, .int .u8 0, .int .u8 0, .int .u8 0, .int .u8 0, .int .u8 0, .int .u8 0, .int .u8 0, .int .u8 0, .int .u8 0], .agg #[.int .u8 0, .int .u8 0, .int .u8 0, .int .u8 0, .int .u8 0, .int .u8 0, .int .u8 0, .int .u8 0, .int .u8 0, .int .u8 0, .int .u8 0, .int .u8 0, .int .u8 0, .int .u8 0, .int .u8 0, .int .u8 0, .int .u8 0, .int .u8 0, .int .u8 0, .int .u8 0, .int .u8 0, .int .u8 0, .int .u8 0, .int .u8 0, .int .u8 0, .int .u8 0, .int .u8 0, .int .u8 0, .int .u8 0, .int .u8 0, .int .u8 0, .int .u8 0], .agg #[.int .u8 0, .int .u8 0, .int .u8 0, .int .u8 0, .int .u8 0, .int .u8 0, .int .u8 0, .int .u8 0, .int .u8 0, .int .u8 0, .int .u8 0, .int .u8 0, .int .u8 0, .int .u8 0, .int .u8 0, .int .u8 0, .int .u8 0, .int .u8 0, .int .u8 0, .int .u8 0, .int .u8 0, .int .u8 0, .int .u8 0, .int .u8 0, .int .u8 0, .int .u8 0, .int .u8 0, .int .u8 0, .int .u8 0, .int .u8 0, .int .u8 0, .int .u8 0], .agg #[.int .u8 0, .int .u8 0, .int .u8 0, .int .u8 0, .int .u8 0, .int .u8 0, .int .u8 0, .int .u8 0]] 8 rfl (World.shaped_of_RefB (by kernel_rfl) (by kernel_rfl)) (by kernel_rfl) (by kernel_rfl) (by kernel_rfl) (bdn os _)) ?_
  intro W base args ds gs before hval0 hW hcnd hsz0 hL _
  have hgl := bew hL
  have hval : ∀ (j : Nat) t v, Tryd.f8.params[j]? = some t → args[j]? = some v → Value.okWide Tryd.prog W .any base t v := hval0
  have hW' := hW
  obtain ⟨p, q, hA0, hV, rfl, hfz, hnd⟩ := hW
  have hA : DataW.TrodAll enc Tryd.prog W 0 (fun _ => true) true Tryd.f8.params.toList args.toList ds p := hA0
  rw [params] at hA hval
  obtain ⟨v0, vs0, d0, ds0, p0, q0, hargs, rfl, rfl, h0, r0⟩ := trodAll_cons hA
  obtain ⟨v1, vs1, d1, ds1, p1, q1, rfl, rfl, rfl, h1, r1⟩ := trodAll_cons r0
  obtain ⟨v2, vs2, d2, ds2, p2, q2, rfl, rfl, rfl, h2, r2⟩ := trodAll_cons r1
  obtain ⟨v3, vs3, d3, ds3, p3, q3, rfl, rfl, rfl, h3, r3⟩ := trodAll_cons r2
  obtain ⟨v4, vs4, d4, ds4, p4, q4, rfl, rfl, rfl, h4, r4⟩ := trodAll_cons r3
  obtain ⟨v5, vs5, d5, ds5, p5, q5, rfl, rfl, rfl, h5, r5⟩ := trodAll_cons r4
  obtain ⟨v6, vs6, d6, ds6, p6, q6, rfl, rfl, rfl, h6, r6⟩ := trodAll_cons r5
  obtain ⟨v7, vs7, d7, ds7, p7, q7, rfl, rfl, rfl, h7, r7⟩ := trodAll_cons r6
  obtain ⟨rfl, rfl, rfl⟩ := trodAll_nil r7
  obtain rfl : args = #[v0, v1, v2, v3, v4, v5, v6, v7] := by cases args; simp_all
  obtain ⟨rfl, rfl⟩ := trodVars_none hV
  have lt0 := aax h0
  have k0 := h0
  obtain ⟨x0, rfl, rfl, rfl, wx0⟩ := open_int u5 (hval 0 5 v0 rfl rfl) h0
  have s0 : bn (pz (ar7 W)) W (.v (.int .u8 x0)) (.int .u8 x0) := by simp only [bn]
  have lt1 := aax h1
  have k1 := h1
  obtain ⟨x1, rfl, rfl, rfl⟩ := open_bool u4 (hval 1 4 v1 rfl rfl) h1
  have s1 : bn (pz (ar7 W)) W (.v (.bool x1)) (.bool x1) := by simp only [bn]
  have lt2 := aax h2
  have k2 := h2
  obtain ⟨x2, rfl, rfl, rfl, wx2⟩ := open_int u5 (hval 2 5 v2 rfl rfl) h2
  have s2 : bn (pz (ar7 W)) W (.v (.int .u8 x2)) (.int .u8 x2) := by simp only [bn]
  have lt3 := aax h3
  have k3 := h3
  obtain ⟨x3, rfl, rfl, rfl, wx3⟩ := open_int u5 (hval 3 5 v3 rfl rfl) h3
  have s3 : bn (pz (ar7 W)) W (.v (.int .u8 x3)) (.int .u8 x3) := by simp only [bn]
  have lt4 := aax h4
  have k4 := h4
  have z4 : ∀ n, n ∈ d4.weights Tryd.prog 43 → n ≤ reachBytes := fun n hn => by simpa using List.all_eq_true.1 hsz0 _ (DataW.weights_mem_each (j := 4) (t := 43) (d := d4) (by rw [show Tryd.f8.params = _ from params]; rfl) rfl n hn)
  obtain ⟨l4, G4, s4⟩ := anp 9 g43 a43 (hval 4 43 v4 rfl rfl) h4 (z4)
  rw [e43] at G4
  obtain ⟨x4, rfl, nx4, wx4⟩ := G4
  have lt5 := aax h5
  have k5 := h5
  have z5 : ∀ n, n ∈ d5.weights Tryd.prog 42 → n ≤ reachBytes := fun n hn => by simpa using List.all_eq_true.1 hsz0 _ (DataW.weights_mem_each (j := 5) (t := 42) (d := d5) (by rw [show Tryd.f8.params = _ from params]; rfl) rfl n hn)
  obtain ⟨l5, G5, s5⟩ := anp 9 g42 a42 (hval 5 42 v5 rfl rfl) h5 (z5)
  rw [e42] at G5
  obtain ⟨x5, rfl, nx5, wx5⟩ := G5
  have lt6 := aax h6
  have k6 := h6
  have z6 : ∀ n, n ∈ d6.weights Tryd.prog 42 → n ≤ reachBytes := fun n hn => by simpa using List.all_eq_true.1 hsz0 _ (DataW.weights_mem_each (j := 6) (t := 42) (d := d6) (by rw [show Tryd.f8.params = _ from params]; rfl) rfl n hn)
  obtain ⟨l6, G6, s6⟩ := anp 9 g42 a42 (hval 6 42 v6 rfl rfl) h6 (z6)
  rw [e42] at G6
  obtain ⟨x6, rfl, nx6, wx6⟩ := G6
  have lt7 := aax h7
  have k7 := h7
  have z7 : ∀ n, n ∈ d7.weights Tryd.prog 56 → n ≤ reachBytes := fun n hn => by simpa using List.all_eq_true.1 hsz0 _ (DataW.weights_mem_each (j := 7) (t := 56) (d := d7) (by rw [show Tryd.f8.params = _ from params]; rfl) rfl n hn)
  obtain ⟨l7, G7, s7⟩ := anp 9 g56 a56 (hval 7 56 v7 rfl rfl) h7 (z7)
  rw [e56] at G7
  obtain ⟨x7, rfl, nx7, wx7⟩ := G7
  clear hA0 hval0 hsz0
  have hs : ∀ K, uo.spec [.v (.int .u8 x0), .v (.bool x1), .v (.int .u8 x2), .v (.int .u8 x3), .arr .u8 32 x4, .arr .u8 32 x5, .arr .u8 32 x6, .arr .u8 8 x7] K = P.uo x0 x1 x2 x3 x4 x5 x6 x7 (fun r0 => K (.v (.bool r0))) := by intro K; kernel_rfl
  obtain ⟨a, hK, hrun⟩ := uo.ok.sound [.v (.int .u8 x0), .v (.bool x1), .v (.int .u8 x2), .v (.int .u8 x3), .arr .u8 32 x4, .arr .u8 32 x5, .arr .u8 32 x6, .arr .u8 8 x7] (fun v => match v with | .v (.bool true) => some (.v (.bool true)) | _ => none) (.v (.bool true)) (by
    rw [hs, Q.ForsRight x0 x1 x2 x3 x4 x5 x6 x7 wx0 wx2 wx3 nx4 wx4 nx5 wx5 nx6 wx6 nx7 wx7])
  have ha : a = .v (.bool true) := by
    split at hK
    · rfl
    · cases hK
  subst ha
  refine (hrun (ar7 W) W [_, _, _, _, _, _, _, _] (fun _ h => h) hgl ?_).mono fun e W' he => ?_
  · simp only [jl]
    exact ⟨_, _, rfl, s0, ⟨_, _, rfl, s1, ⟨_, _, rfl, s2, ⟨_, _, rfl, s3, ⟨_, _, rfl, s4, ⟨_, _, rfl, s5, ⟨_, _, rfl, s6, ⟨_, _, rfl, s7, rfl⟩⟩⟩⟩⟩⟩⟩⟩
  obtain ⟨v, Sn, bs, rfl, bel, _, hv, _⟩ := he
  simp only [uj, bn] at hv
  obtain ⟨rfl, _⟩ := hv
  exact ⟨_, rfl, _, _, _, [], _, [], hW', trodAll_mk1 (shut_bool bog _), trodAll_cons_mk (Below.trod laidOut (by kernel_rfl) (of_decide_eq_true (by kernel_rfl)) k0 bel lt0) (trodAll_cons_mk (Below.trod laidOut (by kernel_rfl) (of_decide_eq_true (by kernel_rfl)) k1 bel lt1) (trodAll_cons_mk (Below.trod laidOut (by kernel_rfl) (of_decide_eq_true (by kernel_rfl)) k2 bel lt2) (trodAll_cons_mk (Below.trod laidOut (by kernel_rfl) (of_decide_eq_true (by kernel_rfl)) k3 bel lt3) (trodAll_cons_mk (Below.trod laidOut (by kernel_rfl) (of_decide_eq_true (by kernel_rfl)) k4 bel lt4) (trodAll_cons_mk (Below.trod laidOut (by kernel_rfl) (of_decide_eq_true (by kernel_rfl)) k5 bel lt5) (trodAll_cons_mk (Below.trod laidOut (by kernel_rfl) (of_decide_eq_true (by kernel_rfl)) k6 bel lt6) (trodAll_cons_mk (Below.trod laidOut (by kernel_rfl) (of_decide_eq_true (by kernel_rfl)) k7 bel lt7) (trodAll_mk0)))))))), rfl, bel.frame _, fun h => by cases h⟩
theorem over : Rows.forsRightRow.holds Tryd.pinned (OpenSpec.ofChange Rows.forsRightSpec) :=
  OpenClaim.holds_of_wide 8 Tryd.f8 rfl rfl rfl rfl rfl rfl rfl ⟨rfl, rfl, rfl, rfl, rfl⟩ rfl rfl rfl rfl rfl (by kernel_rfl) func (by kernel_rfl)
    (of_decide_eq_true (by kernel_rfl)) (by unfold Func.isWrapper; first | (rw [if_pos (by decide +kernel)]; kernel_rfl) | (rw [if_neg (by decide +kernel)]; exact ⟨rfl, rfl⟩))
    (fun os started H enc _ => lifted os started H enc)
theorem proved : Rows.ForsRightCardSaid :=
  Claim7.holds_tied_plain_at .later [] [.data, .data, .data, .data, .data] true (true, "d0402cb894078d5edbd9f61593cb55ea83faee7bbe0ecf6a9ddf87be153d093c") false
    over (fun _ h => by cases h) (by kernel_rfl) (fun _ h => by cases h) forsRight_row_tie rfl ⟨rfl, rfl⟩ (by kernel_rfl) rfl
    (fun f fn hf hfn => by
      obtain rfl : f = 8 := Option.some.inj ((show Tryd.prog.funcNamed "apostille/apostillelaw19.ForsRight" = some 8 by kernel_rfl).symm.trans hf) |>.symm
      obtain rfl : fn = Tryd.f8 := (Option.some.inj (func.symm.trans hfn)).symm
      exact ⟨by kernel_rfl, fun j t ht => by
        rw [params] at ht
        have hm : t ∈ [5, 4, 5, 5, 43, 42, 42, 56] := by simpa using Array.mem_of_getElem? ht
        have hall : ([5, 4, 5, 5, 43, 42, 42, 56].all fun u => !Tryd.prog.wantsStandIn u) = true := by kernel_rfl
        exact (show Tryd.prog.wantsStandIn t = false by simpa using List.all_eq_true.1 hall t hm)⟩)
    (by kernel_rfl)
end Go.Proofs.YtjhnljhjpnjieaaDoor.forsRight
