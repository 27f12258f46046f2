/-
  LeaseTells: for every input the law returns true, and each argument reads behind the call as it read before. No condition.
-/
import Derived.Test.YtkfjafaabbmapaaDoorLeaseTellsR
import Derived.Test.YtkfjafaabbmapaaDoorLeaseTellsU
import Derived.Test.YtkfjafaabbmapaaDoorLeaseTellsH
import Derived.Test.YtkfjafaabbmapaaDoorLeaseTellsJ
import Derived.Test.YtkfjafaabbmapaaDoorTie
import Derived.Test.YtkfjafaabbmapaaDoorCards
import Derived.SevenTiedAt
import Derived.LaidMore
import Derived.Stop.Joined
import Derived.LaidLaws
import Derived.Test.YtkfjafaabbmapaaDoorRows
import Derived.WalkKit
import Derived.ProofKit
import Derived.OpenShut
import Derived.ShutString
import Derived.ChangeOld
import Derived.SizedLaws
namespace Go.Proofs.YtkfjafaabbmapaaDoor.leaseTells
open Go.ChangeShapes Go.WideShapes Go.ChangeAt Go.RowKit Go.Abs
set_option linter.unusedVariables false
theorem own : ownKnob Tryd.prog.godebug = none := by kernel_rfl
theorem laidOut : laidOutB Tryd.prog = true := by kernel_rfl
theorem func : Tryd.prog.funcs[3]? = some Tryd.f3 := by kernel_rfl
theorem params : Tryd.f3.params = #[24, 25, 25, 27, 29] := by kernel_rfl
theorem bp4 : Tryd.prog.underlying 4 = some .bool := by kernel_rfl
theorem g24 : auj Tryd.prog 9 24 = true := by kernel_rfl
theorem a24 : ab3 Tryd.prog 24 = some true := by kernel_rfl
theorem e24 (l : List AVal) : Go.Abs.Good Tryd.prog 9 24 l = (∃ p1 q1, l = p1 ++ q1 ∧ (∃ xs, p1 = [.sl (.ints .u8 xs)] ∧ xs.length ≤ 140737488355328 ∧ ∀ x, x ∈ xs → wfI .u8 x) ∧ (∃ p2 q2, q1 = p2 ++ q2 ∧ (∃ xs, p2 = [.sl (.ints .u8 xs)] ∧ xs.length ≤ 140737488355328 ∧ ∀ x, x ∈ xs → wfI .u8 x) ∧ (q2 = []))) := by kernel_rfl
theorem u25 : Tryd.prog.underlying 25 = some (.int .u64) := by kernel_rfl
theorem g27 : auj Tryd.prog 9 27 = true := by kernel_rfl
theorem a27 : ab3 Tryd.prog 27 = some true := by kernel_rfl
theorem e27 (l : List AVal) : Go.Abs.Good Tryd.prog 9 27 l = (∃ p3 q3, l = p3 ++ q3 ∧ (∃ p4 q4, p3 = p4 ++ q4 ∧ (∃ xs, p4 = [.sl (.ints .u8 xs)] ∧ xs.length ≤ 140737488355328 ∧ ∀ x, x ∈ xs → wfI .u8 x) ∧ (∃ p5 q5, q4 = p5 ++ q5 ∧ (∃ xs, p5 = [.sl (.ints .u8 xs)] ∧ xs.length ≤ 140737488355328 ∧ ∀ x, x ∈ xs → wfI .u8 x) ∧ (q5 = []))) ∧ (∃ p6 q6, q3 = p6 ++ q6 ∧ (∃ n, p6 = [.v (.int .u64 n)] ∧ wfI .u64 n) ∧ (∃ p7 q7, q6 = p7 ++ q7 ∧ (∃ n, p7 = [.v (.int .u64 n)] ∧ wfI .u64 n) ∧ (∃ p8 q8, q7 = p8 ++ q8 ∧ (∃ n, p8 = [.v (.int .u64 n)] ∧ wfI .u64 n) ∧ (∃ p9 q9, q8 = p9 ++ q9 ∧ (∃ n, p9 = [.v (.int .u64 n)] ∧ wfI .u64 n) ∧ (∃ p10 q10, q9 = p10 ++ q10 ∧ (∃ b, p10 = [.v (.bool b)]) ∧ (q10 = []))))))) := by kernel_rfl
theorem g29 : auj Tryd.prog 9 29 = true := by kernel_rfl
theorem a29 : ab3 Tryd.prog 29 = some true := by kernel_rfl
theorem e29 (l : List AVal) : Go.Abs.Good Tryd.prog 9 29 l = (∃ p11 q11, l = p11 ++ q11 ∧ (∃ n, p11 = [.v (.int .i64 n)] ∧ wfI .i64 n) ∧ (∃ p12 q12, q11 = p12 ++ q12 ∧ (∃ n, p12 = [.v (.int .i64 n)] ∧ wfI .i64 n) ∧ (∃ p13 q13, q12 = p13 ++ q13 ∧ (∃ xs, p13 = [.sl (.ints .u8 xs)] ∧ xs.length ≤ 140737488355328 ∧ ∀ x, x ∈ xs → wfI .u8 x) ∧ (q13 = [])))) := by kernel_rfl
def laid : List (String × DataW Unit) := Rows.leaseTellsRow.laid
theorem be4 (os : Os) (args : Array Value) : laidMetH Tryd.prog laid ((World.doorLaid Tryd.prog 60 os).forCall (fun _ _ => 0) ⟨#[], args, []⟩).memory :=
  laidMetH_of_parts3 (fuel := 8) (laidMet_of_run' 8 (by kernel_rfl) (by kernel_rfl)) (by kernel_rfl) (by kernel_rfl)
theorem bfu {W : World} (h : laidMetH Tryd.prog laid W) : ai3 GLO.gB (awk W) W := by
  rw [MakeChecks.laidMetH_plain _ _ _ (by kernel_rfl)] at h
  obtain ⟨ps, hV, _⟩ := h
  obtain ⟨g0, q0, hV0⟩ := awn (l := P.roots256) (n := 64) (k := .u32) (t := 153) (e := 127) (g := 0) hV (by kernel_rfl) (by kernel_rfl) (by kernel_rfl) (by kernel_rfl) (by kernel_rfl) (by kernel_rfl) (by kernel_rfl) (by kernel_rfl)
  obtain ⟨g1, q1, hV1⟩ := awn (l := P.roots512) (n := 80) (k := .u64) (t := 146) (e := 25) (g := 1) hV0 (by kernel_rfl) (by kernel_rfl) (by kernel_rfl) (by kernel_rfl) (by kernel_rfl) (by kernel_rfl) (by kernel_rfl) (by kernel_rfl)
  exact anw g0 (anw g1 (ayp _ _))
set_option maxRecDepth 100000 in
theorem lifted (os : Os) (started : os.Started) (H : Type) (enc : TypeId × Value → H) :
    ReturnsInHanded {} Tryd.checked os 3 .any (fun w args => (Rows.leaseTellsSpec.pre enc Tryd.prog Tryd.f3 [] false w args ∧ laidMetH Tryd.prog laid w) ∧ sizedMet enc Tryd.prog Tryd.f3 (OpenSpec.ofChange Rows.leaseTellsSpec) false w args)
      (Rows.leaseTellsSpec.post enc Tryd.prog Tryd.f3 false true false false) := by
  refine returnsInHanded_of_change_and (C := Tryd.checked) (X := fun w _ => laidMetH Tryd.prog laid w) (fun _ _ _ hh h => h.of_heap hh) own started (by kernel_rfl) func
    (ChangeSpec.witness_shaped (enc := enc) (C := Tryd.checked) (os := os) (X := fun w _ => laidMetH Tryd.prog laid w) false (World.doorLaid Tryd.prog 60 os) #[.agg #[.slice none 0 0, .slice none 0 0], .int .u64 0, .int .u64 0, .agg #[.slice none 0 0, .slice none 0 0, .int .u64 0, .int .u64 0, .int .u64 0, .int .u64 0, .bool false], .agg #[.int .i64 0, .int .i64 0, .slice none 0 0]] 8 rfl (World.shaped_of_RefB (by kernel_rfl) (by kernel_rfl)) (by kernel_rfl) (by kernel_rfl) (by kernel_rfl) (be4 os _)) ?_
  intro W base args ds gs before hval0 hW hcnd hsz0 hL _
  have hgl := bfu hL
  have hval : ∀ (j : Nat) t v, Tryd.f3.params[j]? = some t → args[j]? = some v → Value.okWide Tryd.prog W .any base t v := hval0
  have hW' := hW
  obtain ⟨p, q, hA0, hV, rfl, hfz, hnd⟩ := hW
  have hA : DataW.TrodAll enc Tryd.prog W 0 (fun _ => true) true Tryd.f3.params.toList args.toList ds p := hA0
  rw [params] at hA hval
  obtain ⟨v0, vs0, d0, ds0, p0, q0, hargs, rfl, rfl, h0, r0⟩ := trodAll_cons hA
  obtain ⟨v1, vs1, d1, ds1, p1, q1, rfl, rfl, rfl, h1, r1⟩ := trodAll_cons r0
  obtain ⟨v2, vs2, d2, ds2, p2, q2, rfl, rfl, rfl, h2, r2⟩ := trodAll_cons r1
  obtain ⟨v3, vs3, d3, ds3, p3, q3, rfl, rfl, rfl, h3, r3⟩ := trodAll_cons r2
  obtain ⟨v4, vs4, d4, ds4, p4, q4, rfl, rfl, rfl, h4, r4⟩ := trodAll_cons r3
  obtain ⟨rfl, rfl, rfl⟩ := trodAll_nil r4
  obtain rfl : args = #[v0, v1, v2, v3, v4] := by cases args; simp_all
  obtain ⟨rfl, rfl⟩ := trodVars_none hV
  have lt0 := afc h0
  have k0 := h0
  have z0 : ∀ n, n ∈ d0.weights Tryd.prog 24 → n ≤ reachBytes := fun n hn => by simpa using List.all_eq_true.1 hsz0 _ (DataW.weights_mem_each (j := 0) (t := 24) (d := d0) (by rw [show Tryd.f3.params = _ from params]; rfl) rfl n hn)
  obtain ⟨l0, G0, s0⟩ := aul 9 g24 a24 (hval 0 24 v0 rfl rfl) h0 (z0)
  rw [e24] at G0
  obtain ⟨_, _, rfl, ⟨x0_0, rfl, nx0_0, wx0_0⟩, ⟨_, _, rfl, ⟨x0_1, rfl, nx0_1, wx0_1⟩, rfl⟩⟩ := G0
  have lt1 := afc h1
  have k1 := h1
  obtain ⟨x1, rfl, rfl, rfl, wx1⟩ := open_int u25 (hval 1 25 v1 rfl rfl) h1
  have s1 : gy (o8 (awk W)) W (.v (.int .u64 x1)) (.int .u64 x1) := by simp only [gy]
  have lt2 := afc h2
  have k2 := h2
  obtain ⟨x2, rfl, rfl, rfl, wx2⟩ := open_int u25 (hval 2 25 v2 rfl rfl) h2
  have s2 : gy (o8 (awk W)) W (.v (.int .u64 x2)) (.int .u64 x2) := by simp only [gy]
  have lt3 := afc h3
  have k3 := h3
  have z3 : ∀ n, n ∈ d3.weights Tryd.prog 27 → n ≤ reachBytes := fun n hn => by simpa using List.all_eq_true.1 hsz0 _ (DataW.weights_mem_each (j := 3) (t := 27) (d := d3) (by rw [show Tryd.f3.params = _ from params]; rfl) rfl n hn)
  obtain ⟨l3, G3, s3⟩ := aul 9 g27 a27 (hval 3 27 v3 rfl rfl) h3 (z3)
  rw [e27] at G3
  obtain ⟨_, _, rfl, ⟨_, _, rfl, ⟨x3_Store_0, rfl, nx3_Store_0, wx3_Store_0⟩, ⟨_, _, rfl, ⟨x3_Store_1, rfl, nx3_Store_1, wx3_Store_1⟩, rfl⟩⟩, ⟨_, _, rfl, ⟨x3_Leaves, rfl, wx3_Leaves⟩, ⟨_, _, rfl, ⟨x3_Batch, rfl, wx3_Batch⟩, ⟨_, _, rfl, ⟨x3_Next, rfl, wx3_Next⟩, ⟨_, _, rfl, ⟨x3_Bound, rfl, wx3_Bound⟩, ⟨_, _, rfl, ⟨x3_Up, rfl⟩, rfl⟩⟩⟩⟩⟩⟩ := G3
  have lt4 := afc h4
  have k4 := h4
  have z4 : ∀ n, n ∈ d4.weights Tryd.prog 29 → n ≤ reachBytes := fun n hn => by simpa using List.all_eq_true.1 hsz0 _ (DataW.weights_mem_each (j := 4) (t := 29) (d := d4) (by rw [show Tryd.f3.params = _ from params]; rfl) rfl n hn)
  obtain ⟨l4, G4, s4⟩ := aul 9 g29 a29 (hval 4 29 v4 rfl rfl) h4 (z4)
  rw [e29] at G4
  obtain ⟨_, _, rfl, ⟨x4_Kind, rfl, wx4_Kind⟩, ⟨_, _, rfl, ⟨x4_Tear, rfl, wx4_Tear⟩, ⟨_, _, rfl, ⟨x4_Junk, rfl, nx4_Junk, wx4_Junk⟩, rfl⟩⟩⟩ := G4
  clear hA0 hval0 hsz0
  have hs : ∀ K, sj.spec [.agg [.sl (.ints .u8 x0_0), .sl (.ints .u8 x0_1)], .v (.int .u64 x1), .v (.int .u64 x2), .agg [.sl (.ints .u8 x3_Store_0), .sl (.ints .u8 x3_Store_1), .v (.int .u64 x3_Leaves), .v (.int .u64 x3_Batch), .v (.int .u64 x3_Next), .v (.int .u64 x3_Bound), .v (.bool x3_Up)], .agg [.v (.int .i64 x4_Kind), .v (.int .i64 x4_Tear), .sl (.ints .u8 x4_Junk)]] K = P.sj x0_0 x0_1 x1 x2 x3_Store_0 x3_Store_1 x3_Leaves x3_Batch x3_Next x3_Bound x3_Up x4_Kind x4_Tear x4_Junk (fun r0 => K (.v (.bool r0))) := by intro K; kernel_rfl
  obtain ⟨a, hK, hrun⟩ := sj.ok.sound [.agg [.sl (.ints .u8 x0_0), .sl (.ints .u8 x0_1)], .v (.int .u64 x1), .v (.int .u64 x2), .agg [.sl (.ints .u8 x3_Store_0), .sl (.ints .u8 x3_Store_1), .v (.int .u64 x3_Leaves), .v (.int .u64 x3_Batch), .v (.int .u64 x3_Next), .v (.int .u64 x3_Bound), .v (.bool x3_Up)], .agg [.v (.int .i64 x4_Kind), .v (.int .i64 x4_Tear), .sl (.ints .u8 x4_Junk)]] (fun v => match v with | .v (.bool true) => some (.v (.bool true)) | _ => none) (.v (.bool true)) (by
    rw [hs, Q.LeaseTells x0_0 x0_1 x1 x2 x3_Store_0 x3_Store_1 x3_Leaves x3_Batch x3_Next x3_Bound x3_Up x4_Kind x4_Tear x4_Junk nx0_0 wx0_0 nx0_1 wx0_1 wx1 wx2 nx3_Store_0 wx3_Store_0 nx3_Store_1 wx3_Store_1 wx3_Leaves wx3_Batch wx3_Next wx3_Bound wx4_Kind wx4_Tear nx4_Junk wx4_Junk])
  have ha : a = .v (.bool true) := by
    split at hK
    · rfl
    · cases hK
  subst ha
  refine (hrun (awk W) W [_, _, _, _, _] (fun _ h => h) hgl ?_).mono fun e W' he => ?_
  · simp only [jr]
    exact ⟨_, _, rfl, s0, ⟨_, _, rfl, s1, ⟨_, _, rfl, s2, ⟨_, _, rfl, s3, ⟨_, _, rfl, s4, rfl⟩⟩⟩⟩⟩
  obtain ⟨v, Sn, bs, rfl, bel, _, hv, _⟩ := he
  simp only [uy, gy] at hv
  obtain ⟨rfl, _⟩ := hv
  exact ⟨_, rfl, _, _, _, [], _, [], hW', trodAll_mk1 (shut_bool bp4 _), trodAll_cons_mk (Below.trod laidOut (by kernel_rfl) (of_decide_eq_true (by kernel_rfl)) k0 bel lt0) (trodAll_cons_mk (Below.trod laidOut (by kernel_rfl) (of_decide_eq_true (by kernel_rfl)) k1 bel lt1) (trodAll_cons_mk (Below.trod laidOut (by kernel_rfl) (of_decide_eq_true (by kernel_rfl)) k2 bel lt2) (trodAll_cons_mk (Below.trod laidOut (by kernel_rfl) (of_decide_eq_true (by kernel_rfl)) k3 bel lt3) (trodAll_cons_mk (Below.trod laidOut (by kernel_rfl) (of_decide_eq_true (by kernel_rfl)) k4 bel lt4) (trodAll_mk0))))), rfl, bel.frame _, fun h => by cases h⟩
theorem over : Rows.leaseTellsRow.holds Tryd.pinned (OpenSpec.ofChange Rows.leaseTellsSpec) :=
  OpenClaim.holds_of_wide 3 Tryd.f3 rfl rfl rfl rfl rfl rfl rfl ⟨rfl, rfl, rfl, rfl, rfl⟩ rfl rfl rfl rfl rfl (by kernel_rfl) func (by kernel_rfl)
    (of_decide_eq_true (by kernel_rfl)) (by unfold Func.isWrapper; first | (rw [if_pos (by decide +kernel)]; kernel_rfl) | (rw [if_neg (by decide +kernel)]; exact ⟨rfl, rfl⟩))
    (fun os started H enc _ => lifted os started H enc)
theorem proved : Rows.LeaseTellsCardSaid :=
  Claim7.holds_tied_plain_at .later [] [.data, .data] true (true, "7a5da77026582067a5151026a490d1cd2c46687704a1503e014e8c59316ca97e") false
    over (fun _ h => by cases h) (by kernel_rfl) (fun _ h => by cases h) leaseTells_row_tie rfl ⟨rfl, rfl⟩ (by kernel_rfl) rfl
    (fun f fn hf hfn => by
      obtain rfl : f = 3 := Option.some.inj ((show Tryd.prog.funcNamed "apostille/apostillelaw29.LeaseTells" = some 3 by kernel_rfl).symm.trans hf) |>.symm
      obtain rfl : fn = Tryd.f3 := (Option.some.inj (func.symm.trans hfn)).symm
      exact ⟨by kernel_rfl, fun j t ht => by
        rw [params] at ht
        have hm : t ∈ [24, 25, 25, 27, 29] := by simpa using Array.mem_of_getElem? ht
        have hall : ([24, 25, 25, 27, 29].all fun u => !Tryd.prog.wantsStandIn u) = true := by kernel_rfl
        exact (show Tryd.prog.wantsStandIn t = false by simpa using List.all_eq_true.1 hall t hm)⟩)
    (by kernel_rfl)
end Go.Proofs.YtkfjafaabbmapaaDoor.leaseTells
