/-
  LeaseSpent: for every input the law returns true, and each argument reads behind the call as it read before. No condition.
-/
import Derived.Test.YtkfjafaabbmapaaDoorLeaseSpentP
import Derived.Test.YtkfjafaabbmapaaDoorLeaseSpentR
import Derived.Test.YtkfjafaabbmapaaDoorLeaseSpentH
import Derived.Test.YtkfjafaabbmapaaDoorLeaseSpentJ
import Derived.Test.YtkfjafaabbmapaaDoorTie
import Derived.Test.YtkfjafaabbmapaaDoorCards
import Derived.SevenTiedAt
import Derived.LaidMore
import Derived.Stop.Joined
import Derived.LaidLaws
import Derived.Test.YtkfjafaabbmapaaDoorRows
import Derived.WalkKit
import Derived.ProofKit
import Derived.OpenShut
import Derived.ShutString
import Derived.ChangeOld
import Derived.SizedLaws
namespace Go.Proofs.YtkfjafaabbmapaaDoor.leaseSpent
open Go.ChangeShapes Go.WideShapes Go.ChangeAt Go.RowKit Go.Abs
set_option linter.unusedVariables false
theorem own : ownKnob Tryd.prog.godebug = none := by kernel_rfl
theorem laidOut : laidOutB Tryd.prog = true := by kernel_rfl
theorem func : Tryd.prog.funcs[7]? = some Tryd.f7 := by kernel_rfl
theorem params : Tryd.f7.params = #[5, 25, 31, 24] := by kernel_rfl
theorem bmd : Tryd.prog.underlying 4 = some .bool := by kernel_rfl
theorem u5 : Tryd.prog.underlying 5 = some (.int .u8) := by kernel_rfl
theorem u25 : Tryd.prog.underlying 25 = some (.int .u64) := by kernel_rfl
theorem u31 : Tryd.prog.underlying 31 = some (.slice 29) := by kernel_rfl
theorem g31 : asj Tryd.prog 9 31 = true := by kernel_rfl
theorem e31 (l : List AVal) : Go.Abs.Good Tryd.prog 9 31 l = (∃ n cs, l = [.sl (.cols n cs)] ∧ n ≤ 140737488355328 ∧ (∃ c0 r0, cs = c0 :: r0 ∧ (∃ xs, c0 = .ints .i64 xs ∧ xs.length = n ∧ ∀ x, x ∈ xs → wfI .i64 x) ∧ (∃ c1 r1, r0 = c1 :: r1 ∧ (∃ xs, c1 = .ints .i64 xs ∧ xs.length = n ∧ ∀ x, x ∈ xs → wfI .i64 x) ∧ (∃ c2 r2, r1 = c2 :: r2 ∧ (∃ xs, c2 = .rows .u8 xs ∧ xs.length = n ∧ ∀ y, y ∈ xs → y.length ≤ 140737488355328 ∧ ∀ x, x ∈ y → wfI .u8 x) ∧ (r2 = []))))) := by kernel_rfl
theorem g24 : asj Tryd.prog 9 24 = true := by kernel_rfl
theorem a24 : ab9 Tryd.prog 24 = some true := by kernel_rfl
theorem e24 (l : List AVal) : Go.Abs.Good Tryd.prog 9 24 l = (∃ p1 q1, l = p1 ++ q1 ∧ (∃ xs, p1 = [.sl (.ints .u8 xs)] ∧ xs.length ≤ 140737488355328 ∧ ∀ x, x ∈ xs → wfI .u8 x) ∧ (∃ p2 q2, q1 = p2 ++ q2 ∧ (∃ xs, p2 = [.sl (.ints .u8 xs)] ∧ xs.length ≤ 140737488355328 ∧ ∀ x, x ∈ xs → wfI .u8 x) ∧ (q2 = []))) := by kernel_rfl
def laid : List (String × DataW Unit) := Rows.leaseSpentRow.laid
theorem bek (os : Os) (args : Array Value) : laidMetH Tryd.prog laid ((World.doorLaid Tryd.prog 60 os).forCall (fun _ _ => 0) ⟨#[], args, []⟩).memory :=
  laidMetH_of_parts3 (fuel := 8) (laidMet_of_run' 8 (by kernel_rfl) (by kernel_rfl)) (by kernel_rfl) (by kernel_rfl)
theorem bdz {W : World} (h : laidMetH Tryd.prog laid W) : ag4 GLO.gB (ati W) W := by
  rw [MakeChecks.laidMetH_plain _ _ _ (by kernel_rfl)] at h
  obtain ⟨ps, hV, _⟩ := h
  obtain ⟨g0, q0, hV0⟩ := avs (l := P.roots256) (n := 64) (k := .u32) (t := 153) (e := 127) (g := 0) hV (by kernel_rfl) (by kernel_rfl) (by kernel_rfl) (by kernel_rfl) (by kernel_rfl) (by kernel_rfl) (by kernel_rfl) (by kernel_rfl)
  obtain ⟨g1, q1, hV1⟩ := avs (l := P.roots512) (n := 80) (k := .u64) (t := 146) (e := 25) (g := 1) hV0 (by kernel_rfl) (by kernel_rfl) (by kernel_rfl) (by kernel_rfl) (by kernel_rfl) (by kernel_rfl) (by kernel_rfl) (by kernel_rfl)
  exact amg g0 (amg g1 (awg _ _))
set_option maxRecDepth 100000 in
theorem lifted (os : Os) (started : os.Started) (H : Type) (enc : TypeId × Value → H) :
    ReturnsInHanded {} Tryd.checked os 7 .any (fun w args => (Rows.leaseSpentSpec.pre enc Tryd.prog Tryd.f7 [] false w args ∧ laidMetH Tryd.prog laid w) ∧ sizedMet enc Tryd.prog Tryd.f7 (OpenSpec.ofChange Rows.leaseSpentSpec) false w args)
      (Rows.leaseSpentSpec.post enc Tryd.prog Tryd.f7 false true false false) := by
  refine returnsInHanded_of_change_and (C := Tryd.checked) (X := fun w _ => laidMetH Tryd.prog laid w) (fun _ _ _ hh h => h.of_heap hh) own started (by kernel_rfl) func
    (ChangeSpec.witness_shaped (enc := enc) (C := Tryd.checked) (os := os) (X := fun w _ => laidMetH Tryd.prog laid w) false (World.doorLaid Tryd.prog 60 os) #[.int .u8 0, .int .u64 0, .slice none 0 0, .agg #[.slice none 0 0, .slice none 0 0]] 8 rfl (World.shaped_of_RefB (by kernel_rfl) (by kernel_rfl)) (by kernel_rfl) (by kernel_rfl) (by kernel_rfl) (bek os _)) ?_
  intro W base args ds gs before hval0 hW hcnd hsz0 hL _
  have hgl := bdz hL
  have hval : ∀ (j : Nat) t v, Tryd.f7.params[j]? = some t → args[j]? = some v → Value.okWide Tryd.prog W .any base t v := hval0
  have hW' := hW
  obtain ⟨p, q, hA0, hV, rfl, hfz, hnd⟩ := hW
  have hA : DataW.TrodAll enc Tryd.prog W 0 (fun _ => true) true Tryd.f7.params.toList args.toList ds p := hA0
  rw [params] at hA hval
  obtain ⟨v0, vs0, d0, ds0, p0, q0, hargs, rfl, rfl, h0, r0⟩ := trodAll_cons hA
  obtain ⟨v1, vs1, d1, ds1, p1, q1, rfl, rfl, rfl, h1, r1⟩ := trodAll_cons r0
  obtain ⟨v2, vs2, d2, ds2, p2, q2, rfl, rfl, rfl, h2, r2⟩ := trodAll_cons r1
  obtain ⟨v3, vs3, d3, ds3, p3, q3, rfl, rfl, rfl, h3, r3⟩ := trodAll_cons r2
  obtain ⟨rfl, rfl, rfl⟩ := trodAll_nil r3
  obtain rfl : args = #[v0, v1, v2, v3] := by cases args; simp_all
  obtain ⟨rfl, rfl⟩ := trodVars_none hV
  have lt0 := af7 h0
  have k0 := h0
  obtain ⟨x0, rfl, rfl, rfl, wx0⟩ := open_int u5 (hval 0 5 v0 rfl rfl) h0
  have s0 : dx (ny (ati W)) W (.v (.int .u8 x0)) (.int .u8 x0) := by simp only [dx]
  have lt1 := af7 h1
  have k1 := h1
  obtain ⟨x1, rfl, rfl, rfl, wx1⟩ := open_int u25 (hval 1 25 v1 rfl rfl) h1
  have s1 : dx (ny (ati W)) W (.v (.int .u64 x1)) (.int .u64 x1) := by simp only [dx]
  have lt2 := af7 h2
  have k2 := h2
  have z2 : ∀ n, n ∈ d2.weights Tryd.prog 31 → n ≤ reachBytes := fun n hn => by simpa using List.all_eq_true.1 hsz0 _ (DataW.weights_mem_each (j := 2) (t := 31) (d := d2) (by rw [show Tryd.f7.params = _ from params]; rfl) rfl n hn)
  obtain ⟨l2, G2, s2⟩ := azr 8 g31 u31 (hval 2 31 v2 rfl rfl) h2 (z2)
  rw [e31] at G2
  obtain ⟨x2n, _, hl2, bx2, ⟨_, _, rfl, ⟨x20, rfl, mx20, wx20⟩, ⟨_, _, rfl, ⟨x21, rfl, mx21, wx21⟩, ⟨_, _, rfl, ⟨x22, rfl, mx22, wx22⟩, rfl⟩⟩⟩⟩ := G2
  cases hl2
  have lt3 := af7 h3
  have k3 := h3
  have z3 : ∀ n, n ∈ d3.weights Tryd.prog 24 → n ≤ reachBytes := fun n hn => by simpa using List.all_eq_true.1 hsz0 _ (DataW.weights_mem_each (j := 3) (t := 24) (d := d3) (by rw [show Tryd.f7.params = _ from params]; rfl) rfl n hn)
  obtain ⟨l3, G3, s3⟩ := bd1 9 g24 a24 (hval 3 24 v3 rfl rfl) h3 (z3)
  rw [e24] at G3
  obtain ⟨_, _, rfl, ⟨x3_0, rfl, nx3_0, wx3_0⟩, ⟨_, _, rfl, ⟨x3_1, rfl, nx3_1, wx3_1⟩, rfl⟩⟩ := G3
  clear hA0 hval0 hsz0
  have hs : ∀ K, ql.spec [.v (.int .u8 x0), .v (.int .u64 x1), .sl (.cols x2n [.ints .i64 x20, .ints .i64 x21, .rows .u8 x22]), .agg [.sl (.ints .u8 x3_0), .sl (.ints .u8 x3_1)]] K = P.ql x0 x1 x2n x20 x21 x22 x3_0 x3_1 (fun r0 => K (.v (.bool r0))) := by intro K; kernel_rfl
  obtain ⟨a, hK, hrun⟩ := ql.ok.sound [.v (.int .u8 x0), .v (.int .u64 x1), .sl (.cols x2n [.ints .i64 x20, .ints .i64 x21, .rows .u8 x22]), .agg [.sl (.ints .u8 x3_0), .sl (.ints .u8 x3_1)]] (fun v => match v with | .v (.bool true) => some (.v (.bool true)) | _ => none) (.v (.bool true)) (by
    rw [hs, Q.LeaseSpent x0 x1 x2n x20 x21 x22 x3_0 x3_1 wx0 wx1 bx2 mx20 wx20 mx21 wx21 mx22 wx22 nx3_0 wx3_0 nx3_1 wx3_1])
  have ha : a = .v (.bool true) := by
    split at hK
    · rfl
    · cases hK
  subst ha
  refine (hrun (ati W) W [_, _, _, _] (fun _ h => h) hgl ?_).mono fun e W' he => ?_
  · simp only [jm]
    exact ⟨_, _, rfl, s0, ⟨_, _, rfl, s1, ⟨_, _, rfl, s2, ⟨_, _, rfl, s3, rfl⟩⟩⟩⟩
  obtain ⟨v, Sn, bs, rfl, bel, _, hv, _⟩ := he
  simp only [sj, dx] at hv
  obtain ⟨rfl, _⟩ := hv
  exact ⟨_, rfl, _, _, _, [], _, [], hW', trodAll_mk1 (shut_bool bmd _), trodAll_cons_mk (Below.trod laidOut (by kernel_rfl) (of_decide_eq_true (by kernel_rfl)) k0 bel lt0) (trodAll_cons_mk (Below.trod laidOut (by kernel_rfl) (of_decide_eq_true (by kernel_rfl)) k1 bel lt1) (trodAll_cons_mk (Below.trod laidOut (by kernel_rfl) (of_decide_eq_true (by kernel_rfl)) k2 bel lt2) (trodAll_cons_mk (Below.trod laidOut (by kernel_rfl) (of_decide_eq_true (by kernel_rfl)) k3 bel lt3) (trodAll_mk0)))), rfl, bel.frame _, fun h => by cases h⟩
theorem over : Rows.leaseSpentRow.holds Tryd.pinned (OpenSpec.ofChange Rows.leaseSpentSpec) :=
  OpenClaim.holds_of_wide 7 Tryd.f7 rfl rfl rfl rfl rfl rfl rfl ⟨rfl, rfl, rfl, rfl, rfl⟩ rfl rfl rfl rfl rfl (by kernel_rfl) func (by kernel_rfl)
    (of_decide_eq_true (by kernel_rfl)) (by unfold Func.isWrapper; first | (rw [if_pos (by decide +kernel)]; kernel_rfl) | (rw [if_neg (by decide +kernel)]; exact ⟨rfl, rfl⟩))
    (fun os started H enc _ => lifted os started H enc)
theorem proved : Rows.LeaseSpentCardSaid :=
  Claim7.holds_tied_plain_at .later [] [.data, .data] true (true, "7a5da77026582067a5151026a490d1cd2c46687704a1503e014e8c59316ca97e") false
    over (fun _ h => by cases h) (by kernel_rfl) (fun _ h => by cases h) leaseSpent_row_tie rfl ⟨rfl, rfl⟩ (by kernel_rfl) rfl
    (fun f fn hf hfn => by
      obtain rfl : f = 7 := Option.some.inj ((show Tryd.prog.funcNamed "apostille/apostillelaw29.LeaseSpent" = some 7 by kernel_rfl).symm.trans hf) |>.symm
      obtain rfl : fn = Tryd.f7 := (Option.some.inj (func.symm.trans hfn)).symm
      exact ⟨by kernel_rfl, fun j t ht => by
        rw [params] at ht
        have hm : t ∈ [5, 25, 31, 24] := by simpa using Array.mem_of_getElem? ht
        have hall : ([5, 25, 31, 24].all fun u => !Tryd.prog.wantsStandIn u) = true := by kernel_rfl
        exact (show Tryd.prog.wantsStandIn t = false by simpa using List.all_eq_true.1 hall t hm)⟩)
    (by kernel_rfl)
end Go.Proofs.YtkfjafaabbmapaaDoor.leaseSpent
