/-
  LeaseNear: for every input the law returns true, and each argument reads behind the call as it read before. No condition.
-/
import Derived.Test.YtkfjafaabbmapaaDoorLeaseNearQ
import Derived.Test.YtkfjafaabbmapaaDoorLeaseNearS
import Derived.Test.YtkfjafaabbmapaaDoorLeaseNearH
import Derived.Test.YtkfjafaabbmapaaDoorLeaseNearJ
import Derived.Test.YtkfjafaabbmapaaDoorTie
import Derived.Test.YtkfjafaabbmapaaDoorCards
import Derived.SevenTiedAt
import Derived.LaidMore
import Derived.Stop.Joined
import Derived.LaidLaws
import Derived.Test.YtkfjafaabbmapaaDoorRows
import Derived.WalkKit
import Derived.ProofKit
import Derived.OpenShut
import Derived.ShutString
import Derived.ChangeOld
import Derived.SizedLaws
namespace Go.Proofs.YtkfjafaabbmapaaDoor.leaseNear
open Go.ChangeShapes Go.WideShapes Go.ChangeAt Go.RowKit Go.Abs
set_option linter.unusedVariables false
theorem own : ownKnob Tryd.prog.godebug = none := by kernel_rfl
theorem laidOut : laidOutB Tryd.prog = true := by kernel_rfl
theorem func : Tryd.prog.funcs[6]? = some Tryd.f6 := by kernel_rfl
theorem params : Tryd.f6.params = #[25, 25, 31] := by kernel_rfl
theorem bm3 : Tryd.prog.underlying 4 = some .bool := by kernel_rfl
theorem u25 : Tryd.prog.underlying 25 = some (.int .u64) := by kernel_rfl
theorem u31 : Tryd.prog.underlying 31 = some (.slice 29) := by kernel_rfl
theorem g31 : awn Tryd.prog 9 31 = true := by kernel_rfl
theorem e31 (l : List AVal) : Go.Abs.Good Tryd.prog 9 31 l = (∃ n cs, l = [.sl (.cols n cs)] ∧ n ≤ 140737488355328 ∧ (∃ c0 r0, cs = c0 :: r0 ∧ (∃ xs, c0 = .ints .i64 xs ∧ xs.length = n ∧ ∀ x, x ∈ xs → wfI .i64 x) ∧ (∃ c1 r1, r0 = c1 :: r1 ∧ (∃ xs, c1 = .ints .i64 xs ∧ xs.length = n ∧ ∀ x, x ∈ xs → wfI .i64 x) ∧ (∃ c2 r2, r1 = c2 :: r2 ∧ (∃ xs, c2 = .rows .u8 xs ∧ xs.length = n ∧ ∀ y, y ∈ xs → y.length ≤ 140737488355328 ∧ ∀ x, x ∈ y → wfI .u8 x) ∧ (r2 = []))))) := by kernel_rfl
def laid : List (String × DataW Unit) := Rows.leaseNearRow.laid
theorem beh (os : Os) (args : Array Value) : laidMetH Tryd.prog laid ((World.doorLaid Tryd.prog 60 os).forCall (fun _ _ => 0) ⟨#[], args, []⟩).memory :=
  laidMetH_of_parts3 (fuel := 8) (laidMet_of_run' 8 (by kernel_rfl) (by kernel_rfl)) (by kernel_rfl) (by kernel_rfl)
theorem bdu {W : World} (h : laidMetH Tryd.prog laid W) : ahp GLO.gB (aus W) W := by
  rw [MakeChecks.laidMetH_plain _ _ _ (by kernel_rfl)] at h
  obtain ⟨ps, hV, _⟩ := h
  obtain ⟨g0, q0, hV0⟩ := as7 (l := P.roots256) (n := 64) (k := .u32) (t := 153) (e := 127) (g := 0) hV (by kernel_rfl) (by kernel_rfl) (by kernel_rfl) (by kernel_rfl) (by kernel_rfl) (by kernel_rfl) (by kernel_rfl) (by kernel_rfl)
  obtain ⟨g1, q1, hV1⟩ := as7 (l := P.roots512) (n := 80) (k := .u64) (t := 146) (e := 25) (g := 1) hV0 (by kernel_rfl) (by kernel_rfl) (by kernel_rfl) (by kernel_rfl) (by kernel_rfl) (by kernel_rfl) (by kernel_rfl) (by kernel_rfl)
  exact al9 g0 (al9 g1 (av5 _ _))
set_option maxRecDepth 100000 in
theorem lifted (os : Os) (started : os.Started) (H : Type) (enc : TypeId × Value → H) :
    ReturnsInHanded {} Tryd.checked os 6 .any (fun w args => (Rows.leaseNearSpec.pre enc Tryd.prog Tryd.f6 [] false w args ∧ laidMetH Tryd.prog laid w) ∧ sizedMet enc Tryd.prog Tryd.f6 (OpenSpec.ofChange Rows.leaseNearSpec) false w args)
      (Rows.leaseNearSpec.post enc Tryd.prog Tryd.f6 false true false false) := by
  refine returnsInHanded_of_change_and (C := Tryd.checked) (X := fun w _ => laidMetH Tryd.prog laid w) (fun _ _ _ hh h => h.of_heap hh) own started (by kernel_rfl) func
    (ChangeSpec.witness_shaped (enc := enc) (C := Tryd.checked) (os := os) (X := fun w _ => laidMetH Tryd.prog laid w) false (World.doorLaid Tryd.prog 60 os) #[.int .u64 0, .int .u64 0, .slice none 0 0] 8 rfl (World.shaped_of_RefB (by kernel_rfl) (by kernel_rfl)) (by kernel_rfl) (by kernel_rfl) (by kernel_rfl) (beh os _)) ?_
  intro W base args ds gs before hval0 hW hcnd hsz0 hL _
  have hgl := bdu hL
  have hval : ∀ (j : Nat) t v, Tryd.f6.params[j]? = some t → args[j]? = some v → Value.okWide Tryd.prog W .any base t v := hval0
  have hW' := hW
  obtain ⟨p, q, hA0, hV, rfl, hfz, hnd⟩ := hW
  have hA : DataW.TrodAll enc Tryd.prog W 0 (fun _ => true) true Tryd.f6.params.toList args.toList ds p := hA0
  rw [params] at hA hval
  obtain ⟨v0, vs0, d0, ds0, p0, q0, hargs, rfl, rfl, h0, r0⟩ := trodAll_cons hA
  obtain ⟨v1, vs1, d1, ds1, p1, q1, rfl, rfl, rfl, h1, r1⟩ := trodAll_cons r0
  obtain ⟨v2, vs2, d2, ds2, p2, q2, rfl, rfl, rfl, h2, r2⟩ := trodAll_cons r1
  obtain ⟨rfl, rfl, rfl⟩ := trodAll_nil r2
  obtain rfl : args = #[v0, v1, v2] := by cases args; simp_all
  obtain ⟨rfl, rfl⟩ := trodVars_none hV
  have lt0 := aix h0
  have k0 := h0
  obtain ⟨x0, rfl, rfl, rfl, wx0⟩ := open_int u25 (hval 0 25 v0 rfl rfl) h0
  have s0 : dh (nk (aus W)) W (.v (.int .u64 x0)) (.int .u64 x0) := by simp only [dh]
  have lt1 := aix h1
  have k1 := h1
  obtain ⟨x1, rfl, rfl, rfl, wx1⟩ := open_int u25 (hval 1 25 v1 rfl rfl) h1
  have s1 : dh (nk (aus W)) W (.v (.int .u64 x1)) (.int .u64 x1) := by simp only [dh]
  have lt2 := aix h2
  have k2 := h2
  have z2 : ∀ n, n ∈ d2.weights Tryd.prog 31 → n ≤ reachBytes := fun n hn => by simpa using List.all_eq_true.1 hsz0 _ (DataW.weights_mem_each (j := 2) (t := 31) (d := d2) (by rw [show Tryd.f6.params = _ from params]; rfl) rfl n hn)
  obtain ⟨l2, G2, s2⟩ := ay5 8 g31 u31 (hval 2 31 v2 rfl rfl) h2 (z2)
  rw [e31] at G2
  obtain ⟨x2n, _, hl2, bx2, ⟨_, _, rfl, ⟨x20, rfl, mx20, wx20⟩, ⟨_, _, rfl, ⟨x21, rfl, mx21, wx21⟩, ⟨_, _, rfl, ⟨x22, rfl, mx22, wx22⟩, rfl⟩⟩⟩⟩ := G2
  cases hl2
  clear hA0 hval0 hsz0
  have hs : ∀ K, qw.spec [.v (.int .u64 x0), .v (.int .u64 x1), .sl (.cols x2n [.ints .i64 x20, .ints .i64 x21, .rows .u8 x22])] K = P.qw x0 x1 x2n x20 x21 x22 (fun r0 => K (.v (.bool r0))) := by intro K; kernel_rfl
  obtain ⟨a, hK, hrun⟩ := qw.ok.sound [.v (.int .u64 x0), .v (.int .u64 x1), .sl (.cols x2n [.ints .i64 x20, .ints .i64 x21, .rows .u8 x22])] (fun v => match v with | .v (.bool true) => some (.v (.bool true)) | _ => none) (.v (.bool true)) (by
    rw [hs, Q.LeaseNear x0 x1 x2n x20 x21 x22 wx0 wx1 bx2 mx20 wx20 mx21 wx21 mx22 wx22])
  have ha : a = .v (.bool true) := by
    split at hK
    · rfl
    · cases hK
  subst ha
  refine (hrun (aus W) W [_, _, _] (fun _ h => h) hgl ?_).mono fun e W' he => ?_
  · simp only [ji]
    exact ⟨_, _, rfl, s0, ⟨_, _, rfl, s1, ⟨_, _, rfl, s2, rfl⟩⟩⟩
  obtain ⟨v, Sn, bs, rfl, bel, _, hv, _⟩ := he
  simp only [qp, dh] at hv
  obtain ⟨rfl, _⟩ := hv
  exact ⟨_, rfl, _, _, _, [], _, [], hW', trodAll_mk1 (shut_bool bm3 _), trodAll_cons_mk (Below.trod laidOut (by kernel_rfl) (of_decide_eq_true (by kernel_rfl)) k0 bel lt0) (trodAll_cons_mk (Below.trod laidOut (by kernel_rfl) (of_decide_eq_true (by kernel_rfl)) k1 bel lt1) (trodAll_cons_mk (Below.trod laidOut (by kernel_rfl) (of_decide_eq_true (by kernel_rfl)) k2 bel lt2) (trodAll_mk0))), rfl, bel.frame _, fun h => by cases h⟩
theorem over : Rows.leaseNearRow.holds Tryd.pinned (OpenSpec.ofChange Rows.leaseNearSpec) :=
  OpenClaim.holds_of_wide 6 Tryd.f6 rfl rfl rfl rfl rfl rfl rfl ⟨rfl, rfl, rfl, rfl, rfl⟩ rfl rfl rfl rfl rfl (by kernel_rfl) func (by kernel_rfl)
    (of_decide_eq_true (by kernel_rfl)) (by unfold Func.isWrapper; first | (rw [if_pos (by decide +kernel)]; kernel_rfl) | (rw [if_neg (by decide +kernel)]; exact ⟨rfl, rfl⟩))
    (fun os started H enc _ => lifted os started H enc)
theorem proved : Rows.LeaseNearCardSaid :=
  Claim7.holds_tied_plain_at .later [] [.data, .data] true (true, "7a5da77026582067a5151026a490d1cd2c46687704a1503e014e8c59316ca97e") false
    over (fun _ h => by cases h) (by kernel_rfl) (fun _ h => by cases h) leaseNear_row_tie rfl ⟨rfl, rfl⟩ (by kernel_rfl) rfl
    (fun f fn hf hfn => by
      obtain rfl : f = 6 := Option.some.inj ((show Tryd.prog.funcNamed "apostille/apostillelaw29.LeaseNear" = some 6 by kernel_rfl).symm.trans hf) |>.symm
      obtain rfl : fn = Tryd.f6 := (Option.some.inj (func.symm.trans hfn)).symm
      exact ⟨by kernel_rfl, fun j t ht => by
        rw [params] at ht
        have hm : t ∈ [25, 25, 31] := by simpa using Array.mem_of_getElem? ht
        have hall : ([25, 25, 31].all fun u => !Tryd.prog.wantsStandIn u) = true := by kernel_rfl
        exact (show Tryd.prog.wantsStandIn t = false by simpa using List.all_eq_true.1 hall t hm)⟩)
    (by kernel_rfl)
end Go.Proofs.YtkfjafaabbmapaaDoor.leaseNear
