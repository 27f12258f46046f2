/-
  HssRight: for every input the law returns true, and each argument reads behind the call as it read before. No condition.
-/
import Derived.Test.YtmipokjdajiimaaDoorHssRightQ
import Derived.Test.YtmipokjdajiimaaDoorHssRightU
import Derived.Test.YtmipokjdajiimaaDoorHssRightH
import Derived.Test.YtmipokjdajiimaaDoorHssRightJ
import Derived.Test.YtmipokjdajiimaaDoorTie
import Derived.Test.YtmipokjdajiimaaDoorCards
import Derived.SevenTiedAt
import Derived.LaidMore
import Derived.Stop.Joined
import Derived.LaidLaws
import Derived.Test.YtmipokjdajiimaaDoorRows
import Derived.WalkKit
import Derived.ProofKit
import Derived.OpenShut
import Derived.ShutString
import Derived.ChangeOld
import Derived.SizedLaws
namespace Go.Proofs.YtmipokjdajiimaaDoor.hssRight
open Go.ChangeShapes Go.WideShapes Go.ChangeAt Go.RowKit Go.Abs
set_option linter.unusedVariables false
theorem own : ownKnob Tryd.prog.godebug = none := by kernel_rfl
theorem laidOut : laidOutB Tryd.prog = true := by kernel_rfl
theorem func : Tryd.prog.funcs[6]? = some Tryd.f6 := by kernel_rfl
theorem params : Tryd.f6.params = #[5, 5, 46, 47, 5, 23] := by kernel_rfl
theorem b4r : Tryd.prog.underlying 4 = some .bool := by kernel_rfl
theorem u5 : Tryd.prog.underlying 5 = some (.int .u8) := by kernel_rfl
theorem g46 : ayk Tryd.prog 9 46 = true := by kernel_rfl
theorem a46 : ac7 Tryd.prog 46 = some true := by kernel_rfl
theorem e46 (l : List AVal) : Go.Abs.Good Tryd.prog 9 46 l = (∃ xs, l = [.arr .u8 16 xs] ∧ xs.length = 16 ∧ ∀ x, x ∈ xs → wfI .u8 x) := by kernel_rfl
theorem g47 : ayk Tryd.prog 9 47 = true := by kernel_rfl
theorem a47 : ac7 Tryd.prog 47 = some true := by kernel_rfl
theorem e47 (l : List AVal) : Go.Abs.Good Tryd.prog 9 47 l = (∃ xs, l = [.arr .u8 32 xs] ∧ xs.length = 32 ∧ ∀ x, x ∈ xs → wfI .u8 x) := by kernel_rfl
theorem u23 : Tryd.prog.underlying 23 = some (.slice 5) := by kernel_rfl
theorem g23 : ayk Tryd.prog 9 23 = true := by kernel_rfl
theorem e23 (l : List AVal) : Go.Abs.Good Tryd.prog 9 23 l = (∃ xs, l = [.sl (.ints .u8 xs)] ∧ xs.length ≤ 140737488355328 ∧ ∀ x, x ∈ xs → wfI .u8 x) := by kernel_rfl
def laid : List (String × DataW Unit) := Rows.hssRightRow.laid
theorem bpx (os : Os) (args : Array Value) : laidMetH Tryd.prog laid ((World.doorLaid Tryd.prog 60 os).forCall (fun _ _ => 0) ⟨#[], args, []⟩).memory :=
  laidMetH_of_parts3 (fuel := 8) (laidMet_of_run' 8 (by kernel_rfl) (by kernel_rfl)) (by kernel_rfl) (by kernel_rfl)
theorem bo7 {W : World} (h : laidMetH Tryd.prog laid W) : alx GLO.gB (ba8 W) W := by
  rw [MakeChecks.laidMetH_plain _ _ _ (by kernel_rfl)] at h
  obtain ⟨ps, hV, _⟩ := h
  obtain ⟨g0, q0, hV0⟩ := bfm (l := P.roots256) (n := 64) (k := .u32) (t := 158) (e := 42) (g := 0) hV (by kernel_rfl) (by kernel_rfl) (by kernel_rfl) (by kernel_rfl) (by kernel_rfl) (by kernel_rfl) (by kernel_rfl) (by kernel_rfl)
  obtain ⟨g1, q1, hV1⟩ := bfm (l := P.roots512) (n := 80) (k := .u64) (t := 162) (e := 26) (g := 1) hV0 (by kernel_rfl) (by kernel_rfl) (by kernel_rfl) (by kernel_rfl) (by kernel_rfl) (by kernel_rfl) (by kernel_rfl) (by kernel_rfl)
  exact ash g0 (ash g1 (bhs _ _))
set_option maxRecDepth 100000 in
theorem lifted (os : Os) (started : os.Started) (H : Type) (enc : TypeId × Value → H) :
    ReturnsInHanded {} Tryd.checked os 6 .any (fun w args => (Rows.hssRightSpec.pre enc Tryd.prog Tryd.f6 [] false w args ∧ laidMetH Tryd.prog laid w) ∧ sizedMet enc Tryd.prog Tryd.f6 (OpenSpec.ofChange Rows.hssRightSpec) false w args)
      (Rows.hssRightSpec.post enc Tryd.prog Tryd.f6 false true false false) := by
  refine returnsInHanded_of_change_and (C := Tryd.checked) (X := fun w _ => laidMetH Tryd.prog laid w) (fun _ _ _ hh h => h.of_heap hh) own started (by kernel_rfl) func
    (ChangeSpec.witness_shaped (enc := enc) (C := Tryd.checked) (os := os) (X := fun w _ => laidMetH Tryd.prog laid w) false (World.doorLaid Tryd.prog 60 os) #[.int .u8 0, .int .u8 0, .agg #[.int .u8 0, .int .u8 0, .int .u8 0, .int .u8 0, .int .u8 0, .int .u8 0, .int .u8 0, .int .u8 0, .int .u8 0, .int .u8 0, .int .u8 0, .int .u8 0, .int .u8 0, .int .u8 0, .int .u8 0, .int .u8 0], .agg #[.int .u8 0, .int .u8 0, .int .u8 0, .int .u8 0, .int .u8 0, .int .u8 0, .int .u8 0, .int .u8 0, .int .u8 0, .int .u8 0, .int .u8 0, .int .u8 0, .int .u8 0, .int .u8 0, .int .u8 0, .int .u8 0, .int .u8 0, .int .u8 0, .int .u8 0, .int .u8 0, .int .u8 0, .int .u8 0, .int .u8 0, .int .u8 0, .int .u8 0, .int .u8 0, .int .u8 0, .int .u8 0, .int .u8 0, .int .u8 0, .int .u8 0, .int .u8 0], .int .u8 0, .slice none 0 0] 8 rfl (World.shaped_of_RefB (by kernel_rfl) (by kernel_rfl)) (by kernel_rfl) (by kernel_rfl) (by kernel_rfl) (bpx os _)) ?_
  intro W base args ds gs before hval0 hW hcnd hsz0 hL _
  have hgl := bo7 hL
  have hval : ∀ (j : Nat) t v, Tryd.f6.params[j]? = some t → args[j]? = some v → Value.okWide Tryd.prog W .any base t v := hval0
  have hW' := hW
  obtain ⟨p, q, hA0, hV, rfl, hfz, hnd⟩ := hW
  have hA : DataW.TrodAll enc Tryd.prog W 0 (fun _ => true) true Tryd.f6.params.toList args.toList ds p := hA0
  rw [params] at hA hval
  obtain ⟨v0, vs0, d0, ds0, p0, q0, hargs, rfl, rfl, h0, r0⟩ := trodAll_cons hA
  obtain ⟨v1, vs1, d1, ds1, p1, q1, rfl, rfl, rfl, h1, r1⟩ := trodAll_cons r0
  obtain ⟨v2, vs2, d2, ds2, p2, q2, rfl, rfl, rfl, h2, r2⟩ := trodAll_cons r1
  obtain ⟨v3, vs3, d3, ds3, p3, q3, rfl, rfl, rfl, h3, r3⟩ := trodAll_cons r2
  obtain ⟨v4, vs4, d4, ds4, p4, q4, rfl, rfl, rfl, h4, r4⟩ := trodAll_cons r3
  obtain ⟨v5, vs5, d5, ds5, p5, q5, rfl, rfl, rfl, h5, r5⟩ := trodAll_cons r4
  obtain ⟨rfl, rfl, rfl⟩ := trodAll_nil r5
  obtain rfl : args = #[v0, v1, v2, v3, v4, v5] := by cases args; simp_all
  obtain ⟨rfl, rfl⟩ := trodVars_none hV
  have lt0 := aej h0
  have k0 := h0
  obtain ⟨x0, rfl, rfl, rfl, wx0⟩ := open_int u5 (hval 0 5 v0 rfl rfl) h0
  have s0 : cu (qb (ba8 W)) W (.v (.int .u8 x0)) (.int .u8 x0) := by simp only [cu]
  have lt1 := aej h1
  have k1 := h1
  obtain ⟨x1, rfl, rfl, rfl, wx1⟩ := open_int u5 (hval 1 5 v1 rfl rfl) h1
  have s1 : cu (qb (ba8 W)) W (.v (.int .u8 x1)) (.int .u8 x1) := by simp only [cu]
  have lt2 := aej h2
  have k2 := h2
  have z2 : ∀ n, n ∈ d2.weights Tryd.prog 46 → n ≤ reachBytes := fun n hn => by simpa using List.all_eq_true.1 hsz0 _ (DataW.weights_mem_each (j := 2) (t := 46) (d := d2) (by rw [show Tryd.f6.params = _ from params]; rfl) rfl n hn)
  obtain ⟨l2, G2, s2⟩ := bjc 9 g46 a46 (hval 2 46 v2 rfl rfl) h2 (z2)
  rw [e46] at G2
  obtain ⟨x2, rfl, nx2, wx2⟩ := G2
  have lt3 := aej h3
  have k3 := h3
  have z3 : ∀ n, n ∈ d3.weights Tryd.prog 47 → n ≤ reachBytes := fun n hn => by simpa using List.all_eq_true.1 hsz0 _ (DataW.weights_mem_each (j := 3) (t := 47) (d := d3) (by rw [show Tryd.f6.params = _ from params]; rfl) rfl n hn)
  obtain ⟨l3, G3, s3⟩ := bjc 9 g47 a47 (hval 3 47 v3 rfl rfl) h3 (z3)
  rw [e47] at G3
  obtain ⟨x3, rfl, nx3, wx3⟩ := G3
  have lt4 := aej h4
  have k4 := h4
  obtain ⟨x4, rfl, rfl, rfl, wx4⟩ := open_int u5 (hval 4 5 v4 rfl rfl) h4
  have s4 : cu (qb (ba8 W)) W (.v (.int .u8 x4)) (.int .u8 x4) := by simp only [cu]
  have lt5 := aej h5
  have k5 := h5
  have z5 : ∀ n, n ∈ d5.weights Tryd.prog 23 → n ≤ reachBytes := fun n hn => by simpa using List.all_eq_true.1 hsz0 _ (DataW.weights_mem_each (j := 5) (t := 23) (d := d5) (by rw [show Tryd.f6.params = _ from params]; rfl) rfl n hn)
  obtain ⟨l5, G5, s5⟩ := bj5 8 g23 u23 (hval 5 23 v5 rfl rfl) h5 (z5)
  rw [e23] at G5
  obtain ⟨x5, hl5, nx5, wx5⟩ := G5
  cases hl5
  clear hA0 hval0 hsz0
  have hs : ∀ K, za.spec [.v (.int .u8 x0), .v (.int .u8 x1), .arr .u8 16 x2, .arr .u8 32 x3, .v (.int .u8 x4), .sl (.ints .u8 x5)] K = P.za x0 x1 x2 x3 x4 x5 (fun r0 => K (.v (.bool r0))) := by intro K; kernel_rfl
  obtain ⟨a, hK, hrun⟩ := za.ok.sound [.v (.int .u8 x0), .v (.int .u8 x1), .arr .u8 16 x2, .arr .u8 32 x3, .v (.int .u8 x4), .sl (.ints .u8 x5)] (fun v => match v with | .v (.bool true) => some (.v (.bool true)) | _ => none) (.v (.bool true)) (by
    rw [hs, Q.HssRight x0 x1 x2 x3 x4 x5 wx0 wx1 nx2 wx2 nx3 wx3 wx4 nx5 wx5])
  have ha : a = .v (.bool true) := by
    split at hK
    · rfl
    · cases hK
  subst ha
  refine (hrun (ba8 W) W [_, _, _, _, _, _] (fun _ h => h) hgl ?_).mono fun e W' he => ?_
  · simp only [jg]
    exact ⟨_, _, rfl, s0, ⟨_, _, rfl, s1, ⟨_, _, rfl, s2, ⟨_, _, rfl, s3, ⟨_, _, rfl, s4, ⟨_, _, rfl, s5, rfl⟩⟩⟩⟩⟩⟩
  obtain ⟨v, Sn, bs, rfl, bel, _, hv, _⟩ := he
  simp only [wu, cu] at hv
  obtain ⟨rfl, _⟩ := hv
  exact ⟨_, rfl, _, _, _, [], _, [], hW', trodAll_mk1 (shut_bool b4r _), trodAll_cons_mk (Below.trod laidOut (by kernel_rfl) (of_decide_eq_true (by kernel_rfl)) k0 bel lt0) (trodAll_cons_mk (Below.trod laidOut (by kernel_rfl) (of_decide_eq_true (by kernel_rfl)) k1 bel lt1) (trodAll_cons_mk (Below.trod laidOut (by kernel_rfl) (of_decide_eq_true (by kernel_rfl)) k2 bel lt2) (trodAll_cons_mk (Below.trod laidOut (by kernel_rfl) (of_decide_eq_true (by kernel_rfl)) k3 bel lt3) (trodAll_cons_mk (Below.trod laidOut (by kernel_rfl) (of_decide_eq_true (by kernel_rfl)) k4 bel lt4) (trodAll_cons_mk (Below.trod laidOut (by kernel_rfl) (of_decide_eq_true (by kernel_rfl)) k5 bel lt5) (trodAll_mk0)))))), rfl, bel.frame _, fun h => by cases h⟩
theorem over : Rows.hssRightRow.holds Tryd.pinned (OpenSpec.ofChange Rows.hssRightSpec) :=
  OpenClaim.holds_of_wide 6 Tryd.f6 rfl rfl rfl rfl rfl rfl rfl ⟨rfl, rfl, rfl, rfl, rfl⟩ rfl rfl rfl rfl rfl (by kernel_rfl) func (by kernel_rfl)
    (of_decide_eq_true (by kernel_rfl)) (by unfold Func.isWrapper; first | (rw [if_pos (by decide +kernel)]; kernel_rfl) | (rw [if_neg (by decide +kernel)]; exact ⟨rfl, rfl⟩))
    (fun os started H enc _ => lifted os started H enc)
theorem proved : Rows.HssRightCardSaid :=
  Claim7.holds_tied_plain_at .later [] [.data, .data] true (true, "b9f1601316105e3d7750e3697d9bcdb6c5faebabbb02a4b1ceeb4c0d302d3980") false
    over (fun _ h => by cases h) (by kernel_rfl) (fun _ h => by cases h) hssRight_row_tie rfl ⟨rfl, rfl⟩ (by kernel_rfl) rfl
    (fun f fn hf hfn => by
      obtain rfl : f = 6 := Option.some.inj ((show Tryd.prog.funcNamed "apostille/apostillelaw16.HssRight" = some 6 by kernel_rfl).symm.trans hf) |>.symm
      obtain rfl : fn = Tryd.f6 := (Option.some.inj (func.symm.trans hfn)).symm
      exact ⟨by kernel_rfl, fun j t ht => by
        rw [params] at ht
        have hm : t ∈ [5, 5, 46, 47, 5, 23] := by simpa using Array.mem_of_getElem? ht
        have hall : ([5, 5, 46, 47, 5, 23].all fun u => !Tryd.prog.wantsStandIn u) = true := by kernel_rfl
        exact (show Tryd.prog.wantsStandIn t = false by simpa using List.all_eq_true.1 hall t hm)⟩)
    (by kernel_rfl)
end Go.Proofs.YtmipokjdajiimaaDoor.hssRight
