/-
  HssVerifies: for every input the law returns true, and each argument reads behind the call as it read before. No condition.
-/
import Derived.Test.YtmipokjdajiimaaDoorHssVerifiesR
import Derived.Test.YtmipokjdajiimaaDoorHssVerifiesU
import Derived.Test.YtmipokjdajiimaaDoorHssVerifiesH
import Derived.Test.YtmipokjdajiimaaDoorHssVerifiesJ
import Derived.Test.YtmipokjdajiimaaDoorTie
import Derived.Test.YtmipokjdajiimaaDoorCards
import Derived.SevenTiedAt
import Derived.LaidMore
import Derived.Stop.Joined
import Derived.LaidLaws
import Derived.Test.YtmipokjdajiimaaDoorRows
import Derived.WalkKit
import Derived.ProofKit
import Derived.OpenShut
import Derived.ShutString
import Derived.ChangeOld
import Derived.SizedLaws
namespace Go.Proofs.YtmipokjdajiimaaDoor.hssVerifies
open Go.ChangeShapes Go.WideShapes Go.ChangeAt Go.RowKit Go.Abs
set_option linter.unusedVariables false
theorem own : ownKnob Tryd.prog.godebug = none := by kernel_rfl
theorem laidOut : laidOutB Tryd.prog = true := by kernel_rfl
theorem func : Tryd.prog.funcs[4]? = some Tryd.f4 := by kernel_rfl
theorem params : Tryd.f4.params = #[23, 23, 23] := by kernel_rfl
theorem bxk : Tryd.prog.underlying 4 = some .bool := by kernel_rfl
theorem u23 : Tryd.prog.underlying 23 = some (.slice 5) := by kernel_rfl
theorem g23 : bbn Tryd.prog 9 23 = true := by kernel_rfl
theorem e23 (l : List AVal) : Go.Abs.Good Tryd.prog 9 23 l = (∃ xs, l = [.sl (.ints .u8 xs)] ∧ xs.length ≤ 140737488355328 ∧ ∀ x, x ∈ xs → wfI .u8 x) := by kernel_rfl
def laid : List (String × DataW Unit) := Rows.hssVerifiesRow.laid
theorem bj0 (os : Os) (args : Array Value) : laidMetH Tryd.prog laid ((World.doorLaid Tryd.prog 60 os).forCall (fun _ _ => 0) ⟨#[], args, []⟩).memory :=
  laidMetH_of_parts3 (fuel := 8) (laidMet_of_run' 8 (by kernel_rfl) (by kernel_rfl)) (by kernel_rfl) (by kernel_rfl)
theorem bkh {W : World} (h : laidMetH Tryd.prog laid W) : ajw GLO.gB (bcd W) W := by
  rw [MakeChecks.laidMetH_plain _ _ _ (by kernel_rfl)] at h
  obtain ⟨ps, hV, _⟩ := h
  obtain ⟨g0, q0, hV0⟩ := az9 (l := P.roots256) (n := 64) (k := .u32) (t := 158) (e := 42) (g := 0) hV (by kernel_rfl) (by kernel_rfl) (by kernel_rfl) (by kernel_rfl) (by kernel_rfl) (by kernel_rfl) (by kernel_rfl) (by kernel_rfl)
  obtain ⟨g1, q1, hV1⟩ := az9 (l := P.roots512) (n := 80) (k := .u64) (t := 162) (e := 26) (g := 1) hV0 (by kernel_rfl) (by kernel_rfl) (by kernel_rfl) (by kernel_rfl) (by kernel_rfl) (by kernel_rfl) (by kernel_rfl) (by kernel_rfl)
  exact apt g0 (apt g1 (bbr _ _))
set_option maxRecDepth 100000 in
theorem lifted (os : Os) (started : os.Started) (H : Type) (enc : TypeId × Value → H) :
    ReturnsInHanded {} Tryd.checked os 4 .any (fun w args => (Rows.hssVerifiesSpec.pre enc Tryd.prog Tryd.f4 [] false w args ∧ laidMetH Tryd.prog laid w) ∧ sizedMet enc Tryd.prog Tryd.f4 (OpenSpec.ofChange Rows.hssVerifiesSpec) false w args)
      (Rows.hssVerifiesSpec.post enc Tryd.prog Tryd.f4 false true false false) := by
  refine returnsInHanded_of_change_and (C := Tryd.checked) (X := fun w _ => laidMetH Tryd.prog laid w) (fun _ _ _ hh h => h.of_heap hh) own started (by kernel_rfl) func
    (ChangeSpec.witness_shaped (enc := enc) (C := Tryd.checked) (os := os) (X := fun w _ => laidMetH Tryd.prog laid w) false (World.doorLaid Tryd.prog 60 os) #[.slice none 0 0, .slice none 0 0, .slice none 0 0] 8 rfl (World.shaped_of_RefB (by kernel_rfl) (by kernel_rfl)) (by kernel_rfl) (by kernel_rfl) (by kernel_rfl) (bj0 os _)) ?_
  intro W base args ds gs before hval0 hW hcnd hsz0 hL _
  have hgl := bkh hL
  have hval : ∀ (j : Nat) t v, Tryd.f4.params[j]? = some t → args[j]? = some v → Value.okWide Tryd.prog W .any base t v := hval0
  have hW' := hW
  obtain ⟨p, q, hA0, hV, rfl, hfz, hnd⟩ := hW
  have hA : DataW.TrodAll enc Tryd.prog W 0 (fun _ => true) true Tryd.f4.params.toList args.toList ds p := hA0
  rw [params] at hA hval
  obtain ⟨v0, vs0, d0, ds0, p0, q0, hargs, rfl, rfl, h0, r0⟩ := trodAll_cons hA
  obtain ⟨v1, vs1, d1, ds1, p1, q1, rfl, rfl, rfl, h1, r1⟩ := trodAll_cons r0
  obtain ⟨v2, vs2, d2, ds2, p2, q2, rfl, rfl, rfl, h2, r2⟩ := trodAll_cons r1
  obtain ⟨rfl, rfl, rfl⟩ := trodAll_nil r2
  obtain rfl : args = #[v0, v1, v2] := by cases args; simp_all
  obtain ⟨rfl, rfl⟩ := trodVars_none hV
  have lt0 := al6 h0
  have k0 := h0
  have z0 : ∀ n, n ∈ d0.weights Tryd.prog 23 → n ≤ reachBytes := fun n hn => by simpa using List.all_eq_true.1 hsz0 _ (DataW.weights_mem_each (j := 0) (t := 23) (d := d0) (by rw [show Tryd.f4.params = _ from params]; rfl) rfl n hn)
  obtain ⟨l0, G0, s0⟩ := apb 8 g23 u23 (hval 0 23 v0 rfl rfl) h0 (z0)
  rw [e23] at G0
  obtain ⟨x0, hl0, nx0, wx0⟩ := G0
  cases hl0
  have lt1 := al6 h1
  have k1 := h1
  have z1 : ∀ n, n ∈ d1.weights Tryd.prog 23 → n ≤ reachBytes := fun n hn => by simpa using List.all_eq_true.1 hsz0 _ (DataW.weights_mem_each (j := 1) (t := 23) (d := d1) (by rw [show Tryd.f4.params = _ from params]; rfl) rfl n hn)
  obtain ⟨l1, G1, s1⟩ := apb 8 g23 u23 (hval 1 23 v1 rfl rfl) h1 (z1)
  rw [e23] at G1
  obtain ⟨x1, hl1, nx1, wx1⟩ := G1
  cases hl1
  have lt2 := al6 h2
  have k2 := h2
  have z2 : ∀ n, n ∈ d2.weights Tryd.prog 23 → n ≤ reachBytes := fun n hn => by simpa using List.all_eq_true.1 hsz0 _ (DataW.weights_mem_each (j := 2) (t := 23) (d := d2) (by rw [show Tryd.f4.params = _ from params]; rfl) rfl n hn)
  obtain ⟨l2, G2, s2⟩ := apb 8 g23 u23 (hval 2 23 v2 rfl rfl) h2 (z2)
  rw [e23] at G2
  obtain ⟨x2, hl2, nx2, wx2⟩ := G2
  cases hl2
  clear hA0 hval0 hsz0
  have hs : ∀ K, p8.spec [.sl (.ints .u8 x0), .sl (.ints .u8 x1), .sl (.ints .u8 x2)] K = P.p8 x0 x1 x2 (fun r0 => K (.v (.bool r0))) := by intro K; kernel_rfl
  obtain ⟨a, hK, hrun⟩ := p8.ok.sound [.sl (.ints .u8 x0), .sl (.ints .u8 x1), .sl (.ints .u8 x2)] (fun v => match v with | .v (.bool true) => some (.v (.bool true)) | _ => none) (.v (.bool true)) (by
    rw [hs, Q.HssVerifies x0 x1 x2 nx0 wx0 nx1 wx1 nx2 wx2])
  have ha : a = .v (.bool true) := by
    split at hK
    · rfl
    · cases hK
  subst ha
  refine (hrun (bcd W) W [_, _, _] (fun _ h => h) hgl ?_).mono fun e W' he => ?_
  · simp only [iw]
    exact ⟨_, _, rfl, s0, ⟨_, _, rfl, s1, ⟨_, _, rfl, s2, rfl⟩⟩⟩
  obtain ⟨v, Sn, bs, rfl, bel, _, hv, _⟩ := he
  simp only [uz, dn] at hv
  obtain ⟨rfl, _⟩ := hv
  exact ⟨_, rfl, _, _, _, [], _, [], hW', trodAll_mk1 (shut_bool bxk _), trodAll_cons_mk (Below.trod laidOut (by kernel_rfl) (of_decide_eq_true (by kernel_rfl)) k0 bel lt0) (trodAll_cons_mk (Below.trod laidOut (by kernel_rfl) (of_decide_eq_true (by kernel_rfl)) k1 bel lt1) (trodAll_cons_mk (Below.trod laidOut (by kernel_rfl) (of_decide_eq_true (by kernel_rfl)) k2 bel lt2) (trodAll_mk0))), rfl, bel.frame _, fun h => by cases h⟩
theorem over : Rows.hssVerifiesRow.holds Tryd.pinned (OpenSpec.ofChange Rows.hssVerifiesSpec) :=
  OpenClaim.holds_of_wide 4 Tryd.f4 rfl rfl rfl rfl rfl rfl rfl ⟨rfl, rfl, rfl, rfl, rfl⟩ rfl rfl rfl rfl rfl (by kernel_rfl) func (by kernel_rfl)
    (of_decide_eq_true (by kernel_rfl)) (by unfold Func.isWrapper; first | (rw [if_pos (by decide +kernel)]; kernel_rfl) | (rw [if_neg (by decide +kernel)]; exact ⟨rfl, rfl⟩))
    (fun os started H enc _ => lifted os started H enc)
theorem proved : Rows.HssVerifiesCardSaid :=
  Claim7.holds_tied_plain_at .later [] [.data, .data] true (true, "b9f1601316105e3d7750e3697d9bcdb6c5faebabbb02a4b1ceeb4c0d302d3980") false
    over (fun _ h => by cases h) (by kernel_rfl) (fun _ h => by cases h) hssVerifies_row_tie rfl ⟨rfl, rfl⟩ (by kernel_rfl) rfl
    (fun f fn hf hfn => by
      obtain rfl : f = 4 := Option.some.inj ((show Tryd.prog.funcNamed "apostille/apostillelaw16.HssVerifies" = some 4 by kernel_rfl).symm.trans hf) |>.symm
      obtain rfl : fn = Tryd.f4 := (Option.some.inj (func.symm.trans hfn)).symm
      exact ⟨by kernel_rfl, fun j t ht => by
        rw [params] at ht
        have hm : t ∈ [23, 23, 23] := by simpa using Array.mem_of_getElem? ht
        have hall : ([23, 23, 23].all fun u => !Tryd.prog.wantsStandIn u) = true := by kernel_rfl
        exact (show Tryd.prog.wantsStandIn t = false by simpa using List.all_eq_true.1 hall t hm)⟩)
    (by kernel_rfl)
end Go.Proofs.YtmipokjdajiimaaDoor.hssVerifies
