/-
  ShaFills: for every input the law returns true, and each argument reads behind the call as it read before. No condition.
-/
import Derived.Test.YtknjpkgnideplaaDoorShaFillsK
import Derived.Test.YtknjpkgnideplaaDoorShaFillsP
import Derived.Test.YtknjpkgnideplaaDoorShaFillsL
import Derived.Test.YtknjpkgnideplaaDoorShaFillsQ
import Derived.Test.YtknjpkgnideplaaDoorShaFillsG
import Derived.Test.YtknjpkgnideplaaDoorTie
import Derived.Test.YtknjpkgnideplaaDoorCards
import Derived.SevenTiedAt
import Derived.LaidMore
import Derived.Stop.Joined
import Derived.LaidLaws
import Derived.Test.YtknjpkgnideplaaDoorRows
import Derived.WalkKit
import Derived.ProofKit
import Derived.OpenShut
import Derived.ShutString
import Derived.ChangeOld
import Derived.SizedLaws
namespace Go.Proofs.YtknjpkgnideplaaDoor.shaFills
open Go.ChangeShapes Go.WideShapes Go.ChangeAt Go.RowKit Go.Abs
set_option linter.unusedVariables false
theorem own : ownKnob Tryd.prog.godebug = none := by kernel_rfl
theorem laidOut : laidOutB Tryd.prog = true := by kernel_rfl
theorem func : Tryd.prog.funcs[4]? = some Tryd.f4 := by kernel_rfl
theorem params : Tryd.f4.params = #[24] := by kernel_rfl
theorem uBool : Tryd.prog.underlying 4 = some .bool := by kernel_rfl
theorem u24 : Tryd.prog.underlying 24 = some (.slice 5) := by kernel_rfl
theorem g24 : goodT Tryd.prog 9 24 = true := by kernel_rfl
theorem e24 (l : List AVal) : Go.Abs.Good Tryd.prog 9 24 l = (∃ xs, l = [.sl (.ints .u8 xs)] ∧ xs.length ≤ 140737488355328 ∧ ∀ x, x ∈ xs → wfI .u8 x) := by kernel_rfl
def laid : List (String × DataW Unit) := Rows.shaFillsRow.laid
theorem door_met (os : Os) (args : Array Value) : laidMetH Tryd.prog laid ((World.doorLaid Tryd.prog 19 os).forCall (fun _ _ => 0) ⟨#[], args, []⟩).memory :=
  laidMetH_of_parts3 (fuel := 8) (laidMet_of_run' 8 (by kernel_rfl) (by kernel_rfl)) (by kernel_rfl) (by kernel_rfl)
theorem globs_of {W : World} (h : laidMetH Tryd.prog laid W) : GlobsOk [(0, [.arr .u32 64 P.roots256]), (1, [.arr .u64 80 P.roots512])] (allB W) W := by
  rw [MakeChecks.laidMetH_plain _ _ _ (by kernel_rfl)] at h
  obtain ⟨ps, hV, _⟩ := h
  obtain ⟨g0, q0, hV0⟩ := laid_cons (l := P.roots256) (n := 64) (k := .u32) (t := 177) (e := 71) (g := 0) hV (by kernel_rfl) (by kernel_rfl) (by kernel_rfl) (by kernel_rfl) (by kernel_rfl) (by kernel_rfl) (by kernel_rfl) (by kernel_rfl)
  obtain ⟨g1, q1, hV1⟩ := laid_cons (l := P.roots512) (n := 80) (k := .u64) (t := 163) (e := 22) (g := 1) hV0 (by kernel_rfl) (by kernel_rfl) (by kernel_rfl) (by kernel_rfl) (by kernel_rfl) (by kernel_rfl) (by kernel_rfl) (by kernel_rfl)
  exact globsOk_cons g0 (globsOk_cons g1 (globsOk_nil _ _))
set_option maxRecDepth 100000 in
theorem lifted (os : Os) (started : os.Started) (H : Type) (enc : TypeId × Value → H) :
    ReturnsInHanded {} Tryd.checked os 4 .any (fun w args => (Rows.shaFillsSpec.pre enc Tryd.prog Tryd.f4 [] false w args ∧ laidMetH Tryd.prog laid w) ∧ sizedMet enc Tryd.prog Tryd.f4 (OpenSpec.ofChange Rows.shaFillsSpec) false w args)
      (Rows.shaFillsSpec.post enc Tryd.prog Tryd.f4 false true false false) := by
  refine returnsInHanded_of_change_and (C := Tryd.checked) (X := fun w _ => laidMetH Tryd.prog laid w) (fun _ _ _ hh h => h.of_heap hh) own started (by kernel_rfl) func
    (ChangeSpec.witness_shaped (enc := enc) (C := Tryd.checked) (os := os) (X := fun w _ => laidMetH Tryd.prog laid w) false (World.doorLaid Tryd.prog 19 os) #[.slice none 0 0] 8 rfl (World.shaped_of_RefB (by kernel_rfl) (by kernel_rfl)) (by kernel_rfl) (by kernel_rfl) (by kernel_rfl) (door_met os _)) ?_
  intro W base args ds gs before hval0 hW hcnd hsz0 hL _
  have hgl := globs_of hL
  have hval : ∀ (j : Nat) t v, Tryd.f4.params[j]? = some t → args[j]? = some v → Value.okWide Tryd.prog W .any base t v := hval0
  have hW' := hW
  obtain ⟨p, q, hA0, hV, rfl, hfz, hnd⟩ := hW
  have hA : DataW.TrodAll enc Tryd.prog W 0 (fun _ => true) true Tryd.f4.params.toList args.toList ds p := hA0
  rw [params] at hA hval
  obtain ⟨v0, vs0, d0, ds0, p0, q0, hargs, rfl, rfl, h0, r0⟩ := trodAll_cons hA
  obtain ⟨rfl, rfl, rfl⟩ := trodAll_nil r0
  obtain rfl : args = #[v0] := by cases args; simp_all
  obtain ⟨rfl, rfl⟩ := trodVars_none hV
  have lt0 := trod_blocks h0
  have k0 := h0
  have z0 : ∀ n, n ∈ d0.weights Tryd.prog 24 → n ≤ reachBytes := fun n hn => by simpa using List.all_eq_true.1 hsz0 _ (DataW.weights_mem_each (j := 0) (t := 24) (d := d0) (by rw [show Tryd.f4.params = _ from params]; rfl) rfl n hn)
  obtain ⟨l0, G0, s0⟩ := read_slice 8 g24 u24 (hval 0 24 v0 rfl rfl) h0 (z0)
  rw [e24] at G0
  obtain ⟨x0, hl0, nx0, wx0⟩ := G0
  cases hl0
  clear hA0 hval0 hsz0
  have hs : ∀ K, L07_ShaFills.spec [.sl (.ints .u8 x0)] K = P.L07_ShaFills x0 (fun r0 => K (.v (.bool r0))) := by intro K; kernel_rfl
  obtain ⟨a, hK, hrun⟩ := L07_ShaFills.ok.sound [.sl (.ints .u8 x0)] (fun v => match v with | .v (.bool true) => some (.v (.bool true)) | _ => none) (.v (.bool true)) (by
    rw [hs, Q.ShaFills x0 nx0 wx0])
  have ha : a = .v (.bool true) := by
    split at hK
    · rfl
    · cases hK
  subst ha
  refine (hrun (allB W) W [_] (fun _ h => h) hgl ?_).mono fun e W' he => ?_
  · simp only [RelVs]
    exact ⟨_, _, rfl, s0, rfl⟩
  obtain ⟨v, Sn, bs, rfl, bel, _, hv, _⟩ := he
  simp only [RelX, RelV] at hv
  obtain ⟨rfl, _⟩ := hv
  exact ⟨_, rfl, _, _, _, [], _, [], hW', trodAll_mk1 (shut_bool uBool _), trodAll_cons_mk (Below.trod laidOut (by kernel_rfl) (of_decide_eq_true (by kernel_rfl)) k0 bel lt0) (trodAll_mk0), rfl, bel.frame _, fun h => by cases h⟩
theorem over : Rows.shaFillsRow.holds Tryd.pinned (OpenSpec.ofChange Rows.shaFillsSpec) :=
  OpenClaim.holds_of_wide 4 Tryd.f4 rfl rfl rfl rfl rfl rfl rfl ⟨rfl, rfl, rfl, rfl, rfl⟩ rfl rfl rfl rfl rfl (by kernel_rfl) func (by kernel_rfl)
    (of_decide_eq_true (by kernel_rfl)) (by unfold Func.isWrapper; first | (rw [if_pos (by decide +kernel)]; kernel_rfl) | (rw [if_neg (by decide +kernel)]; exact ⟨rfl, rfl⟩))
    (fun os started H enc _ => lifted os started H enc)
theorem proved : Rows.ShaFillsCardSaid :=
  Claim7.holds_tied_plain_at .later [] [.data, .data] true (true, "75743f0b73b4e7e28c5c2ad66f06eb873a2866bbc87d64bbce2c89560b6d2ebe") false
    over (fun _ h => by cases h) (by kernel_rfl) (fun _ h => by cases h) shaFills_row_tie rfl ⟨rfl, rfl⟩ (by kernel_rfl) rfl
    (fun f fn hf hfn => by
      obtain rfl : f = 4 := Option.some.inj ((show Tryd.prog.funcNamed "apostille/apostillelaw07.ShaFills" = some 4 by kernel_rfl).symm.trans hf) |>.symm
      obtain rfl : fn = Tryd.f4 := (Option.some.inj (func.symm.trans hfn)).symm
      exact ⟨by kernel_rfl, fun j t ht => by
        rw [params] at ht
        have hm : t ∈ [24] := by simpa using Array.mem_of_getElem? ht
        have hall : ([24].all fun u => !Tryd.prog.wantsStandIn u) = true := by kernel_rfl
        exact (show Tryd.prog.wantsStandIn t = false by simpa using List.all_eq_true.1 hall t hm)⟩)
    (by kernel_rfl)
end Go.Proofs.YtknjpkgnideplaaDoor.shaFills
