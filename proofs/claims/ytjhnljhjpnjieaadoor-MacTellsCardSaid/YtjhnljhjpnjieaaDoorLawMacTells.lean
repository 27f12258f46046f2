/-
  MacTells: for every input the law returns true, and each argument reads behind the call as it read before. No condition.
-/
import Derived.Test.YtjhnljhjpnjieaaDoorMacTellsM
import Derived.Test.YtjhnljhjpnjieaaDoorMacTellsP
import Derived.Test.YtjhnljhjpnjieaaDoorMacTellsN
import Derived.Test.YtjhnljhjpnjieaaDoorMacTellsQ
import Derived.Test.YtjhnljhjpnjieaaDoorMacTellsG
import Derived.Test.YtjhnljhjpnjieaaDoorTie
import Derived.Test.YtjhnljhjpnjieaaDoorCards
import Derived.SevenTiedAt
import Derived.LaidMore
import Derived.Stop.Joined
import Derived.LaidLaws
import Derived.Test.YtjhnljhjpnjieaaDoorRows
import Derived.WalkKit
import Derived.ProofKit
import Derived.OpenShut
import Derived.ShutString
import Derived.ChangeOld
import Derived.SizedLaws
namespace Go.Proofs.YtjhnljhjpnjieaaDoor.macTells
open Go.ChangeShapes Go.WideShapes Go.ChangeAt Go.RowKit Go.Abs
set_option linter.unusedVariables false
theorem own : ownKnob Tryd.prog.godebug = none := by kernel_rfl
theorem laidOut : laidOutB Tryd.prog = true := by kernel_rfl
theorem func : Tryd.prog.funcs[3]? = some Tryd.f3 := by kernel_rfl
theorem params : Tryd.f3.params = #[3, 22, 22] := by kernel_rfl
theorem uBool : Tryd.prog.underlying 4 = some .bool := by kernel_rfl
theorem u3 : Tryd.prog.underlying 3 = some (.int .i64) := by kernel_rfl
theorem u22 : Tryd.prog.underlying 22 = some (.slice 5) := by kernel_rfl
theorem g22 : goodT Tryd.prog 9 22 = true := by kernel_rfl
theorem e22 (l : List AVal) : Go.Abs.Good Tryd.prog 9 22 l = (∃ xs, l = [.sl (.ints .u8 xs)] ∧ xs.length ≤ 140737488355328 ∧ ∀ x, x ∈ xs → wfI .u8 x) := by kernel_rfl
def laid : List (String × DataW Unit) := Rows.macTellsRow.laid
theorem door_met (os : Os) (args : Array Value) : laidMetH Tryd.prog laid ((World.doorLaid Tryd.prog 60 os).forCall (fun _ _ => 0) ⟨#[], args, []⟩).memory :=
  laidMetH_of_parts3 (fuel := 8) (laidMet_of_run' 8 (by kernel_rfl) (by kernel_rfl)) (by kernel_rfl) (by kernel_rfl)
theorem globs_of {W : World} (h : laidMetH Tryd.prog laid W) : GlobsOk GLO.gC (allB W) W := by
  rw [MakeChecks.laidMetH_plain _ _ _ (by kernel_rfl)] at h
  obtain ⟨ps, hV, _⟩ := h
  obtain ⟨g0, q0, hV0⟩ := laid_cons (l := P.kcon) (n := 24) (k := .u64) (t := 173) (e := 44) (g := 1) hV (by kernel_rfl) (by kernel_rfl) (by kernel_rfl) (by kernel_rfl) (by kernel_rfl) (by kernel_rfl) (by kernel_rfl) (by kernel_rfl)
  obtain ⟨g1, q1, hV1⟩ := laid_cons (l := P.kpla) (n := 24) (k := .i64) (t := 191) (e := 3) (g := 4) hV0 (by kernel_rfl) (by kernel_rfl) (by kernel_rfl) (by kernel_rfl) (by kernel_rfl) (by kernel_rfl) (by kernel_rfl) (by kernel_rfl)
  obtain ⟨g2, q2, hV2⟩ := laid_cons (l := P.ktur) (n := 24) (k := .i64) (t := 191) (e := 3) (g := 5) hV1 (by kernel_rfl) (by kernel_rfl) (by kernel_rfl) (by kernel_rfl) (by kernel_rfl) (by kernel_rfl) (by kernel_rfl) (by kernel_rfl)
  obtain ⟨g3, q3, hV3⟩ := laid_cons (l := P.roots256) (n := 64) (k := .u32) (t := 186) (e := 77) (g := 2) hV2 (by kernel_rfl) (by kernel_rfl) (by kernel_rfl) (by kernel_rfl) (by kernel_rfl) (by kernel_rfl) (by kernel_rfl) (by kernel_rfl)
  obtain ⟨g4, q4, hV4⟩ := laid_cons (l := P.roots512) (n := 80) (k := .u64) (t := 178) (e := 44) (g := 3) hV3 (by kernel_rfl) (by kernel_rfl) (by kernel_rfl) (by kernel_rfl) (by kernel_rfl) (by kernel_rfl) (by kernel_rfl) (by kernel_rfl)
  obtain ⟨g5, q5, hV5⟩ := laid_cons2 (ls := [[0, 0], [32, 64], [48, 128], [64, 128], [32, 136], [64, 72], [32, 168], [64, 136]]) (n := 8) (m := 2) (k := .i64) (t := 71) (e := 70) (f := 3) (g := 0) hV4 (by kernel_rfl) (by kernel_rfl) (by kernel_rfl) (by kernel_rfl) (by kernel_rfl) (by kernel_rfl) (by kernel_rfl) (by kernel_rfl) (by kernel_rfl) (by kernel_rfl) (by kernel_rfl)
  exact globsOk_cons g5 (globsOk_cons g0 (globsOk_cons g3 (globsOk_cons g4 (globsOk_cons g1 (globsOk_cons g2 (globsOk_nil _ _))))))
set_option maxRecDepth 100000 in
theorem lifted (os : Os) (started : os.Started) (H : Type) (enc : TypeId × Value → H) :
    ReturnsInHanded {} Tryd.checked os 3 .any (fun w args => (Rows.macTellsSpec.pre enc Tryd.prog Tryd.f3 [] false w args ∧ laidMetH Tryd.prog laid w) ∧ sizedMet enc Tryd.prog Tryd.f3 (OpenSpec.ofChange Rows.macTellsSpec) false w args)
      (Rows.macTellsSpec.post enc Tryd.prog Tryd.f3 false true false false) := by
  refine returnsInHanded_of_change_and (C := Tryd.checked) (X := fun w _ => laidMetH Tryd.prog laid w) (fun _ _ _ hh h => h.of_heap hh) own started (by kernel_rfl) func
    (ChangeSpec.witness_shaped (enc := enc) (C := Tryd.checked) (os := os) (X := fun w _ => laidMetH Tryd.prog laid w) false (World.doorLaid Tryd.prog 60 os) #[.int .i64 0, .slice none 0 0, .slice none 0 0] 8 rfl (World.shaped_of_RefB (by kernel_rfl) (by kernel_rfl)) (by kernel_rfl) (by kernel_rfl) (by kernel_rfl) (door_met os _)) ?_
  intro W base args ds gs before hval0 hW hcnd hsz0 hL _
  have hgl := globs_of hL
  have hval : ∀ (j : Nat) t v, Tryd.f3.params[j]? = some t → args[j]? = some v → Value.okWide Tryd.prog W .any base t v := hval0
  have hW' := hW
  obtain ⟨p, q, hA0, hV, rfl, hfz, hnd⟩ := hW
  have hA : DataW.TrodAll enc Tryd.prog W 0 (fun _ => true) true Tryd.f3.params.toList args.toList ds p := hA0
  rw [params] at hA hval
  obtain ⟨v0, vs0, d0, ds0, p0, q0, hargs, rfl, rfl, h0, r0⟩ := trodAll_cons hA
  obtain ⟨v1, vs1, d1, ds1, p1, q1, rfl, rfl, rfl, h1, r1⟩ := trodAll_cons r0
  obtain ⟨v2, vs2, d2, ds2, p2, q2, rfl, rfl, rfl, h2, r2⟩ := trodAll_cons r1
  obtain ⟨rfl, rfl, rfl⟩ := trodAll_nil r2
  obtain rfl : args = #[v0, v1, v2] := by cases args; simp_all
  obtain ⟨rfl, rfl⟩ := trodVars_none hV
  have lt0 := trod_blocks h0
  have k0 := h0
  obtain ⟨x0, rfl, rfl, rfl, wx0⟩ := open_int u3 (hval 0 3 v0 rfl rfl) h0
  have s0 : RelV (noEnv (allB W)) W (.v (.int .i64 x0)) (.int .i64 x0) := by simp only [RelV]
  have lt1 := trod_blocks h1
  have k1 := h1
  have z1 : ∀ n, n ∈ d1.weights Tryd.prog 22 → n ≤ reachBytes := fun n hn => by simpa using List.all_eq_true.1 hsz0 _ (DataW.weights_mem_each (j := 1) (t := 22) (d := d1) (by rw [show Tryd.f3.params = _ from params]; rfl) rfl n hn)
  obtain ⟨l1, G1, s1⟩ := read_slice 8 g22 u22 (hval 1 22 v1 rfl rfl) h1 (z1)
  rw [e22] at G1
  obtain ⟨x1, hl1, nx1, wx1⟩ := G1
  cases hl1
  have lt2 := trod_blocks h2
  have k2 := h2
  have z2 : ∀ n, n ∈ d2.weights Tryd.prog 22 → n ≤ reachBytes := fun n hn => by simpa using List.all_eq_true.1 hsz0 _ (DataW.weights_mem_each (j := 2) (t := 22) (d := d2) (by rw [show Tryd.f3.params = _ from params]; rfl) rfl n hn)
  obtain ⟨l2, G2, s2⟩ := read_slice 8 g22 u22 (hval 2 22 v2 rfl rfl) h2 (z2)
  rw [e22] at G2
  obtain ⟨x2, hl2, nx2, wx2⟩ := G2
  cases hl2
  clear hA0 hval0 hsz0
  have hs : ∀ K, L09_MacTells.spec [.v (.int .i64 x0), .sl (.ints .u8 x1), .sl (.ints .u8 x2)] K = P.L09_MacTells x0 x1 x2 (fun r0 => K (.v (.bool r0))) := by intro K; kernel_rfl
  obtain ⟨a, hK, hrun⟩ := L09_MacTells.ok.sound [.v (.int .i64 x0), .sl (.ints .u8 x1), .sl (.ints .u8 x2)] (fun v => match v with | .v (.bool true) => some (.v (.bool true)) | _ => none) (.v (.bool true)) (by
    rw [hs, Q.MacTells x0 x1 x2 wx0 nx1 wx1 nx2 wx2])
  have ha : a = .v (.bool true) := by
    split at hK
    · rfl
    · cases hK
  subst ha
  refine (hrun (allB W) W [_, _, _] (fun _ h => h) hgl ?_).mono fun e W' he => ?_
  · simp only [RelVs]
    exact ⟨_, _, rfl, s0, ⟨_, _, rfl, s1, ⟨_, _, rfl, s2, rfl⟩⟩⟩
  obtain ⟨v, Sn, bs, rfl, bel, _, hv, _⟩ := he
  simp only [RelX, RelV] at hv
  obtain ⟨rfl, _⟩ := hv
  exact ⟨_, rfl, _, _, _, [], _, [], hW', trodAll_mk1 (shut_bool uBool _), trodAll_cons_mk (Below.trod laidOut (by kernel_rfl) (of_decide_eq_true (by kernel_rfl)) k0 bel lt0) (trodAll_cons_mk (Below.trod laidOut (by kernel_rfl) (of_decide_eq_true (by kernel_rfl)) k1 bel lt1) (trodAll_cons_mk (Below.trod laidOut (by kernel_rfl) (of_decide_eq_true (by kernel_rfl)) k2 bel lt2) (trodAll_mk0))), rfl, bel.frame _, fun h => by cases h⟩
theorem over : Rows.macTellsRow.holds Tryd.pinned (OpenSpec.ofChange Rows.macTellsSpec) :=
  OpenClaim.holds_of_wide 3 Tryd.f3 rfl rfl rfl rfl rfl rfl rfl ⟨rfl, rfl, rfl, rfl, rfl⟩ rfl rfl rfl rfl rfl (by kernel_rfl) func (by kernel_rfl)
    (of_decide_eq_true (by kernel_rfl)) (by unfold Func.isWrapper; first | (rw [if_pos (by decide +kernel)]; kernel_rfl) | (rw [if_neg (by decide +kernel)]; exact ⟨rfl, rfl⟩))
    (fun os started H enc _ => lifted os started H enc)
theorem proved : Rows.MacTellsCardSaid :=
  Claim7.holds_tied_plain_at .later [] [.data, .data, .data, .data, .data, .data] true (true, "d0402cb894078d5edbd9f61593cb55ea83faee7bbe0ecf6a9ddf87be153d093c") false
    over (fun _ h => by cases h) (by kernel_rfl) (fun _ h => by cases h) macTells_row_tie rfl ⟨rfl, rfl⟩ (by kernel_rfl) rfl
    (fun f fn hf hfn => by
      obtain rfl : f = 3 := Option.some.inj ((show Tryd.prog.funcNamed "apostille/apostillelaw09.MacTells" = some 3 by kernel_rfl).symm.trans hf) |>.symm
      obtain rfl : fn = Tryd.f3 := (Option.some.inj (func.symm.trans hfn)).symm
      exact ⟨by kernel_rfl, fun j t ht => by
        rw [params] at ht
        have hm : t ∈ [3, 22, 22] := by simpa using Array.mem_of_getElem? ht
        have hall : ([3, 22, 22].all fun u => !Tryd.prog.wantsStandIn u) = true := by kernel_rfl
        exact (show Tryd.prog.wantsStandIn t = false by simpa using List.all_eq_true.1 hall t hm)⟩)
    (by kernel_rfl)
end Go.Proofs.YtjhnljhjpnjieaaDoor.macTells
