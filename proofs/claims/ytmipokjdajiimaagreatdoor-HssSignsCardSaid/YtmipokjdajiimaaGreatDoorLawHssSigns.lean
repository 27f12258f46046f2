/-
  HssSigns: for every input the law returns true, and each argument reads behind the call as it read before. No condition.
-/
import Derived.Test.YtmipokjdajiimaaGreatDoorHssSignsT
import Derived.Test.YtmipokjdajiimaaGreatDoorHssSignsW
import Derived.Test.YtmipokjdajiimaaGreatDoorHssSignsH
import Derived.Test.YtmipokjdajiimaaGreatDoorHssSignsJ
import Derived.Test.YtmipokjdajiimaaGreatDoorTie
import Derived.Test.YtmipokjdajiimaaGreatDoorCards
import Derived.SevenTiedAt
import Derived.LaidMore
import Derived.Stop.Joined
import Derived.LaidLaws
import Derived.Test.YtmipokjdajiimaaGreatDoorRows
import Derived.WalkKit
import Derived.ProofKit
import Derived.OpenShut
import Derived.ShutString
import Derived.ChangeOld
import Derived.SizedLaws
namespace Go.Proofs.YtmipokjdajiimaaGreatDoor.hssSigns
open Go.ChangeShapes Go.WideShapes Go.ChangeAt Go.RowKit Go.Abs
set_option linter.unusedVariables false
theorem own : ownKnob Tryz.prog.godebug = none := by kernel_rfl
theorem laidOut : laidOutB Tryz.prog = true := by kernel_rfl
theorem func : Tryz.prog.funcs[3]? = some Tryz.f3 := by kernel_rfl
theorem params : Tryz.f3.params = #[25, 26, 23] := by kernel_rfl
theorem b0u : Tryz.prog.underlying 4 = some .bool := by kernel_rfl
theorem g25 : bbq Tryz.prog 9 25 = true := by kernel_rfl
theorem a25 : ad2 Tryz.prog 25 = some true := by kernel_rfl
theorem e25 (l : List AVal) : Go.Abs.Good Tryz.prog 9 25 l = (∃ p1 q1, l = p1 ++ q1 ∧ (∃ n cs, p1 = [.sl (.cols n cs)] ∧ n ≤ 140737488355328 ∧ (∃ c0 r0, cs = c0 :: r0 ∧ (∃ xs, c0 = .ints .i64 xs ∧ xs.length = n ∧ ∀ x, x ∈ xs → wfI .i64 x) ∧ (∃ c1 r1, r0 = c1 :: r1 ∧ (∃ xs, c1 = .ints .i64 xs ∧ xs.length = n ∧ ∀ x, x ∈ xs → wfI .i64 x) ∧ (r1 = [])))) ∧ (∃ p2 q2, q1 = p2 ++ q2 ∧ (∃ xs, p2 = [.sl (.ints .u8 xs)] ∧ xs.length ≤ 140737488355328 ∧ ∀ x, x ∈ xs → wfI .u8 x) ∧ (∃ p3 q3, q2 = p3 ++ q3 ∧ (∃ xs, p3 = [.sl (.ints .u8 xs)] ∧ xs.length ≤ 140737488355328 ∧ ∀ x, x ∈ xs → wfI .u8 x) ∧ (q3 = [])))) := by kernel_rfl
theorem u26 : Tryz.prog.underlying 26 = some (.int .u64) := by kernel_rfl
theorem u23 : Tryz.prog.underlying 23 = some (.slice 5) := by kernel_rfl
theorem g23 : bbq Tryz.prog 9 23 = true := by kernel_rfl
theorem e23 (l : List AVal) : Go.Abs.Good Tryz.prog 9 23 l = (∃ xs, l = [.sl (.ints .u8 xs)] ∧ xs.length ≤ 140737488355328 ∧ ∀ x, x ∈ xs → wfI .u8 x) := by kernel_rfl
def laid : List (String × DataW Unit) := Rows.hssSignsRow.laid
theorem bou (os : Os) (args : Array Value) : laidMetH Tryz.prog laid ((World.doorLaid Tryz.prog 60 os).forCall (fun _ _ => 0) ⟨#[], args, []⟩).memory :=
  laidMetH_of_parts3 (fuel := 8) (laidMet_of_run' 8 (by kernel_rfl) (by kernel_rfl)) (by kernel_rfl) (by kernel_rfl)
theorem bp1 {W : World} (h : laidMetH Tryz.prog laid W) : alg GLO.gB (bff W) W := by
  rw [MakeChecks.laidMetH_plain _ _ _ (by kernel_rfl)] at h
  obtain ⟨ps, hV, _⟩ := h
  obtain ⟨g0, q0, hV0⟩ := bc6 (l := P.roots256) (n := 64) (k := .u32) (t := 167) (e := 41) (g := 0) hV (by kernel_rfl) (by kernel_rfl) (by kernel_rfl) (by kernel_rfl) (by kernel_rfl) (by kernel_rfl) (by kernel_rfl) (by kernel_rfl)
  obtain ⟨g1, q1, hV1⟩ := bc6 (l := P.roots512) (n := 80) (k := .u64) (t := 160) (e := 26) (g := 1) hV0 (by kernel_rfl) (by kernel_rfl) (by kernel_rfl) (by kernel_rfl) (by kernel_rfl) (by kernel_rfl) (by kernel_rfl) (by kernel_rfl)
  exact att g0 (att g1 (bgw _ _))
set_option maxRecDepth 100000 in
theorem lifted (os : Os) (started : os.Started) (H : Type) (enc : TypeId × Value → H) :
    ReturnsInHanded {} Tryz.checked os 3 .any (fun w args => (Rows.hssSignsSpec.pre enc Tryz.prog Tryz.f3 [] false w args ∧ laidMetH Tryz.prog laid w) ∧ sizedMet enc Tryz.prog Tryz.f3 (OpenSpec.ofChange Rows.hssSignsSpec) false w args)
      (Rows.hssSignsSpec.post enc Tryz.prog Tryz.f3 false true false false) := by
  refine returnsInHanded_of_change_and (C := Tryz.checked) (X := fun w _ => laidMetH Tryz.prog laid w) (fun _ _ _ hh h => h.of_heap hh) own started (by kernel_rfl) func
    (ChangeSpec.witness_shaped (enc := enc) (C := Tryz.checked) (os := os) (X := fun w _ => laidMetH Tryz.prog laid w) false (World.doorLaid Tryz.prog 60 os) #[.agg #[.slice none 0 0, .slice none 0 0, .slice none 0 0], .int .u64 0, .slice none 0 0] 8 rfl (World.shaped_of_RefB (by kernel_rfl) (by kernel_rfl)) (by kernel_rfl) (by kernel_rfl) (by kernel_rfl) (bou os _)) ?_
  intro W base args ds gs before hval0 hW hcnd hsz0 hL _
  have hgl := bp1 hL
  have hval : ∀ (j : Nat) t v, Tryz.f3.params[j]? = some t → args[j]? = some v → Value.okWide Tryz.prog W .any base t v := hval0
  have hW' := hW
  obtain ⟨p, q, hA0, hV, rfl, hfz, hnd⟩ := hW
  have hA : DataW.TrodAll enc Tryz.prog W 0 (fun _ => true) true Tryz.f3.params.toList args.toList ds p := hA0
  rw [params] at hA hval
  obtain ⟨v0, vs0, d0, ds0, p0, q0, hargs, rfl, rfl, h0, r0⟩ := trodAll_cons hA
  obtain ⟨v1, vs1, d1, ds1, p1, q1, rfl, rfl, rfl, h1, r1⟩ := trodAll_cons r0
  obtain ⟨v2, vs2, d2, ds2, p2, q2, rfl, rfl, rfl, h2, r2⟩ := trodAll_cons r1
  obtain ⟨rfl, rfl, rfl⟩ := trodAll_nil r2
  obtain rfl : args = #[v0, v1, v2] := by cases args; simp_all
  obtain ⟨rfl, rfl⟩ := trodVars_none hV
  have lt0 := an8 h0
  have k0 := h0
  have z0 : ∀ n, n ∈ d0.weights Tryz.prog 25 → n ≤ reachBytes := fun n hn => by simpa using List.all_eq_true.1 hsz0 _ (DataW.weights_mem_each (j := 0) (t := 25) (d := d0) (by rw [show Tryz.f3.params = _ from params]; rfl) rfl n hn)
  obtain ⟨l0, G0, s0⟩ := bo3 9 g25 a25 (hval 0 25 v0 rfl rfl) h0 (z0)
  rw [e25] at G0
  obtain ⟨_, _, rfl, ⟨x0_Treesn, _, rfl, bx0_Trees, ⟨_, _, rfl, ⟨x0_Trees0, rfl, mx0_Trees0, wx0_Trees0⟩, ⟨_, _, rfl, ⟨x0_Trees1, rfl, mx0_Trees1, wx0_Trees1⟩, rfl⟩⟩⟩, ⟨_, _, rfl, ⟨x0_Id, rfl, nx0_Id, wx0_Id⟩, ⟨_, _, rfl, ⟨x0_Seed, rfl, nx0_Seed, wx0_Seed⟩, rfl⟩⟩⟩ := G0
  have lt1 := an8 h1
  have k1 := h1
  obtain ⟨x1, rfl, rfl, rfl, wx1⟩ := open_int u26 (hval 1 26 v1 rfl rfl) h1
  have s1 : dw (p8 (bff W)) W (.v (.int .u64 x1)) (.int .u64 x1) := by simp only [dw]
  have lt2 := an8 h2
  have k2 := h2
  have z2 : ∀ n, n ∈ d2.weights Tryz.prog 23 → n ≤ reachBytes := fun n hn => by simpa using List.all_eq_true.1 hsz0 _ (DataW.weights_mem_each (j := 2) (t := 23) (d := d2) (by rw [show Tryz.f3.params = _ from params]; rfl) rfl n hn)
  obtain ⟨l2, G2, s2⟩ := bj6 8 g23 u23 (hval 2 23 v2 rfl rfl) h2 (z2)
  rw [e23] at G2
  obtain ⟨x2, hl2, nx2, wx2⟩ := G2
  cases hl2
  clear hA0 hval0 hsz0
  have hs : ∀ K, yw.spec [.agg [.sl (.cols x0_Treesn [.ints .i64 x0_Trees0, .ints .i64 x0_Trees1]), .sl (.ints .u8 x0_Id), .sl (.ints .u8 x0_Seed)], .v (.int .u64 x1), .sl (.ints .u8 x2)] K = P.yw x0_Treesn x0_Trees0 x0_Trees1 x0_Id x0_Seed x1 x2 (fun r0 => K (.v (.bool r0))) := by intro K; kernel_rfl
  obtain ⟨a, hK, hrun⟩ := yw.ok.sound [.agg [.sl (.cols x0_Treesn [.ints .i64 x0_Trees0, .ints .i64 x0_Trees1]), .sl (.ints .u8 x0_Id), .sl (.ints .u8 x0_Seed)], .v (.int .u64 x1), .sl (.ints .u8 x2)] (fun v => match v with | .v (.bool true) => some (.v (.bool true)) | _ => none) (.v (.bool true)) (by
    rw [hs, Q.HssSigns x0_Treesn x0_Trees0 x0_Trees1 x0_Id x0_Seed x1 x2 bx0_Trees mx0_Trees0 wx0_Trees0 mx0_Trees1 wx0_Trees1 nx0_Id wx0_Id nx0_Seed wx0_Seed wx1 nx2 wx2])
  have ha : a = .v (.bool true) := by
    split at hK
    · rfl
    · cases hK
  subst ha
  refine (hrun (bff W) W [_, _, _] (fun _ h => h) hgl ?_).mono fun e W' he => ?_
  · simp only [ji]
    exact ⟨_, _, rfl, s0, ⟨_, _, rfl, s1, ⟨_, _, rfl, s2, rfl⟩⟩⟩
  obtain ⟨v, Sn, bs, rfl, bel, _, hv, _⟩ := he
  simp only [u7, dw] at hv
  obtain ⟨rfl, _⟩ := hv
  exact ⟨_, rfl, _, _, _, [], _, [], hW', trodAll_mk1 (shut_bool b0u _), trodAll_cons_mk (Below.trod laidOut (by kernel_rfl) (of_decide_eq_true (by kernel_rfl)) k0 bel lt0) (trodAll_cons_mk (Below.trod laidOut (by kernel_rfl) (of_decide_eq_true (by kernel_rfl)) k1 bel lt1) (trodAll_cons_mk (Below.trod laidOut (by kernel_rfl) (of_decide_eq_true (by kernel_rfl)) k2 bel lt2) (trodAll_mk0))), rfl, bel.frame _, fun h => by cases h⟩
theorem over : Rows.hssSignsRow.holds Tryz.pinned (OpenSpec.ofChange Rows.hssSignsSpec) :=
  OpenClaim.holds_of_wide 3 Tryz.f3 rfl rfl rfl rfl rfl rfl rfl ⟨rfl, rfl, rfl, rfl, rfl⟩ rfl rfl rfl rfl rfl (by kernel_rfl) func (by kernel_rfl)
    (of_decide_eq_true (by kernel_rfl)) (by unfold Func.isWrapper; first | (rw [if_pos (by decide +kernel)]; kernel_rfl) | (rw [if_neg (by decide +kernel)]; exact ⟨rfl, rfl⟩))
    (fun os started H enc _ => lifted os started H enc)
theorem proved : Rows.HssSignsCardSaid :=
  Claim7.holds_tied_plain_at .later [] [.data, .data] true (true, "1a91769c4e29560ebb0d256ae04051a5bc774d79054ea887e437f920383cb26c") false
    over (fun _ h => by cases h) (by kernel_rfl) (fun _ h => by cases h) hssSigns_row_tie rfl ⟨rfl, rfl⟩ (by kernel_rfl) rfl
    (fun f fn hf hfn => by
      obtain rfl : f = 3 := Option.some.inj ((show Tryz.prog.funcNamed "apostille/apostillelaw16.HssSigns" = some 3 by kernel_rfl).symm.trans hf) |>.symm
      obtain rfl : fn = Tryz.f3 := (Option.some.inj (func.symm.trans hfn)).symm
      exact ⟨by kernel_rfl, fun j t ht => by
        rw [params] at ht
        have hm : t ∈ [25, 26, 23] := by simpa using Array.mem_of_getElem? ht
        have hall : ([25, 26, 23].all fun u => !Tryz.prog.wantsStandIn u) = true := by kernel_rfl
        exact (show Tryz.prog.wantsStandIn t = false by simpa using List.all_eq_true.1 hall t hm)⟩)
    (by kernel_rfl)
end Go.Proofs.YtmipokjdajiimaaGreatDoor.hssSigns
