/-
  LeasePlays: for every input the law returns true, and each argument reads behind the call as it read before. No condition.
-/
import Derived.Test.YtkfjafaabbmapaaDoorLeasePlaysR
import Derived.Test.YtkfjafaabbmapaaDoorLeasePlaysU
import Derived.Test.YtkfjafaabbmapaaDoorLeasePlaysH
import Derived.Test.YtkfjafaabbmapaaDoorLeasePlaysJ
import Derived.Test.YtkfjafaabbmapaaDoorTie
import Derived.Test.YtkfjafaabbmapaaDoorCards
import Derived.SevenTiedAt
import Derived.LaidMore
import Derived.Stop.Joined
import Derived.LaidLaws
import Derived.Test.YtkfjafaabbmapaaDoorRows
import Derived.WalkKit
import Derived.ProofKit
import Derived.OpenShut
import Derived.ShutString
import Derived.ChangeOld
import Derived.SizedLaws
namespace Go.Proofs.YtkfjafaabbmapaaDoor.leasePlays
open Go.ChangeShapes Go.WideShapes Go.ChangeAt Go.RowKit Go.Abs
set_option linter.unusedVariables false
theorem own : ownKnob Tryd.prog.godebug = none := by kernel_rfl
theorem laidOut : laidOutB Tryd.prog = true := by kernel_rfl
theorem func : Tryd.prog.funcs[4]? = some Tryd.f4 := by kernel_rfl
theorem params : Tryd.f4.params = #[27, 31] := by kernel_rfl
theorem bp5 : Tryd.prog.underlying 4 = some .bool := by kernel_rfl
theorem g27 : atg Tryd.prog 9 27 = true := by kernel_rfl
theorem a27 : acf Tryd.prog 27 = some true := by kernel_rfl
theorem e27 (l : List AVal) : Go.Abs.Good Tryd.prog 9 27 l = (∃ p1 q1, l = p1 ++ q1 ∧ (∃ p2 q2, p1 = p2 ++ q2 ∧ (∃ xs, p2 = [.sl (.ints .u8 xs)] ∧ xs.length ≤ 140737488355328 ∧ ∀ x, x ∈ xs → wfI .u8 x) ∧ (∃ p3 q3, q2 = p3 ++ q3 ∧ (∃ xs, p3 = [.sl (.ints .u8 xs)] ∧ xs.length ≤ 140737488355328 ∧ ∀ x, x ∈ xs → wfI .u8 x) ∧ (q3 = []))) ∧ (∃ p4 q4, q1 = p4 ++ q4 ∧ (∃ n, p4 = [.v (.int .u64 n)] ∧ wfI .u64 n) ∧ (∃ p5 q5, q4 = p5 ++ q5 ∧ (∃ n, p5 = [.v (.int .u64 n)] ∧ wfI .u64 n) ∧ (∃ p6 q6, q5 = p6 ++ q6 ∧ (∃ n, p6 = [.v (.int .u64 n)] ∧ wfI .u64 n) ∧ (∃ p7 q7, q6 = p7 ++ q7 ∧ (∃ n, p7 = [.v (.int .u64 n)] ∧ wfI .u64 n) ∧ (∃ p8 q8, q7 = p8 ++ q8 ∧ (∃ b, p8 = [.v (.bool b)]) ∧ (q8 = []))))))) := by kernel_rfl
theorem u31 : Tryd.prog.underlying 31 = some (.slice 29) := by kernel_rfl
theorem g31 : atg Tryd.prog 9 31 = true := by kernel_rfl
theorem e31 (l : List AVal) : Go.Abs.Good Tryd.prog 9 31 l = (∃ n cs, l = [.sl (.cols n cs)] ∧ n ≤ 140737488355328 ∧ (∃ c0 r0, cs = c0 :: r0 ∧ (∃ xs, c0 = .ints .i64 xs ∧ xs.length = n ∧ ∀ x, x ∈ xs → wfI .i64 x) ∧ (∃ c1 r1, r0 = c1 :: r1 ∧ (∃ xs, c1 = .ints .i64 xs ∧ xs.length = n ∧ ∀ x, x ∈ xs → wfI .i64 x) ∧ (∃ c2 r2, r1 = c2 :: r2 ∧ (∃ xs, c2 = .rows .u8 xs ∧ xs.length = n ∧ ∀ y, y ∈ xs → y.length ≤ 140737488355328 ∧ ∀ x, x ∈ y → wfI .u8 x) ∧ (r2 = []))))) := by kernel_rfl
def laid : List (String × DataW Unit) := Rows.leasePlaysRow.laid
theorem bek (os : Os) (args : Array Value) : laidMetH Tryd.prog laid ((World.doorLaid Tryd.prog 60 os).forCall (fun _ _ => 0) ⟨#[], args, []⟩).memory :=
  laidMetH_of_parts3 (fuel := 8) (laidMet_of_run' 8 (by kernel_rfl) (by kernel_rfl)) (by kernel_rfl) (by kernel_rfl)
theorem ber {W : World} (h : laidMetH Tryd.prog laid W) : ahe GLO.gB (awu W) W := by
  rw [MakeChecks.laidMetH_plain _ _ _ (by kernel_rfl)] at h
  obtain ⟨ps, hV, _⟩ := h
  obtain ⟨g0, q0, hV0⟩ := auz (l := P.roots256) (n := 64) (k := .u32) (t := 153) (e := 127) (g := 0) hV (by kernel_rfl) (by kernel_rfl) (by kernel_rfl) (by kernel_rfl) (by kernel_rfl) (by kernel_rfl) (by kernel_rfl) (by kernel_rfl)
  obtain ⟨g1, q1, hV1⟩ := auz (l := P.roots512) (n := 80) (k := .u64) (t := 146) (e := 25) (g := 1) hV0 (by kernel_rfl) (by kernel_rfl) (by kernel_rfl) (by kernel_rfl) (by kernel_rfl) (by kernel_rfl) (by kernel_rfl) (by kernel_rfl)
  exact amx g0 (amx g1 (axb _ _))
set_option maxRecDepth 100000 in
theorem lifted (os : Os) (started : os.Started) (H : Type) (enc : TypeId × Value → H) :
    ReturnsInHanded {} Tryd.checked os 4 .any (fun w args => (Rows.leasePlaysSpec.pre enc Tryd.prog Tryd.f4 [] false w args ∧ laidMetH Tryd.prog laid w) ∧ sizedMet enc Tryd.prog Tryd.f4 (OpenSpec.ofChange Rows.leasePlaysSpec) false w args)
      (Rows.leasePlaysSpec.post enc Tryd.prog Tryd.f4 false true false false) := by
  refine returnsInHanded_of_change_and (C := Tryd.checked) (X := fun w _ => laidMetH Tryd.prog laid w) (fun _ _ _ hh h => h.of_heap hh) own started (by kernel_rfl) func
    (ChangeSpec.witness_shaped (enc := enc) (C := Tryd.checked) (os := os) (X := fun w _ => laidMetH Tryd.prog laid w) false (World.doorLaid Tryd.prog 60 os) #[.agg #[.slice none 0 0, .slice none 0 0, .int .u64 0, .int .u64 0, .int .u64 0, .int .u64 0, .bool false], .slice none 0 0] 8 rfl (World.shaped_of_RefB (by kernel_rfl) (by kernel_rfl)) (by kernel_rfl) (by kernel_rfl) (by kernel_rfl) (bek os _)) ?_
  intro W base args ds gs before hval0 hW hcnd hsz0 hL _
  have hgl := ber hL
  have hval : ∀ (j : Nat) t v, Tryd.f4.params[j]? = some t → args[j]? = some v → Value.okWide Tryd.prog W .any base t v := hval0
  have hW' := hW
  obtain ⟨p, q, hA0, hV, rfl, hfz, hnd⟩ := hW
  have hA : DataW.TrodAll enc Tryd.prog W 0 (fun _ => true) true Tryd.f4.params.toList args.toList ds p := hA0
  rw [params] at hA hval
  obtain ⟨v0, vs0, d0, ds0, p0, q0, hargs, rfl, rfl, h0, r0⟩ := trodAll_cons hA
  obtain ⟨v1, vs1, d1, ds1, p1, q1, rfl, rfl, rfl, h1, r1⟩ := trodAll_cons r0
  obtain ⟨rfl, rfl, rfl⟩ := trodAll_nil r1
  obtain rfl : args = #[v0, v1] := by cases args; simp_all
  obtain ⟨rfl, rfl⟩ := trodVars_none hV
  have lt0 := ap9 h0
  have k0 := h0
  have z0 : ∀ n, n ∈ d0.weights Tryd.prog 27 → n ≤ reachBytes := fun n hn => by simpa using List.all_eq_true.1 hsz0 _ (DataW.weights_mem_each (j := 0) (t := 27) (d := d0) (by rw [show Tryd.f4.params = _ from params]; rfl) rfl n hn)
  obtain ⟨l0, G0, s0⟩ := bd6 9 g27 a27 (hval 0 27 v0 rfl rfl) h0 (z0)
  rw [e27] at G0
  obtain ⟨_, _, rfl, ⟨_, _, rfl, ⟨x0_Store_0, rfl, nx0_Store_0, wx0_Store_0⟩, ⟨_, _, rfl, ⟨x0_Store_1, rfl, nx0_Store_1, wx0_Store_1⟩, rfl⟩⟩, ⟨_, _, rfl, ⟨x0_Leaves, rfl, wx0_Leaves⟩, ⟨_, _, rfl, ⟨x0_Batch, rfl, wx0_Batch⟩, ⟨_, _, rfl, ⟨x0_Next, rfl, wx0_Next⟩, ⟨_, _, rfl, ⟨x0_Bound, rfl, wx0_Bound⟩, ⟨_, _, rfl, ⟨x0_Up, rfl⟩, rfl⟩⟩⟩⟩⟩⟩ := G0
  have lt1 := ap9 h1
  have k1 := h1
  have z1 : ∀ n, n ∈ d1.weights Tryd.prog 31 → n ≤ reachBytes := fun n hn => by simpa using List.all_eq_true.1 hsz0 _ (DataW.weights_mem_each (j := 1) (t := 31) (d := d1) (by rw [show Tryd.f4.params = _ from params]; rfl) rfl n hn)
  obtain ⟨l1, G1, s1⟩ := az0 8 g31 u31 (hval 1 31 v1 rfl rfl) h1 (z1)
  rw [e31] at G1
  obtain ⟨x1n, _, hl1, bx1, ⟨_, _, rfl, ⟨x10, rfl, mx10, wx10⟩, ⟨_, _, rfl, ⟨x11, rfl, mx11, wx11⟩, ⟨_, _, rfl, ⟨x12, rfl, mx12, wx12⟩, rfl⟩⟩⟩⟩ := G1
  cases hl1
  clear hA0 hval0 hsz0
  have hs : ∀ K, qm.spec [.agg [.sl (.ints .u8 x0_Store_0), .sl (.ints .u8 x0_Store_1), .v (.int .u64 x0_Leaves), .v (.int .u64 x0_Batch), .v (.int .u64 x0_Next), .v (.int .u64 x0_Bound), .v (.bool x0_Up)], .sl (.cols x1n [.ints .i64 x10, .ints .i64 x11, .rows .u8 x12])] K = P.qm x0_Store_0 x0_Store_1 x0_Leaves x0_Batch x0_Next x0_Bound x0_Up x1n x10 x11 x12 (fun r0 => K (.v (.bool r0))) := by intro K; kernel_rfl
  obtain ⟨a, hK, hrun⟩ := qm.ok.sound [.agg [.sl (.ints .u8 x0_Store_0), .sl (.ints .u8 x0_Store_1), .v (.int .u64 x0_Leaves), .v (.int .u64 x0_Batch), .v (.int .u64 x0_Next), .v (.int .u64 x0_Bound), .v (.bool x0_Up)], .sl (.cols x1n [.ints .i64 x10, .ints .i64 x11, .rows .u8 x12])] (fun v => match v with | .v (.bool true) => some (.v (.bool true)) | _ => none) (.v (.bool true)) (by
    rw [hs, Q.LeasePlays x0_Store_0 x0_Store_1 x0_Leaves x0_Batch x0_Next x0_Bound x0_Up x1n x10 x11 x12 nx0_Store_0 wx0_Store_0 nx0_Store_1 wx0_Store_1 wx0_Leaves wx0_Batch wx0_Next wx0_Bound bx1 mx10 wx10 mx11 wx11 mx12 wx12])
  have ha : a = .v (.bool true) := by
    split at hK
    · rfl
    · cases hK
  subst ha
  refine (hrun (awu W) W [_, _] (fun _ h => h) hgl ?_).mono fun e W' he => ?_
  · simp only [ji]
    exact ⟨_, _, rfl, s0, ⟨_, _, rfl, s1, rfl⟩⟩
  obtain ⟨v, Sn, bs, rfl, bel, _, hv, _⟩ := he
  simp only [rz, dz] at hv
  obtain ⟨rfl, _⟩ := hv
  exact ⟨_, rfl, _, _, _, [], _, [], hW', trodAll_mk1 (shut_bool bp5 _), trodAll_cons_mk (Below.trod laidOut (by kernel_rfl) (of_decide_eq_true (by kernel_rfl)) k0 bel lt0) (trodAll_cons_mk (Below.trod laidOut (by kernel_rfl) (of_decide_eq_true (by kernel_rfl)) k1 bel lt1) (trodAll_mk0)), rfl, bel.frame _, fun h => by cases h⟩
theorem over : Rows.leasePlaysRow.holds Tryd.pinned (OpenSpec.ofChange Rows.leasePlaysSpec) :=
  OpenClaim.holds_of_wide 4 Tryd.f4 rfl rfl rfl rfl rfl rfl rfl ⟨rfl, rfl, rfl, rfl, rfl⟩ rfl rfl rfl rfl rfl (by kernel_rfl) func (by kernel_rfl)
    (of_decide_eq_true (by kernel_rfl)) (by unfold Func.isWrapper; first | (rw [if_pos (by decide +kernel)]; kernel_rfl) | (rw [if_neg (by decide +kernel)]; exact ⟨rfl, rfl⟩))
    (fun os started H enc _ => lifted os started H enc)
theorem proved : Rows.LeasePlaysCardSaid :=
  Claim7.holds_tied_plain_at .later [] [.data, .data] true (true, "7a5da77026582067a5151026a490d1cd2c46687704a1503e014e8c59316ca97e") false
    over (fun _ h => by cases h) (by kernel_rfl) (fun _ h => by cases h) leasePlays_row_tie rfl ⟨rfl, rfl⟩ (by kernel_rfl) rfl
    (fun f fn hf hfn => by
      obtain rfl : f = 4 := Option.some.inj ((show Tryd.prog.funcNamed "apostille/apostillelaw29.LeasePlays" = some 4 by kernel_rfl).symm.trans hf) |>.symm
      obtain rfl : fn = Tryd.f4 := (Option.some.inj (func.symm.trans hfn)).symm
      exact ⟨by kernel_rfl, fun j t ht => by
        rw [params] at ht
        have hm : t ∈ [27, 31] := by simpa using Array.mem_of_getElem? ht
        have hall : ([27, 31].all fun u => !Tryd.prog.wantsStandIn u) = true := by kernel_rfl
        exact (show Tryd.prog.wantsStandIn t = false by simpa using List.all_eq_true.1 hall t hm)⟩)
    (by kernel_rfl)
end Go.Proofs.YtkfjafaabbmapaaDoor.leasePlays
