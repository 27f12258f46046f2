import Derived.Test.YtmaoicbiekgmhaaFBits7
import Derived.Test.YtmaoicbiekgmhaaRows
import Derived.WalkKit
import Derived.ProofKit
import Derived.OpenShut
import Derived.ShutString
import Derived.ChangeOld
import Derived.SizedLaws
namespace Go.Proofs.Ytmaoicbiekgmhaa.bitsTells
open Go.ChangeShapes Go.WideShapes Go.ChangeAt Go.RowKit Go.Abs
set_option linter.unusedVariables false
theorem own : ownKnob Try.prog.godebug = none := by kernel_rfl
theorem laidOut : laidOutB Try.prog = true := by kernel_rfl
theorem func5 : Try.prog.funcs[5]? = some Try.f5 := by kernel_rfl
theorem params5 : Try.f5.params = #[45, 3, 22] := by kernel_rfl
theorem u45 : Try.prog.underlying 45 = some (.int .u64) := by kernel_rfl
theorem u3 : Try.prog.underlying 3 = some (.int .i64) := by kernel_rfl
theorem u5 : Try.prog.underlying 5 = some (.int .u8) := by kernel_rfl
theorem u4 : Try.prog.underlying 4 = some .bool := by kernel_rfl
theorem u22 : Try.prog.underlying 22 = some (.slice 5) := by kernel_rfl
theorem wf_u64 {n : Int} (h : (Lit.int .u64 n).wf = true) : 0 ≤ n ∧ n ≤ 18446744073709551615 := by
  simp [Lit.wf, IntKind.min, IntKind.max, IntKind.signed, IntKind.bits] at h; omega
theorem wf_u8 {n : Int} (h : (Lit.int .u8 n).wf = true) : 0 ≤ n ∧ n ≤ 255 := by
  simp [Lit.wf, IntKind.min, IntKind.max, IntKind.signed, IntKind.bits] at h; omega
set_option maxRecDepth 100000 in
theorem lifted (os : Os) (started : os.Started) (H : Type) (enc : TypeId × Value → H) :
    ReturnsInHanded {} Try.checked os 5 .any (Rows.bitsTellsSpec.pre6 enc Try.prog Try.f5 Rows.bitsTellsRow.domain false) (Rows.bitsTellsSpec.post enc Try.prog Try.f5 false true false false) := by
  refine returnsInHanded_of_change_sized (C := Try.checked) own started (by kernel_rfl) func5
    (ChangeSpec.witness6 (enc := enc) (C := Try.checked) false ⟨#[], #[.int .u64 0, .int .i64 0, .slice none 0 0], []⟩ 8 (by kernel_rfl) (by kernel_rfl) (by kernel_rfl) (by kernel_rfl)) ?_
  intro W base args ds gs before hval0 hW hcnd hsz0 _
  have hval : ∀ (j : Nat) t v, Try.f5.params[j]? = some t → args[j]? = some v → Value.okWide Try.prog W .any base t v := hval0
  have hW' := hW
  obtain ⟨p, q, hA0, hV, rfl, hfz, hnd⟩ := hW
  have hA : DataW.TrodAll enc Try.prog W 0 (fun _ => true) true Try.f5.params.toList args.toList ds p := hA0
  rw [params5] at hA hval
  obtain ⟨v0, vs0, d0, ds0, p0, q0, hargs, rfl, rfl, h0, r0⟩ := trodAll_cons hA
  obtain ⟨v1, vs1, d1, ds1, p1, q1, rfl, rfl, rfl, h1, r1⟩ := trodAll_cons r0
  obtain ⟨v2, vs2, d2, ds2, p2, q2, rfl, rfl, rfl, h2, r2⟩ := trodAll_cons r1
  obtain ⟨rfl, rfl, rfl⟩ := trodAll_nil r2
  obtain rfl : args = #[v0, v1, v2] := by cases args; simp_all
  obtain ⟨rfl, rfl⟩ := trodVars_none hV
  obtain ⟨a0, rfl, rfl, rfl, w0⟩ := open_int u45 (hval 0 45 v0 rfl rfl) h0
  obtain ⟨a1, rfl, rfl, rfl, w1⟩ := open_int u3 (hval 1 3 v1 rfl rfl) h1
  obtain ⟨a2, len2, cap2, rfl⟩ := okWide_slice u22 (hval 2 22 v2 rfl rfl)
  have k2 := h2
  have lt2 : ∀ x ∈ p2, x.block < W.heap.size := by obtain ⟨m, hm⟩ := k2; exact DataW.trod_lt m _ _ _ hm
  have hs2 : ∃ l, SlI (fun b => b < W.heap.size) W .u8 l (.slice a2 len2 cap2) ∧ ∀ x, x ∈ l → (Lit.int .u8 x).wf = true := by
    obtain ⟨fuel, hf⟩ := h2
    rcases open_ints u22 u5 (by kernel_rfl) hf with ⟨hcs, _⟩ | ⟨x, l, c, zs, hcs, _, hl, hm, hz, hx, hcell, hwz⟩
    · simp [Value.cells] at hcs
      obtain ⟨rfl, rfl, rfl⟩ := hcs
      exact ⟨[], ⟨none, 0, rfl, Nat.le_refl _, fun h => by simp at h⟩, fun x hx => by simp at hx⟩
    · simp [Value.cells] at hcs
      obtain ⟨rfl, rfl, rfl⟩ := hcs
      have hzl : zs.length = cap2 := by simpa using hz
      refine ⟨zs.take len2, ⟨some x, cap2, ?_, by simp; omega, fun h => ⟨x, rfl, ?_, fun j hj => ?_⟩⟩, fun y hy => hwz y (List.mem_of_mem_take hy)⟩
      · rw [List.length_take, Nat.min_eq_left (by omega)]
      · have h9 : 0 < zs.length := by simp at h; omega
        have := hcell 0 h9
        refine Nat.lt_of_not_le fun hge => ?_
        unfold World.cell? at this
        rw [add_block, Array.getElem?_eq_none hge] at this
        cases this
      · simp at hj
        refine ⟨_, hcell j (by omega), ?_⟩
        simp only [cellI]
        rw [List.getD_eq_getElem?_getD, List.getD_eq_getElem?_getD, List.getElem?_take_of_lt (by omega)]
  obtain ⟨l2, s2, g2⟩ := hs2
  clear hA0 hval0 hsz0
  obtain ⟨a, hK, hrun⟩ := F5.ok.sound [.v (.int .u64 a0), .v (.int .i64 a1), .sl (.ints .u8 l2)] (fun v => match v with | .v (.bool true) => some (.v (.bool true)) | _ => none) (.v (.bool true)) (by
    exact (br_pos (p := 0 ≤ a0 ∧ a0 ≤ 18446744073709551615 ∧ ∀ x, x ∈ l2 → 0 ≤ x ∧ x ≤ 255) ⟨(wf_u64 w0).1, (wf_u64 w0).2, fun x hx => wf_u8 (g2 x hx)⟩ _ _))
  have ha : a = .v (.bool true) := by
    split at hK
    · rfl
    · cases hK
  subst ha
  refine (hrun (fun b => b < W.heap.size) W [.int .u64 a0, .int .i64 a1, .slice a2 len2 cap2] (fun _ h => h) (fun g l h => by simp [assoc] at h) (by simp only [RelVs, RelV]; exact ⟨_, _, rfl, rfl, _, _, rfl, rfl, _, _, rfl, s2, rfl⟩)).mono fun e W' he => ?_
  obtain ⟨v, Sn, bs, rfl, bel, _, hv, _⟩ := he
  simp only [RelX, RelV] at hv
  obtain ⟨rfl, _⟩ := hv
  exact ⟨_, rfl, _, _, _, [], _, [], hW', trodAll_mk1 (shut_bool u4 _), trodAll_cons_mk (shut_int u45 w0) (trodAll_cons_mk (shut_int u3 w1) (trodAll_cons_mk (Below.trod laidOut (by kernel_rfl) (of_decide_eq_true (by kernel_rfl)) k2 bel lt2) trodAll_mk0)), rfl, bel.frame _, fun h => by cases h⟩
theorem over : Rows.bitsTellsRow.holds Try.pinned (OpenSpec.ofChange Rows.bitsTellsSpec) :=
  OpenClaim.holds_of_wide 5 Try.f5 rfl rfl rfl rfl rfl rfl rfl ⟨rfl, rfl, rfl, rfl, rfl⟩ rfl rfl rfl rfl rfl (by kernel_rfl) func5 (by kernel_rfl)
    (of_decide_eq_true (by kernel_rfl)) (by unfold Func.isWrapper; first | (rw [if_pos (by decide +kernel)]; kernel_rfl) | (rw [if_neg (by decide +kernel)]; exact ⟨rfl, rfl⟩))
    (fun os started H enc _ => lifted os started H enc)
theorem proved : Rows.BitsTellsSaid := over
end Go.Proofs.Ytmaoicbiekgmhaa.bitsTells
