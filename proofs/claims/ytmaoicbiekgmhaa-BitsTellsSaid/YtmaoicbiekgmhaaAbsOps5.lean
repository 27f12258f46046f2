import Derived.Test.YtmaoicbiekgmhaaAbsOps4
namespace Go.Abs
open Go Go.RowKit
set_option linter.unusedVariables false
set_option linter.unusedSimpArgs false

/-- an optional bound and its value -/
def OptIs (o : Option Value) (d i : Int) : Prop := (o = none ∧ i = d) ∨ ∃ k, o = some (.int k i)

theorem run_bounds {P : Program} {w : World} (isS : Bool) {lo hi mx : Option Value} {len cap : Nat} {l h m : Int} (hl : OptIs lo 0 l) (hh : OptIs hi len h) (hm : (mx = none ∧ m = cap) ∨ (∃ k, mx = some (.int k m) ∧ hi ≠ none))
    (h0 : 0 ≤ l) (h1 : l ≤ h) (h2 : h ≤ m) (h3 : m ≤ cap) : (Instr.sliceBounds isS len cap lo hi mx).run P w = .ok (l.toNat, h.toNat, m.toNat) w := by
  have hb : ∀ (k : IntKind) (i : Int) (y : Nat) (c : BoundsCode), 0 ≤ i → i ≤ y → (Instr.sliceBound (.int k i) y c).run P w = .ok i.toNat w := by
    intro k i y c g0 g1
    simp [Instr.sliceBound, asIntOf, g0, g1]
  rcases hm with ⟨rfl, rfl⟩ | ⟨km, rfl, hne⟩
  · rcases hh with ⟨rfl, rfl⟩ | ⟨kh, rfl⟩
    · rcases hl with ⟨rfl, rfl⟩ | ⟨kl, rfl⟩
      · simp [Instr.sliceBounds]
      · simp [Instr.sliceBounds, hb kl l len _ h0 h1]
    · rcases hl with ⟨rfl, rfl⟩ | ⟨kl, rfl⟩
      · simp [Instr.sliceBounds, hb kh h cap _ (by omega) (by omega)]
      · simp [Instr.sliceBounds, hb kh h cap _ (by omega) (by omega), hb kl l h.toNat _ h0 (by omega)]
  · rcases hh with ⟨rfl, rfl⟩ | ⟨kh, rfl⟩
    · exact absurd rfl hne
    · rcases hl with ⟨rfl, rfl⟩ | ⟨kl, rfl⟩
      · simp [Instr.sliceBounds, hb km m cap _ (by omega) (by omega), hb kh h m.toNat _ (by omega) (by omega)]
      · simp [Instr.sliceBounds, hb km m cap _ (by omega) (by omega), hb kh h m.toNat _ (by omega) (by omega), hb kl l h.toNat _ h0 (by omega)]

theorem run_sliceAt {P : Program} {w : World} {t e : TypeId} {sz : Nat} (ht : P.underlying t = some (.slice e)) (hs : cellsT P e = some sz) (A : Option Addr) {lo hi mx : Option Value} {len cap : Nat} {l h m : Int}
    (hl : OptIs lo 0 l) (hh : OptIs hi len h) (hm : (mx = none ∧ m = cap) ∨ (∃ k, mx = some (.int k m) ∧ hi ≠ none))
    (h0 : 0 ≤ l) (h1 : l ≤ h) (h2 : h ≤ m) (h3 : m ≤ cap) :
    (Instr.sliceAt t (.slice A len cap) lo hi mx).run P w = .ok (.slice (if m.toNat = l.toNat then A else A.map (·.add (l.toNat * sz))) (h.toNat - l.toNat) (m.toNat - l.toNat)) w := by
  simp only [Instr.sliceAt, Instr.slice, Sem.run_bind, run_underlying ht, Result.andThen_ok, run_bounds true hl hh hm h0 h1 h2 h3, run_sizeOf hs, Sem.run_pure]

theorem run_sliceAt_arr {P : Program} {w : World} {t e : TypeId} {n : Nat} (ht : P.underlying t = some (.array n e)) (hs : cellsT P e = some 1) (a : Addr) {lo hi : Option Value} {l h : Int}
    (hl : OptIs lo 0 l) (hh : OptIs hi n h) (h0 : 0 ≤ l) (h1 : l ≤ h) (h2 : h ≤ n) :
    (Instr.sliceAt t (.pointer (some a)) lo hi none).run P w = .ok (.slice (some (if n = l.toNat then a else a.add (l.toNat * 1))) (h.toNat - l.toNat) (n - l.toNat)) w := by
  have := run_bounds (P := P) (w := w) false (mx := none) (cap := n) (m := n) hl hh (.inl ⟨rfl, rfl⟩) h0 h1 h2 (Int.le_refl _)
  simp only [Instr.sliceAt, Sem.run_bind, run_underlying ht, Result.andThen_ok, Instr.sureAddr, Sem.run_pure, this, run_sizeOf hs]
  simp

/-- the content of a part of a slice -/
theorem Cont.sub_spec {c c' : Cont} {l h : Nat} (hc : c.sub l h = some c') (h1 : l ≤ h) (h2 : h ≤ c.len) : c.size = 1 ∧ c'.size = 1 ∧ c'.len = h - l ∧ ∀ S w j x, j < h - l → cellC S w c (l + j) x → cellC S w c' j x := by
  cases c with
  | cols => cases hc
  | ints k z =>
    cases hc
    simp only [Cont.len] at h2
    refine ⟨rfl, rfl, by simp [Cont.len]; omega, fun S w j x hj hx => ?_⟩
    simp only [cellC, cell1, cellI] at hx ⊢
    rw [hx]
    congr 1
    simp only [List.getD_eq_getElem?_getD, List.getElem?_drop, List.getElem?_take]
    rw [if_pos (by omega)]
  | rows k z =>
    cases hc
    simp only [Cont.len] at h2
    refine ⟨rfl, rfl, by simp [Cont.len]; omega, fun S w j x hj hx => ?_⟩
    simp only [cellC, cell1, cellR] at hx ⊢
    have : (List.drop l (List.take h z)).getD j [] = z.getD (l + j) [] := by
      simp only [List.getD_eq_getElem?_getD, List.getElem?_drop, List.getElem?_take]
      rw [if_pos (by omega)]
    rw [this]
    exact hx
  | rows2 k z =>
    cases hc
    simp only [Cont.len] at h2
    refine ⟨rfl, rfl, by simp [Cont.len]; omega, fun S w j x hj hx => ?_⟩
    simp only [cellC, cell1, cellR2] at hx ⊢
    have : (List.drop l (List.take h z)).getD j [] = z.getD (l + j) [] := by
      simp only [List.getD_eq_getElem?_getD, List.getElem?_drop, List.getElem?_take]
      rw [if_pos (by omega)]
    rw [this]
    exact hx

theorem slC_sub {S : Nat → Prop} {w : World} {c c' : Cont} {l h m : Nat} (hc : c.sub l h = some c') (h1 : l ≤ h) (h2 : h ≤ m) {A : Option Addr} {len cap : Nat} (hm : m ≤ cap) (hlen : h ≤ c.len) (hs : SlC S w c (.slice A len cap)) :
    SlC S w c' (.slice (if m = l then A else A.map (·.add (l * 1))) (h - l) (m - l)) := by
  obtain ⟨A', cap', hu, hcap, hx⟩ := hs
  cases hu
  obtain ⟨s1, s2, s3, hcell⟩ := Cont.sub_spec hc h1 hlen
  refine ⟨_, _, by rw [s3], by rw [s3]; omega, fun hpos => ?_⟩
  rw [s3] at hpos
  obtain ⟨a, rfl, hS, hx⟩ := hx (by omega)
  rw [if_neg (by omega)]
  refine ⟨a.add (l * 1), rfl, by rw [add_block]; exact hS, fun j hj => ?_⟩
  rw [s2, s3] at hj
  obtain ⟨x, g1, g2⟩ := hx (l + j) (by rw [s1]; omega)
  exact ⟨x, by rw [add_add, Nat.mul_one]; exact g1, hcell S w j x (by omega) g2⟩

section
variable {D : Ctx} {B0 : Nat} {w0 : W0} {st : ASt} {dst : Option Tmp} {type : TypeId} {pos : String} {after : Array Edge} {guard : Option (Nat × Bool)}

/-- the operands of a slice expression -/
def BoundsOk (D : Ctx) (B0 : Nat) (w0 : W0) (st : ASt) (o : Option Operand) (v : Option Int) : Prop :=
  (o = none ∧ v = none) ∨ ∃ x k i, o = some x ∧ v = some i ∧ ev st.f x = .v (.int k i)

theorem BoundsOk.optIs {o : Option Operand} {v : Option Int} (h : BoundsOk D B0 w0 st o v) {E : Env} {act : Act} {w : World} (hR : Rel D B0 w0 E st act w) (d : Int) : OptIs (o.map act.eval) d (v.getD d) := by
  rcases h with ⟨rfl, rfl⟩ | ⟨x, k, i, rfl, rfl, hx⟩
  · exact .inl ⟨rfl, rfl⟩
  · have := hR.ev x
    rw [hx] at this
    simp only [RelV] at this
    exact .inr ⟨k, by simp [this]⟩

theorem ok_slice_sl {t e : TypeId} {sz : Nat} (ht : D.P.underlying t = some (.slice e)) (hs : cellsT D.P e = some sz) (x : Operand) (lo hi : Option Operand) {vl vh : Option Int} (hvl : BoundsOk D B0 w0 st lo vl) (hvh : BoundsOk D B0 w0 st hi vh)
    {c c' : Cont} (hx : ev st.f x = .sl c) (h0 : 0 ≤ vl.getD 0) (h1 : vl.getD 0 ≤ vh.getD (c.len : Int)) (h2 : vh.getD (c.len : Int) ≤ (c.len : Int)) (hc : c.sub (vl.getD 0).toNat (vh.getD (c.len : Int)).toNat = some c') (hsz : sz = 1) :
    OpOk D B0 w0 st ⟨dst, .slice t x lo hi none, type, pos, after, guard⟩ ⟨.sl c', [], st.n⟩ :=
  opOk_val fun E act w hR => by
    have hX := hR.ev x
    rw [hx] at hX
    simp only [RelV] at hX
    obtain ⟨A, cap, hu, hcap, _⟩ := (show _ from hX)
    have hr := run_sliceAt (P := D.P) (w := w) ht hs A (mx := none) (m := cap) (hvl.optIs hR 0) (hvh.optIs hR (c.len : Int)) (.inl ⟨rfl, rfl⟩) h0 h1 (by omega) (Int.le_refl _)
    subst hsz
    rw [hu] at hX
    refine ⟨_, by simp only [execOp, hu, Option.map_none, Sem.run_bind, hr, Result.andThen_ok, Sem.run_pure]; rfl, ?_⟩
    simp only [RelV]
    exact slC_sub hc (by omega) (by omega) (by omega) (by omega) hX
theorem ok_slice_all {t e : TypeId} {sz : Nat} (ht : D.P.underlying t = some (.slice e)) (hs : cellsT D.P e = some sz) (x : Operand) (hA : ∀ E act w, Rel D B0 w0 E st act w → ∃ a len cap, act.eval x = .slice a len cap) :
    OpOk D B0 w0 st ⟨dst, .slice t x none none none, type, pos, after, guard⟩ ⟨ev st.f x, [], st.n⟩ :=
  opOk_val fun E act w hR => by
    have hX := hR.ev x
    obtain ⟨a, len, cap, hu⟩ := hA E act w hR
    have hrb : (Instr.sliceBounds true len cap none none none).run D.P w = .ok (0, len, cap) w := by simp [Instr.sliceBounds]
    have hr : (Instr.sliceAt t (.slice a len cap) none none none).run D.P w = .ok (.slice a len cap) w := by
      simp only [Instr.sliceAt, Instr.slice, Sem.run_bind, run_underlying ht, Result.andThen_ok, hrb, run_sizeOf hs, Sem.run_pure]
      congr 1
      simp only [Nat.sub_zero, Nat.zero_mul]
      congr 1
      split
      · rfl
      · cases a <;> simp [Addr.add]
    refine ⟨act.eval x, ?_, hX⟩
    simp only [execOp, hu, Option.map_none, Sem.run_bind, hr, Result.andThen_ok, Sem.run_pure]
theorem ok_slice_own {t e : TypeId} {sz : Nat} (ht : D.P.underlying t = some (.slice e)) (hs : cellsT D.P e = some sz) (x : Operand) (lo hi : Option Operand) {vl vh : Option Int} (hvl : BoundsOk D B0 w0 st lo vl) (hvh : BoundsOk D B0 w0 st hi vh)
    {id : Nat} {e' : TypeId} {c : Cont} {f : Bool} (hb : hlook st.h id = some ⟨.row e' c, f⟩) (hx : ev st.f x = .own id) (h0 : 0 ≤ vl.getD 0) (h1 : vl.getD 0 ≤ vh.getD (c.len : Int)) (h2 : vh.getD (c.len : Int) ≤ (c.len : Int)) (hsz : sz = 1 ∨ vl.getD 0 = 0) :
    OpOk D B0 w0 st ⟨dst, .slice t x lo hi none, type, pos, after, guard⟩ ⟨.win id (vl.getD 0).toNat (vh.getD (c.len : Int) - vl.getD 0).toNat, [], st.n⟩ :=
  opOk_val fun E act w hR => by
    have hX := hR.ev x
    rw [hx] at hX
    simp only [RelV] at hX
    obtain ⟨v, hv, ⟨xs, ho, _⟩, _⟩ := hR.heap _ _ hb
    rw [hX] at hv
    cases hv
    obtain ⟨A, n, cap, hu, hn, hcap⟩ : ∃ A n cap, act.eval x = .slice A n cap ∧ n = c.len ∧ n ≤ cap := by
      rcases (show _ from ho.2) with ⟨h, h'⟩ | ⟨g, cap, cur, h, _, _, hn, _⟩
      · exact ⟨none, 0, 0, h, h'.symm, Nat.le_refl _⟩
      · exact ⟨_, _, _, h, rfl, hn⟩
    subst hn
    have hr := run_sliceAt (P := D.P) (w := w) ht hs A (mx := none) (m := cap) (hvl.optIs hR 0) (hvh.optIs hR (c.len : Int)) (.inl ⟨rfl, rfl⟩) h0 h1 (by omega) (Int.le_refl _)
    refine ⟨_, by simp only [execOp, hu, Option.map_none, Sem.run_bind, hr, Result.andThen_ok, Sem.run_pure]; rfl, ?_⟩
    simp only [RelV]
    refine ⟨A, c.len, cap, by rw [hX, hu], by omega, ?A', fun hlen => ?h1, fun hoff => ?h2, ?h3⟩
    case h3 =>
      simp only [Int.toNat_natCast]
      rw [show (vh.getD (c.len : Int)).toNat - (vl.getD 0).toNat = (vh.getD (c.len : Int) - vl.getD 0).toNat from by omega]
    · have e1 : (vl.getD 0).toNat * sz = (vl.getD 0).toNat := by rcases hsz with h | h <;> simp [h]
      rw [if_neg (by omega), e1]
    · split
      · rfl
      · rw [hoff]; cases A <;> simp [Addr.add]
theorem ok_slice_win {t e : TypeId} (ht : D.P.underlying t = some (.slice e)) (hs : cellsT D.P e = some 1) (x : Operand) (lo hi : Option Operand) {vl vh : Option Int} (hvl : BoundsOk D B0 w0 st lo vl) (hvh : BoundsOk D B0 w0 st hi vh)
    {id off len : Nat} {e' : TypeId} {c : Cont} {f : Bool} (hb : hlook st.h id = some ⟨.row e' c, f⟩) (hx : ev st.f x = .win id off len) (h0 : 0 ≤ vl.getD 0) (h1 : vl.getD 0 ≤ vh.getD (len : Int)) (h2 : vh.getD (len : Int) ≤ (len : Int)) :
    OpOk D B0 w0 st ⟨dst, .slice t x lo hi none, type, pos, after, guard⟩ ⟨.win id (off + (vl.getD 0).toNat) (vh.getD (len : Int) - vl.getD 0).toNat, [], st.n⟩ :=
  opOk_val fun E act w hR => by
    have hX := hR.ev x
    rw [hx] at hX
    simp only [RelV] at hX
    obtain ⟨A, n, cap, hρ, hle, A', hA1, hA2, hu⟩ := hX
    have hcap : n ≤ cap := by
      obtain ⟨v, hv, ⟨xs, ho, _⟩, _⟩ := hR.heap _ _ hb
      rw [hρ] at hv
      cases hv
      cases A with
      | none => have := ownsRow_nil_len ho rfl; omega
      | some a => obtain ⟨g1, g2, _⟩ := ownsRow_cells ho rfl; omega
    have hr := run_sliceAt (P := D.P) (w := w) ht hs A' (mx := none) (len := len) (cap := cap - off) (m := (cap - off : Nat)) (hvl.optIs hR 0) (hvh.optIs hR (len : Int)) (.inl ⟨rfl, rfl⟩) h0 h1 (by omega) (Int.le_refl _)
    refine ⟨_, by simp only [execOp, hu, Option.map_none, Sem.run_bind, hr, Result.andThen_ok, Sem.run_pure]; rfl, ?_⟩
    simp only [RelV]
    refine ⟨A, n, cap, hρ, by omega, ?A', fun hlen => ?h1, fun hoff => ?h2, ?h3⟩
    case h3 =>
      simp only [Int.toNat_natCast, Nat.mul_one]
      rw [show (vh.getD (len : Int)).toNat - (vl.getD 0).toNat = (vh.getD (len : Int) - vl.getD 0).toNat from by omega, Nat.sub_sub]
    · rw [if_neg (by omega), hA1 (by omega)]
      cases A <;> simp [add_add]
    · rw [hA2 (by omega), show (vl.getD 0).toNat = 0 from by omega]
      split
      · rfl
      · cases A <;> simp [Addr.add]
theorem ok_slice_awin {t e : TypeId} (ht : D.P.underlying t = some (.slice e)) (hs : cellsT D.P e = some 1) (x : Operand) (lo hi : Option Operand) {vl vh : Option Int} (hvl : BoundsOk D B0 w0 st lo vl) (hvh : BoundsOk D B0 w0 st hi vh)
    {id off m wl len : Nat} (hx : ev st.f x = .awin id off m wl len) (h0 : 0 ≤ vl.getD 0) (h1 : vl.getD 0 ≤ vh.getD (len : Int)) (h2 : vh.getD (len : Int) ≤ (len : Int)) :
    OpOk D B0 w0 st ⟨dst, .slice t x lo hi none, type, pos, after, guard⟩ ⟨.awin id off m (wl + (vl.getD 0).toNat) (vh.getD (len : Int) - vl.getD 0).toNat, [], st.n⟩ :=
  opOk_val fun E act w hR => by
    have hX := hR.ev x
    rw [hx] at hX
    simp only [RelV] at hX
    obtain ⟨b, A, cap, hρ, hle, hcap, hA, hu⟩ := hX
    have hr := run_sliceAt (P := D.P) (w := w) ht hs A (mx := none) (len := len) (cap := cap) (m := cap) (hvl.optIs hR 0) (hvh.optIs hR (len : Int)) (.inl ⟨rfl, rfl⟩) h0 h1 (by omega) (Int.le_refl _)
    refine ⟨_, by simp only [execOp, hu, Option.map_none, Sem.run_bind, hr, Result.andThen_ok, Sem.run_pure]; rfl, ?_⟩
    simp only [RelV]
    refine ⟨b, ?A', ?c', hρ, by omega, ?h1, fun hlen => ?h2, ?h3⟩
    case h3 =>
      rw [show (vh.getD (len : Int)).toNat - (vl.getD 0).toNat = (vh.getD (len : Int) - vl.getD 0).toNat from by omega]
    · omega
    · rw [if_neg (by omega), hA (by omega)]
      simp [add_none, Nat.add_assoc]
theorem ok_slice_arr {t e : TypeId} {m : Nat} (ht : D.P.underlying t = some (.array m e)) (hs : cellsT D.P e = some 1) (x : Operand) (lo hi : Option Operand) {vl vh : Option Int} (hvl : BoundsOk D B0 w0 st lo vl) (hvh : BoundsOk D B0 w0 st hi vh)
    {id off : Nat} (hx : ev st.f x = .ptr id off) (h0 : 0 ≤ vl.getD 0) (h1 : vl.getD 0 ≤ vh.getD (m : Int)) (h2 : vh.getD (m : Int) ≤ (m : Int)) :
    OpOk D B0 w0 st ⟨dst, .slice t x lo hi none, type, pos, after, guard⟩ ⟨.awin id off m (vl.getD 0).toNat (vh.getD (m : Int) - vl.getD 0).toNat, [], st.n⟩ :=
  opOk_val fun E act w hR => by
    have hX := hR.ev x
    rw [hx] at hX
    simp only [RelV] at hX
    obtain ⟨b, hρ, hu⟩ := hX
    have hr := run_sliceAt_arr (P := D.P) (w := w) ht hs ⟨b, off, none⟩ (hvl.optIs hR 0) (hvh.optIs hR (m : Int)) h0 h1 h2
    refine ⟨_, by simp only [execOp, hu, Option.map_none, Sem.run_bind, hr, Result.andThen_ok, Sem.run_pure]; rfl, ?_⟩
    simp only [RelV]
    refine ⟨b, ?A', ?c', hρ, by omega, ?h1, fun hlen => ?h2, ?h3⟩
    case h3 =>
      rw [show (vh.getD (m : Int)).toNat - (vl.getD 0).toNat = (vh.getD (m : Int) - vl.getD 0).toNat from by omega]
    · omega
    · rw [if_neg (by omega)]
      simp [add_none]

/-! lengths, min, max -/
theorem lenA_rel {hl : Nat → Option Blk} (hm : ∀ id b, hl id = some b → hlook st.h id = some b) {x : AVal} {n : Nat} (h : lenA hl x = some n) {E : Env} {act : Act} {w : World} (hR : Rel D B0 w0 E st act w) {u : Value} (hu : RelV E w x u) :
    ∃ A cap, u = .slice A n cap := by
  unfold lenA at h
  split at h
  · cases h
    simp only [RelV] at hu
    obtain ⟨A, cap, rfl, hc, _⟩ := hu
    exact ⟨A, cap, rfl⟩
  · rename_i id
    split at h
    · rename_i e c f hb
      cases h
      simp only [RelV] at hu
      obtain ⟨v, hv, ⟨xs, ho, _⟩, _⟩ := hR.heap _ _ (hm _ _ hb)
      rw [hu] at hv
      cases hv
      rcases ho.2 with ⟨rfl, h0⟩ | ⟨g, cap, cur, rfl, _⟩
      · exact ⟨none, 0, by rw [h0]⟩
      · exact ⟨_, cap, rfl⟩
    · cases h
  · cases h
    simp only [RelV] at hu
    obtain ⟨A, n, cap, _, _, A', _, _, rfl⟩ := hu
    exact ⟨_, _, rfl⟩
  · cases h
    simp only [RelV] at hu
    obtain ⟨b, A, cap, _, _, _, _, rfl⟩ := hu
    exact ⟨_, _, rfl⟩
  · cases h
    simp only [RelV] at hu
    exact ⟨_, _, hu⟩
  · cases h
theorem ok_len {hl : Nat → Option Blk} (hm : ∀ id b, hl id = some b → hlook st.h id = some b) (x : Operand) {t : TypeId} {at_ : Array TypeId} (hat : at_[0]? = some t) {e : TypeId} (ht : D.P.underlying t = some (.slice e)) {n : Nat} (h : lenA hl (ev st.f x) = some n) :
    OpOk D B0 w0 st ⟨dst, .call ⟨.builtin .len, #[x], at_⟩, type, pos, after, guard⟩ ⟨.v (.int .i64 (n : Int)), [], st.n⟩ :=
  opOk_val fun E act w hR => by
    obtain ⟨A, cap, hu⟩ := lenA_rel hm h hR (hR.ev x)
    refine ⟨.int .i64 (n : Int), ?_, by simp only [RelV]⟩
    simp [execOp, resolve, invoke, builtin, Builtin.len_, hat, hu, run_underlying ht, goInt]
theorem ok_min (x y : Operand) {at_ : Array TypeId} {k k' : IntKind} {a b : Int} (hx : ev st.f x = .v (.int k a)) (hy : ev st.f y = .v (.int k' b)) :
    OpOk D B0 w0 st ⟨dst, .call ⟨.builtin .min, #[x, y], at_⟩, type, pos, after, guard⟩ ⟨.v (.int k (cond (decide (b < a)) b a)), [], st.n⟩ :=
  opOk_val fun E act w hR => by
    have h1 := hR.ev x
    have h2 := hR.ev y
    rw [hx] at h1
    rw [hy] at h2
    simp only [RelV] at h1 h2
    refine ⟨.int k (cond (decide (b < a)) b a), ?_, by simp only [RelV]⟩
    simp only [Bool.cond_decide]
    simp [execOp, resolve, invoke, builtin, Builtin.min_, h1, h2, Builtin.min2]
theorem ok_max (x y : Operand) {at_ : Array TypeId} {k k' : IntKind} {a b : Int} (hx : ev st.f x = .v (.int k a)) (hy : ev st.f y = .v (.int k' b)) :
    OpOk D B0 w0 st ⟨dst, .call ⟨.builtin .max, #[x, y], at_⟩, type, pos, after, guard⟩ ⟨.v (.int k (cond (decide (b > a)) b a)), [], st.n⟩ :=
  opOk_val fun E act w hR => by
    have h1 := hR.ev x
    have h2 := hR.ev y
    rw [hx] at h1
    rw [hy] at h2
    simp only [RelV] at h1 h2
    refine ⟨.int k (cond (decide (b > a)) b a), ?_, by simp only [RelV]⟩
    simp only [Bool.cond_decide]
    simp [execOp, resolve, invoke, builtin, Builtin.max_, h1, h2, Builtin.max2]
end
end Go.Abs
