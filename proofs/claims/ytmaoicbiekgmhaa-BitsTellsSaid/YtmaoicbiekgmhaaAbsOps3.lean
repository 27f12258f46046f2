import Derived.Test.YtmaoicbiekgmhaaAbsOps2
namespace Go.Abs
open Go Go.RowKit
set_option linter.unusedVariables false
set_option linter.unusedSimpArgs false

/-- an address and the parts that lie there -/
def Place (E : Env) (w : World) (u : Value) (l : List AVal) (sz : Nat) : Prop :=
  ∃ a cs, u = .pointer (some a) ∧ RelF E w l cs ∧ cs.length = sz ∧ ∀ j, j < cs.length → w.cell? (a.add j) = cs[j]?

section
variable {D : Ctx} {B0 : Nat} {w0 : W0} {E : Env} {st : ASt} {act : Act} {w : World}

theorem place_sta {l : List AVal} {u : Value} (h : RelV E w (.sta l) u) {sz : Nat} (hs : (l.map asize).sum = sz) : Place E w u l sz := by
  simp only [RelV] at h
  obtain ⟨a, cs, h1, h2, h3, h4⟩ := h
  exact ⟨a, cs, h1, h3, by rw [relF_len _ _ h3, hs], h4⟩
theorem cells_mid {l pre mid post : List AVal} {off sz : Nat} (hg : getC l off sz = some (pre, mid, post)) {cs : List Value} (h : RelF E w l cs) (a : Addr)
    (hc : ∀ j, j < cs.length → w.cell? (a.add j) = cs[j]?) : ∃ c2, RelF E w mid c2 ∧ c2.length = sz ∧ ∀ j, j < c2.length → w.cell? ((a.add off).add j) = c2[j]? := by
  obtain ⟨c1, c2, c3, rfl, g1, g2, g3, l1, l2⟩ := relF_mid hg h
  refine ⟨c2, g2, l2, fun j hj => ?_⟩
  rw [add_add, hc (off + j) (by simp; omega)]
  rw [List.getElem?_append_right (by omega), List.getElem?_append_left (by omega)]
  congr 1
  omega
theorem place_box {e : TypeId} {l pre mid post : List AVal} {id off sz : Nat} {f : Bool} (hb : BlkR E w B0 id ⟨.box e l, f⟩) (hg : getC l off sz = some (pre, mid, post)) {u : Value} (h : RelV E w (.ptr id off) u) :
    Place E w u mid sz := by
  simp only [RelV] at h
  obtain ⟨b, h1, rfl⟩ := h
  obtain ⟨v, hv, ⟨k, cs, rfl, hB, hh, hl⟩, _⟩ := hb
  rw [hv] at h1
  cases h1
  obtain ⟨c2, g1, g2, g3⟩ := cells_mid hg hl ⟨b, 0, none⟩ (fun j hj => by rw [add_none, cell_block hh]; simp)
  exact ⟨⟨b, off, none⟩, c2, rfl, g1, g2, fun j hj => by have := g3 j hj; rw [add_none] at this; simpa using this⟩
theorem place_glob {l pre mid post : List AVal} {g off sz : Nat} (hgl : ∃ cs e fz, w.heap[g]? = some (.cells cs e fz) ∧ RelF E w l cs.toList) (hg : getC l off sz = some (pre, mid, post)) {u : Value} (h : RelV E w (.glob g off) u) :
    Place E w u mid sz := by
  simp only [RelV] at h
  subst h
  obtain ⟨cs, e, fz, hh, hl⟩ := hgl
  obtain ⟨c2, g1, g2, g3⟩ := cells_mid hg hl ⟨g, 0, none⟩ (fun j hj => by rw [add_none, cell_block hh]; simp)
  exact ⟨⟨g, off, none⟩, c2, rfl, g1, g2, fun j hj => by have := g3 j hj; rw [add_none] at this; simpa using this⟩
theorem place_pel {e : TypeId} {c : Cont} {id i : Nat} {f : Bool} (hb : BlkR E w B0 id ⟨.row e c, f⟩) {u : Value} (h : RelV E w (.pel id c.size i) u) :
    Place E w u (c.elem i) c.size := by
  simp only [RelV] at h
  obtain ⟨a, n, cap, h1, hi, rfl⟩ := h
  obtain ⟨v, hv, ⟨xs, ho, hx⟩, _⟩ := hb
  rw [hv] at h1
  cases h1
  obtain ⟨rfl, hcap, ⟨g, rfl⟩, hcell⟩ := ownsRow_cells ho rfl
  have hxl : xs.length = c.len * c.size := ho.1
  have hle : i * c.size + c.size ≤ xs.length := by rw [hxl, ← Nat.succ_mul]; exact Nat.mul_le_mul_right _ hi
  have hlen : ((xs.drop (i * c.size)).take c.size).length = c.size := by simp; omega
  refine ⟨_, (xs.drop (i * c.size)).take c.size, rfl, elem_rel hlen fun j x hj => ?_, hlen, fun j hj => ?_⟩
  · have hjl : j < c.size := by
      have := (List.getElem?_eq_some_iff.1 hj).1
      omega
    rw [List.getElem?_take, if_pos hjl, List.getElem?_drop] at hj
    exact (hx _ x hj).2
  · rw [hlen] at hj
    rw [add_add, hcell _ (by omega), List.getElem?_take, if_pos hj, List.getElem?_drop]
theorem place_apel {e : TypeId} {k : IntKind} {m : Nat} {z : List Int} {l pre post : List AVal} {id off i : Nat} {f : Bool} (hb : BlkR E w B0 id ⟨.box e l, f⟩) (hs : splitC l off = some (pre, .arr k m z :: post)) {u : Value}
    (h : RelV E w (.apel id off m i) u) : Place E w u [.v (.int k (z.getD i 0))] 1 := by
  simp only [RelV] at h
  obtain ⟨b, h1, hi, rfl⟩ := h
  obtain ⟨v, hv, ⟨kb, cs, rfl, hB, hh, hl⟩, _⟩ := hb
  rw [hv] at h1
  cases h1
  obtain ⟨c1, c2, he, g1, g2, l1⟩ := relF_at hs hl
  obtain ⟨cs', hz, rfl, _⟩ := relF_arr_head g2
  refine ⟨_, [.int k (z.getD i 0)], rfl, relF_one (by simp) rfl (by simp only [RelV]) (by simp only [RelF]), rfl, fun j hj => ?_⟩
  have : j = 0 := by simpa using hj
  subst this
  rw [show (⟨b, off + i, none⟩ : Addr).add 0 = ⟨b, off + i, none⟩ from by simp [Addr.add], cell_block hh, ← Array.getElem?_toList, he]
  rw [List.getElem?_append_right (by omega), List.getElem?_append_left (by simp; omega)]
  simp [l1, List.getElem?_eq_getElem (show i < z.length by omega)]
theorem place_gel {k : IntKind} {m : Nat} {z : List Int} {l pre post : List AVal} {g off i : Nat} (hgl : ∃ cs e fz, w.heap[g]? = some (.cells cs e fz) ∧ RelF E w l cs.toList) (hs : splitC l off = some (pre, .arr k m z :: post)) {u : Value}
    (h : RelV E w (.gel g off m i) u) : Place E w u [.v (.int k (z.getD i 0))] 1 := by
  simp only [RelV] at h
  obtain ⟨hi, rfl⟩ := h
  obtain ⟨cs, e, fz, hh, hl⟩ := hgl
  obtain ⟨c1, c2, he, g1, g2, l1⟩ := relF_at hs hl
  obtain ⟨cs', hz, rfl, _⟩ := relF_arr_head g2
  refine ⟨_, [.int k (z.getD i 0)], rfl, relF_one (by simp) rfl (by simp only [RelV]) (by simp only [RelF]), rfl, fun j hj => ?_⟩
  have : j = 0 := by simpa using hj
  subst this
  rw [show (⟨g, off + i, none⟩ : Addr).add 0 = ⟨g, off + i, none⟩ from by simp [Addr.add], cell_block hh, ← Array.getElem?_toList, he]
  rw [List.getElem?_append_right (by omega), List.getElem?_append_left (by simp; omega)]
  simp [l1, List.getElem?_eq_getElem (show i < z.length by omega)]
end

section
variable {D : Ctx} {B0 : Nat} {w0 : W0} {st : ASt} {dst : Option Tmp} {type : TypeId} {pos : String} {after : Array Edge} {guard : Option (Nat × Bool)}

theorem ok_load_agg (t : TypeId) (x : Operand) {l : List AVal} {sz : Nat} (hg : isAggT D.P t = some true) (hs : cellsT D.P t = some sz)
    (hp : ∀ E act w, Rel D B0 w0 E st act w → Place E w (act.eval x) l sz) :
    OpOk D B0 w0 st ⟨dst, .load t x, type, pos, after, guard⟩ ⟨aggOf l, [], st.n⟩ :=
  opOk_val fun E act w hR => by
    obtain ⟨a, cs, hu, hl, hsz, hc⟩ := hp E act w hR
    refine ⟨.agg cs.toArray, ?_, relV_aggOf hl⟩
    simp only [execOp, hu, Sem.run_bind, run_loadAt hg hs a cs hsz hc (.agg cs.toArray) (by simp), Result.andThen_ok, Sem.run_pure]
theorem ok_load_one (t : TypeId) (x : Operand) {a : AVal} (hg : isAggT D.P t = some false) {sz : Nat} (hs : cellsT D.P t = some sz) (ha : ∀ k n l, a ≠ .arr k n l)
    (hp : ∀ E act w, Rel D B0 w0 E st act w → Place E w (act.eval x) [a] sz) :
    OpOk D B0 w0 st ⟨dst, .load t x, type, pos, after, guard⟩ ⟨a, [], st.n⟩ :=
  opOk_val fun E act w hR => by
    obtain ⟨ad, cs, hu, hl, hsz, hc⟩ := hp E act w hR
    obtain ⟨u, rfl, _, hv⟩ := relF_single hl ha
    refine ⟨u, ?_, hv⟩
    simp only [execOp, hu, Sem.run_bind, run_loadAt hg hs ad [u] hsz hc u (by simp), Result.andThen_ok, Sem.run_pure]
end
end Go.Abs
