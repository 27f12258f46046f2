/-
  ForsSigns, part 8: an interpreter of my own over abstract values, the pure functions, the walks and the plain law.
-/

import Derived.Test.YtjhnljhjpnjieaaGreatDoorForsSignsG
import Derived.OpenShut
import Derived.ChangeSlices
import Derived.Deep.Slices
import Derived.WideShapes
import Derived.SizedLaws
import Derived.LaidMore
import Derived.FnData

section
/- A law's arguments, as they are read. -/
namespace Go.Abs
open Go Go.Deep Go.ChangeShapes
set_option linter.unusedVariables false
set_option linter.unusedSimpArgs false
def wfI (k : IntKind) (n : Int) : Prop := (Lit.int k n).wf = true
def bb4 (P : Program) (n : Nat) (t : TypeId) (c : Cont) : Prop :=
 match P.underlying t with
 | some (.int k) => ∃ xs, c = .ints k xs ∧ xs.length = n ∧ ∀ x, x ∈ xs → wfI k x
 | some (.slice f) => match P.underlying f with
  | some (.int k) => ∃ xs, c = .rows k xs ∧ xs.length = n ∧ ∀ y, y ∈ xs → y.length ≤ 140737488355328 ∧ ∀ x, x ∈ y → wfI k x
  | _ => False
 | _ => False
def bak (P : Program) (n : Nat) : List Field → List Cont → Prop
 | [], cs => cs = []
 | f :: fs, cs => ∃ c r, cs = c :: r ∧ bb4 P n f.type c ∧ bak P n fs r
def bf7 (P : Program) (t : TypeId) : Bool :=
 match P.underlying t with
 | some (.int _) => true
 | some (.slice f) => Nat.beq (P.cellsOf f) 1 && Nat.blt 0 (P.bytesOf f) && match P.underlying f with
  | some (.int _) => true
  | _ => false
 | _ => false
def atq (P : Program) : List Field → Nat → Nat → Bool
 | [], o, m => Nat.beq o m
 | f :: fs, o, m => Nat.beq f.offset o && Nat.beq (P.cellsOf f.type) 1 && bf7 P f.type && atq P fs (o + 1) m
mutual
def Good (P : Program) : Nat → TypeId → List AVal → Prop
 | 0, _, _ => False
 | d + 1, t, l => match P.underlying t with
  | some .bool => ∃ b, l = [.v (.bool b)]
  | some (.int k) => ∃ n, l = [.v (.int k n)] ∧ wfI k n
  | some (.slice e) => match P.underlying e with
   | some (.int k) => ∃ xs, l = [.sl (.ints k xs)] ∧ xs.length ≤ 140737488355328 ∧ ∀ x, x ∈ xs → wfI k x
   | some (.slice f) => match P.underlying f with
    | some (.int k) => ∃ xs, l = [.sl (.rows k xs)] ∧ xs.length ≤ 140737488355328 ∧ ∀ y, y ∈ xs → y.length ≤ 140737488355328 ∧ ∀ x, x ∈ y → wfI k x
    | _ => False
   | some (.struct fs) => ∃ n cs, l = [.sl (.cols n cs)] ∧ n ≤ 140737488355328 ∧ bak P n fs.toList cs
   | _ => False
  | some (.array n e) => match P.underlying e with
   | some (.int k) => ∃ xs, l = [.arr k n xs] ∧ xs.length = n ∧ ∀ x, x ∈ xs → wfI k x
   | _ => bjm P d e n l
  | some (.struct fs) => bj8 P d fs.toList l
  | _ => False
def bjm (P : Program) : Nat → TypeId → Nat → List AVal → Prop
 | 0, _, _, _ => False
 | _ + 1, _, 0, l => l = []
 | d + 1, e, n + 1, l => ∃ a b, l = a ++ b ∧ Good P d e a ∧ bjm P d e n b
def bj8 (P : Program) : Nat → List Field → List AVal → Prop
 | 0, _, _ => False
 | _ + 1, [], l => l = []
 | d + 1, f :: fs, l => ∃ a b, l = a ++ b ∧ Good P d f.type a ∧ bj8 P d fs b
end
mutual
def aw4 (P : Program) : Nat → TypeId → Bool
 | 0, _ => false
 | d + 1, t => match P.underlying t with
  | some .bool => true
  | some (.int _) => true
  | some (.slice e) => match P.underlying e with
   | some (.int _) => Nat.beq (P.cellsOf e) 1 && Nat.blt 0 (P.bytesOf e)
   | some (.slice f) => (Nat.beq (P.cellsOf e) 1 && Nat.blt 0 (P.bytesOf e)) && (Nat.beq (P.cellsOf f) 1 && Nat.blt 0 (P.bytesOf f) && match P.underlying f with
    | some (.int _) => true
    | _ => false)
   | some (.struct fs) => (Nat.blt 0 (P.bytesOf e) && Nat.blt 0 (P.cellsOf e)) && atq P fs.toList 0 (P.cellsOf e)
   | _ => false
  | some (.array n e) => Nat.beq (P.cellsOf t) (n * P.cellsOf e) && match P.underlying e with
   | some (.int _) => Nat.beq (P.cellsOf e) 1
   | _ => bh3 P d e n
  | some (.struct fs) => aw2 P d fs.toList 0 (P.cellsOf t)
  | _ => false
def bh3 (P : Program) : Nat → TypeId → Nat → Bool
 | 0, _, _ => false
 | _ + 1, _, 0 => true
 | d + 1, e, n + 1 => aw4 P d e && bh3 P d e n
def aw2 (P : Program) : Nat → List Field → Nat → Nat → Bool
 | 0, _, _, _ => false
 | _ + 1, [], o, m => Nat.beq o m
 | d + 1, f :: fs, o, m => Nat.beq f.offset o && aw4 P d f.type && aw2 P d fs (o + P.cellsOf f.type) m
end
section
variable {H : Type} {enc : TypeId × Value → H} {P : Program} {w : World} {base : Nat} {spare : Nat → Bool} {held : Bool}
def bdl (w : World) : Nat → Prop := fun b => b < w.heap.size
theorem ben {a : Addr} {v : Value} (h : w.cell? a = some v) : a.block < w.heap.size := by
 refine Nat.lt_of_not_le fun hge => ?_
 unfold World.cell? at h
 rw [Array.getElem?_eq_none hge] at h
 cases h
theorem aue {t e : TypeId} {k : IntKind} {fuel : Nat} {cs : List Value} {x : DataW H × List MemPlace} (ht : P.underlying t = some (.slice e)) (he : P.underlying e = some (.int k)) (hc : P.cellsOf e = 1) (h : DataW.trod enc P w base spare held fuel t cs = some x) (hw : ∀ n, n ∈ x.1.weights P t → n ≤ reachBytes) (hby : 0 < P.bytesOf e) :
    ∃ u xs, cs = [u] ∧ u.oneCell' = true ∧ SlI (bdl w) w k xs u ∧ xs.length ≤ 140737488355328 ∧ ∀ x, x ∈ xs → wfI k x := by
 rcases open_ints ht he hc h with ⟨rfl, _⟩ | ⟨a, len, cap, zs, rfl, hb, hl, hm, hz, hxx, hcell, hwz⟩
 ·exact ⟨_, [], rfl, rfl, ⟨none, 0, rfl, Nat.le_refl _, fun h => by simp at h⟩, by simp, by simp⟩
 ·have hzl : len ≤ zs.length := by rw [hz]; split <;> omega
  have hlim : zs.length ≤ 140737488355328 := by
   subst hxx
   have h1 := hw (((lits k (zs.take len) : List (DataW H)).length + (lits k (zs.drop len) : List (DataW H)).length) * P.bytesOf e) (by unfold DataW.weights; rw [ht]; exact List.mem_cons_self ..)
   have h2 : (lits k (zs.take len) : List (DataW H)).length + (lits k (zs.drop len) : List (DataW H)).length = zs.length := by simp [lits]; omega
   rw [h2] at h1
   have := Nat.le_trans (Nat.le_mul_of_pos_right zs.length hby) h1
   have h3 := reachBytes_lt
   omega
  refine ⟨_, zs.take len, rfl, rfl, ⟨some a, cap, ?_, by simp; omega, fun h => ⟨a, rfl, ?_, fun j hj => ?_⟩⟩, by simp; omega, fun y hy => hwz y (List.mem_of_mem_take hy)⟩
  ·rw [List.length_take, Nat.min_eq_left hzl]
  ·have h9 : 0 < zs.length := by simp at h; omega
   have := ben (hcell 0 h9)
   rwa [add_block] at this
  ·simp at hj
   refine ⟨_, hcell j (by omega), ?_⟩
   simp only [ajb]
   rw [List.getD_eq_getElem?_getD, List.getD_eq_getElem?_getD, List.getElem?_take_of_lt (by omega)]
theorem ag6 {α : Type} {p : Nat → α → Prop} : ∀ (n : Nat), (∀ i, i < n → ∃ a, p i a) → ∃ l : List α, l.length = n ∧ ∀ i a, l[i]? = some a → p i a
 | 0, _ => ⟨[], rfl, by simp⟩
 | n + 1, h => by
  obtain ⟨l, h1, h2⟩ := ag6 n (fun i hi => h i (by omega))
  obtain ⟨a, ha⟩ := h n (by omega)
  refine ⟨l ++ [a], by simp [h1], fun i b hb => ?_⟩
  by_cases hi : i < n
  ·rw [List.getElem?_append_left (by omega)] at hb; exact h2 i b hb
  ·rw [List.getElem?_append_right (by omega)] at hb
   have : i = n := by
    have := (List.getElem?_eq_some_iff.1 hb).1
    simp at this; omega
   subst this
   simp [h1] at hb
   subst hb
   exact ha
theorem aee {e : TypeId} : ∀ {ds : List (DataW H)} {d : DataW H}, d ∈ ds → ∀ n, n ∈ d.weights P e → n ∈ DataW.weightsAll P e ds
 | d0 :: ds, d, hd, n, hn => by
  simp only [DataW.weightsAll, List.mem_append]
  rcases List.mem_cons.1 hd with rfl | hd
  ·exact .inl hn
  ·exact .inr (aee hd n hn)
theorem awd {m : Nat} : ∀ (fs : List Field) (o : Nat), atq P fs o m = true → o + fs.length = m
 | [], o, h => by simp only [atq] at h; have := Nat.eq_of_beq_eq_true h; simpa using this
 | f :: fs, o, h => by
  simp only [atq, Bool.and_eq_true] at h
  have := awd fs (o + 1) h.2
  simp only [List.length_cons]
  omega
theorem ba6 : ∀ (fs : List Field) (o m : Nat), atq P fs o m = true → ∃ cc, bak P 0 fs cc ∧ cc.length = fs.length
 | [], o, m, _ => ⟨[], by simp only [bak], rfl⟩
 | f :: fs, o, m, h => by
  simp only [atq, Bool.and_eq_true] at h
  obtain ⟨r, hr, hl⟩ := ba6 fs (o + 1) m h.2
  have h1 := h.1.2
  have : ∃ c, bb4 P 0 f.type c := by
   unfold bf7 at h1
   unfold bb4
   split at h1
   ·rename_i k he; exact ⟨_, [], rfl, rfl, by simp⟩
   ·rename_i g he
    simp only [Bool.and_eq_true] at h1
    have h2 := h1.2
    split at h2
    ·rename_i k hg; exact ⟨_, [], rfl, rfl, by simp⟩
    ·cases h2
   ·cases h1
  obtain ⟨c, hc⟩ := this
  exact ⟨c :: r, by simp only [bak]; exact ⟨c, r, rfl, hc, hr⟩, by simp [hl]⟩
theorem bnx {t : TypeId} {n fuel : Nat} {A : Nat → Addr} (hg : bf7 P t = true) (h : ∀ i, i < n → ∃ v d, w.cell? (A i) = some v ∧ DataW.trod enc P w base spare held fuel t [v] = some d ∧ ∀ q, q ∈ d.1.weights P t → q ≤ reachBytes) :
    ∃ c, bb4 P n t c ∧ ∀ i, i < n → ∃ v, w.cell? (A i) = some v ∧ cell1 (bdl w) w c i v := by
 unfold bf7 at hg
 unfold bb4
 split at hg
 ·rename_i k he
  obtain ⟨zs, hzl, hzs⟩ := ag6 (α := Int) (p := fun i z => w.cell? (A i) = some (.int k z) ∧ wfI k z) n (fun i hi => by
   obtain ⟨v, d, h1, h2, _⟩ := h i hi
   obtain ⟨z, g1, _, g2⟩ := DataW.trod_int he h2
   cases g1
   exact ⟨z, h1, g2⟩)
  refine ⟨_, ⟨zs, rfl, hzl, fun x hx => ?_⟩, fun i hi => ⟨_, (hzs i (zs.getD i 0) (by rw [List.getD_eq_getElem?_getD, List.getElem?_eq_getElem (by omega)]; rfl)).1, rfl⟩⟩
  obtain ⟨i, hi⟩ := List.getElem?_of_mem hx
  exact (hzs i x hi).2
 ·rename_i g he
  simp only [Bool.and_eq_true] at hg
  have hcf := Nat.eq_of_beq_eq_true hg.1.1
  have hbf : 0 < P.bytesOf g := by simpa using hg.1.2
  have hg := hg.2
  split at hg
  ·rename_i k hk
   obtain ⟨xs, hxl, hxs⟩ := ag6 (α := List Int) (p := fun i y => ∃ v, w.cell? (A i) = some v ∧ SlI (bdl w) w k y v ∧ y.length ≤ 140737488355328 ∧ ∀ x, x ∈ y → wfI k x) n (fun i hi => by
    obtain ⟨v, d, h1, h2, h3⟩ := h i hi
    obtain ⟨u, ys, g3, g4, g5, g7, g6⟩ := aue he hk hcf h2 h3 hbf
    cases g3
    exact ⟨ys, v, h1, g5, g7, g6⟩)
   refine ⟨_, ⟨xs, rfl, hxl, fun y hy => ?_⟩, fun i hi => ?_⟩
   ·obtain ⟨i, hi⟩ := List.getElem?_of_mem hy
    obtain ⟨v, _, _, h3, h4⟩ := hxs i y hi
    exact ⟨h3, h4⟩
   ·obtain ⟨v, h1, h2, _⟩ := hxs i (xs.getD i []) (by rw [List.getD_eq_getElem?_getD, List.getElem?_eq_getElem (by omega)]; rfl)
    exact ⟨v, h1, h2⟩
  ·cases hg
 ·cases hg
theorem axv {n m fuel : Nat} {a : Addr} : ∀ (fs : List Field) (o : Nat), atq P fs o m = true →
    (∀ i, i < n → ∀ f, f ∈ fs → ∃ v d, w.cell? (a.add (i * m + f.offset)) = some v ∧ DataW.trod enc P w base spare held fuel f.type [v] = some d ∧ ∀ q, q ∈ d.1.weights P f.type → q ≤ reachBytes) →
    ∃ cc, bak P n fs cc ∧ cc.length = fs.length ∧ ∀ j c, cc[j]? = some c → ∀ i, i < n → ∃ v, w.cell? (a.add (i * m + (o + j))) = some v ∧ cell1 (bdl w) w c i v
 | [], o, _, _ => ⟨[], by simp only [bak], rfl, by simp⟩
 | f :: fs, o, hg, h => by
  simp only [atq, Bool.and_eq_true] at hg
  have hof := Nat.eq_of_beq_eq_true hg.1.1.1
  obtain ⟨c, hc1, hc2⟩ := bnx (A := fun i => a.add (i * m + f.offset)) hg.1.2 (fun i hi => h i hi f (List.mem_cons_self ..))
  obtain ⟨r, hr1, hr2, hr3⟩ := axv fs (o + 1) hg.2 (fun i hi g hg' => h i hi g (List.mem_cons_of_mem _ hg'))
  refine ⟨c :: r, by simp only [bak]; exact ⟨c, r, rfl, hc1, hr1⟩, by simp [hr2], fun j c' hj i hi => ?_⟩
  cases j with
  | zero =>
   simp at hj
   subst hj
   obtain ⟨v, h1, h2⟩ := hc2 i hi
   exact ⟨v, by rw [← hof]; exact h1, h2⟩
  | succ j =>
   obtain ⟨v, h1, h2⟩ := hr3 j c' (by simpa using hj) i hi
   exact ⟨v, by rw [show o + (j + 1) = o + 1 + j by omega]; exact h1, h2⟩
theorem avp : ∀ (fs : List Field) (o m : Nat), atq P fs o m = true → ∀ f, f ∈ fs → P.cellsOf f.type = 1 ∧ f.offset < m
 | f0 :: fs, o, m, h, f, hf => by
  have hl := awd _ _ h
  simp only [atq, Bool.and_eq_true] at h
  rcases List.mem_cons.1 hf with rfl | hf
  ·have h1 := Nat.eq_of_beq_eq_true h.1.1.1
   simp only [List.length_cons] at hl
   exact ⟨Nat.eq_of_beq_eq_true h.1.1.2, by omega⟩
  ·exact avp fs (o + 1) m h.2 f hf
theorem bja {t e : TypeId} {fs : Array Field} {fuel : Nat} {cs : List Value} {x : DataW H × List MemPlace} (ht : P.underlying t = some (.slice e)) (he : P.underlying e = some (.struct fs)) (hby : 0 < P.bytesOf e) (hce : 0 < P.cellsOf e) (hg : atq P fs.toList 0 (P.cellsOf e) = true)
    (h : DataW.trod enc P w base spare held fuel t cs = some x) (hw : ∀ n, n ∈ x.1.weights P t → n ≤ reachBytes) :
    ∃ u n cc, cs = [u] ∧ u.oneCell' = true ∧ SlC (bdl w) w (.cols n cc) u ∧ n ≤ 140737488355328 ∧ bak P n fs.toList cc := by
 have hlen := awd _ _ hg
 rw [Nat.zero_add] at hlen
 rcases open_slice ht h with ⟨rfl, _⟩ | ⟨a, len, cap, m, n, D, Pl, rfl, hb, hl, hm, hmm, hxx, hx⟩
 ·obtain ⟨cc, h1, _⟩ := ba6 _ _ _ hg
  exact ⟨_, 0, cc, rfl, rfl, ⟨none, 0, rfl, Nat.le_refl _, fun h => by simp [Cont.len] at h⟩, by omega, h1⟩
 ·have hlm : len ≤ m := by rw [hmm]; split <;> omega
  subst hxx
  have hlim : len ≤ 140737488355328 := by
   have h1 := hw ((((List.range len).map D).length + ((List.range (m - len)).map fun j => D (len + j)).length) * P.bytesOf e) (by simp [DataW.weights, ht])
   simp only [List.length_map, List.length_range] at h1
   have := Nat.le_trans (Nat.le_mul_of_pos_right (len + (m - len)) hby) h1
   have h3 := reachBytes_lt
   omega
  have hwD : ∀ i, i < len → ∀ n, n ∈ (D i).weights P e → n ≤ reachBytes := by
   intro i hi n hn
   refine hw n ?_
   simp only [DataW.weights, ht]
   refine List.mem_cons_of_mem _ (List.mem_append_left _ (aee (d := D i) (List.mem_map_of_mem (List.mem_range.2 hi)) n hn))
  obtain ⟨cc, h1, h2, h3⟩ := axv (n := len) (m := P.cellsOf e) (fuel := n - 1) (a := a) fs.toList 0 hg (fun i hi f hf => by
   obtain ⟨cs', g1, g2⟩ := hx i (by omega)
   obtain ⟨_, hl', hcell⟩ := World.cells?_some g1
   obtain ⟨xs, k, hk, hxe, _, hxl, hxf⟩ := DataW.trod_struct he g2
   have hk' : k = n - 1 := by omega
   subst hk'
   obtain ⟨j, hj⟩ := List.getElem?_of_mem hf
   rw [Array.getElem?_toList] at hj
   have hil : j < xs.length := by rw [hxl]; exact (Array.getElem?_eq_some_iff.1 hj).1
   obtain ⟨hc1, hof⟩ := avp _ _ _ hg f hf
   have g3 := hxf j f hj
   rw [hc1, List.getElem?_eq_getElem hil] at g3
   have e1 := hcell f.offset hof
   rw [add_add] at e1
   have e2 : (cs'.drop f.offset).take 1 = [cs'[f.offset]'(by omega)] := by
    rw [List.drop_eq_getElem_cons (by omega)]
    rfl
   rw [e2] at g3
   refine ⟨_, _, by rw [e1, List.getElem?_eq_getElem (by omega)], g3, fun q hq => hwD i hi q ?_⟩
   have e3 : D i = DataW.agg (xs.map (·.1)) := congrArg Prod.fst hxe
   rw [e3]
   unfold DataW.weights
   rw [he]
   exact DataW.weights_mem_each (j := j) (t := f.type) (by rw [List.getElem?_map, Array.getElem?_toList, hj]; rfl) (by rw [List.getElem?_map, List.getElem?_eq_getElem hil]; rfl) q hq)
  have hcl : cc.length = P.cellsOf e := by rw [h2, hlen]
  refine ⟨_, len, cc, rfl, rfl, ⟨some a, cap, rfl, hl, fun h0 => ⟨a, rfl, ?_, fun j hj => ?_⟩⟩, hlim, h1⟩
  ·simp only [Cont.len] at h0
   have hcc : 0 < cc.length := by omega
   obtain ⟨v, hv, _⟩ := h3 0 _ (List.getElem?_eq_getElem hcc) 0 h0
   have := ben hv
   rwa [add_block] at this
  ·simp only [Cont.len, Cont.size, hcl] at hj
   have hc0 : 0 < P.cellsOf e := by
    rcases Nat.eq_zero_or_pos (P.cellsOf e) with h | h
    ·rw [h] at hj; omega
    ·exact h
   have hjm := Nat.mod_lt j hc0
   have hjd : j / P.cellsOf e < len := Nat.div_lt_of_lt_mul (by rw [Nat.mul_comm]; exact hj)
   obtain ⟨v, hv, hv2⟩ := h3 (j % P.cellsOf e) _ (List.getElem?_eq_getElem (by omega)) (j / P.cellsOf e) hjd
   refine ⟨v, ?_, ?_⟩
   ·rw [← hv]
    congr 2
    have := Nat.div_add_mod j (P.cellsOf e)
    rw [Nat.mul_comm] at this
    omega
   ·simp only [cellC, hcl]
    exact ⟨_, List.getElem?_eq_getElem (by omega), hv2⟩
theorem bgh {E : Env} : ∀ (l r : List AVal) (a b : List Value), ng E w l a → ng E w r b → ng E w (l ++ r) (a ++ b) := fun l r a b h1 h2 => by
 have := ab4 (E := E) (w := w) l r a b h1 h2
 rwa [agi] at this
theorem bef : ∀ (d : Nat),
    (∀ (t : TypeId) (fuel : Nat) (cs : List Value) (x : DataW H × List MemPlace), aw4 P d t = true → DataW.trod enc P w base spare held fuel t cs = some x → (∀ n, n ∈ x.1.weights P t → n ≤ reachBytes) → ∃ l, Good P d t l ∧ ng (qm (bdl w)) w l cs) ∧
    (∀ (e : TypeId) (n fuel : Nat) (cs : List Value), bh3 P d e n = true → cs.length = n * P.cellsOf e → (∀ i, i < n → ∃ x, DataW.trod enc P w base spare held fuel e ((cs.drop (i * P.cellsOf e)).take (P.cellsOf e)) = some x ∧ ∀ n, n ∈ x.1.weights P e → n ≤ reachBytes) → ∃ l, bjm P d e n l ∧ ng (qm (bdl w)) w l cs) ∧
    (∀ (fs : List Field) (o m fuel : Nat) (cs : List Value), aw2 P d fs o m = true → cs.length = m → (∀ f, f ∈ fs → ∃ x, DataW.trod enc P w base spare held fuel f.type ((cs.drop f.offset).take (P.cellsOf f.type)) = some x ∧ ∀ n, n ∈ x.1.weights P f.type → n ≤ reachBytes) → o ≤ m → ∃ l, bj8 P d fs l ∧ ng (qm (bdl w)) w l (cs.drop o))
 | 0 => ⟨fun t fuel cs x h => by simp [aw4] at h, fun e n fuel cs h => by simp [bh3] at h, fun fs o m fuel cs h => by simp [aw2] at h⟩
 | d + 1 => by
  obtain ⟨ihT, ihN, ihF⟩ := bef d
  refine ⟨fun t fuel cs x hg h hw => ?_, fun e n fuel cs hg hlen h => ?_, fun fs o m fuel cs hg hlen h ho => ?_⟩
  ·unfold aw4 at hg
   unfold Good
   split at hg
   ·rename_i ht
    obtain ⟨b, rfl, _⟩ := DataW.trod_bool ht h
    exact ⟨_, ⟨b, rfl⟩, j6 (by simp) rfl (by simp only [eu]) (by simp only [ng])⟩
   ·rename_i k ht
    obtain ⟨n, rfl, _, hw⟩ := DataW.trod_int ht h
    exact ⟨_, ⟨n, rfl, hw⟩, j6 (by simp) rfl (by simp only [eu]) (by simp only [ng])⟩
   ·rename_i e ht
    split at hg
    ·rename_i k he
     simp only [Bool.and_eq_true] at hg
     have hc := Nat.eq_of_beq_eq_true hg.1
     have hby : 0 < P.bytesOf e := by simpa using hg.2
     obtain ⟨u, xs, rfl, h1, h2, h4, h3⟩ := aue ht he hc h hw hby
     exact ⟨_, ⟨xs, rfl, h4, h3⟩, j6 (by simp) h1 (by simp only [eu]; exact h2) (by simp only [ng])⟩
    ·rename_i f he
     simp only [Bool.and_eq_true] at hg
     have hc := Nat.eq_of_beq_eq_true hg.1.1
     have hby : 0 < P.bytesOf e := by simpa using hg.1.2
     have hg := hg.2
     have hcf := Nat.eq_of_beq_eq_true hg.1.1
     have hbf : 0 < P.bytesOf f := by simpa using hg.1.2
     have hg := hg.2
     split at hg
     ·rename_i k hf
      rcases open_slice1 ht hc h with ⟨rfl, _⟩ | ⟨a, len, cap, m, n, V, D, Pl, rfl, hb, hl, hm, hmm, hxx, hx⟩
      ·exact ⟨_, ⟨[], rfl, by simp, by simp⟩, j6 (by simp) rfl (by simp only [eu]; exact ⟨none, 0, rfl, Nat.le_refl _, fun h => by simp [Cont.len] at h⟩) (by simp only [ng])⟩
      ·have hlm : len ≤ m := by rw [hmm]; split <;> omega
       subst hxx
       have hlim : len ≤ 140737488355328 := by
        have h1 := hw ((((List.range len).map D).length + ((List.range (m - len)).map fun j => D (len + j)).length) * P.bytesOf e) (by simp [DataW.weights, ht])
        simp only [List.length_map, List.length_range] at h1
        have := Nat.le_trans (Nat.le_mul_of_pos_right (len + (m - len)) hby) h1
        have h3 := reachBytes_lt
        omega
       have hwD : ∀ i, i < len → ∀ n, n ∈ (D i).weights P e → n ≤ reachBytes := by
        intro i hi n hn
        refine hw n ?_
        simp only [DataW.weights, ht]
        refine List.mem_cons_of_mem _ (List.mem_append_left _ (aee (d := D i) (List.mem_map_of_mem (List.mem_range.2 hi)) n hn))
       obtain ⟨xs, hxl, hxs⟩ := ag6 (α := List Int) (p := fun i y => SlI (bdl w) w k y (V i) ∧ y.length ≤ 140737488355328 ∧ ∀ x, x ∈ y → wfI k x) len (fun i hi => by
        obtain ⟨g1, g2⟩ := hx i (by omega)
        obtain ⟨u, ys, g3, g4, g5, g7, g6⟩ := aue he hf hcf g2 (hwD i hi) hbf
        cases g3
        exact ⟨ys, g5, g7, g6⟩)
       refine ⟨_, ⟨xs, rfl, by omega, fun y hy => ?_⟩, j6 (by simp) rfl (by
        simp only [eu]
        refine ⟨some a, cap, by simp only [Cont.len]; rw [hxl], by simp only [Cont.len]; omega, fun h0 => ⟨a, rfl, ?_, fun j hj => ?_⟩⟩
        ·simp only [Cont.len] at h0
         have := ben (hx 0 (by omega)).1
         rwa [add_block] at this
        ·simp only [Cont.len, Cont.size, Nat.mul_one] at hj
         refine ⟨V j, (hx j (by omega)).1, ?_⟩
         simp only [cellC, cell1, anh]
         have := (hxs j (xs.getD j []) (by rw [List.getD_eq_getElem?_getD, List.getElem?_eq_getElem hj]; rfl)).1
         exact this) (by simp only [ng])⟩
       obtain ⟨i, hi⟩ := List.getElem?_of_mem hy
       exact (hxs i y hi).2
     ·cases hg
    ·rename_i fs he
     simp only [Bool.and_eq_true] at hg
     have hby : 0 < P.bytesOf e := by simpa using hg.1.1
     have hce : 0 < P.cellsOf e := by simpa using hg.1.2
     obtain ⟨u, n, cc, rfl, h1, h2, h3, h4⟩ := bja ht he hby hce hg.2 h hw
     exact ⟨_, ⟨n, cc, rfl, h3, h4⟩, j6 (by simp) h1 (by simp only [eu]; exact h2) (by simp only [ng])⟩
    ·cases hg
   ·rename_i n e ht
    simp only [Bool.and_eq_true] at hg
    have hct := Nat.eq_of_beq_eq_true hg.1
    have hg := hg.2
    obtain ⟨xs, m, rfl, hxe, hlen, hxl, hx⟩ := DataW.trod_array ht h
    subst hxe
    have hx' : ∀ i, i < n → ∃ x, DataW.trod enc P w base spare held m e ((cs.drop (i * P.cellsOf e)).take (P.cellsOf e)) = some x ∧ ∀ n, n ∈ x.1.weights P e → n ≤ reachBytes := fun i hi => by
     rw [hx i hi, List.getElem?_eq_getElem (by omega)]
     refine ⟨_, rfl, fun q hq => hw q ?_⟩
     unfold DataW.weights
     rw [ht]
     exact aee (List.mem_map_of_mem (List.getElem_mem _)) q hq
    split at hg
    ·rename_i k he
     have hc := Nat.eq_of_beq_eq_true hg
     rw [hct, hc, Nat.mul_one] at hlen
     obtain ⟨zs, hzl, hzs⟩ := ag6 (α := Int) (p := fun i z => cs[i]? = some (.int k z) ∧ wfI k z) n (fun i hi => by
      obtain ⟨x, hx, _⟩ := hx' i hi
      rw [hc, Nat.mul_one] at hx
      obtain ⟨z, g1, _, g2⟩ := DataW.trod_int he hx
      refine ⟨z, ?_, g2⟩
      have : (List.take 1 (List.drop i cs))[0]? = some (Value.int k z) := by rw [g1]; rfl
      rw [List.getElem?_take, if_pos (by omega), List.getElem?_drop] at this
      simpa using this)
     have hcs : cs = zs.map (Value.int k) := by
      apply List.ext_getElem?
      intro i
      by_cases hi : i < n
      ·rw [List.getElem?_map, List.getElem?_eq_getElem (show i < zs.length by omega)]
       exact (hzs i _ (List.getElem?_eq_getElem (by omega))).1
      ·rw [List.getElem?_eq_none (by omega), List.getElem?_eq_none (by simp; omega)]
     refine ⟨_, ⟨zs, rfl, hzl, fun x hx => ?_⟩, by rw [hcs]; have := aaf (E := qm (bdl w)) (w := w) (k := k) (r := []) (cs' := []) hzl (by simp only [ng]); simpa using this⟩
     obtain ⟨i, hi⟩ := List.getElem?_of_mem hx
     exact (hzs i x hi).2
    ·obtain ⟨l, k1, k2⟩ := ihN e n m cs hg (by rw [hlen, hct]) hx'
     exact ⟨l, k1, k2⟩
   ·rename_i fs ht
    obtain ⟨xs, m, rfl, hxe, hlen, hxl, hx⟩ := DataW.trod_struct ht h
    subst hxe
    obtain ⟨l, k1, k2⟩ := ihF fs.toList 0 (P.cellsOf t) m cs hg hlen (fun f hf => by
     obtain ⟨i, hi⟩ := List.getElem?_of_mem hf
     rw [Array.getElem?_toList] at hi
     have hil : i < xs.length := by rw [hxl]; exact (Array.getElem?_eq_some_iff.1 hi).1
     rw [hx i f hi, List.getElem?_eq_getElem hil]
     refine ⟨_, rfl, fun q hq => hw q ?_⟩
     unfold DataW.weights
     rw [ht]
     exact DataW.weights_mem_each (j := i) (t := f.type) (by rw [List.getElem?_map, Array.getElem?_toList, hi]; rfl) (by rw [List.getElem?_map, List.getElem?_eq_getElem hil]; rfl) q hq) (Nat.zero_le _)
    exact ⟨l, k1, by simpa using k2⟩
   ·cases hg
  ·cases n with
   | zero =>
    have : cs = [] := List.eq_nil_of_length_eq_zero (by simpa using hlen)
    subst this
    exact ⟨[], by simp only [bjm], by simp only [ng]⟩
   | succ n =>
    simp only [bh3, Bool.and_eq_true] at hg
    obtain ⟨x, hx, hxw⟩ := h 0 (by omega)
    rw [Nat.zero_mul, List.drop_zero] at hx
    obtain ⟨a, a1, a2⟩ := ihT e fuel _ x hg.1 hx hxw
    obtain ⟨b, b1, b2⟩ := ihN e n fuel (cs.drop (P.cellsOf e)) hg.2 (by rw [List.length_drop, hlen, Nat.succ_mul]; omega) (fun i hi => by
     obtain ⟨y, hy, hyw⟩ := h (i + 1) (by omega)
     refine ⟨y, ?_, hyw⟩
     rw [List.drop_drop, show P.cellsOf e + i * P.cellsOf e = (i + 1) * P.cellsOf e by rw [Nat.succ_mul]; omega]
     exact hy)
    refine ⟨a ++ b, by simp only [bjm]; exact ⟨a, b, rfl, a1, b1⟩, ?_⟩
    have := bgh a b _ _ a2 b2
    rwa [List.take_append_drop] at this
  ·cases fs with
   | nil =>
    simp only [aw2] at hg
    have := Nat.eq_of_beq_eq_true hg
    subst this
    exact ⟨[], by simp only [bj8], by rw [List.drop_eq_nil_of_le (by omega)]; simp only [ng]⟩
   | cons f fs =>
    simp only [aw2, Bool.and_eq_true] at hg
    have hof := Nat.eq_of_beq_eq_true hg.1.1
    obtain ⟨x, hx, hxw⟩ := h f (List.mem_cons_self ..)
    rw [hof] at hx
    obtain ⟨a, a1, a2⟩ := ihT f.type fuel _ x hg.1.2 hx hxw
    have hle : o + P.cellsOf f.type ≤ m := by
     clear a1 a2 hx h ihT ihN ihF hlen
     have key : ∀ (d : Nat) (fs : List Field) (o m : Nat), aw2 P d fs o m = true → o ≤ m := by
      intro d
      induction d with
      | zero => intro fs o m h; simp [aw2] at h
      | succ d ih =>
       intro fs o m h
       cases fs with
       | nil => simp only [aw2] at h; have := Nat.eq_of_beq_eq_true h; omega
       | cons f fs =>
        simp only [aw2, Bool.and_eq_true] at h
        have := ih fs _ m h.2
        omega
     exact key d fs _ m hg.2
    obtain ⟨b, b1, b2⟩ := ihF fs (o + P.cellsOf f.type) m fuel cs hg.2 hlen (fun g hg' => h g (List.mem_cons_of_mem _ hg')) hle
    refine ⟨a ++ b, by simp only [bj8]; exact ⟨a, b, rfl, a1, b1⟩, ?_⟩
    have := bgh a b _ _ a2 b2
    rwa [← List.drop_drop, List.take_append_drop] at this
theorem bf9 {r : Reach} {b0 : Nat} (d : Nat) {t : TypeId} {v : Value} {dd : DataW H} {p : List MemPlace} (hg : aw4 P d t = true) (ha : ads P t = some true) (hok : Value.okWide P w r b0 t v) (h : DataW.Trod enc P w base spare held t v dd p) (hw : ∀ n, n ∈ dd.weights P t → n ≤ reachBytes) :
    ∃ l, Good P d t l ∧ eu (qm (bdl w)) w (ath l) v := by
 obtain ⟨fuel, hf⟩ := h
 have hv : ∃ cs, v = .agg cs := by
  unfold ads at ha
  unfold Value.okWide at hok
  split at ha
  ·rename_i h; rw [h] at hok; obtain ⟨cs, h, _⟩ := hok; exact ⟨cs, h⟩
  ·rename_i h; rw [h] at hok; obtain ⟨cs, h, _⟩ := hok; exact ⟨cs, h⟩
  ·cases ha
  ·cases ha
 obtain ⟨cs, rfl⟩ := hv
 obtain ⟨l, h1, h2⟩ := (bef d).1 t fuel _ _ hg hf hw
 exact ⟨l, h1, by have := adq h2; simpa [Value.cells] using this⟩
theorem am1 {r : Reach} {b0 : Nat} (d : Nat) {t e : TypeId} {v : Value} {dd : DataW H} {p : List MemPlace} (hg : aw4 P (d + 1) t = true) (ht : P.underlying t = some (.slice e)) (hok : Value.okWide P w r b0 t v) (h : DataW.Trod enc P w base spare held t v dd p) (hw : ∀ n, n ∈ dd.weights P t → n ≤ reachBytes) :
    ∃ a, Good P (d + 1) t [a] ∧ eu (qm (bdl w)) w a v := by
 obtain ⟨fuel, hf⟩ := h
 obtain ⟨A, len, cap, rfl⟩ := WideShapes.okWide_slice ht hok
 obtain ⟨l, h1, h2⟩ := (bef (d + 1)).1 t fuel _ _ hg hf hw
 have hl : ∃ a, l = [a] ∧ ∀ k n m, a ≠ .arr k n m := by
  unfold Good at h1
  rw [ht] at h1
  simp only at h1
  split at h1
  ·obtain ⟨xs, rfl, _⟩ := h1; exact ⟨_, rfl, by simp⟩
  ·split at h1
   ·obtain ⟨xs, rfl, _⟩ := h1; exact ⟨_, rfl, by simp⟩
   ·cases h1
  ·obtain ⟨n, cs, rfl, _⟩ := h1; exact ⟨_, rfl, by simp⟩
  ·cases h1
 obtain ⟨a, rfl, ha⟩ := hl
 refine ⟨a, h1, ?_⟩
 obtain ⟨u, hu, _, hv⟩ := ag7 h2 ha
 simp [Value.cells] at hu
 rw [hu]
 exact hv
theorem afa {t : TypeId} {v : Value} {dd : DataW H} {p : List MemPlace} (h : DataW.Trod enc P w base spare held t v dd p) : ∀ x, x ∈ p → x.block < w.heap.size := by
 obtain ⟨m, hm⟩ := h
 exact DataW.trod_lt m _ _ _ hm
end
end Go.Abs
end

section
/- Package variables that the program's text lays. -/
namespace Go.Abs
open Go Go.Deep Go.ChangeShapes
set_option linter.unusedVariables false
theorem bew (S : Nat → Prop) (w : World) : al1 [] S w := fun g l h => by simp [assoc] at h
theorem afu {S : Nat → Prop} {w : World} {g : Nat} {l : List AVal} {r : List (Nat × List AVal)} (h0 : S g ∧ ∃ cs e fz, w.heap[g]? = some (.cells cs e fz) ∧ ng (qm S) w l cs.toList) (h : al1 r S w) : al1 ((g, l) :: r) S w := by
 intro g' l' hg
 simp only [assoc] at hg
 cases hb : Nat.beq g g' with
 | true =>
  rw [hb] at hg
  cases hg
  have := Nat.eq_of_beq_eq_true hb
  subst this
  exact h0
 | false =>
  rw [hb] at hg
  exact h g' l' hg
theorem apx {H : Type} {k : IntKind} : ∀ (l : List Int) (cs : List Value) (xs : List (DataW H × List MemPlace)), cs.length = l.length → xs.length = l.length →
    xs.map (·.1) = l.map (fun z => .lit (.int k z)) → (∀ i, i < l.length → ∃ n, (cs.drop i).take 1 = [.int k n] ∧ xs[i]? = some (.lit (.int k n), [])) → cs = l.map (Value.int k)
 | [], cs, xs, h1, h2, h3, h4 => by
  have : cs = [] := List.eq_nil_of_length_eq_zero h1
  rw [this]; rfl
 | z :: l, [], xs, h1, h2, h3, h4 => by simp at h1
 | z :: l, c :: cs, [], h1, h2, h3, h4 => by simp at h2
 | z :: l, c :: cs, x :: xs, h1, h2, h3, h4 => by
  simp only [List.length_cons, Nat.add_right_cancel_iff] at h1 h2
  simp only [List.map_cons, List.cons.injEq] at h3
  obtain ⟨n, e1, e2⟩ := h4 0 (by simp)
  simp only [List.drop_zero, List.take_succ_cons, List.take_zero, List.cons.injEq, and_true] at e1
  simp only [List.getElem?_cons_zero, Option.some.injEq] at e2
  have e3 := h3.1
  rw [e2] at e3
  simp only [DataW.lit.injEq, Lit.int.injEq, true_and] at e3
  rw [apx l cs xs h1 h2 h3.2 (fun i hi => by
   obtain ⟨n, f1, f2⟩ := h4 (i + 1) (by simp; omega)
   exact ⟨n, by simpa using f1, by simpa using f2⟩)]
  rw [e1, e3]
  rfl
theorem al6 {P : Program} {w : World} {name : String} {d : DataW Unit} {r : List (String × DataW Unit)} {ps : List MemPlace} (h : DataW.LaidVars P w ((name, d) :: r) ps) {g t e n : Nat} {k : IntKind} {l : List Int}
    (hg : P.globalNamed name = some g) (ht : (P.globals[g]?).map (·.type) = some t) (hu : P.underlying t = some (.array n e)) (he : P.underlying e = some (.int k)) (hc : P.cellsOf e = 1) (hct : P.cellsOf t = n) (hl : l.length = n)
    (hd : d = .agg (l.map fun z => .lit (.int k z))) : (bdl w g ∧ ∃ cs et fz, w.heap[g]? = some (.cells cs et fz) ∧ ng (qm (bdl w)) w [.arr k n l] cs.toList) ∧ ∃ q, DataW.LaidVars P w r q := by
 obtain ⟨g', t', cs, fuel, p, q, h1, h2, h3, h4, h5, _⟩ := h
 obtain rfl := Option.some.inj (hg.symm.trans h1)
 obtain rfl := Option.some.inj (ht.symm.trans h2)
 refine ⟨?_, q, h5⟩
 obtain ⟨xs, m, rfl, hx, hlen, hxl, hel⟩ := DataW.trod_array hu h4
 simp only [Prod.mk.injEq] at hx
 rw [hd] at hx
 simp only [DataW.agg.injEq] at hx
 rw [hct] at hlen
 have hcs : cs.toList = l.map (Value.int k) := by
  refine apx l cs.toList xs (by rw [hlen, hl]) (by rw [hxl, hl]) hx.1.symm (fun i hi => ?_)
  have := hel i (by omega)
  rw [hc, Nat.mul_one] at this
  obtain ⟨y, hy⟩ : ∃ y, xs[i]? = some y := ⟨xs[i]'(by omega), List.getElem?_eq_getElem (by omega)⟩
  rw [hy] at this
  obtain ⟨z, e1, e2, _⟩ := DataW.trod_int he this
  exact ⟨z, e1, by rw [hy, e2]⟩
 have hheap : ∃ et fz, w.heap[g]? = some (.cells cs et fz) := by
  unfold World.var? at h3
  rw [hg, Option.bind_some] at h3
  split at h3
  ·rename_i c et fz hh
   cases h3
   exact ⟨_, _, hh⟩
  ·cases h3
 obtain ⟨et, fz, hh⟩ := hheap
 refine ⟨(Array.getElem?_eq_some_iff.1 hh).1, cs, et, fz, hh, ?_⟩
 rw [hcs]
 simp only [ng]
 exact ⟨[], hl, by simp, rfl⟩
end Go.Abs
end
