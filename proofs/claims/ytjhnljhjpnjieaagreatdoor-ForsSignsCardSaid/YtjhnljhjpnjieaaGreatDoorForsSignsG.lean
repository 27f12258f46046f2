/-
  ForsSigns, part 7: an interpreter of my own over abstract values, the pure functions, the walks and the plain law.
-/

import Derived.Test.YtjhnljhjpnjieaaGreatDoorForsSignsF
import Derived.Laws.Sem
import Derived.KernelRfl
import Derived.IntWalk
import Derived.Test.YtjhnljhjpnjieaaGreatDoorForsSignsD

section
namespace Go.Abs
open Go Go.RowKit
set_option linter.unusedVariables false
set_option linter.unusedSimpArgs false
structure Turn (w w' : World) : Prop where
 cell : ∀ a, w'.cell? a = w.cell? a
 blk : ∀ (k : Nat) cs e f, w.heap[k]? = some (Obj.cells cs e f) → w'.heap[k]? = some (Obj.cells cs e f)
theorem Turn.refl (w : World) : Turn w w := ⟨fun _ => rfl, fun _ _ _ _ h => h⟩
theorem Turn.trans {w w' w'' : World} (h : Turn w w') (k : Turn w' w'') : Turn w w'' :=
 ⟨fun a => (k.cell a).trans (h.cell a), fun b cs e f hb => k.blk b cs e f (h.blk b cs e f hb)⟩
theorem akh {w : World} {l : Nat} {o o' : Obj} (h : w.heap[l]? = some o) (hc : ∀ cs e f, o ≠ Obj.cells cs e f) (hc' : ∀ cs e f, o' ≠ Obj.cells cs e f) : Turn w (w.putObj l o') := by
 have hlt : l < w.heap.size := (Array.getElem?_eq_some_iff.1 h).1
 refine ⟨fun a => ?_, fun k cs e f hk => ?_⟩
 ·by_cases ha : a.block = l
  ·unfold World.cell?
   rw [ha, World.putObj_heap_same hlt, h]
   cases o <;> cases o' <;> first
    | rfl
    | exact absurd rfl (hc _ _ _)
    | exact absurd rfl (hc' _ _ _)
  ·exact World.cell?_of_block (World.putObj_heap_other ha)
 ·by_cases hk' : k = l
  ·subst hk'
   rw [h] at hk
   cases hk
   exact absurd rfl (hc _ _ _)
  ·rw [World.putObj_heap_other hk']
   exact hk
theorem aik {w : World} {B l : Nat} {o : Obj} (h : B ≤ l) : Below B w (w.putObj l o) where
 os := rfl
 tape := rfl
 output := rfl
 size := by simp
 block := fun k hk => World.putObj_heap_other (by omega)
section
variable {S : Nat → Prop} {w w' : World}
theorem bdx.turn (hc : ∀ a, w'.cell? a = w.cell? a) {len sz : Nat} {cell cell' : Nat → Value → Prop} {u : Value} (hcc : ∀ j x, cell j x → cell' j x) (h : bdx S w len sz cell u) : bdx S w' len sz cell' u := by
 obtain ⟨A, cap, hu, hl, hx⟩ := h
 refine ⟨A, cap, hu, hl, fun h0 => ?_⟩
 obtain ⟨a, hA, hS, hcell⟩ := hx h0
 refine ⟨a, hA, hS, fun j hj => ?_⟩
 obtain ⟨x, hx1, hx2⟩ := hcell j hj
 exact ⟨x, by rw [hc]; exact hx1, hcc j x hx2⟩
theorem SlI.turn (hc : ∀ a, w'.cell? a = w.cell? a) {ki : IntKind} {l : List Int} {u : Value} (h : SlI S w ki l u) : SlI S w' ki l u := bdx.turn hc (fun _ _ h => h) h
theorem SlR.turn (hc : ∀ a, w'.cell? a = w.cell? a) {ki : IntKind} {l : List (List Int)} {u : Value} (h : SlR S w ki l u) : SlR S w' ki l u := bdx.turn hc (fun _ _ h => SlI.turn hc h) h
theorem cell1.turn (hc : ∀ a, w'.cell? a = w.cell? a) {c : Cont} {j : Nat} {x : Value} (h : cell1 S w c j x) : cell1 S w' c j x := by
 cases c with
 | ints => exact h
 | rows => exact SlI.turn hc h
 | rows2 => exact SlR.turn hc h
 | cols => exact h
theorem cellC.turn (hc : ∀ a, w'.cell? a = w.cell? a) {c : Cont} {j : Nat} {x : Value} (h : cellC S w c j x) : cellC S w' c j x := by
 cases c with
 | cols n cs => obtain ⟨c, hc', h⟩ := h; exact ⟨c, hc', cell1.turn hc h⟩
 | ints => exact h
 | rows => exact SlI.turn hc h
 | rows2 => exact SlR.turn hc h
theorem SlC.turn (hc : ∀ a, w'.cell? a = w.cell? a) {c : Cont} {u : Value} (h : SlC S w c u) : SlC S w' c u := bdx.turn hc (fun _ _ h => cellC.turn hc h) h
end
section
variable {E E' : Env} {w w' : World}
mutual
theorem aqi (hS : E'.S = E.S) (hc : ∀ a, w'.cell? a = w.cell? a) : ∀ (a : AVal) (u : Value), (∀ id, mentions id a = true → E'.ρ id = E.ρ id) → eu E w a u → eu E' w' a u
 | .v x, u, hb, h => by simp only [eu] at h ⊢; exact h
 | .bot, u, hb, _ => by simp only [eu]
 | .sl c, u, hb, h => by simp only [eu] at h ⊢; rw [hS]; exact SlC.turn hc h
 | .own id, u, hb, h => by simp only [eu] at h ⊢; rw [hb id (by simp [mentions])]; exact h
 | .win id off len, u, hb, h => by simp only [eu] at h ⊢; rw [hb id (by simp [mentions])]; exact h
 | .awin id off m lo len, u, hb, h => by simp only [eu] at h ⊢; rw [hb id (by simp [mentions])]; exact h
 | .arr k m l, u, hb, h => by simp only [eu] at h ⊢; exact h
 | .agg l, u, hb, h => by
  simp only [eu] at h ⊢
  obtain ⟨cs, h1, h2⟩ := h
  exact ⟨cs, h1, aje hS hc l cs (fun id hi => hb id (by simpa only [mentions] using hi)) h2⟩
 | .ptr id off, u, hb, h => by simp only [eu] at h ⊢; rw [hb id (by simp [mentions])]; exact h
 | .pel id sz i, u, hb, h => by simp only [eu] at h ⊢; rw [hb id (by simp [mentions])]; exact h
 | .fel id sz i off, u, hb, h => by simp only [eu] at h ⊢; rw [hb id (by simp [mentions])]; exact h
 | .apel id off m i, u, hb, h => by simp only [eu] at h ⊢; rw [hb id (by simp [mentions])]; exact h
 | .sta l, u, hb, h => by
  simp only [eu] at h ⊢
  obtain ⟨a, cs, h1, h2, h3, h4⟩ := h
  exact ⟨a, cs, h1, by rw [hS]; exact h2, aje hS hc l cs (fun id hi => hb id (by simpa only [mentions] using hi)) h3, fun j hj => by rw [hc]; exact h4 j hj⟩
 | .fn f a b, u, hb, h => by
  simp only [eu] at h ⊢
  obtain ⟨x, y, h1, h2, h3⟩ := h
  exact ⟨x, y, h1, acp hS hc a x (fun id hi => hb id (by simp only [mentions, hi, Bool.true_or])) h2, acp hS hc b y (fun id hi => hb id (by simp only [mentions, hi, Bool.or_true])) h3⟩
 | .iface t x, u, hb, h => by
  simp only [eu] at h ⊢
  obtain ⟨y, h1, h2⟩ := h
  exact ⟨y, h1, aqi hS hc x y (fun id hi => hb id (by simpa only [mentions] using hi)) h2⟩
 | .tuple l, u, hb, h => by
  simp only [eu] at h ⊢
  obtain ⟨vs, h1, h2⟩ := h
  exact ⟨vs, h1, acp hS hc l vs (fun id hi => hb id (by simpa only [mentions] using hi)) h2⟩
 | .fr e c, u, hb, h => by simp only [eu] at h
 | .glob g off, u, hb, h => by simp only [eu] at h ⊢; exact h
 | .gel g off m i, u, hb, h => by simp only [eu] at h ⊢; exact h
 | .yld id ts vs, u, hb, h => by
  simp only [eu] at h ⊢
  obtain ⟨l, T, h1, h2, h3⟩ := h
  exact ⟨l, T, by rw [hb id (by simp [mentions])]; exact h1, h2, acp hS hc vs _ (fun id hi => hb id (by simp only [mentions, hi, Bool.or_true])) h3⟩
 | .alt t f fa fc g ga gc, u, hb, h => by
  simp only [eu] at h ⊢
  rcases h with h | ⟨h0, x, y, h1, h2, h3⟩ | ⟨h0, x, y, h1, h2, h3⟩
  ·exact .inl h
  ·exact .inr (.inl ⟨h0, x, y, h1, acp hS hc fa x (fun id hi => hb id (by simp only [mentions, hi, Bool.true_or])) h2, acp hS hc fc y (fun id hi => hb id (by simp only [mentions, hi, Bool.true_or, Bool.or_true])) h3⟩)
  ·exact .inr (.inr ⟨h0, x, y, h1, acp hS hc ga x (fun id hi => hb id (by simp only [mentions, hi, Bool.true_or, Bool.or_true])) h2, acp hS hc gc y (fun id hi => hb id (by simp only [mentions, hi, Bool.or_true])) h3⟩)
theorem acp (hS : E'.S = E.S) (hc : ∀ a, w'.cell? a = w.cell? a) : ∀ (l : List AVal) (vs : List Value), (∀ id, mo id l = true → E'.ρ id = E.ρ id) → jl E w l vs → jl E' w' l vs
 | [], vs, hb, h => by simp only [jl] at h ⊢; exact h
 | a :: r, vs, hb, h => by
  simp only [jl] at h ⊢
  obtain ⟨u, us, h1, h2, h3⟩ := h
  exact ⟨u, us, h1, aqi hS hc a u (fun id hi => hb id (by simp only [mo, hi, Bool.true_or])) h2, acp hS hc r us (fun id hi => hb id (by simp only [mo, hi, Bool.or_true])) h3⟩
theorem aje (hS : E'.S = E.S) (hc : ∀ a, w'.cell? a = w.cell? a) : ∀ (l : List AVal) (cs : List Value), (∀ id, mo id l = true → E'.ρ id = E.ρ id) → ng E w l cs → ng E' w' l cs
 | [], cs, hb, h => by simp only [ng] at h ⊢; exact h
 | a :: r, cs, hb, h => by
  rcases sj h with ⟨k', m, l, cs', rfl, h1, rfl, h3⟩ | ⟨ha, u, cs', rfl, h2, h3, h4⟩
  ·exact aaf h1 (aje hS hc r cs' (fun id hi => hb id (by simp only [mo, hi, Bool.or_true])) h3)
  ·exact j6 ha h2 (aqi hS hc a u (fun id hi => hb id (by simp only [mo, hi, Bool.true_or])) h3) (aje hS hc r cs' (fun id hi => hb id (by simp only [mo, hi, Bool.or_true])) h4)
end
end
def blo : Bk → List AVal
 | .row _ _ => []
 | .box _ l => l
theorem ato.turn {E E' : Env} {w w' : World} {B0 id : Nat} {b : Blk} (hS : E'.S = E.S) (ht : Turn w w') (hi : E'.ρ id = E.ρ id) (hb : ∀ j, mo j (blo b.b) = true → E'.ρ j = E.ρ j) (h : ato E w B0 id b) : ato E' w' B0 id b := by
 obtain ⟨u, hu, hbb, hf, hz⟩ := h
 refine ⟨u, by rw [hi]; exact hu, ?_, fun h1 k hk => by rw [hS]; exact hf h1 k hk, fun h1 k hk => by rw [hS]; exact hz h1 k hk⟩
 cases hb' : b.b with
 | row e c =>
  rw [hb'] at hbb
  obtain ⟨xs, ⟨ho1, ho2⟩, hx⟩ := hbb
  refine ⟨xs, ⟨ho1, ?_⟩, fun j x hjx => ⟨(hx j x hjx).1, by rw [hS]; exact cellC.turn ht.cell (hx j x hjx).2⟩⟩
  rcases ho2 with hn | ⟨g, cap, cur, rfl, hb, hg, rest⟩
  ·exact .inl hn
  ·exact .inr ⟨g, cap, cur, rfl, hb, ht.blk _ _ _ _ hg, rest⟩
 | box e l =>
  rw [hb'] at hbb
  obtain ⟨g, cs, rfl, hB, hh, hl⟩ := hbb
  exact ⟨g, cs, rfl, hB, ht.blk _ _ _ _ hh, aje hS ht.cell l _ (fun j hj => hb j (by rw [hb']; exact hj)) hl⟩
section
variable {D D' : Ctx} {B0 : Nat} {w0 : W0} {E E' : Env} {st : ASt} {act act' : Act} {w w' : World}
theorem Rel.turn (hG2 : l7 D) (hR : Rel D B0 w0 E st act w) (y' : Option (Nat × Nat × Array Value)) (hg : D'.globs = D.globs) (hS : E'.S = E.S) (ht : Turn w w') (hbel : Below B0 w w') (hρ : ∀ id u, E'.ρ id = some u → E.ρ id = some u)
    (hslots : ∀ t id, mentions id (look st.f t) = true → E'.ρ id = E.ρ id) (hheap : ∀ id b, fq st.h id = some b → E'.ρ id = E.ρ id ∧ ∀ j, mo j (blo b.b) = true → E'.ρ j = E.ρ j)
    (htm : act'.tmps = act.tmps) (hidle : D'.top = false → act'.defers = []) (hmarks : Marks B0 E' w' act'.defers) (hrecs : anf D' B0 ⟨w0.w, w0.S0, y'⟩ E' w') (hform : ∀ id u, E'.ρ id = some u → bj3 ⟨w0.w, w0.S0, y'⟩ id u) :
    Rel D' B0 ⟨w0.w, w0.S0, y'⟩ E' st act' w' where
 below := hR.below.trans hbel
 base := Nat.le_trans hR.base hbel.size
 size := by rw [htm]; exact hR.size
 idle := hidle
 marks := hmarks
 recs := hrecs
 tmps := fun t => by rw [htm]; exact aqi hS ht.cell _ _ (hslots t) (hR.tmps t)
 heap := fun id b hb => (hR.heap id b hb).turn hS ht (hheap id b hb).1 (hheap id b hb).2
 apart := fun id id' b b' u u' k h1 h2 h3 h4 h5 h6 h7 h8 => hR.apart id id' b b' u u' k h1 h2 h3 h4 h5 (hρ _ _ h6) (hρ _ _ h7) h8
 sOld := fun b hb => Nat.lt_of_lt_of_le (hR.sOld b (by rw [← hS]; exact hb)) hbel.size
 sNew := fun b hb => hR.sNew b (by rw [← hS]; exact hb)
 form := hform
 globs := fun g l hl => by
  rw [hg] at hl
  obtain ⟨h1, cs, e, fz, h2, h3⟩ := hR.globs g l hl
  refine ⟨by rw [hS]; exact h1, cs, e, fz, ht.blk _ _ _ _ h2, ?_⟩
  exact aje (E := E') rfl ht.cell _ _ (fun _ _ => rfl) (hG2 g l hl E E' w _ h3 hS.symm)
end
end Go.Abs
end

section
namespace Go.Abs
open Go Go.RowKit
set_option linter.unusedVariables false
set_option linter.unusedSimpArgs false
def conv : AExit → Exit
 | .normal => .normal
 | .exit id => .exit id
 | .ret => .ret
def bdb (D : Ctx) (B0 : Nat) (w0 : W0) (E0 : Env) (w00 : World) (ex : AExit) (st : ASt) (e : Exit) (a : Act) (w : World) : Prop :=
 e = conv ex ∧ ∃ E', Up E0 E' w00 w ∧ Rel D B0 w0 E' st a w ∧ Dom E' st.n
def bn6 (D : Ctx) (c : Code) (ex : AExit) (st st' : ASt) : Prop :=
 ∀ (q : Option Nat) (n0 B0 : Nat) (w0 : W0) E act w, (D.top = true → q = none) → Rel D B0 w0 E st act w → Dom E st.n → c.wpIn (FR q) n0 D.P (bdb D B0 w0 E w ex st') act w
theorem bl4 (h : Hint) (n : Nat) : n ≤ bmk h n := by
 unfold bmk
 split
 ·exact Nat.le_refl _
 ·rename_i m _ _
  cases hq : Nat.ble n m with
  | true => exact Nat.le_of_ble_eq_true hq
  | false => exact Nat.le_refl _
section
variable {D : Ctx} {B0 : Nat} {w0 : W0}
theorem bdb.up {E0 E1 : Env} {w00 w1 : World} {ex : AExit} {st : ASt} {e : Exit} {a : Act} {w : World} (k : Up E0 E1 w00 w1) (h : bdb D B0 w0 E1 w1 ex st e a w) : bdb D B0 w0 E0 w00 ex st e a w := by
 obtain ⟨h1, E', h2, h3⟩ := h
 exact ⟨h1, E', k.trans h2, h3⟩
theorem bay (f : List (Nat × AVal)) : ∀ (ts : List Nat) (t : Nat), look (blw f ts) t = look f t ∨ look (blw f ts) t = .bot
 | [], t => .inr rfl
 | a :: r, t => by
  simp only [blw, look]
  cases hb : Nat.beq a t with
  | true => have := Nat.eq_of_beq_eq_true hb; subst this; exact .inl rfl
  | false => exact bay f r t
theorem Rel.blw {E : Env} {st : ASt} {act : Act} {w : World} (h : Rel D B0 w0 E st act w) (ts : List Nat) : Rel D B0 w0 E { st with f := Abs.blw st.f ts } act w :=
 { h with
   tmps := fun t => by
    have e := bay st.f ts t
    revert e
    simp only
    generalize look (Abs.blw st.f ts) t = x
    rintro (rfl | rfl)
    ·exact h.tmps t
    ·exact aip _ }
theorem bqk (hG2 : l7 D) {c : Code} (hc : ∀ (st : ASt) (K : AExit → ASt → Option R) (r : R), ad8 D c st K = some r → ∃ ex st', K ex st' = some r ∧ st'.m = st.m ∧ bn6 D c ex st st')
    {h : Hint} {n : Nat} {ids : List Nat} {K : AExit → ASt → Option R} : ∀ (k : Nat) (st : ASt) (r : R), iter h n ids (ad8 D c) K k st = some r →
    ∃ ex st', K ex st' = some r ∧ st'.m = st.m ∧ ∀ (q : Option Nat) (n0 B0 : Nat) (w0 : W0) E0 w00 E act w, (D.top = true → q = none) → Dom E0 n → Up E0 E w00 w → Rel D B0 w0 E st act w → Dom E st.n → Code.roundsIn (FR q) n0 D.P c (bdb D B0 w0 E0 w00 ex st') (k + 1) act w := by
 have enter : ∀ {E0 E E' : Env} {w00 w : World}, Dom E0 n → Up E0 E w00 w → (∀ b, E.S b → E'.S b) → (∀ id, id < n → E'.ρ id = E.ρ id) → Up E0 E' w00 w := by
  intro E0 E E' w00 w hD hup hS hρ
  exact ⟨⟨fun b hb => hS b (hup.keeps.sub b hb), hup.keeps.blk⟩, fun id u hu => by rw [hρ id (hD id u hu)]; exact hup.ρ id u hu⟩
 have round : ∀ (k : Nat) (next : ASt → Option R) (st : ASt) (r : R), ad8 D c st (bn3 h n ids K next) = some r →
     (∀ st1, next st1 = some r → ∃ ex st', K ex st' = some r ∧ st'.m = st1.m ∧ ∀ (q : Option Nat) (n0 B0 : Nat) (w0 : W0) E0 w00 E act w, (D.top = true → q = none) → Dom E0 n → Up E0 E w00 w → Rel D B0 w0 E st1 act w → Dom E st1.n → Code.roundsIn (FR q) n0 D.P c (bdb D B0 w0 E0 w00 ex st') k act w) →
     ∃ ex st', K ex st' = some r ∧ st'.m = st.m ∧ ∀ (q : Option Nat) (n0 B0 : Nat) (w0 : W0) E0 w00 E act w, (D.top = true → q = none) → Dom E0 n → Up E0 E w00 w → Rel D B0 w0 E st act w → Dom E st.n → Code.roundsIn (FR q) n0 D.P c (bdb D B0 w0 E0 w00 ex st') (k + 1) act w := by
  intro k next st r hi hnext
  obtain ⟨ex1, st2, hK, hm2, hok⟩ := hc st _ r hi
  cases ex1 with
  | normal =>
   simp only [bn3] at hK
   split at hK
   ·rename_i st1 hn
    obtain ⟨hm, hle, hnorm⟩ := azw hG2 hn
    obtain ⟨ex, st', h1, h2, h3⟩ := hnext st1 hK
    refine ⟨ex, st', h1, by rw [h2, hm, hm2], fun q n0 B0 w0 E0 w00 E act w hq hD hup hR hD2 => ?_⟩
    rw [roundsIn_succ]
    refine wpIn_mono (hok q n0 B0 w0 E act w hq hR hD2) (fun e a w' hL => ?_)
    obtain ⟨rfl, E2, k1, k2, k3⟩ := hL
    obtain ⟨E', hS, hρ, hR', hD'⟩ := hnorm B0 w0 E2 a w' k2
    exact h3 q n0 B0 w0 E0 w00 E' a w' hq hD (enter hD (hup.trans k1) hS hρ) hR' hD'
   ·cases hK
  | exit j =>
   simp only [bn3] at hK
   split at hK
   ·rename_i st1 hn
    obtain ⟨hm, hle, hnorm⟩ := azw hG2 hn
    refine ⟨.exit j, st1, hK, by rw [hm, hm2], fun q n0 B0 w0 E0 w00 E act w hq hD hup hR hD2 => ?_⟩
    rw [roundsIn_succ]
    refine wpIn_mono (hok q n0 B0 w0 E act w hq hR hD2) (fun e a w' hL => ?_)
    obtain ⟨rfl, E2, k1, k2, k3⟩ := hL
    obtain ⟨E', hS, hρ, hR', hD'⟩ := hnorm B0 w0 E2 a w' k2
    exact ⟨rfl, E', enter hD (hup.trans k1) hS hρ, hR', hD'⟩
   ·cases hK
  | ret =>
   refine ⟨.ret, _, hK, hm2, fun q n0 B0 w0 E0 w00 E act w hq hD hup hR hD2 => ?_⟩
   rw [roundsIn_succ]
   refine wpIn_mono (hok q n0 B0 w0 E act w hq hR hD2) (fun e a w' hL => ?_)
   obtain ⟨rfl, E2, k1, k2, k3⟩ := hL
   exact ⟨rfl, E2, hup.trans k1, k2.blw _, k3⟩
 intro k
 induction k with
 | zero =>
  intro st r hi
  exact round 0 _ st r hi (fun st1 h => by cases h)
 | succ k ih =>
  intro st r hi
  exact round (k + 1) _ st r hi (fun st1 h => ih st1 r h)
def al8 (D : Ctx) : Code → Prop
 | .rangeFunc _ ps assign body => ∀ e, aya D.rng (jd body) = some e → ∃ Di : Ctx, Di.P = D.P ∧ Di.globs = D.globs ∧ Di.y = some ⟨ps, assign, body, e.m, true⟩ ∧ Enters D.P e.g ∧ bfb Di e.g e.s
 | _ => True
theorem bhv {D : Ctx} {st : ASt} {g : Operand} {body : Code} {e : RngE} {first caps : List AVal} (h : bo4 D st g body = some (e, first, caps)) :
    ev st.f g = .fn (.func e.g) first caps ∧ aya D.rng (jd body) = some e ∧ D.top = true ∧ D.y = none ∧ st.m = e.m := by
 unfold bo4 at h
 split at h
 ·rename_i gid first' caps' hx
  split at h
  ·rename_i e' he
   cases hq : D.top && noY D.y && Nat.beq gid e'.g && Nat.beq st.m e'.m with
   | false => rw [hq] at h; cases h
   | true =>
    rw [hq] at h
    cases h
    simp only [Bool.and_eq_true] at hq
    obtain ⟨⟨⟨h1, h2⟩, h3⟩, h4⟩ := hq
    have e1 := Nat.eq_of_beq_eq_true h3
    have e2 := Nat.eq_of_beq_eq_true h4
    subst e1
    refine ⟨hx, he, h1, ?_, e2⟩
    revert h2
    cases D.y with
    | none => intro _; rfl
    | some _ => intro h; cases h
  ·cases h
 ·cases h
theorem Rel.swap {D : Ctx} {B0 : Nat} {w0 : W0} {E E' : Env} {f f' : List (Nat × AVal)} {h h' : Hp} {n n' m m' : Nat} {act act' : Act} {w w' : World} (hR : Rel D B0 w0 E ⟨f, h, n, m⟩ act w) (up : Up E E' w w')
    (hR' : Rel D B0 w0 E' ⟨f', h', n', m'⟩ act' w') : Rel D B0 w0 E' ⟨f, h', n', m⟩ act w' where
 below := hR'.below
 base := hR'.base
 size := hR.size
 idle := hR.idle
 marks := hR.marks.mono up
 recs := hR'.recs
 tmps := fun t => eu.mono up _ _ (hR.tmps t)
 heap := hR'.heap
 apart := hR'.apart
 sOld := hR'.sOld
 sNew := hR'.sNew
 form := hR'.form
 globs := hR'.globs
theorem bdg {D : Ctx} {B0 : Nat} {w0 : W0} {E : Env} {st : ASt} {act : Act} {w : World} (hR : Rel D B0 w0 E st act w) : ∀ (ts : List Nat), jl E w (looks st.f ts) (ts.map fun t => act.tmps.getD t undef)
 | [] => by simp only [looks, jl, List.map_nil]
 | t :: r => by
  simp only [looks, jl, List.map_cons]
  exact ⟨_, _, rfl, hR.tmps t, bdg hR r⟩
theorem bbz : ∀ (h : Hp) {x id : Nat} {b : Blk}, bcx x h = true → fq h id = some b → mo x (blo b.b) = false
 | [], x, id, b, _, hb => by simp [fq] at hb
 | (k, c) :: r, x, id, b, hf, hb => by
  have key : (∀ e l z, c = some ⟨.box e l, z⟩ → mo x l = false) ∧ bcx x r = true := by
   unfold bcx at hf
   split at hf
   ·rename_i heq
    cases heq
   ·rename_i heq
    cases heq
    simp only [Bool.and_eq_true, Bool.not_eq_true'] at hf
    exact ⟨fun e l z h => by cases h; exact hf.1, hf.2⟩
   ·rename_i hno heq
    cases heq
    exact ⟨fun e l z h => absurd h (by intro h; exact hno _ _ _ _ (by rw [h])), hf⟩
  simp only [fq] at hb
  cases hq : Nat.beq k id with
  | true =>
   rw [hq] at hb
   simp only [cond_true] at hb
   subst hb
   obtain ⟨bk, z⟩ := b
   cases bk with
   | row e c => simp [blo, mo]
   | box e l => exact key.1 e l z rfl
  | false => rw [hq] at hb; exact bbz r key.2 hb
theorem bff {B0 : Nat} {E : Env} {w : World} : ∀ {ds : List Deferred}, Marks B0 E w ds → ∀ d, d ∈ ds → ∃ b, d.target = .collected b ∧ b < w.heap.size
 | [], _, d, hd => by simp at hd
 | x :: r, h, d, hd => by
  obtain ⟨⟨b, h1, h2, h3, h4, h5⟩, h6⟩ := h
  rcases List.mem_cons.1 hd with rfl | hd
  ·exact ⟨b, by rw [h1], (Array.getElem?_eq_some_iff.1 h4).1⟩
  ·exact bff h6 d hd
theorem bna {D Di : Ctx} (hG2 : l7 D) {g : Operand} {ps : Array Tmp} {assign body : Code} {st : ASt} {e : RngE} {first caps : List AVal} {v : AVal} {h' : Hp} {n' n0 B0 : Nat} {w0 : W0} {E : Env} {act : Act} {w : World}
    (hev : ev st.f g = .fn (.func e.g) first caps) (htop : D.top = true) (hyn : D.y = none) (hm : st.m = e.m) (hP : Di.P = D.P) (hgl : Di.globs = D.globs) (hy : Di.y = some ⟨ps, assign, body, e.m, true⟩) (hent : Enters D.P e.g)
    (hcall : ∀ (B0 : Nat) (w0 : W0) (E : Env) (f : List (Nat × AVal)) (m : Nat) (act : Act) (w : World) (cargs : List Value), Rel Di B0 w0 E ⟨f, st.h, st.n + 1, m⟩ act w → Dom E (st.n + 1) → jl E w (oo first (.yld st.n e.ts (looks st.f e.ts) :: caps)) cargs →
     Calls Di.P e.g cargs.toArray w fun e w' => ∃ u E', e = .returned u ∧ Up E E' w w' ∧ Rel Di B0 w0 E' ⟨f, h', n', m⟩ act w' ∧ Dom E' n' ∧ eu E' w' v u)
    (hfree : bcx st.n h' = true) (hR : Rel D B0 w0 E st act w) (hD : Dom E st.n) :
    (Code.rangeFunc g ps assign body).wpIn (FR none) n0 D.P (bdb D B0 w0 E w .normal { f := st.f, h := h', n := n', m := st.m }) act w := by
 have hw0 : w0.y = none := by
  cases hq : w0.y with
  | none => rfl
  | some x =>
   obtain ⟨id, l, T⟩ := x
   obtain ⟨_, _, Y, r, h1, _⟩ := hR.recs id l T hq
   rw [hyn] at h1
   cases h1
 have hX := hR.ev g
 rw [hev] at hX
 simp only [eu] at hX
 obtain ⟨fv, cv, hfn, hrf, hrc⟩ := hX
 refine wpIn_rangeFunc (fun fn _ => ?_)
 obtain ⟨rec0, hrec⟩ : ∃ r : Loop, r = { state := .ready, pending := none, fn, tmps := act.tmps, params := ps, assign, body, defers := w.heap.size } := ⟨_, rfl⟩
 obtain ⟨w1, hw1⟩ : ∃ w1, w1 = (w.alloc (.deferred (some []))).alloc (.loop rec0) := ⟨_, rfl⟩
 have hs1 : w1.heap.size = w.heap.size + 2 := by rw [hw1]; simp only [World.size_alloc]
 have hold : ∀ k, k < w.heap.size → w1.heap[k]? = w.heap[k]? := by
  intro k hk
  rw [hw1]
  simp only [World.alloc]
  rw [Array.getElem?_push_lt (by simp; omega), Array.getElem?_eq_getElem hk, Array.getElem_push_lt hk]
 have hd1 : w1.heap[w.heap.size]? = some (.deferred (some [])) := by
  rw [hw1]
  simp only [World.alloc]
  rw [Array.getElem?_push_lt (by simp)]
  simp
 have hl1 : w1.heap[w.heap.size + 1]? = some (.loop rec0) := by
  rw [hw1]
  have := World.alloc_heap_new (w.alloc (.deferred (some []))) (.loop rec0)
  rw [World.size_alloc] at this
  exact this
 have hb0 := hR.base
 obtain ⟨E1, hE1⟩ : ∃ E1 : Env, E1 = ⟨fun k => E.S k ∨ k = w.heap.size ∨ k = w.heap.size + 1, fun j => if j = st.n then some (mark (w.heap.size + 1) act.tmps) else E.ρ j⟩ := ⟨_, rfl⟩
 have hne : ∀ id u, E.ρ id = some u → id ≠ st.n := fun id u hu => Nat.ne_of_lt (hD id u hu)
 have hρ1 : ∀ id, id ≠ st.n → E1.ρ id = E.ρ id := fun id hi => by rw [hE1]; simp only [if_neg hi]
 have hρn : E1.ρ st.n = some (mark (w.heap.size + 1) act.tmps) := by rw [hE1]; simp only [if_true]
 have up1 : Up E E1 w w1 := ⟨⟨fun b hb => by rw [hE1]; exact .inl hb, fun b hb => hold b (hR.sOld b hb)⟩, fun id u hu => by rw [hρ1 id (hne id u hu)]; exact hu⟩
 have hbel : Below B0 w w1 := { os := by rw [hw1]; rfl, tape := by rw [hw1]; rfl, output := by rw [hw1]; rfl, size := by rw [hs1]; omega, block := fun k hk => hold k (by omega) }
 have hS1 : ∀ b, E1.S b → E.S b ∨ (w.heap.size ≤ b ∧ b < w1.heap.size) := by
  intro b hb
  rw [hE1] at hb
  rcases hb with h | h | h
  ·exact .inl h
  ·exact .inr ⟨by omega, by omega⟩
  ·exact .inr ⟨by omega, by omega⟩
 have hR1 : Rel Di B0 ⟨w0.w, w0.S0, some (st.n, w.heap.size + 1, act.tmps)⟩ E1 ⟨[], st.h, st.n + 1, 0⟩ ⟨#[], []⟩ w1 :=
  { below := hR.below.trans hbel
    base := Nat.le_trans hb0 hbel.size
    size := rfl
    idle := fun _ => rfl
    marks := trivial
    recs := fun id l T hyy => by
     cases hyy
     refine ⟨by omega, by rw [hE1]; exact .inr (.inr rfl), _, rec0, hy, hl1, by rw [hrec], by rw [hrec], by rw [hrec], by rw [hrec], by rw [hR.size, hm], fun _ => by rw [hrec]; exact ⟨rfl, rfl⟩⟩
    tmps := fun t => aip _
    heap := fun id b hb => (hR.heap id b hb).mono up1 (fun u j hu hj => hold j ((hR.heap id b hb).lt hu hj).2) (fun _ u j hu hj hS => by
     rcases hS1 j hS with h | h
     ·exact h
     ·have := ((hR.heap id b hb).lt hu hj).2
      omega)
    apart := fun id id' b b' u u' k h1 h2 h3 h4 h5 h6 h7 => by
     obtain ⟨u1, hu1, _⟩ := hR.heap id b h1
     obtain ⟨u2, hu2, _⟩ := hR.heap id' b' h3
     rw [hρ1 id (hne _ _ hu1)] at h6
     rw [hρ1 id' (hne _ _ hu2)] at h7
     exact hR.apart id id' b b' u u' k h1 h2 h3 h4 h5 h6 h7
    sOld := fun b hb => by
     rcases hS1 b hb with h | h
     ·have := hR.sOld b h
      omega
     ·exact h.2
    sNew := fun b hb => by
     rcases hS1 b hb with h | h
     ·exact hR.sNew b h
     ·exact .inr (by omega)
    form := fun id u hu => by
     by_cases hi : id = st.n
     ·subst hi
      rw [hρn] at hu
      cases hu
      exact .inr ⟨_, _, rfl, rfl⟩
     ·rw [hρ1 id hi] at hu
      rcases hR.form id u hu with h | ⟨l, T, h, _⟩
      ·exact .inl h
      ·rw [hw0] at h
       cases h
    globs := fun gg l hg => by
     rw [hgl] at hg
     obtain ⟨h1, cs, e, fz, h2, h3⟩ := hR.globs gg l hg
     exact ⟨up1.keeps.sub _ h1, cs, e, fz, by rw [hold _ (hR.sOld _ h1)]; exact h2, ng.mono up1 _ _ h3⟩ }
 have hD1 : Dom E1 (st.n + 1) := by
  intro id u hu
  by_cases hi : id = st.n
  ·omega
  ·rw [hρ1 id hi] at hu
   have := hD id u hu
   omega
 have hargs : jl E1 w1 (oo first (.yld st.n e.ts (looks st.f e.ts) :: caps)) (fv ++ (.func (.yield (w.heap.size + 1)) #[] #[] :: cv)) := by
  rw [agi]
  refine ag4 _ _ _ _ (jl.mono up1 _ _ hrf) ?_
  simp only [jl]
  refine ⟨_, _, rfl, ?_, jl.mono up1 _ _ hrc⟩
  simp only [eu]
  exact ⟨_, act.tmps, hρn, rfl, jl.mono up1 _ _ (bdg hR _)⟩
 have hc := hcall B0 _ E1 [] 0 ⟨#[], []⟩ w1 _ hR1 hD1 hargs
 rw [hP] at hc
 refine ⟨w.heap.size + 1, [{ target := .collected w.heap.size, args := #[] }], w1, ⟨.fn (.func e.g) cv.toArray, fv.toArray ++ #[.func (.yield (w.heap.size + 1)) #[] #[]]⟩, w1, e.g, (fv ++ (.func (.yield (w.heap.size + 1)) #[] #[] :: cv)).toArray, w1, ?_, ?_, fun _ _ => trivial, ?_, fun h => bgi h, ag3.2 (hc.mono ?_)⟩
 ·rw [hw1, hrec]
  exact run_enterLoop_outer fn act.tmps ps assign body
 ·simp only [resolve, hfn, Deferred.ofValue, Sem.run_pure, List.map_toArray, List.map_cons, List.map_nil]
  rfl
 ·have e1 : (fv.toArray ++ #[Value.func (.yield (w.heap.size + 1)) #[] #[]]) ++ cv.toArray = (fv ++ (Value.func (.yield (w.heap.size + 1)) #[] #[] :: cv)).toArray := by
    apply Array.ext'
    simp
  simp only [invoke, e1, amc hent]
 ·rintro e0 w3 ⟨u, E2, rfl, up2, hR2, hD2, _⟩
  have hl3 : w3.heap[w.heap.size + 1]? = some (.loop rec0) := by
   rw [up2.keeps.blk _ (by rw [hE1]; exact .inr (.inr rfl))]
   exact hl1
  have hd3 : w3.heap[w.heap.size]? = some (.deferred (some [])) := by
   rw [up2.keeps.blk _ (by rw [hE1]; exact .inr (.inl rfl))]
   exact hd1
  obtain ⟨w4, ⟨o4, ho4, hw4⟩, hend⟩ : ∃ w4, (∃ o, (∀ cs e f, o ≠ Obj.cells cs e f) ∧ w4 = w3.putObj (w.heap.size + 1) o) ∧ (Instr.endLoop (w.heap.size + 1)).run D.P w3 = .ok none w4 := by
   have h := run_endLoop (P := D.P) hl3 (by rw [hrec]; simp)
   rw [show rec0.pending = none by rw [hrec]] at h
   exact ⟨_, ⟨_, by simp, rfl⟩, h⟩
  refine ⟨none, w4, hend, ?_⟩
  obtain ⟨E4, hE4⟩ : ∃ E4 : Env, E4 = ⟨E2.S, fun j => if j = st.n then none else E2.ρ j⟩ := ⟨_, rfl⟩
  have hρ4 : ∀ id, id ≠ st.n → E4.ρ id = E2.ρ id := fun id hi => by rw [hE4]; simp only [if_neg hi]
  have hρ4' : ∀ id u, E4.ρ id = some u → id ≠ st.n ∧ E2.ρ id = some u := by
   intro id u hu
   by_cases hi : id = st.n
   ·rw [hE4] at hu
    simp [hi] at hu
   ·rw [hρ4 id hi] at hu
    exact ⟨hi, hu⟩
  have hn2 : E2.ρ st.n = some (mark (w.heap.size + 1) act.tmps) := up2.ρ _ _ hρn
  have hoth : ∀ k, k ≠ w.heap.size + 1 → w4.heap[k]? = w3.heap[k]? := fun k hk => by rw [hw4]; exact World.putObj_heap_other hk
  have up4 : Up E E4 w w4 := by
   refine ⟨⟨fun b hb => ?_, fun b hb => ?_⟩, fun id u hu => ?_⟩
   ·rw [hE4]
    exact up2.keeps.sub _ (up1.keeps.sub _ hb)
   ·have := hR.sOld b hb
    rw [hoth b (by omega), up2.keeps.blk _ (up1.keeps.sub _ hb), up1.keeps.blk _ hb]
   ·rw [hρ4 id (hne id u hu)]
    exact up2.ρ _ _ (up1.ρ _ _ hu)
  have hRt : Rel D B0 ⟨w0.w, w0.S0, none⟩ E4 ⟨[], h', n', 0⟩ ⟨#[], []⟩ w4 := by
   refine hR2.turn (D' := D) (E' := E4) (act' := ⟨#[], []⟩) (fun gg l hg => hG2 gg l (by rw [← hgl]; exact hg)) none hgl.symm (by rw [hE4]) (by rw [hw4]; exact akh hl3 (by simp) ho4) (by rw [hw4]; exact aik (by omega)) (fun id u hu => (hρ4' id u hu).2)
    (fun t id hi => by simp [look, mentions] at hi) (fun id b hb => ⟨?_, fun j hj => hρ4 j ?_⟩) rfl (fun _ => rfl) trivial (ard rfl) (fun id u hu => ?_)
   ·refine hρ4 id ?_
    rintro rfl
    rcases (hR2.heap _ b hb).form hn2 with ⟨_, _, _, h⟩ | ⟨_, h⟩ <;> cases h
   ·rintro rfl
    rw [bbz h' hfree hb] at hj
    cases hj
   ·obtain ⟨h1, h2⟩ := hρ4' id u hu
    rcases hR2.form id u h2 with h | ⟨l, T, h, _⟩
    ·exact .inl h
    ·cases h
     exact absurd rfl h1
  have hw0' : w0 = ⟨w0.w, w0.S0, none⟩ := by
   cases w0
   simp only at hw0
   rw [hw0]
  rw [← hw0'] at hRt
  have hRs := Rel.swap (f := st.f) (h := st.h) (n := st.n) (m := st.m) hR up4 hRt
  refine ⟨rfl, E4, up4, { hRs with idle := ?_, marks := ?_, size := hRs.size, tmps := hRs.tmps }, fun id u hu => hD2 id u (hρ4' id u hu).2⟩
  ·intro h
   rw [htop] at h
   cases h
  ·refine ⟨⟨w.heap.size, rfl, hb0, ?_, ?_, fun d' hd' => ?_⟩, hRs.marks⟩
   ·rw [hE4]
    exact up2.keeps.sub _ (by rw [hE1]; exact .inr (.inl rfl))
   ·rw [hoth _ (by omega)]
    exact hd3
   ·obtain ⟨b, hb1, hb2⟩ := bff hR.marks d' hd'
    rw [hb1]
    intro h
    cases h
    omega
theorem awp (hG : GOk D) (hG2 : l7 D) (hI : InlOk D) (hmix : D.P.follows .mixedOrders = true) : ∀ (c : Code), (∀ c', c' ∈ cu c → ji D c') → (∀ c', c' ∈ ug c → al8 D c') → ∀ (st : ASt) (K : AExit → ASt → Option R) (r : R), ad8 D c st K = some r →
    ∃ ex st', K ex st' = some r ∧ st'.m = st.m ∧ bn6 D c ex st st' := by
 intro c
 induction c with
 | skip =>
  intro hL hRg st K r h
  exact ⟨.normal, st, h, rfl, fun q n0 B0 w0 E act w hq hR hD => wpIn_skip ⟨rfl, E, Up.refl _ _, hR, hD⟩⟩
 | label l =>
  intro hL hRg st K r h
  exact ⟨.normal, st, h, rfl, fun q n0 B0 w0 E act w hq hR hD => wpIn_label ⟨rfl, E, Up.refl _ _, hR, hD⟩⟩
 | region id ops draw =>
  intro hL hRg st K r h
  cases draw with
  | false =>
   simp only [ad8] at h
   obtain ⟨st', h1, h2, h4⟩ := bi3 (id := id) hG hG2 hI h
   refine ⟨.normal, st', h1, h2.trans (azj D ops.toList st).1, fun q n0 B0 w0 E act w hq hR hD => ?_⟩
   obtain ⟨E1, hρ, up1, hR1⟩ := biz ops.toList hR
   exact h4 q n0 B0 w0 E1 act w _ hR1 (fun id u hu => by rw [(azj D ops.toList st).2]; rw [hρ] at hu; exact hD id u hu) (fun E' a' w' k1 k2 k3 => ⟨rfl, E', up1.trans k1, k2, k3⟩)
  | true =>
   simp only [ad8] at h
   obtain ⟨st', h1, h2, h4⟩ := bnv (id := id) hG hG2 hI hmix h
   refine ⟨.normal, st', h1, h2.trans (azj D ops.toList st).1, fun q n0 B0 w0 E act w hq hR hD => ?_⟩
   obtain ⟨E1, hρ, up1, hR1⟩ := biz ops.toList hR
   exact h4 q n0 B0 w0 E1 act w _ hR1 (fun id u hu => by rw [(azj D ops.toList st).2]; rw [hρ] at hu; exact hD id u hu) (fun E' a' w' k1 k2 k3 => ⟨rfl, E', up1.trans k1, k2, k3⟩)
 | seq a b iha ihb =>
  intro hL hRg st K r h
  simp only [ad8] at h
  obtain ⟨ex1, st1, h1, h2, h3⟩ := iha (fun c' hc => hL c' (by simp [cu, hc])) (fun c' hc => hRg c' (by simp [ug, hc])) st _ r h
  cases ex1 with
  | normal =>
   obtain ⟨ex, st', k1, k2, k3⟩ := ihb (fun c' hc => hL c' (by simp [cu, hc])) (fun c' hc => hRg c' (by simp [ug, hc])) st1 K r h1
   refine ⟨ex, st', k1, k2.trans h2, fun q n0 B0 w0 E act w hq hR hD => wpIn_seq (wpIn_mono (h3 q n0 B0 w0 E act w hq hR hD) (fun e a w' hL => ?_))⟩
   obtain ⟨rfl, E1, u1, u2, u3⟩ := hL
   exact wpIn_mono (k3 q n0 B0 w0 E1 a w' hq u2 u3) (fun e a w'' hL => hL.up u1)
  | exit j =>
   refine ⟨.exit j, st1, h1, h2, fun q n0 B0 w0 E act w hq hR hD => wpIn_seq (wpIn_mono (h3 q n0 B0 w0 E act w hq hR hD) (fun e a w' hL => ?_))⟩
   have h5 := hL
   obtain ⟨rfl, _⟩ := hL
   exact h5
  | ret =>
   refine ⟨.ret, st1, h1, h2, fun q n0 B0 w0 E act w hq hR hD => wpIn_seq (wpIn_mono (h3 q n0 B0 w0 E act w hq hR hD) (fun e a w' hL => ?_))⟩
   have h5 := hL
   obtain ⟨rfl, _⟩ := hL
   exact h5
 | cond x a b iha ihb =>
  intro hL hRg st K r h
  simp only [ad8] at h
  split at h
  ·rename_i t ht
   have hcv : ∀ {B0 : Nat} {w0 : W0} {E act w}, Rel D B0 w0 E st act w → act.eval x = .bool t := by
    intro B0 w0 E act w hR
    have := hR.ev x
    rw [ht] at this
    simpa only [eu] using this
   rcases z8 h with ⟨rfl, h4⟩ | ⟨rfl, h4⟩
   ·obtain ⟨ex, st', k1, k2, k3⟩ := iha (fun c' hc => hL c' (by simp [cu, hc])) (fun c' hc => hRg c' (by simp [ug, hc])) st K r h4
    exact ⟨ex, st', k1, k2, fun q n0 B0 w0 E act w hq hR hD => wpIn_cond (hcv hR) (k3 q n0 B0 w0 E act w hq hR hD)⟩
   ·obtain ⟨ex, st', k1, k2, k3⟩ := ihb (fun c' hc => hL c' (by simp [cu, hc])) (fun c' hc => hRg c' (by simp [ug, hc])) st K r h4
    exact ⟨ex, st', k1, k2, fun q n0 B0 w0 E act w hq hR hD => wpIn_cond (hcv hR) (k3 q n0 B0 w0 E act w hq hR hD)⟩
  ·cases h
 | block id c ih =>
  intro hL hRg st K r h
  simp only [ad8] at h
  obtain ⟨ex1, st1, h1, h2, h3⟩ := ih (fun c' hc => hL c' (by simpa [cu] using hc)) (fun c' hc => hRg c' (by simpa [ug] using hc)) st _ r h
  cases ex1 with
  | normal =>
   refine ⟨.normal, st1, h1, h2, fun q n0 B0 w0 E act w hq hR hD => wpIn_block (wpIn_mono (h3 q n0 B0 w0 E act w hq hR hD) (fun e a w' hL => ?_))⟩
   have h5 := hL
   obtain ⟨rfl, _⟩ := hL
   exact h5
  | ret =>
   refine ⟨.ret, st1, h1, h2, fun q n0 B0 w0 E act w hq hR hD => wpIn_block (wpIn_mono (h3 q n0 B0 w0 E act w hq hR hD) (fun e a w' hL => ?_))⟩
   have h5 := hL
   obtain ⟨rfl, _⟩ := hL
   exact h5
  | exit j =>
   cases hb : Nat.beq j id with
   | true =>
    simp only [hb, cond_true] at h1
    have := Nat.eq_of_beq_eq_true hb
    subst this
    refine ⟨.normal, st1, h1, h2, fun q n0 B0 w0 E act w hq hR hD => wpIn_block (wpIn_mono (h3 q n0 B0 w0 E act w hq hR hD) (fun e a w' hL => ?_))⟩
    obtain ⟨rfl, h5⟩ := hL
    simp only [conv, Exit.inBlock, if_true]
    exact ⟨rfl, h5⟩
   | false =>
    simp only [hb, cond_false] at h1
    have hne := Nat.ne_of_beq_eq_false hb
    refine ⟨.exit j, st1, h1, h2, fun q n0 B0 w0 E act w hq hR hD => wpIn_block (wpIn_mono (h3 q n0 B0 w0 E act w hq hR hD) (fun e a w' hL => ?_))⟩
    obtain ⟨rfl, h5⟩ := hL
    simp only [conv, Exit.inBlock, if_neg hne]
    exact ⟨rfl, h5⟩
 | loop c ih =>
  intro hL hRg st K r h
  simp only [ad8] at h
  split at h
  ·cases h
  ·rename_i st1 hn
   split at h
   ·rename_i s hs
    obtain ⟨k, hk⟩ := hL c (by simp [cu]) s hs st1 K r h
    obtain ⟨hb1, hb2⟩ := ba2 hn
    unfold itA at hk
    rw [hb1, hb2] at hk
    obtain ⟨hm, hle, hnorm⟩ := azw hG2 hn
    obtain ⟨ex, st', h1, h2, h3⟩ := bqk hG2 (ih (fun c' hc => hL c' (by simp [cu, hc])) (fun c' hc => hRg c' (by simp [ug, hc]))) k st1 r hk
    refine ⟨ex, st', h1, h2.trans hm, fun q n0 B0 w0 E act w hq hR hD => wpIn_loop_rounds (k + 1) ?_⟩
    obtain ⟨E', hS, hρ, hR', hD'⟩ := hnorm B0 w0 E act w hR
    have hge := bl4 (hintOf D.hints (jd c)) st.n
    have hDn : Dom E (bmk (hintOf D.hints (jd c)) st.n) := fun id u hu => Nat.lt_of_lt_of_le (hD id u hu) hge
    exact h3 q n0 B0 w0 E w E' act w hq hDn ⟨⟨hS, fun _ _ => rfl⟩, fun id u hu => by rw [hρ id (hDn id u hu)]; exact hu⟩ hR' hD'
   ·cases h
 | exit id =>
  intro hL hRg st K r h
  exact ⟨.exit id, st, h, rfl, fun q n0 B0 w0 E act w hq hR hD => wpIn_exit ⟨rfl, E, Up.refl _ _, hR, hD⟩⟩
 | ret =>
  intro hL hRg st K r h
  exact ⟨.ret, st, h, rfl, fun q n0 B0 w0 E act w hq hR hD => wpIn_ret ⟨rfl, E, Up.refl _ _, hR, hD⟩⟩
 | rangeFunc g ps assign body iha ihb =>
  intro hL hRg st K r h
  simp only [ad8] at h
  split at h
  ·rename_i e first caps hrng
   obtain ⟨hev, hra, htop, hyn, hm⟩ := bhv hrng
   obtain ⟨Di, hP, hgl, hy, hent, hrun⟩ := hRg (.rangeFunc g ps assign body) (by simp [ug]) e hra
   obtain ⟨v, h', n', hK, hcall⟩ := hrun _ _ _ _ r h
   cases hfree : bcx st.n h' with
   | false => rw [hfree] at hK; cases hK
   | true =>
    rw [hfree] at hK
    refine ⟨.normal, _, hK, rfl, fun q n0 B0 w0 E act w hq hR hD => ?_⟩
    have hqn := hq htop
    subst hqn
    exact bna hG2 hev htop hyn hm hP hgl hy hent hcall hfree hR hD
  ·cases h
 | scope => intro hL hRg st K r h; simp [ad8] at h
 | goto => intro hL hRg st K r h; simp [ad8] at h
 | refuse => intro hL hRg st K r h; simp [ad8] at h
end
end Go.Abs
end

section
namespace Go.Abs
open Go Go.RowKit
set_option linter.unusedVariables false
set_option linter.unusedSimpArgs false
section
variable {D : Ctx} {B0 : Nat} {w0 : W0} {E : Env} {st : ASt} {act : Act} {w : World}
theorem p8 {S : Nat → Prop} {B : Nat} {a : AVal} {u : Value} (h : eu (qm S) w a u) (h1 : ∀ l, a ≠ .agg l) (h2 : ∀ l, a ≠ .tuple l) : xk S w B a u [] := by
 cases a <;> simp only [xk] <;> first
  | exact absurd rfl (h1 _)
  | exact absurd rfl (h2 _)
  | exact ⟨h, trivial⟩
  | exact ⟨h, rfl⟩
  | (simp only [eu] at h; done)
def apg (E : Env) (st : ASt) (ids : List Nat) (bs : List Nat) : Prop :=
 bs.Nodup ∧ ∀ k, k ∈ bs → ∃ id, id ∈ ids ∧ ∃ b v, fq st.h id = some b ∧ b.frz = false ∧ E.ρ id = some v ∧ gu v = some k
theorem apg.nil {ids : List Nat} : apg E st ids [] := ⟨List.nodup_nil, fun k hk => by simp at hk⟩
theorem aj1 : ∀ (l r : List Nat), ahc (oo l r) = true → ahc l = true ∧ ahc r = true ∧ ∀ x, x ∈ l → x ∉ r
 | [], r, h => ⟨rfl, h, fun x hx => by simp at hx⟩
 | a :: l, r, h => by
  simp only [oo, ahc, Bool.and_eq_true, Bool.not_eq_true'] at h
  obtain ⟨h1, h2⟩ := h
  obtain ⟨k1, k2, k3⟩ := aj1 l r h2
  have hm : a ∉ l ∧ a ∉ r := by
   constructor
   ·intro hx
    rw [acd.2 (jh.2 (.inl hx))] at h1
    cases h1
   ·intro hx
    rw [acd.2 (jh.2 (.inr hx))] at h1
    cases h1
  refine ⟨?_, k2, fun x hx => ?_⟩
  ·simp only [ahc, Bool.and_eq_true, Bool.not_eq_true']
   refine ⟨?_, k1⟩
   cases hq : atj a l with
   | false => rfl
   | true => exact absurd (acd.1 hq) hm.1
  ·rcases List.mem_cons.1 hx with rfl | hx
   ·exact hm.2
   ·exact k3 x hx
theorem apg.append (hR : Rel D B0 w0 E st act w) {i1 i2 : List Nat} {b1 b2 : List Nat} (hn : ∀ x, x ∈ i1 → x ∉ i2) (h1 : apg E st i1 b1) (h2 : apg E st i2 b2) : apg E st (oo i1 i2) (b1 ++ b2) := by
 refine ⟨List.nodup_append.2 ⟨h1.1, h2.1, fun x hx y hy he => ?_⟩, fun k hk => ?_⟩
 ·subst he
  obtain ⟨id, g1, b, v, g2, g3, g4, g5⟩ := h1.2 x hx
  obtain ⟨id', f1, b', v', f2, f3, f4, f5⟩ := h2.2 x hy
  exact hR.apart id id' b b' v v' x g2 g3 f2 f3 (by rintro rfl; exact hn _ g1 f1) g4 f4 g5 f5
 ·rcases List.mem_append.1 hk with hk | hk
  ·obtain ⟨id, g1, rest⟩ := h1.2 k hk
   exact ⟨id, jh.2 (.inl g1), rest⟩
  ·obtain ⟨id, g1, rest⟩ := h2.2 k hk
   exact ⟨id, jh.2 (.inr g1), rest⟩
mutual
theorem bfx (hR : Rel D B0 w0 E st act w) {l0 : List Nat} (hi : ∀ id, id ∈ l0 → ∀ b v k, fq st.h id = some b → E.ρ id = some v → gu v = some k → E.S k) :
    ∀ (a : AVal) (u : Value), eu E w a u → (∀ id, id ∈ aqa a → id ∈ l0) → ahc (apw a) = true → ∃ bs, xk E.S w B0 (aws (fq st.h) a) u bs ∧ apg E st (apw a) bs
 | .own id, u, h, hw, hn => by
  simp only [eu] at h
  simp only [aws]
  split
  ·rename_i e c hb
   obtain ⟨v, hv, hrow, hns, _⟩ := hR.heap _ _ hb
   rw [h] at hv
   cases hv
   refine ⟨(gu u).toList, ?_, ?_, fun k hk => ?_⟩
   ·simp only [xk]
    exact ⟨hrow, trivial⟩
   ·cases gu u <;> simp
   ·refine ⟨id, by simp [apw], _, u, hb, rfl, h, ?_⟩
    cases hvb : gu u with
    | none => rw [hvb] at hk; simp at hk
    | some k' => rw [hvb] at hk; simp at hk; rw [hk]
  ·rename_i e c hb
   refine ⟨[], ?_, apg.nil⟩
   obtain ⟨v, hv, _, _, hs⟩ := hR.heap _ _ hb
   have hc : ai1 (fq st.h) (.own id) = some c := by simp only [ai1, hb]
   have := aqb hR (fun _ _ h => h) (S' := E.S) (fun _ h => h) hc (u := u) (by simp only [eu]; exact h) (fun id' hid' b' v' k hb' hv' hk => by
    simp only [qj, List.mem_singleton] at hid'
    subst hid'
    rw [hb] at hb'
    cases hb'
    rw [hv] at hv'
    cases hv'
    exact hs rfl k hk)
   exact p8 (by simp only [eu, qm]; exact this) (fun _ h => by cases h) (fun _ h => by cases h)
  ·exact ⟨[], p8 (by simp only [eu]) (fun _ h => by cases h) (fun _ h => by cases h), apg.nil⟩
 | .agg l, u, h, hw, hn => by
  simp only [eu] at h
  obtain ⟨cs, h1, h2⟩ := h
  obtain ⟨bs, k1, k2⟩ := avi hR hi l cs h2 (by simpa only [aqa] using hw) (by simpa only [apw] using hn)
  exact ⟨bs, by simp only [aws, xk]; exact ⟨cs, h1, k1⟩, by simpa only [apw] using k2⟩
 | .tuple l, u, h, hw, hn => by
  simp only [eu] at h
  obtain ⟨vs, h1, h2⟩ := h
  obtain ⟨bs, k1, k2⟩ := auz hR hi l vs h2 (by simpa only [aqa] using hw) (by simpa only [apw] using hn)
  exact ⟨bs, by simp only [aws, xk]; exact ⟨vs, h1, k1⟩, by simpa only [apw] using k2⟩
 | .v x, u, h, hw, hn => ⟨[], p8 (wz hR (fun _ _ h => h) (fun _ h => h) (.v x) u h (fun id hid => by simp [qj] at hid)) (fun _ h => by cases h) (fun _ h => by cases h), apg.nil⟩
 | .bot, u, h, hw, hn => ⟨[], p8 (wz hR (fun _ _ h => h) (fun _ h => h) .bot u h (fun id hid => by simp [qj] at hid)) (fun _ h => by cases h) (fun _ h => by cases h), apg.nil⟩
 | .sl c, u, h, hw, hn => ⟨[], p8 (wz hR (fun _ _ h => h) (fun _ h => h) (.sl c) u h (fun id hid => by simp [qj] at hid)) (fun _ h => by cases h) (fun _ h => by cases h), apg.nil⟩
 | .arr k n l, u, h, hw, hn => ⟨[], p8 (wz hR (fun _ _ h => h) (fun _ h => h) (.arr k n l) u h (fun id hid => by simp [qj] at hid)) (fun _ h => by cases h) (fun _ h => by cases h), apg.nil⟩
 | .win id off len, u, h, hw, hn => ⟨[], p8 (wz hR (fun _ _ h => h) (fun _ h => h) (.win id off len) u h (fun id' hid b v k hb hv hk => hi id' (hw id' (by simpa [aqa, qj] using hid)) b v k hb hv hk)) (fun _ h => by simp only [aws, w9] at h; split at h <;> cases h) (fun _ h => by simp only [aws, w9] at h; split at h <;> cases h), apg.nil⟩
 | .awin id off m lo len, u, h, hw, hn => ⟨[], p8 (wz hR (fun _ _ h => h) (fun _ h => h) (.awin id off m lo len) u h (fun id' hid b v k hb hv hk => hi id' (hw id' (by simpa [aqa, qj] using hid)) b v k hb hv hk)) (fun _ h => by simp only [aws, w9] at h; split at h <;> cases h) (fun _ h => by simp only [aws, w9] at h; split at h <;> cases h), apg.nil⟩
 | .ptr id off, u, h, hw, hn => ⟨[], p8 (by simp only [aws, w9, eu]) (fun _ h => by cases h) (fun _ h => by cases h), apg.nil⟩
 | .pel id sz i, u, h, hw, hn => ⟨[], p8 (by simp only [aws, w9, eu]) (fun _ h => by cases h) (fun _ h => by cases h), apg.nil⟩
 | .fel id sz i off, u, h, hw, hn => ⟨[], p8 (by simp only [aws, w9, eu]) (fun _ h => by cases h) (fun _ h => by cases h), apg.nil⟩
 | .apel id off m i, u, h, hw, hn => ⟨[], p8 (by simp only [aws, w9, eu]) (fun _ h => by cases h) (fun _ h => by cases h), apg.nil⟩
 | .sta l, u, h, hw, hn => ⟨[], p8 (wz hR (fun _ _ h => h) (fun _ h => h) (.sta l) u h (fun id hid => by simp [qj] at hid)) (fun _ h => by simp only [aws, w9] at h; cases hb : au9 0 l <;> rw [hb] at h <;> cases h) (fun _ h => by simp only [aws, w9] at h; cases hb : au9 0 l <;> rw [hb] at h <;> cases h), apg.nil⟩
 | .fn f a b, u, h, hw, hn => ⟨[], p8 (wz hR (fun _ _ h => h) (fun _ h => h) (.fn f a b) u h (fun id' hid b' v k hb hv hk => hi id' (hw id' (by simpa [aqa, qj] using hid)) b' v k hb hv hk)) (fun _ h => by cases h) (fun _ h => by cases h), apg.nil⟩
 | .iface t x, u, h, hw, hn => ⟨[], p8 (wz hR (fun _ _ h => h) (fun _ h => h) (.iface t x) u h (fun id' hid b' v k hb hv hk => hi id' (hw id' (by simpa [aqa, qj] using hid)) b' v k hb hv hk)) (fun _ h => by cases h) (fun _ h => by cases h), apg.nil⟩
 | .fr e c, u, h, hw, hn => by simp only [eu] at h
 | .glob g off, u, h, hw, hn => ⟨[], p8 (by simp only [aws, w9, eu]) (fun _ h => by cases h) (fun _ h => by cases h), apg.nil⟩
 | .gel g off m i, u, h, hw, hn => ⟨[], p8 (by simp only [aws, w9, eu]) (fun _ h => by cases h) (fun _ h => by cases h), apg.nil⟩
 | .yld id ts vs, u, h, hw, hn => ⟨[], p8 (by simp only [aws, w9, eu]) (fun _ h => by cases h) (fun _ h => by cases h), apg.nil⟩
 | .alt t f fa fc g ga gc, u, h, hw, hn => ⟨[], p8 (wz hR (fun _ _ h => h) (fun _ h => h) (.alt t f fa fc g ga gc) u h (fun id' hid b' v k hb hv hk => hi id' (hw id' (by simpa [aqa, qj] using hid)) b' v k hb hv hk)) (fun _ h => by cases h) (fun _ h => by cases h), apg.nil⟩
theorem auz (hR : Rel D B0 w0 E st act w) {l0 : List Nat} (hi : ∀ id, id ∈ l0 → ∀ b v k, fq st.h id = some b → E.ρ id = some v → gu v = some k → E.S k) :
    ∀ (l : List AVal) (vs : List Value), jl E w l vs → (∀ id, id ∈ aev l → id ∈ l0) → ahc (aja l) = true → ∃ bs, ah6 E.S w B0 (aqo (fq st.h) l) vs bs ∧ apg E st (aja l) bs
 | [], vs, h, hw, hn => by
  simp only [jl] at h
  exact ⟨[], by simp only [aqo, ah6]; exact ⟨h, trivial⟩, apg.nil⟩
 | a :: r, vs, h, hw, hn => by
  simp only [jl] at h
  obtain ⟨u, us, rfl, h2, h3⟩ := h
  simp only [aja] at hn ⊢
  simp only [aev] at hw
  obtain ⟨n1, n2, n3⟩ := aj1 _ _ hn
  obtain ⟨b1, k1, k2⟩ := bfx hR hi a u h2 (fun id hid => hw id (jh.2 (.inl hid))) n1
  obtain ⟨b2, j1, j2⟩ := auz hR hi r us h3 (fun id hid => hw id (jh.2 (.inr hid))) n2
  exact ⟨b1 ++ b2, by simp only [aqo, ah6]; exact ⟨u, us, b1, b2, rfl, rfl, k1, j1⟩, k2.append hR n3 j2⟩
theorem avi (hR : Rel D B0 w0 E st act w) {l0 : List Nat} (hi : ∀ id, id ∈ l0 → ∀ b v k, fq st.h id = some b → E.ρ id = some v → gu v = some k → E.S k) :
    ∀ (l : List AVal) (cs : List Value), ng E w l cs → (∀ id, id ∈ aev l → id ∈ l0) → ahc (aja l) = true → ∃ bs, agz E.S w B0 (aqo (fq st.h) l) cs bs ∧ apg E st (aja l) bs
 | [], cs, h, hw, hn => by
  simp only [ng] at h
  exact ⟨[], by simp only [aqo, agz]; exact ⟨h, trivial⟩, apg.nil⟩
 | a :: r, cs, h, hw, hn => by
  simp only [aja] at hn ⊢
  simp only [aev] at hw
  obtain ⟨n1, n2, n3⟩ := aj1 _ _ hn
  rcases sj h with ⟨k', n, l, cs', rfl, h1, rfl, h3⟩ | ⟨ha, u, cs', rfl, h2, h3, h4⟩
  ·obtain ⟨b2, j1, j2⟩ := avi hR hi r cs' h3 (fun id hid => hw id (jh.2 (.inr hid))) n2
   exact ⟨b2, by simp only [aqo, aws, w9, agz]; exact ⟨cs', h1, rfl, j1⟩, by simpa only [apw, oo] using j2⟩
  ·obtain ⟨b1, k1, k2⟩ := bfx hR hi a u h3 (fun id hid => hw id (jh.2 (.inl hid))) n1
   obtain ⟨b2, j1, j2⟩ := avi hR hi r cs' h4 (fun id hid => hw id (jh.2 (.inr hid))) n2
   refine ⟨b1 ++ b2, ?_, k2.append hR n3 j2⟩
   have hx : ∀ k n l, aws (fq st.h) a ≠ .arr k n l := by
    intro k n l
    cases a <;> simp only [aws, w9] <;> first
     | exact ha _ _ _
     | (intro h; cases h; done)
     | (rename_i z; cases au9 0 z <;> (intro h; cases h; done))
     | (split <;> (intro h; cases h; done))
   simp only [aqo]
   revert k1 hx
   generalize aws (fq st.h) a = y
   intro k1 hx
   cases y <;> simp only [agz] <;> first
    | exact absurd rfl (hx _ _ _)
    | exact ⟨u, cs', b1, b2, rfl, h2, rfl, k1, j1⟩
end
mutual
theorem bga {S : Nat → Prop} {B : Nat} : ∀ (s : Sh) (a : AVal) (u : Value) (bs : List Nat), xk S w B a u bs → xk S w B (bap s a) u bs
 | .any, a, u, bs, h => by simpa only [bap] using h
 | .alt f fa fc g ga gc, a, u, bs, h => by
  simp only [bap]
  rcases az4 f fa fc g ga gc a with ⟨rfl, e⟩ | ⟨x, y, rfl, e⟩ | ⟨x, y, rfl, e⟩ | e
  ·rw [e]; simp only [xk] at h ⊢; exact ⟨anb.2 (.inl ⟨rfl, by simpa only [eu] using h.1⟩), h.2⟩
  ·rw [e]; simp only [xk] at h ⊢; exact ⟨anb.2 (.inr (.inl ⟨rfl, h.1⟩)), h.2⟩
  ·rw [e]; simp only [xk] at h ⊢; exact ⟨anb.2 (.inr (.inr ⟨rfl, h.1⟩)), h.2⟩
  ·rw [e]; exact h
 | .sl c, a, u, bs, h => by
  simp only [bap]
  rcases am3 c (.sl c) a with ⟨rfl, hc, e⟩ | e
  ·rw [e]
   simp only [xk, eu] at h ⊢
   obtain ⟨rfl, rfl⟩ := h
   exact ⟨blc hc, rfl⟩
  ·rw [e]; exact h
 | .fr e c, a, u, bs, h => by
  simp only [bap]
  rcases am3 c (.fr e c) a with ⟨rfl, hc, e⟩ | e
  ·rw [e]
   simp only [xk, eu] at h ⊢
   obtain ⟨rfl, rfl⟩ := h
   exact ⟨⟨[], ownsRow_nil hc, fun j x h => by simp at h⟩, rfl⟩
  ·rw [e]; exact h
 | .agg ss, a, u, bs, h => by
  cases a with
  | agg l =>
   simp only [bap, xk] at h ⊢
   obtain ⟨cs, h1, h2⟩ := h
   exact ⟨cs, h1, az1 ss l cs bs h2⟩
  | fn f a c =>
   simp only [bap, xk, eu] at h ⊢
   obtain ⟨⟨x, y, h1, h2, h3⟩, h4⟩ := h
   exact ⟨⟨x, y, h1, h2, aqn ss c y h3⟩, h4⟩
  | _ => simpa only [bap] using h
theorem bfl {S : Nat → Prop} {B : Nat} : ∀ (sig : List Sh) (l : List AVal) (vs : List Value) (bs : List Nat), ah6 S w B l vs bs → ah6 S w B (bdk sig l) vs bs
 | [], [], vs, bs, h => by simpa only [bdk] using h
 | s :: ss, [], vs, bs, h => by simpa only [bdk] using h
 | [], a :: r, vs, bs, h => by simpa only [bdk] using h
 | s :: ss, a :: r, vs, bs, h => by
  simp only [bdk, ah6] at h ⊢
  obtain ⟨u, us, b1, b2, h1, h2, h3, h4⟩ := h
  exact ⟨u, us, b1, b2, h1, h2, bga s a u b1 h3, bfl ss r us b2 h4⟩
theorem az1 {S : Nat → Prop} {B : Nat} : ∀ (sig : List Sh) (l : List AVal) (vs : List Value) (bs : List Nat), agz S w B l vs bs → agz S w B (bdk sig l) vs bs
 | [], [], vs, bs, h => by simpa only [bdk] using h
 | s :: ss, [], vs, bs, h => by simpa only [bdk] using h
 | [], a :: r, vs, bs, h => by simpa only [bdk] using h
 | s :: ss, a :: r, vs, bs, h => by
  simp only [bdk]
  rcases am0 h with ⟨k, n, l, cs', rfl, h1, h2, h3⟩ | ⟨ha, u, cs', b1, b2, h1, h2, h3, h4, h5⟩
  ·have e : bap s (.arr k n l) = .arr k n l := by cases s <;> simp only [bap, bde, auo]
   rw [e]
   simp only [agz]
   exact ⟨cs', h1, h2, az1 ss r cs' bs h3⟩
  ·have hx : ∀ k n l, bap s a ≠ .arr k n l := by
     intro k n l he
     cases s with
     | sl c => 
      simp only [bap] at he
      rcases am3 c (.sl c) a with ⟨rfl, hc, e⟩ | e
      ·rw [e] at he; cases he
      ·rw [e] at he; exact ha _ _ _ he
     | fr t c => 
      simp only [bap] at he
      rcases am3 c (.fr t c) a with ⟨rfl, hc, e⟩ | e
      ·rw [e] at he; cases he
      ·rw [e] at he; exact ha _ _ _ he
     | agg ss => cases a <;> simp only [bap] at he <;> first | (cases he; done) | exact ha _ _ _ he
     | any => simp only [bap] at he; exact ha _ _ _ he
     | alt f fa fc g ga gc => simp only [bap] at he; exact bcn ha _ _ _ he
   have k1 := bga s a u b1 h4
   have k2 := az1 ss r cs' b2 h5
   generalize bap s a = y at k1 hx ⊢
   cases y <;> simp only [agz] <;> first
    | exact absurd rfl (hx _ _ _)
    | exact ⟨u, cs', b1, b2, h1, h2, h3, k1, k2⟩
end
theorem bm4 (hR : Rel D B0 w0 E st act w) {t : Nat} {ty : TypeId} {a : AVal} (h : cellV D st t ty = some a) : ∃ u, eu E w a u ∧ (do loadVar ty (← asAddr (act.tmps.getD t undef)) : Sem Value).run D.P w = .ok u w := by
 unfold cellV at h
 split at h
 ·rename_i g sz hg hs
  split at h
  ·rename_i mid hp
   obtain ⟨ad, cs, hu, hl, hsz, hc⟩ := ay3 hp (fun _ _ h => h) hR (hR.tmps t)
   have lv : ∀ u, (if g then u = .agg cs.toArray else cs = [u]) → (do loadVar ty (← asAddr (act.tmps.getD t undef)) : Sem Value).run D.P w = .ok u w := by
    intro u hu'
    have := ase hg hs ad cs hsz hc u hu'
    rw [hu]
    simpa [Instr.loadAt, Instr.sureAddr, asAddr] using this
   cases g with
   | true =>
    simp only [cond_true] at h
    cases h
    exact ⟨_, adq hl, lv _ (by simp)⟩
   | false =>
    simp only [cond_false] at h
    split at h
    ·cases h
    ·rename_i a' ha
     cases h
     obtain ⟨u, rfl, _, hv⟩ := ag7 hl (fun k n l e => ha k n l (by rw [e]))
     exact ⟨u, hv, lv u (by simp)⟩
    ·cases h
  ·cases h
 ·cases h
theorem awg (hR : Rel D B0 w0 E st act w) : ∀ (rs : List ResultVar) (l : List AVal), blg D st rs = some l → ∃ vs, jl E w l vs ∧
    ∀ (g : ResultVar → Sem Value), (∀ t, g (.tmp t) = pure (act.tmps.getD t undef)) → (∀ a t, g (.cell a t) = do loadVar t (← asAddr (act.tmps.getD a undef))) → (rs.mapM g).run D.P w = .ok vs w
 | [], l, h => by
  simp only [blg] at h
  cases h
  exact ⟨[], by simp only [jl], fun g hg _ => rfl⟩
 | .cell a t :: r, l, h => by
  simp only [blg] at h
  split at h
  ·rename_i x l' hx hl'
   cases h
   obtain ⟨vs, h1, h2⟩ := awg hR r l' hl'
   obtain ⟨u, h3, h4⟩ := bm4 hR hx
   refine ⟨u :: vs, by simp only [jl]; exact ⟨_, _, rfl, h3, h1⟩, fun g hg hg2 => ?_⟩
   simp only [List.mapM_cons, Sem.run_bind, hg2] at h4 ⊢
   rw [h4]
   simp only [Sem.run_pure, Result.andThen_ok, h2 g hg hg2]
  ·cases h
 | .tmp t :: r, l, h => by
  simp only [blg] at h
  split at h
  ·rename_i l' hl'
   cases h
   obtain ⟨vs, h1, h2⟩ := awg hR r l' hl'
   refine ⟨act.tmps.getD t undef :: vs, by simp only [jl]; exact ⟨_, _, rfl, hR.tmps t, h1⟩, fun g hg hg2 => ?_⟩
   simp only [List.mapM_cons, hg, Sem.run_bind, Sem.run_pure, Result.andThen_ok, h2 g hg hg2]
  ·cases h
theorem ark : ∀ (l : List AVal) (i t : Nat), look (aoq i l) t = if i ≤ t then l.getD (t - i) .bot else .bot
 | [], i, t => by simp [aoq, look]
 | a :: r, i, t => by
  simp only [aoq, look, ark r (i + 1) t]
  cases hb : Nat.beq i t with
  | true =>
   have := Nat.eq_of_beq_eq_true hb
   subst this
   simp
  | false =>
   have := Nat.ne_of_beq_eq_false hb
   simp only [cond_false]
   by_cases h1 : i + 1 ≤ t
   ·rw [if_pos h1, if_pos (by omega), show t - i = (t - (i + 1)) + 1 by omega]
    simp
   ·rw [if_neg h1, if_neg (by omega)]
theorem arx : ∀ (l : List AVal) (vs : List Value), jl E w l vs → ∀ t, t < l.length → eu E w (l.getD t .bot) (vs.getD t undef)
 | [], vs, h, t, ht => by simp at ht
 | a :: r, vs, h, t, ht => by
  simp only [jl] at h
  obtain ⟨u, us, rfl, h1, h2⟩ := h
  cases t with
  | zero => simpa using h1
  | succ t => simpa using arx r us h2 t (by simpa using ht)
end
theorem bfm {E : Env} {w : World} {args : List AVal} {cargs : List Value} {m : Nat} (hargs : jl E w args cargs) (hle : args.length ≤ m) (t : Nat) :
    eu E w (look (aoq 0 args) t) ((cargs.toArray ++ Array.replicate (m - cargs.toArray.size) undef).getD t undef) := by
 have hlen := ahv _ _ hargs
 simp only [ark, Nat.zero_le, if_true, Nat.sub_zero]
 by_cases ht : t < args.length
 ·have := arx args cargs hargs t ht
  have e : (cargs.toArray ++ Array.replicate (m - cargs.toArray.size) undef).getD t undef = cargs.getD t undef := by
   rw [Array.getD_eq_getD_getElem?, Array.getElem?_append_left (by simp; omega)]
   simp
  rw [e]
  exact this
 ·have e : args.getD t .bot = .bot := by
    rw [List.getD_eq_getElem?_getD, List.getElem?_eq_none (by omega)]
    rfl
  rw [e]
  exact aip _
theorem bir {D : Ctx} (hG2 : l7 D) {B0 : Nat} {w0 : W0} {E : Env} {st : ASt} {fn : Func} {tmps : Array Value} {R : Ending → World → Prop}
    (hend : ∀ w', Rel D B0 w0 E st ⟨tmps, []⟩ w' → ∃ v, (results fn tmps).run D.P w' = .ok v w' ∧ R (.returned v) w') :
    ∀ (ds : List Deferred) (w : World), Rel D B0 w0 E st ⟨tmps, ds⟩ w → LeavesInM (FR none) 0 D.P fn tmps R ds .returning w
 | [], w, hR => hend w hR
 | d :: r, w, hR => by
  have hm := hR.marks
  obtain ⟨⟨b, rfl, hB, hS, hb, hnot⟩, hrest⟩ := hm
  refine ⟨by simp, .inl ⟨b, w.putObj b (.deferred none), rfl, run_takeDeferred hb, bir hG2 hend r _ ?_⟩⟩
  have hoth : ∀ k, k ≠ b → (w.putObj b (.deferred none)).heap[k]? = w.heap[k]? := fun k hk => World.putObj_heap_other hk
  have hms : ∀ ds, Marks B0 E w ds → (∀ d', d' ∈ ds → d'.target ≠ .collected b) → Marks B0 E (w.putObj b (.deferred none)) ds := by
   intro ds
   induction ds with
   | nil => intro _ _; trivial
   | cons x r ih =>
    intro h h2
    obtain ⟨⟨b', rfl, g2, g3, g4, g5⟩, g6⟩ := h
    refine ⟨⟨b', rfl, g2, g3, ?_, g5⟩, ih g6 (fun d' hd' => h2 d' (List.mem_cons_of_mem _ hd'))⟩
    rw [hoth b' (by rintro rfl; exact h2 _ (List.mem_cons_self ..) rfl)]
    exact g4
  refine hR.turn (D' := D) (E' := E) (act' := ⟨tmps, r⟩) hG2 w0.y rfl rfl (akh hb (by simp) (by simp)) (aik hB) (fun _ _ h => h) (fun _ _ _ => rfl) (fun _ _ _ => ⟨rfl, fun _ _ => rfl⟩) rfl (fun h => ?_) (hms r hrest hnot) (fun id l T hy => ?_) (fun id u hu => hR.form id u hu)
  ·have := hR.idle h
   simp at this
  ·obtain ⟨h1, h2, Y, r0, h3, h4, h5⟩ := hR.recs id l T hy
   exact ⟨h1, h2, Y, r0, h3, by rw [hoth l (by rintro rfl; rw [hb] at h4; cases h4)]; exact h4, h5⟩
theorem bkx {D : Ctx} (hG : GOk D) (hG2 : l7 D) (hI : InlOk D) (hmix : D.P.follows .mixedOrders = true) {fn : Func} {c : Code} (hL : ∀ c', c' ∈ cu c → ji D c') (hRg : ∀ c', c' ∈ ug c → al8 D c') (sig : List Sh) {st0 : ASt} {K : AVal → Option R} {r : R}
    (h : ad8 D c st0 (fun ex st => match ex with
        | .exit _ => none
        | .normal => bor D sig fn st K
        | .ret => bor D sig fn st K) = some r) :
    ∃ y, K y = some r ∧ ∀ (S : Nat → Prop) (w : World) (act : Act) (w1 : World) (E : Env), Rel D w.heap.size ⟨w, S, none⟩ E st0 act w1 → Dom E st0.n →
     c.wpIn (FR none) 0 D.P (bodyPostM (FR none) 0 D.P fn fun e w' => ∃ v Sn bs, e = .returned v ∧ Below w.heap.size w w' ∧ (∀ b, Sn b → S b ∨ (w.heap.size ≤ b ∧ b < w'.heap.size)) ∧ xk Sn w' w.heap.size y v bs ∧ bs.Nodup ∧ ∀ b, b ∈ bs → ¬ Sn b) act w1 := by
 obtain ⟨ex, st, hK, hm, hcode⟩ := awp hG hG2 hI hmix c hL hRg _ _ r h
 have hout : (ex = .normal ∨ ex = .ret) ∧ bor D sig fn st K = some r := by
  cases ex with
  | normal => exact ⟨.inl rfl, hK⟩
  | ret => exact ⟨.inr rfl, hK⟩
  | exit j => cases hK
 obtain ⟨hex, hout⟩ := hout
 unfold bor at hout
 split at hout
 ·cases hout
 ·rename_i l hl
  cases hnd : ahc (aja l) with
  | false => rw [hnd] at hout; cases hout
  | true =>
   rw [hnd] at hout
   simp only [cond_true] at hout
   refine ⟨_, hout, fun S w act w1 E hRel hDom => ?_⟩
   refine wpIn_mono (hcode none 0 _ _ E act w1 (fun _ => rfl) hRel hDom) (fun e a w' hL => ?_)
   obtain ⟨rfl, E', hup, hRa, hD⟩ := hL
   have hres : ∀ w', Rel D w.heap.size ⟨w, S, none⟩ E' st ⟨a.tmps, []⟩ w' → ∃ v, (results fn a.tmps).run D.P w' = .ok v w' ∧ ∃ Sn bs, Below w.heap.size w w' ∧ (∀ b, Sn b → S b ∨ (w.heap.size ≤ b ∧ b < w'.heap.size)) ∧ xk Sn w' w.heap.size (oneOf (bdk sig (aqo (fq (oo (freeze (fq st.h) (oo (aev l) (ag1 sig l)) []) st.h)) l))) v bs ∧ bs.Nodup ∧ ∀ b, b ∈ bs → ¬ Sn b := by
    intro w' hR
    obtain ⟨vs, hvs, hrun⟩ := awg hR _ _ hl
    obtain ⟨E1, hρ1, up1, hR1, hfS, _⟩ := aa5 (hl := fq st.h) (fun _ _ h => h) (oo (aev l) (ag1 sig l)) hR
    have hvs1 := jl.mono up1 l vs hvs
    obtain ⟨bs, hx, ho⟩ := auz hR1 (l0 := oo (aev l) (ag1 sig l)) (fun id hid b v k hb hv hk => by
     have hfz := ‹∀ id b, fq (oo (freeze (fq st.h) (oo (aev l) (ag1 sig l)) []) st.h) id = some b → ∃ b', fq st.h id = some b' ∧ b'.b = b.b› id b hb
     obtain ⟨b', hb', _⟩ := hfz
     exact hfS id hid b' v k hb' (by rw [← hρ1]; exact hv) hk) l vs hvs1 (fun _ h => jh.2 (.inl h)) hnd
    have hx2 := bfl sig _ _ _ hx
    refine ⟨if h : vs.toArray.size = 1 then vs.toArray[0] else .tuple vs.toArray, ?_, E1.S, bs, hR.below, fun b hb => ?_, ?_, ho.1, fun b hb hS => ?_⟩
    ·unfold results
     rw [Array.mapM_eq_mapM_toList]
     simp only [Sem.run_bind, Sem.run_map]
     rw [hrun _ (fun _ => rfl) (fun _ _ => rfl)]
     rfl
    ·rcases hR1.sNew b hb with h | h
     ·exact .inl h
     ·exact .inr ⟨h, hR1.sOld b hb⟩
    ·generalize hy : bdk sig (aqo (fq (oo (freeze (fq st.h) (oo (aev l) (ag1 sig l)) []) st.h)) l) = y at hx2
     have hly : y.length = vs.length := by
      have : ∀ (y : List AVal) (vs : List Value) (bs : List Nat), ah6 E1.S w' w.heap.size y vs bs → y.length = vs.length := by
       intro y
       induction y with
       | nil => intro vs bs h; simp only [ah6] at h; rw [h.1]; rfl
       | cons a r ih =>
        intro vs bs h
        simp only [ah6] at h
        obtain ⟨u, us, b1, b2, rfl, _, _, h⟩ := h
        simp [ih us b2 h]
      exact this y vs bs hx2
     match y, vs, hx2, hly with
     | [], [], hx2, _ => exact (by simp only [oneOf, xk]; exact ⟨[], rfl, hx2⟩)
     | [a], [u], hx2, _ =>
      simp only [ah6] at hx2
      obtain ⟨u', us, b1, b2, h1, h2, h3, h4, h5⟩ := hx2
      cases h1
      subst h5
      subst h2
      simpa [oneOf] using h3
     | a :: b :: r, u :: u' :: us, hx2, _ =>
      simp only [oneOf, xk]
      exact ⟨_, by simp, hx2⟩
    ·obtain ⟨id, _, b', v, h2, h3, h4, h5⟩ := ho.2 b hb
     obtain ⟨v', hv', _, hns, _⟩ := hR1.heap id b' h2
     rw [h4] at hv'
     cases hv'
     exact hns h3 b h5 hS
   have hend := bir (fn := fn) hG2 (R := fun e w' => ∃ v Sn bs, e = .returned v ∧ Below w.heap.size w w' ∧ (∀ b, Sn b → S b ∨ (w.heap.size ≤ b ∧ b < w'.heap.size)) ∧ xk Sn w' w.heap.size (oneOf (bdk sig (aqo (fq (oo (freeze (fq st.h) (oo (aev l) (ag1 sig l)) []) st.h)) l))) v bs ∧ bs.Nodup ∧ ∀ b, b ∈ bs → ¬ Sn b) (tmps := a.tmps) (fun w'' hR'' => by
    obtain ⟨v, hrun, Sn, bs, k1, k2, k3, k4, k5⟩ := hres w'' hR''
    exact ⟨v, hrun, v, Sn, bs, rfl, k1, k2, k3, k4, k5⟩) a.defers w' hRa
   rcases hex with rfl | rfl
   ·exact hend
   ·exact hend
theorem bhs {D : Ctx} (hG : GOk D) (hG2 : l7 D) (hI : InlOk D) (hmix : D.P.follows .mixedOrders = true) {f : FuncId} {fn : Func} (hf : D.P.funcs[f]? = some fn) (hL : ∀ c, fn.body = some c → ∀ c', c' ∈ cu c → ji D c') (hRg : ∀ c, fn.body = some c → ∀ c', c' ∈ ug c → al8 D c') (sig : List Sh) :
    aui D.P D.globs f (bm0 D fn sig) := by
 intro args K r h
 unfold bm0 at h
 split at h
 ·cases h
 ·rename_i c hb
  cases hle : Nat.ble args.length fn.ntmps with
  | false => rw [hle] at h; cases h
  | true =>
   rw [hle] at h
   simp only [cond_true] at h
   have hle := Nat.le_of_ble_eq_true hle
   obtain ⟨y, hK, hrest⟩ := bkx hG hG2 hI hmix (hL c hb) (hRg c hb) sig h
   refine ⟨y, hK, fun S w cargs hSw hgl hargs => ?_⟩
   have hlen := ahv _ _ hargs
   have hR0 : Rel D w.heap.size ⟨w, S, none⟩ (qm S) ⟨aoq 0 args, [], 0, fn.ntmps⟩ { tmps := cargs.toArray ++ Array.replicate (fn.ntmps - cargs.toArray.size) undef, defers := [] } w := by
    refine ⟨Below.refl _ _, Nat.le_refl _, by simp; omega, fun _ => rfl, trivial, ard rfl, fun t => ?_, fun id b hb => by simp [fq] at hb, fun id id' b b' u u' k hb => by simp [fq] at hb, hSw, fun b hb => .inl hb, fun id u hu => by simp [qm] at hu, hgl⟩
    simp only [ark, Nat.zero_le, if_true, Nat.sub_zero]
    by_cases ht : t < args.length
    ·have := arx args cargs hargs t ht
     have e : (cargs.toArray ++ Array.replicate (fn.ntmps - cargs.toArray.size) undef).getD t undef = cargs.getD t undef := by
      rw [Array.getD_eq_getD_getElem?, Array.getElem?_append_left (by simp; omega)]
      simp
     rw [e]
     exact this
    ·have e : args.getD t .bot = .bot := by
       rw [List.getD_eq_getElem?_getD, List.getElem?_eq_none (by omega)]
       rfl
     rw [e]
     exact aip _
   exact ag3.1 (callsIn_of_wp_marks (F := FR none) (n := 0) hf hb trivial (hrest S w _ w (qm S) hR0 (fun id u hu => by simp [qm] at hu)))
theorem bkf {D : Ctx} (hG : GOk D) (hG2 : l7 D) (hI : InlOk D) (hmix : D.P.follows .mixedOrders = true) {f : FuncId} {fn : Func} (hf : D.P.funcs[f]? = some fn) (hL : ∀ c, fn.body = some c → ∀ c', c' ∈ cu c → ji D c') (hRg : ∀ c, fn.body = some c → ∀ c', c' ∈ ug c → al8 D c') (htop : D.top = false) :
    bfb D f (agj D fn) := by
 intro args h n K r hb
 unfold agj at hb
 split at hb
 ·cases hb
 ·rename_i c hc
  cases hle : Nat.ble args.length fn.ntmps with
  | false => rw [hle] at hb; cases hb
  | true =>
   rw [hle] at hb
   simp only [cond_true] at hb
   have hle := Nat.le_of_ble_eq_true hle
   obtain ⟨ex, st, hK, hm, hcode⟩ := awp hG hG2 hI hmix c (hL c hc) (hRg c hc) _ _ r hb
   have hout : (ex = .normal ∨ ex = .ret) ∧ agj.outIn D fn st K = some r := by
    cases ex with
    | normal => exact ⟨.inl rfl, hK⟩
    | ret => exact ⟨.inr rfl, hK⟩
    | exit j => cases hK
   obtain ⟨hex, hout⟩ := hout
   unfold agj.outIn at hout
   split at hout
   ·cases hout
   ·rename_i l hl
    refine ⟨_, _, _, hout, fun B0 w0 E f' m act w cargs hR hD hargs => ?_⟩
    have hlen := ahv _ _ hargs
    have hR0 : Rel D B0 w0 E ⟨aoq 0 args, h, n, fn.ntmps⟩ { tmps := cargs.toArray ++ Array.replicate (fn.ntmps - cargs.toArray.size) undef, defers := [] } w :=
     { hR with
       size := by simp; omega
       idle := fun _ => rfl
       marks := trivial
       tmps := bfm hargs hle }
    refine ag3.1 (callsIn_of_wp (F := FR none) (n := 0) hf hc trivial (wpIn_mono (hcode none 0 _ _ E _ w (fun _ => rfl) hR0 hD) (fun e a w' hL => ?_)))
    obtain ⟨rfl, E', hup, hR', hD'⟩ := hL
    obtain ⟨vs, hvs, hrun⟩ := awg hR' _ _ hl
    have hres : a.defers = [] ∧ ∃ v, (results fn a.tmps).run D.P w' = .ok v w' ∧ eu E' w' (oneOf l) v := by
     refine ⟨hR'.idle htop, if h : vs.toArray.size = 1 then vs.toArray[0] else .tuple vs.toArray, ?_, ?_⟩
     ·unfold results
      rw [Array.mapM_eq_mapM_toList]
      simp only [Sem.run_bind, Sem.run_map]
      rw [hrun _ (fun _ => rfl) (fun _ _ => rfl)]
      rfl
     ·have hly := ahv _ _ hvs
      match l, vs, hvs, hly with
      | [], [], hvs, _ => exact (by simp only [oneOf, eu]; exact ⟨[], rfl, hvs⟩)
      | [x], [u], hvs, _ =>
       simp only [jl] at hvs
       obtain ⟨u', us, h1, h2, h3⟩ := hvs
       cases h1
       simpa [oneOf] using h2
      | x :: y :: r, u :: u' :: us, hvs, _ =>
       simp only [oneOf, eu]
       exact ⟨_, by simp, hvs⟩
    obtain ⟨hdf, v, hrun, hv⟩ := hres
    rcases hex with rfl | rfl
    ·exact ⟨hdf, v, hrun, v, E', rfl, hup, hR.swap hup hR', hD', hv⟩
    ·exact ⟨hdf, v, hrun, v, E', rfl, hup, hR.swap hup hR', hD', hv⟩
abbrev bl1 (tmps : Array Value) (x : Tmp × Value) : Array Value := tmps.setIfInBounds x.1 x.2
theorem bdh : ∀ (l : List (Tmp × Value)) (T : Array Value), (l.foldl bl1 T).size = T.size
 | [], T => rfl
 | x :: r, T => by
  rw [List.foldl_cons, bdh r]
  simp
theorem ayv : ∀ (ps : List Tmp) (cs : List Value) (T : Array Value) (t : Nat), t ∉ ps → ((ps.zip cs).foldl bl1 T).getD t undef = T.getD t undef
 | [], cs, T, t, h => rfl
 | p :: ps, [], T, t, h => rfl
 | p :: ps, c :: cs, T, t, h => by
  simp only [List.mem_cons, not_or] at h
  rw [List.zip_cons_cons, List.foldl_cons, ayv ps cs _ t h.2]
  simp only [bl1, Array.getD_eq_getD_getElem?, Array.getElem?_setIfInBounds, if_neg (Ne.symm h.1)]
theorem bfu {E : Env} {w : World} {rest : List (Nat × AVal)} {t m : Nat} : ∀ (ps : List Tmp) (args : List AVal) (cs : List Value) (T : Array Value), ahc ps = true → bi6 m ps = true → T.size = m → args.length = ps.length → jl E w args cs →
    (t ∉ ps → eu E w (look rest t) (T.getD t undef)) → eu E w (look (oo (bhy ps args) rest) t) (((ps.zip cs).foldl bl1 T).getD t undef)
 | [], args, cs, T, hn, hl, hT, hlen, ha, hr => by
  simp only [bhy, oo, List.zip_nil_left, List.foldl_nil]
  exact hr (by simp)
 | p :: ps, [], cs, T, hn, hl, hT, hlen, ha, hr => by simp at hlen
 | p :: ps, a :: args, cs, T, hn, hl, hT, hlen, ha, hr => by
  simp only [jl] at ha
  obtain ⟨u, us, rfl, h1, h2⟩ := ha
  simp only [ahc, Bool.and_eq_true, Bool.not_eq_true'] at hn
  simp only [bi6, Bool.and_eq_true] at hl
  simp only [bhy, oo, look, List.zip_cons_cons, List.foldl_cons]
  have hlt : p < m := by simpa using hl.1
  cases hb : Nat.beq p t with
  | true =>
   have := Nat.eq_of_beq_eq_true hb
   subst this
   simp only [cond_true]
   rw [ayv ps us _ p (fun hm => by rw [acd.2 hm] at hn; cases hn.1)]
   simp only [bl1, Array.getD_eq_getD_getElem?, Array.getElem?_setIfInBounds]
   rw [if_pos trivial, if_pos (by rw [hT]; exact hlt)]
   exact h1
  | false =>
   simp only [cond_false]
   refine bfu ps args us _ hn.2 hl.2 (by simp [bl1, hT]) (by simpa using hlen) h2 (fun hm => ?_)
   have hne : p ≠ t := Nat.ne_of_beq_eq_false hb
   simp only [bl1, Array.getD_eq_getD_getElem?, Array.getElem?_setIfInBounds, if_neg hne]
   have := hr (by simp only [List.mem_cons, not_or]; exact ⟨Ne.symm hne, hm⟩)
   rw [Array.getD_eq_getD_getElem?] at this
   exact this
theorem bcb {E : Env} {w : World} {t : Nat} : ∀ (ts : List Nat) (vs : List AVal) (T : Array Value), jl E w vs (ts.map fun t => T.getD t undef) → eu E w (look (bhy ts vs) t) (T.getD t undef)
 | [], vs, T, h => by simp only [bhy, look]; exact aip _
 | p :: ts, [], T, h => by simp only [bhy, look]; exact aip _
 | p :: ts, a :: vs, T, h => by
  simp only [jl, List.map_cons] at h
  obtain ⟨u, us, h0, h1, h2⟩ := h
  cases h0
  simp only [bhy, look]
  cases hb : Nat.beq p t with
  | true =>
   have := Nat.eq_of_beq_eq_true hb
   subst this
   exact h1
  | false => exact bcb ts vs T h2
theorem ahr {D : Ctx} (h : D.rng = []) : ∀ c, al8 D c := by
 intro c
 cases c <;> first
  | trivial
  | (intro e he; rw [h] at he; simp [aya] at he)
theorem bbf {Db Di : Ctx} {Y : YCtx} (hG : GOk Db) (hG2 : l7 Db) (hI : InlOk Db) (hmix : Db.P.follows .mixedOrders = true) (hP : Di.P = Db.P) (hgl : Di.globs = Db.globs) (hyi : Di.y = some { Y with ready := true }) (hyb : Db.y = some { Y with ready := false })
    (hti : Di.top = false) (htb : Db.top = false) (hrng : Db.rng = []) (hLa : ∀ c', c' ∈ cu Y.assign → ji Db c') (hLb : ∀ c', c' ∈ cu Y.body → ji Db c') : aoi Di (as0 Db Y) := by
 intro ts vs args h n K r hs
 unfold as0 at hs
 cases hq : Nat.beq args.length Y.ps.size && ahc Y.ps.toList && bi6 Y.m Y.ps.toList with
 | false => rw [hq] at hs; cases hs
 | true =>
  rw [hq] at hs
  simp only [cond_true] at hs
  simp only [Bool.and_eq_true] at hq
  obtain ⟨⟨hlen, hnd⟩, hlt⟩ := hq
  have hlen := Nat.eq_of_beq_eq_true hlen
  obtain ⟨ex, st1, hK1, hm1, hA⟩ := awp hG hG2 hI hmix Y.assign hLa (fun c _ => ahr hrng c) _ _ r hs
  cases ex with
  | exit j => cases hK1
  | ret => cases hK1
  | normal =>
   simp only at hK1
   obtain ⟨ex2, st2, hK2, hm2, hB⟩ := awp hG hG2 hI hmix Y.body hLb (fun c _ => ahr hrng c) _ _ r hK1
   cases ex2 with
   | exit j => cases hK2
   | ret => cases hK2
   | normal =>
    simp only at hK2
    refine ⟨_, _, hK2, fun B0 w0 E f m act w cargs id l T hR hD hargs hρ hvs => ?_⟩
    obtain ⟨hy0⟩ : Nonempty (w0.y = some (id, l, T)) := by
     rcases hR.form id _ hρ with (⟨_, _, _, h⟩ | ⟨_, h⟩) | ⟨l', T', h1, h2⟩
     ·cases h
     ·cases h
     ·cases h2
      exact ⟨h1⟩
    obtain ⟨hBl, hSl, Y', r0, hY', hl, hT, hps, has, hbo, hsz, hrdy⟩ := hR.recs id l T hy0
    rw [hyi] at hY'
    cases hY'
    obtain ⟨hst, hpd⟩ := hrdy rfl
    simp only at hps has hbo hsz
    have hcl := ahv _ _ hargs
    refine ⟨r0, hl, by rw [hps]; simp; omega, fun n0 q => ?_⟩
    rw [hP]
    show RoundIn (FR none) n0 Db.P l r0.fn _ r0.assign r0.body w _
    rw [has, hbo]
    refine roundIn_of_wpIn (F := FR none) trivial ?_
    have hfold : (r0.params.zip cargs.toArray).foldl (fun tmps (t, a) => tmps.setIfInBounds t a) r0.tmps = (Y.ps.toList.zip cargs).foldl bl1 T := by
     rw [hps, hT, ← Array.foldl_toList, Array.toList_zip]
    rw [hfold]
    have hrec2 : ∀ (E' : Env) (w' : World) (o : Loop), E'.S l → w'.heap[l]? = some (.loop o) → o.tmps = T → o.params = Y.ps → o.assign = Y.assign → o.body = Y.body → anf Db B0 w0 E' w' := by
     intro E' w' o k1 k2 k3 k4 k5 k6 id' l' T' hy
     rw [hy0] at hy
     cases hy
     exact ⟨hBl, k1, _, o, hyb, k2, k3, k4, k5, k6, hsz, fun h => by cases h⟩
    have hR0 : Rel Db B0 w0 E ⟨oo (bhy Y.ps.toList args) (bhy ts vs), h, n, Y.m⟩ ⟨(Y.ps.toList.zip cargs).foldl bl1 T, []⟩ w :=
     { below := hR.below
       base := hR.base
       size := by rw [bdh]; exact hsz
       idle := fun _ => rfl
       marks := trivial
       recs := hrec2 E w r0 hSl hl hT hps has hbo
       tmps := fun t => bfu _ _ _ _ hnd hlt hsz (by simpa using hlen) hargs (fun _ => bcb ts vs T hvs)
       heap := hR.heap
       apart := hR.apart
       sOld := hR.sOld
       sNew := hR.sNew
       form := hR.form
       globs := by rw [← hgl]; exact hR.globs }
    refine wpIn_mono (hA (some l) n0 B0 w0 E _ w (fun h => by rw [htb] at h; cases h) hR0 hD) (fun e a w1 hL => ?_)
    obtain ⟨rfl, E1, u1, hR1, hD1⟩ := hL
    have hl1 : w1.heap[l]? = some (.loop r0) := by rw [u1.keeps.blk _ hSl]; exact hl
    have hlt1 : l < w1.heap.size := (Array.getElem?_eq_some_iff.1 hl1).1
    have hS1 := u1.keeps.sub _ hSl
    refine ⟨_, run_beginRound hl1 hst, ?_⟩
    have hw0 : w0 = ⟨w0.w, w0.S0, w0.y⟩ := rfl
    have hbusy : (w1.putObj l (.loop { r0 with state := .busy })).heap[l]? = some (.loop { r0 with state := .busy }) := World.putObj_heap_same hlt1
    have hR2 : Rel Db B0 w0 E1 st1 a (w1.putObj l (.loop { r0 with state := .busy })) := by
     refine hR1.turn (D' := Db) (E' := E1) (act' := a) hG2 w0.y rfl rfl (akh hl1 (by simp) (by simp)) (aik hBl) (fun _ _ h => h) (fun _ _ _ => rfl) (fun _ _ _ => ⟨rfl, fun _ _ => rfl⟩) rfl (fun h => hR1.idle h) ?_ (hrec2 _ _ _ hS1 hbusy hT hps has hbo) (fun id u hu => hR1.form id u hu)
     rw [hR1.idle htb]
     trivial
    refine wpIn_mono (hB (some l) n0 B0 w0 E1 a _ (fun h => by rw [htb] at h; cases h) hR2 hD1) (fun e a2 w3 hL => ?_)
    obtain ⟨rfl, E2, u2, hR3, hD3⟩ := hL
    have hl3 : w3.heap[l]? = some (.loop { r0 with state := .busy }) := by rw [u2.keeps.blk _ hS1]; exact hbusy
    have hlt3 : l < w3.heap.size := (Array.getElem?_eq_some_iff.1 hl3).1
    have hend := run_endRound (P := Db.P) none hl3
    have hobj : ({ ({ r0 with state := .busy } : Loop) with state := if (none : Option Code).isNone then LoopState.ready else LoopState.done, pending := none } : Loop) = r0 := by
     cases r0
     simp only at hst hpd
     subst hst
     subst hpd
     rfl
    rw [hobj] at hend
    refine ⟨_, _, hend, E2, rfl, ?_, ?_, hD3⟩
    ·have hk : ∀ b, b ≠ l → (w3.putObj l (.loop r0)).heap[b]? = w3.heap[b]? := fun b hb => World.putObj_heap_other hb
     refine ⟨⟨fun b hb => u2.keeps.sub _ (u1.keeps.sub _ hb), fun b hb => ?_⟩, fun id u hu => u2.ρ _ _ (u1.ρ _ _ hu)⟩
     by_cases hbl : b = l
     ·subst hbl
      rw [World.putObj_heap_same hlt3, hl]
     ·rw [hk b hbl, u2.keeps.blk _ (u1.keeps.sub _ hb), World.putObj_heap_other hbl, u1.keeps.blk _ hb]
    ·have up : Up E E2 w (w3.putObj l (.loop r0)) := by
       refine ⟨⟨fun b hb => u2.keeps.sub _ (u1.keeps.sub _ hb), fun b hb => ?_⟩, fun id u hu => u2.ρ _ _ (u1.ρ _ _ hu)⟩
       by_cases hbl : b = l
       ·subst hbl
        rw [World.putObj_heap_same hlt3, hl]
       ·rw [World.putObj_heap_other hbl, u2.keeps.blk _ (u1.keeps.sub _ hb), World.putObj_heap_other hbl, u1.keeps.blk _ hb]
     have hRt : Rel Di B0 w0 E2 ⟨st2.f, st2.h, st2.n, st2.m⟩ ⟨a2.tmps, []⟩ (w3.putObj l (.loop r0)) := by
      refine hR3.turn (D' := Di) (E' := E2) (act' := ⟨a2.tmps, []⟩) hG2 w0.y hgl rfl (akh hl3 (by simp) (by simp)) (aik hBl) (fun _ _ h => h) (fun _ _ _ => rfl) (fun _ _ _ => ⟨rfl, fun _ _ => rfl⟩) rfl (fun h => rfl) trivial (fun id' l' T' hy => ?_) (fun id u hu => hR3.form id u hu)
      have hy := hy0.symm.trans hy
      cases hy
      exact ⟨hBl, u2.keeps.sub _ hS1, _, r0, hyi, World.putObj_heap_same hlt3, hT, hps, has, hbo, hsz, fun _ => ⟨hst, hpd⟩⟩
     exact Rel.swap hR up hRt
end Go.Abs
end

section
namespace Go.Abs
open Go
structure Proved (P : Program) (globs : List (Nat × List AVal)) (f : FuncId) (s : Spec) : Prop where
 enters : Enters P f
 sound : aui P globs f s
def bp1 (P : Program) (globs : List (Nat × List AVal)) : List (Nat × Spec) → Prop
 | [] => True
 | (f, s) :: r => Proved P globs f s ∧ bp1 P globs r
theorem axo {D : Ctx} (h : bp1 D.P D.globs D.G) : GOk D := by
 intro f s hs
 have : ∀ (l : List (Nat × Spec)), bp1 D.P D.globs l → aqh l f = some s → Enters D.P f ∧ aui D.P D.globs f s := by
  intro l
  induction l with
  | nil => intro _ h; simp [aqh] at h
  | cons x r ih =>
   obtain ⟨k, s'⟩ := x
   intro hg h
   simp only [aqh] at h
   cases hb : Nat.beq k f with
   | true =>
    rw [hb] at h
    cases h
    have := Nat.eq_of_beq_eq_true hb
    subst this
    exact ⟨hg.1.enters, hg.1.sound⟩
   | false => rw [hb] at h; exact ih hg.2 h
 exact this D.G h hs
def bcf : List AVal → Bool
 | [] => true
 | .arr .. :: r => bcf r
 | .v _ :: r => bcf r
 | _ :: _ => false
theorem asg {E E' : Env} {w : World} : ∀ (l : List AVal) (cs : List Value), bcf l = true → ng E w l cs → ng E' w l cs
 | [], cs, _, h => by simpa only [ng] using h
 | a :: r, cs, hp, h => by
  rcases sj h with ⟨k, n, l, cs', rfl, h1, rfl, h3⟩ | ⟨ha, u, cs', rfl, h2, h3, h4⟩
  ·exact aaf h1 (asg r cs' hp h3)
  ·cases a <;> simp only [bcf] at hp <;> first
     | exact absurd rfl (ha _ _ _)
     | (simp only [eu] at h3; exact j6 ha h2 (by simp only [eu]; exact h3) (asg r cs' hp h4))
     | cases hp
def bjh : List (Nat × List AVal) → Bool
 | [] => true
 | (_, l) :: r => bcf l && bjh r
theorem au {D : Ctx} (h : bjh D.globs = true) : l7 D := by
 intro g l hg E E' w cs hr _
 refine asg l cs ?_ hr
 revert h hg
 generalize D.globs = gs
 induction gs with
 | nil => intro h hg; simp [assoc] at hg
 | cons x r ih =>
  obtain ⟨k, m⟩ := x
  intro h hg
  simp only [bjh, Bool.and_eq_true] at h
  simp only [assoc] at hg
  cases hb : Nat.beq k g with
  | true => rw [hb] at hg; cases hg; exact h.1
  | false => rw [hb] at hg; exact ih h.2 hg
def bp8 (D : Ctx) : List (Nat × awx) → Prop
 | [] => True
 | (g, s) :: r => (Enters D.P g ∧ bfb D g s) ∧ bp8 D r
theorem ax2 {D : Ctx} (h : bp8 D D.inl) (hY : ∀ s, D.ys = some s → aoi D s) : InlOk D := by
 refine ⟨?_, hY⟩
 intro g s hs
 have : ∀ (l : List (Nat × awx)), bp8 D l → axz l g = some s → Enters D.P g ∧ bfb D g s := by
  intro l
  induction l with
  | nil => intro _ h; simp [axz] at h
  | cons x r ih =>
   obtain ⟨k, s'⟩ := x
   intro hg h
   simp only [axz] at h
   cases hb : Nat.beq k g with
   | true =>
    rw [hb] at h
    cases h
    have := Nat.eq_of_beq_eq_true hb
    subst this
    exact hg.1
   | false => rw [hb] at h; exact ih hg.2 h
 exact this D.inl h hs
def dh (fn : Func) (id : Nat) : Code :=
 match fn.body with
 | some c => findC (cu c) id
 | none => .skip
 where findC : List Code → Nat → Code
 | [], _ => .skip
 | c :: r, id => bif Nat.beq (jd c) id then c else findC r id
theorem bip {D : Ctx} {c : Code} {s0 : qc} (h0 : ayg D.loops (jd c) = some s0) (h : ∀ st K r, s0 st K = some r → ∃ k, itA D c K k st = some r) : ji D c := by
 intro s hs
 rw [h0] at hs
 cases hs
 exact h
def aqv (D : Ctx) : List Code → Prop
 | [] => True
 | c :: r => ji D c ∧ aqv D r
theorem aib {D : Ctx} : ∀ (l : List Code), aqv D l → ∀ c, c ∈ l → ji D c
 | [], _, c, h => by simp at h
 | a :: r, h, c, hc => by
  rcases List.mem_cons.1 hc with rfl | hc
  ·exact h.1
  ·exact aib r h.2 c hc
theorem ar5 {D : Ctx} (h : D.ys = none) : ∀ s, D.ys = some s → aoi D s := by
 intro s hs
 rw [h] at hs
 cases hs
def al2 (D : Ctx) : List Code → Prop
 | [] => True
 | c :: r => al8 D c ∧ al2 D r
theorem aup {D : Ctx} : ∀ (l : List Code), al2 D l → ∀ c, c ∈ l → al8 D c
 | [], _, c, h => by simp at h
 | a :: r, h, c, hc => by
  rcases List.mem_cons.1 hc with rfl | hc
  ·exact h.1
  ·exact aup r h.2 c hc
theorem aqc {D : Ctx} (h : D.rng = []) : ∀ (l : List Code), al2 D l
 | [] => trivial
 | c :: r => ⟨ahr h c, aqc h r⟩
def agd (fn : Func) (id : Nat) : Code :=
 match fn.body with
 | some c => findR (ug c) id
 | none => .skip
 where findR : List Code → Nat → Code
 | [], _ => .skip
 | c :: r, id => match c with
  | .rangeFunc g ps a b => bif Nat.beq (jd b) id then .rangeFunc g ps a b else findR r id
  | _ => findR r id
def bb9 (c : Code) (m : Nat) (ready : Bool) : YCtx :=
 match c with
 | .rangeFunc _ ps a b => ⟨ps, a, b, m, ready⟩
 | _ => ⟨#[], .skip, .skip, m, ready⟩
def bov : Code → Code
 | .rangeFunc _ _ _ b => b
 | _ => .skip
def bjj (c : Code) (id : Nat) : Code := dh.findC (cu (bov c)) id
theorem ay4 {D Di : Ctx} {c : Code} {e : RngE} (h0 : aya D.rng (jd (bov c)) = some e) (hP : Di.P = D.P) (hgl : Di.globs = D.globs) (hy : Di.y = some (bb9 c e.m true)) (h : Enters D.P e.g ∧ bfb Di e.g e.s) : al8 D c := by
 cases c <;> first
  | trivial
  | (intro e' he'; simp only [bov] at h0; rw [h0] at he'; cases he'; exact ⟨Di, hP, hgl, hy, h⟩)
theorem bq {D : Ctx} {f : FuncId} {fn : Func} {c : Code} {s : Spec} (sig : List Sh) (hmix : D.P.follows .mixedOrders = true) (hgl : l7 D) (hf : D.P.funcs[f]? = some fn) (hn : (fn.name == "runtime.NumGoroutine") = false) (hb : fn.body = some c)
    (hG : bp1 D.P D.globs D.G) (hI : bp8 D D.inl) (hL : aqv D (cu c)) (h : ∀ args K r, s args K = some r → bm0 D fn sig args K = some r) (hRg : al2 D (ug c) := by exact aqc rfl _) (hY : D.ys = none := by rfl) : Proved D.P D.globs f s := by
 refine ⟨⟨fn, hf, hn, by rw [hb]; rfl⟩, fun args K r hs => ?_⟩
 exact bhs (axo hG) hgl (ax2 hI (ar5 hY)) hmix hf (fun c' hc' => by rw [hb] at hc'; cases hc'; exact aib _ hL) (fun c' hc' => by rw [hb] at hc'; cases hc'; exact aup _ hRg) sig args K r (h args K r hs)
theorem apm {D D' : Ctx} {f : FuncId} {fn : Func} {c : Code} {s : awx} (hP : D'.P = D.P) (hgg : D'.globs = D.globs) (hmix : D.P.follows .mixedOrders = true) (hgl : l7 D) (hf : D.P.funcs[f]? = some fn) (hn : (fn.name == "runtime.NumGoroutine") = false) (hb : fn.body = some c)
    (hG : bp1 D.P D.globs D.G) (hI : bp8 D D.inl) (hL : aqv D (cu c)) (h : ∀ args hh n K r, s args hh n K = some r → agj D fn args hh n K = some r) (hy : D'.y = D.y := by rfl) (htop : D.top = false := by rfl) (hRg : al2 D (ug c) := by exact aqc rfl _) (hY : ∀ s, D.ys = some s → aoi D s := by exact ar5 rfl) : Enters D'.P f ∧ bfb D' f s := by
 refine ⟨⟨fn, by rw [hP]; exact hf, hn, by rw [hb]; rfl⟩, fun args hh n K r hs => ?_⟩
 have h1 := bkf (axo hG) hgl (ax2 hI hY) hmix hf (fun c' hc' => by rw [hb] at hc'; cases hc'; exact aib _ hL) (fun c' hc' => by rw [hb] at hc'; cases hc'; exact aup _ hRg) htop args hh n K r (h args hh n K r hs)
 obtain ⟨v, h', n', k1, k2⟩ := h1
 refine ⟨v, h', n', k1, fun B0 w0 E f m act w cargs hR hD ha => ?_⟩
 have hrec : ∀ {E w}, anf D' B0 w0 E w → anf D B0 w0 E w := by
  intro E w h
  unfold anf at h ⊢
  rw [← hy]
  exact h
 have hrec' : ∀ {E w}, anf D B0 w0 E w → anf D' B0 w0 E w := by
  intro E w h
  unfold anf at h ⊢
  rw [hy]
  exact h
 have hR' : Rel D B0 w0 E ⟨[], hh, n, 0⟩ ⟨#[], []⟩ w :=
  { hR with
    size := rfl
    idle := fun _ => rfl
    marks := trivial
    recs := hrec hR.recs
    tmps := fun t => aip _
    globs := by rw [← hgg]; exact hR.globs }
 rw [hP]
 refine (k2 B0 w0 E [] 0 _ w cargs hR' hD ha).mono ?_
 rintro e w' ⟨u, E', rfl, g1, g2, g3, g4⟩
 have hR2 : Rel D' B0 w0 E' ⟨[], h', n', 0⟩ ⟨#[], []⟩ w' := { g2 with idle := fun _ => rfl, marks := trivial, recs := hrec' g2.recs, globs := by rw [hgg]; exact g2.globs }
 exact ⟨u, E', rfl, g1, Rel.swap hR g1 hR2, g3, g4⟩
@[simp] theorem o9 {α : Type} (x y : α) : br true x y = x := by unfold br; rfl
@[simp] theorem su {α : Type} (x y : α) : br false x y = y := by unfold br; rfl
theorem av {α : Type} {p : Prop} [Decidable p] (h : p) (x y : α) : br (decide p) x y = x := by rw [decide_eq_true h]; exact o9 x y
theorem dn {α : Type} {p : Prop} [Decidable p] (h : ¬ p) (x y : α) : br (decide p) x y = y := by rw [decide_eq_false h]; exact su x y
def kg (D : Ctx) (c : Code) (K : AExit → ASt → Option R) (next : ASt → Option R) (st : ASt) : Option R :=
 ad8 D c st (bn3 (hintOf D.hints (jd c)) (st.n - (hintOf D.hints (jd c)).rows.length) (keysOf (aul (hintOf D.hints (jd c)).rows.length st.h)) K next)
theorem bmh (D : Ctx) (c : Code) (K : AExit → ASt → Option R) (k : Nat) (st : ASt) : itA D c K (k + 1) st = kg D c K (itA D c K k) st := by
 unfold kg
 show iter _ _ _ _ _ _ _ = _
 simp only [iter]
 congr 1
 funext ex st'
 cases ex with
 | normal =>
  simp only [bn3]
  split
  ·rename_i st1 hn
   obtain ⟨h1, h2⟩ := ba2 hn
   unfold itA
   rw [h1, h2]
  ·rfl
 | exit id => rfl
 | ret => rfl
theorem bni (D : Ctx) (c : Code) (K : AExit → ASt → Option R) (st : ASt) : itA D c K 0 st = kg D c K (fun _ => none) st := rfl
end Go.Abs
end

section
namespace Go.Abs
open Go
theorem o8 {x : Int} (h : -9223372036854775808 ≤ x) (h2 : x ≤ 9223372036854775807) : IntKind.i64.wrap x = x := IntWalk.i64_in x ⟨h, h2⟩
theorem pre_some {p : Prop} [Decidable p] {x : Option R} {r : R} (h : br (decide p) x none = some r) : p ∧ x = some r := by
 obtain ⟨h1, h2⟩ := af5 h
 exact ⟨of_decide_eq_true h1, h2⟩
end Go.Abs
end

section
/- The pure side: loops as rounds that go on, with rounds enough for any loop of a program. -/
namespace Go.Abs
open Go
theorem br6 : ∃ n : Nat, n = 18446744073709551616 := ⟨_, rfl⟩
noncomputable def FU : Nat := Classical.choose br6
theorem bpe : FU = 18446744073709551616 := Classical.choose_spec br6
def lpN {X Y ρ : Type} (stp : X → (X → Option ρ) → (Y → Option ρ) → Option ρ) (K : Y → Option ρ) : Nat → X → Option ρ
 | 0, x => stp x (fun _ => none) K
 | n + 1, x => stp x (lpN stp K n) K
noncomputable def lp {X Y ρ : Type} (stp : X → (X → Option ρ) → (Y → Option ρ) → Option ρ) (x : X) (K : Y → Option ρ) : Option ρ := lpN stp K FU x
theorem bq0 {X Y ρ : Type} {stp : X → (X → Option ρ) → (Y → Option ρ) → Option ρ} {K : Y → Option ρ} {r : Option ρ} (P : X → Prop) (μ : X → Nat)
    (step : ∀ x, P x → ∀ next, (∀ x', P x' → μ x' < μ x → next x' = r) → stp x next K = r) {x : X} (hx : P x) (hm : μ x ≤ 18446744073709551616) : lp stp x K = r := by
 have key : ∀ n x, P x → μ x ≤ n → lpN stp K n x = r := by
  intro n
  induction n with
  | zero => intro x hx hm; exact step x hx _ (fun x' _ h => by omega)
  | succ n ih => intro x hx hm; exact step x hx _ (fun x' hx' h => ih x' hx' (by omega))
 exact key FU x hx (by rw [bpe]; exact hm)
theorem bk3 {α : Sort _} (a : α) : ∃ b, b = a := ⟨a, rfl⟩
noncomputable def shut {α : Sort _} (a : α) : α := Classical.choose (bk3 a)
theorem bn {α : Sort _} (a : α) : shut a = a := Classical.choose_spec (bk3 a)
def ac6 {X : Type} (o : Option X) (f : X → Option R) : Option R :=
 match o with
 | some x => f x
 | none => none
theorem bj0 {D : Ctx} {c : Code} {X Y : Type} (S : X → ASt) {V : ASt → Option X} (hV : ∀ st x, V st = some x → st = S x)
    {stp : X → (X → Option R) → (Y → Option R) → Option R} {enc : (AExit → ASt → Option R) → Y → Option R}
    {L : qc} (h0 : ayg D.loops (jd c) = some L) (hL : ∀ st K, L st K = ac6 (V st) (fun x => lp stp x (enc K)))
    (h : ∀ K next x, kg D c K next (S x) = stp x (fun x' => next (S x')) (enc K)) : ji D c := by
 refine bip h0 (fun st K r hr => ?_)
 rw [hL] at hr
 unfold ac6 at hr
 split at hr
 ·rename_i x hx
  rw [hV st x hx]
  refine ⟨FU, ?_⟩
  rw [← hr]
  have key : ∀ n x, itA D c K n (S x) = lpN stp (enc K) n x := by
   intro n
   induction n with
   | zero => intro x; rw [bni, h]; rfl
   | succ n ih =>
    intro x
    rw [bmh, h]
    simp only [lpN]
    congr 1
    funext x'
    exact ih x'
  exact key FU x
 ·cases hr
theorem d9 {P : Program} {globs : List (Nat × List AVal)} {f : FuncId} {s : Spec} (ss : List Sh) (h : Proved P globs f s) : Proved P globs f (fun args K => s (ou ss args) K) :=
 ⟨h.enters, fun args K r hs => by
  obtain ⟨a, h1, h2⟩ := h.sound (ou ss args) K r hs
  exact ⟨a, h1, fun S w cargs hS hg ha => h2 S w cargs hS hg (aqn ss args cargs ha)⟩⟩
@[congr] theorem bxv {α : Type} {b c : Bool} (h : b = c) (x y : α) : br b x y = br c x y := by rw [h]
end Go.Abs
abbrev Go.Abs.adp (T Y ρ : Type) := T → (T → Option ρ) → (Y → Option ρ) → Option ρ
abbrev Go.Abs.adr (T Y ρ : Type) := T → (Y → Option ρ) → Option ρ
theorem Go.Abs.fu {D : Go.Abs.Ctx} {c : Go.Code} {X Y : Type} (S : X → Go.Abs.ASt) {V : Go.Abs.ASt → Option X} (hV : ∀ st x, V st = some x → st = S x)
    {stp : X → (X → Option Go.Abs.R) → (Y → Option Go.Abs.R) → Option Go.Abs.R} {enc : (Go.Abs.AExit → Go.Abs.ASt → Option Go.Abs.R) → Y → Option Go.Abs.R} {M : X → (Y → Option Go.Abs.R) → Option Go.Abs.R}
    (h0 : Go.Abs.ayg D.loops (Go.Abs.jd c) = some (fun st K => Go.Abs.ac6 (V st) fun x => M x (enc K))) (hM : M = Go.Abs.lp stp)
    (h : ∀ K next x, Go.Abs.kg D c K next (S x) = stp x (fun x' => next (S x')) (enc K)) : Go.Abs.ji D c := Go.Abs.bj0 S hV h0 (fun st K => by rw [hM]) h
end

section
/- Functions that hand back a beginning of a row of their own; slices.Clone. -/
namespace Go.Abs
open Go Go.RowKit
set_option linter.unusedVariables false
set_option linter.unusedSimpArgs false
def bvy (D : Ctx) (e : TypeId) (c0 : Cont) (fn : Func) (st : ASt) (K : AVal → Option R) : Option R :=
 match blg D st fn.results.toList with
 | some [.win id 0 len] => match fq st.h id with
  | some ⟨.row e' c, false⟩ => bif Nat.beq e e' then K (.fr e (c.take len)) else none
  | _ => none
 | some [.own id] => match fq st.h id with
  | some ⟨.row e' c, false⟩ => bif Nat.beq e e' then K (.fr e c) else none
  | _ => none
 | some [.v (.slice none 0 0)] => bif Nat.beq c0.len 0 then K (.fr e c0) else none
 | _ => none
def bqq (D : Ctx) (fn : Func) (e : TypeId) (c0 : Cont) (args : List AVal) (K : AVal → Option R) : Option R :=
 match fn.body with
 | none => none
 | some c => bif Nat.ble args.length fn.ntmps then
     ad8 D c ⟨aoq 0 args, [], 0, fn.ntmps⟩ fun ex st => match ex with
      | .exit _ => none
      | .normal => bvy D e c0 fn st K
      | .ret => bvy D e c0 fn st K
  else none
theorem bfw {D : Ctx} {S : Nat → Prop} {w : World} {args : List AVal} {cargs : List Value} {m : Nat} (hSw : ∀ b, S b → b < w.heap.size) (hgl : al1 D.globs S w) (hargs : jl (qm S) w args cargs) (hle : args.length ≤ m) :
    Rel D w.heap.size ⟨w, S, none⟩ (qm S) ⟨aoq 0 args, [], 0, m⟩ { tmps := cargs.toArray ++ Array.replicate (m - cargs.toArray.size) undef, defers := [] } w := by
 have hlen := ahv _ _ hargs
 refine ⟨Below.refl _ _, Nat.le_refl _, by simp; omega, fun _ => rfl, trivial, ard rfl, fun t => bfm hargs hle t, fun id b hb => by simp [fq] at hb, fun id id' b b' u u' k hb => by simp [fq] at hb, hSw, fun b hb => .inl hb, fun id u hu => by simp [qm] at hu, hgl⟩
theorem bha {D : Ctx} {e : TypeId} {c0 : Cont} {fn : Func} {st : ASt} {K : AVal → Option R} {r : R} (h : bvy D e c0 fn st K = some r) : ∃ y, K y = some r ∧ ∀ (S : Nat → Prop) (w : World) (E : Env) (a : Act) (w' : World), Rel D w.heap.size ⟨w, S, none⟩ E st a w' →
    ∃ v, (results fn a.tmps).run D.P w' = .ok v w' ∧ ∃ Sn bs, Below w.heap.size w w' ∧ (∀ b, Sn b → S b ∨ (w.heap.size ≤ b ∧ b < w'.heap.size)) ∧ xk Sn w' w.heap.size y v bs ∧ bs.Nodup ∧ ∀ b, b ∈ bs → ¬ Sn b := by
 have one : ∀ (x : AVal) (y : AVal), blg D st fn.results.toList = some [x] → K y = some r → (∀ (S : Nat → Prop) (w : World) (E : Env) (a : Act) (w' : World), Rel D w.heap.size ⟨w, S, none⟩ E st a w' → ∀ u, eu E w' x u → ∃ bs, xk E.S w' w.heap.size y u bs ∧ bs.Nodup ∧ ∀ b, b ∈ bs → ¬ E.S b) →
     ∃ y, K y = some r ∧ ∀ (S : Nat → Prop) (w : World) (E : Env) (a : Act) (w' : World), Rel D w.heap.size ⟨w, S, none⟩ E st a w' →
      ∃ v, (results fn a.tmps).run D.P w' = .ok v w' ∧ ∃ Sn bs, Below w.heap.size w w' ∧ (∀ b, Sn b → S b ∨ (w.heap.size ≤ b ∧ b < w'.heap.size)) ∧ xk Sn w' w.heap.size y v bs ∧ bs.Nodup ∧ ∀ b, b ∈ bs → ¬ Sn b := by
  intro x y hl hK hx
  refine ⟨y, hK, fun S w E a w' hR => ?_⟩
  obtain ⟨vs, hvs, hrun⟩ := awg hR _ _ hl
  simp only [jl] at hvs
  obtain ⟨u, us, rfl, h1, rfl⟩ := hvs
  obtain ⟨bs, k1, k2, k3⟩ := hx S w E a w' hR u h1
  refine ⟨u, ?_, E.S, bs, hR.below, fun b hb => ?_, k1, k2, k3⟩
  ·unfold results
   rw [Array.mapM_eq_mapM_toList]
   simp only [Sem.run_bind, Sem.run_map]
   rw [hrun _ (fun _ => rfl) (fun _ _ => rfl)]
   rfl
  ·rcases hR.sNew b hb with h | h
   ·exact .inl h
   ·exact .inr ⟨h, hR.sOld b hb⟩
 have fin : ∀ (S : Nat → Prop) (w : World) (E : Env) (a : Act) (w' : World), Rel D w.heap.size ⟨w, S, none⟩ E st a w' → ∀ (id : Nat) (e' : TypeId) (c c' : Cont) (u v : Value) (xs' : List Value), fq st.h id = some ⟨.row e' c, false⟩ → E.ρ id = some v → (∀ k, gu u = some k → gu v = some k) →
     w'.ownsRow w.heap.size e' c'.size u c'.len xs' → (∀ j x, xs'[j]? = some x → x.oneCell' = true ∧ cellC E.S w' c' j x) → ∃ bs, xk E.S w' w.heap.size (.fr e' c') u bs ∧ bs.Nodup ∧ ∀ b, b ∈ bs → ¬ E.S b := by
  intro S w E a w' hR id e' c c' u v xs' hb hv hvb ho hxs
  refine ⟨(gu u).toList, by simp only [xk]; exact ⟨⟨xs', ho, hxs⟩, trivial⟩, by cases gu u <;> simp, fun b hb' => ?_⟩
  obtain ⟨v', hv', _, hns, _⟩ := hR.heap id _ hb
  rw [hv] at hv'
  cases hv'
  cases hvu : gu u with
  | none => rw [hvu] at hb'; simp at hb'
  | some k =>
   rw [hvu] at hb'
   simp at hb'
   subst hb'
   exact hns rfl b (hvb b hvu)
 unfold bvy at h
 split at h
 ·rename_i id len hl
  split at h
  ·rename_i e' c hb
   cases hq : Nat.beq e e' with
   | false => rw [hq] at h; cases h
   | true =>
    rw [hq] at h
    have := Nat.eq_of_beq_eq_true hq
    subst this
    refine one _ _ hl h (fun S w E a w' hR u hu => ?_)
    simp only [eu] at hu
    obtain ⟨A, q, cap, hρ', hle, A', _, hA', hu⟩ := hu
    obtain ⟨v, hρ, ⟨xs, ho, hxs⟩, _⟩ := hR.heap _ _ hb
    rw [hρ] at hρ'
    cases hρ'
    rw [show A' = A from hA' trivial, Nat.sub_zero] at hu
    have hq : q = c.len := by
     rcases (show _ from ho.2) with ⟨h1, h2⟩ | ⟨g, cap', cur, h1, _⟩
     ·cases h1; exact h2.symm
     ·cases h1; rfl
    obtain ⟨t1, t2, t3⟩ := Cont.aq2 (c := c) (m := len) (by omega)
    rw [← hq] at ho
    have ho' := afh (m := len) ho rfl (by omega)
    refine fin S w E a w' hR id e c (c.take len) u _ _ hb hρ (fun k hk => by rw [hu] at hk; cases A <;> exact hk) (by rw [t1, t2, hu]; exact ho') (fun j y hj => ?_)
    have hlt := (List.getElem?_eq_some_iff.1 hj).1
    rw [ho'.1] at hlt
    rw [List.getElem?_take, if_pos hlt] at hj
    exact ⟨(hxs j y hj).1, t3 _ _ _ _ hlt (hxs j y hj).2⟩
  ·cases h
 ·rename_i id hl
  split at h
  ·rename_i e' c hb
   cases hq : Nat.beq e e' with
   | false => rw [hq] at h; cases h
   | true =>
    rw [hq] at h
    have := Nat.eq_of_beq_eq_true hq
    subst this
    refine one _ _ hl h (fun S w E a w' hR u hu => ?_)
    simp only [eu] at hu
    obtain ⟨v, hρ, ⟨xs, ho, hxs⟩, _⟩ := hR.heap _ _ hb
    rw [hu] at hρ
    cases hρ
    exact fin S w E a w' hR id e c c u u xs hb hu (fun k hk => hk) ho hxs
  ·cases h
 ·rename_i hl
  cases hq : Nat.beq c0.len 0 with
  | false => rw [hq] at h; cases h
  | true =>
   rw [hq] at h
   have hc := Nat.eq_of_beq_eq_true hq
   refine one _ _ hl h (fun S w E a w' hR u hu => ?_)
   simp only [eu] at hu
   subst hu
   exact ⟨[], by simp only [xk]; exact ⟨⟨[], ownsRow_nil hc, by simp⟩, rfl⟩, by simp, by simp⟩
 ·cases h
theorem bdn {D : Ctx} (hG : GOk D) (hG2 : l7 D) (hI : InlOk D) (hmix : D.P.follows .mixedOrders = true) {f : FuncId} {fn : Func} (hf : D.P.funcs[f]? = some fn) (hL : ∀ c, fn.body = some c → ∀ c', c' ∈ cu c → ji D c') (hrng : D.rng = []) (htop : D.top = false) (e : TypeId) (c0 : Cont) :
    aui D.P D.globs f (bqq D fn e c0) := by
 intro args K r h
 unfold bqq at h
 split at h
 ·cases h
 ·rename_i c hb
  cases hle : Nat.ble args.length fn.ntmps with
  | false => rw [hle] at h; cases h
  | true =>
   rw [hle] at h
   simp only [cond_true] at h
   have hle := Nat.le_of_ble_eq_true hle
   obtain ⟨ex, st, hK, hm, hcode⟩ := awp hG hG2 hI hmix c (hL c hb) (fun c _ => ahr hrng c) _ _ r h
   have hout : (ex = .normal ∨ ex = .ret) ∧ bvy D e c0 fn st K = some r := by
    cases ex with
    | normal => exact ⟨.inl rfl, hK⟩
    | ret => exact ⟨.inr rfl, hK⟩
    | exit j => cases hK
   obtain ⟨hex, hout⟩ := hout
   obtain ⟨y, hKy, hy⟩ := bha (D := D) hout
   refine ⟨y, hKy, fun S w cargs hSw hgl hargs => ?_⟩
   refine ag3.1 (callsIn_of_wp (F := FR none) (n := 0) hf hb trivial (wpIn_mono (hcode none 0 _ _ (qm S) _ w (fun _ => rfl) (bfw hSw hgl hargs hle) (fun id u hu => by simp [qm] at hu)) (fun e a w' hL => ?_)))
   obtain ⟨rfl, E', hup, hR, hD⟩ := hL
   obtain ⟨v, hrun, Sn, bs, k⟩ := hy S w E' a w' hR
   rcases hex with rfl | rfl
   ·exact ⟨hR.idle htop, v, hrun, v, Sn, bs, rfl, k⟩
   ·exact ⟨hR.idle htop, v, hrun, v, Sn, bs, rfl, k⟩
theorem arj {D : Ctx} {f : FuncId} {fn : Func} {c : Code} {s : Spec} (e : TypeId) (c0 : Cont) (hmix : D.P.follows .mixedOrders = true) (hgl : l7 D) (hf : D.P.funcs[f]? = some fn) (hn : (fn.name == "runtime.NumGoroutine") = false) (hb : fn.body = some c)
    (hG : bp1 D.P D.globs D.G) (hI : bp8 D D.inl) (hL : aqv D (cu c)) (h : ∀ args K r, s args K = some r → bqq D fn e c0 args K = some r) (hrng : D.rng = [] := by rfl) (htop : D.top = false := by rfl) (hY : D.ys = none := by rfl) : Proved D.P D.globs f s := by
 refine ⟨⟨fn, hf, hn, by rw [hb]; rfl⟩, fun args K r hs => ?_⟩
 exact bdn (axo hG) hgl (ax2 hI (ar5 hY)) hmix hf (fun c' hc' => by rw [hb] at hc'; cases hc'; exact aib _ hL) hrng htop e c0 args K r (h args K r hs)
def sq1 : Code → Code
 | .seq a _ => a
 | c => c
def sq2 : Code → Code
 | .seq _ b => b
 | c => c
def bgw : Code → Array Oper
 | .region _ ops _ => ops
 | _ => #[]
def b5o : Code → Code
 | .cond _ x _ => x
 | c => c
def bf4 : Oper := ⟨none, .move (.tmp 0), 0, "", #[], none⟩
def b1o : AVal → Option R := fun x => some x
def b6s (D : Ctx) (sig : List Sh) (fn : Func) : AExit → ASt → Option R := fun ex st => match ex with
 | .exit _ => none
 | .normal => bor D sig fn st b1o
 | .ret => bor D sig fn st b1o
theorem bgn {P : Program} {o : Oper} {a : Act} {w : World} {v : Value} {next : Act → World → Prop} {Q : Exit → Act → World → Prop} (hr : (execOp a.eval o).run P w = .ok (.value v) w) (h : next (a.put o.dst v) w) : o.wp P a w next Q := by
 unfold Oper.wp
 rw [hr, Oper.upon_value]
 exact h
set_option maxHeartbeats 2000000 in
theorem bmf {D : Ctx} {f : FuncId} {fn : Func} {t e : TypeId} {c : Cont} (hG : bp1 D.P D.globs D.G) (hgl : l7 D) (hI : bp8 D D.inl) (hmix : D.P.follows .mixedOrders = true) (hf : D.P.funcs[f]? = some fn)
    {o0 o1 o2 : Oper} {i0 i1 : Nat} {X rest : Code} (hb : fn.body = some (.seq (.region i0 #[o0] false) (.seq (.seq (.region i1 #[o1, o2] false) (.cond (.tmp 4) X .skip)) rest)))
    (h0 : o0.op = .assign (.const (.slice none 0 0)) ∧ o0.dst = some 2 ∧ o0.guard = none) (h1 : o1.op = .move (.tmp 0) ∧ o1.dst = some 3 ∧ o1.guard = none)
    (h2 : o2.op = .binOp .eql t (.tmp 3) (.const (.slice none 0 0)) t ∧ o2.dst = some 4 ∧ o2.guard = none) (ht : D.P.underlying t = some (.slice e)) (hm : 5 ≤ fn.ntmps)
    (hLX : cu X = []) (hLr : cu rest = []) (hX2 : ∃ i o, X = .seq (.region i #[o] false) .ret ∧ o.op = .assign (.const (.slice none 0 0)) ∧ o.dst = some 2 ∧ o.guard = none) (hres : fn.results = #[.tmp 2])
    (hrng : D.rng = []) (htop : D.top = false) (hY : D.ys = none) (hr : ad8 D rest ⟨[(0, .sl c), (2, .v (.slice none 0 0))], [], 0, fn.ntmps⟩ (b6s D [.fr e c] fn) = some (.fr e c)) :
    ∀ (S : Nat → Prop) (w : World) (cargs : List Value), (∀ b, S b → b < w.heap.size) → al1 D.globs S w → jl (qm S) w [.sl c] cargs →
     Calls D.P f cargs.toArray w fun e' w' => ∃ v Sn bs, e' = .returned v ∧ Below w.heap.size w w' ∧ (∀ b, Sn b → S b ∨ (w.heap.size ≤ b ∧ b < w'.heap.size)) ∧ xk Sn w' w.heap.size (.fr e c) v bs ∧ bs.Nodup ∧ ∀ b, b ∈ bs → ¬ Sn b := by
 intro S w cargs hSw hgl' hargs
 have hR0 := bfw (m := fn.ntmps) hSw hgl' hargs (by simp; omega)
 simp only [jl] at hargs
 obtain ⟨u, us, rfl, hu, rfl⟩ := hargs
 refine ag3.1 (callsIn_of_wp_marks (F := FR none) (n := 0) hf hb trivial (wpIn_wide.2 (wp_seq (wp_region ?_))))
 obtain ⟨dst0, op0, ty0, pos0, after0, g0⟩ := o0
 obtain ⟨dst1, op1, ty1, pos1, after1, g1⟩ := o1
 obtain ⟨dst2, op2, ty2, pos2, after2, g2⟩ := o2
 simp only at h0 h1 h2
 obtain ⟨rfl, rfl, rfl⟩ := h0
 obtain ⟨rfl, rfl, rfl⟩ := h1
 obtain ⟨rfl, rfl, rfl⟩ := h2
 have hu0 := hu
 simp only [eu] at hu
 obtain ⟨A, cap, hu1, hcap, hrd⟩ := hu
 -- the first region
 show wpOps D.P _ _ [0] _ _
 simp only [wpOps, List.getElem?_toArray, List.getElem?_cons_zero, Region.wanted, if_true]
 refine .inl (bgn (v := .slice none 0 0) rfl ?_)
 have hR1 := Rel.put (a := .v (.slice none 0 0)) (u := .slice none 0 0) hR0 (by simp only [eu]) (some 2)
 simp only [Exit.then]
 refine wp_seq (wp_seq (wp_region ?_))
 show wpOps D.P _ _ [0, 1] _ _
 simp only [wpOps, List.getElem?_toArray, List.getElem?_cons_zero, List.getElem?_cons_succ, Region.wanted, if_true]
 have hev : ∀ t, t ≠ 2 → (Act.put { tmps := [u].toArray ++ Array.replicate (fn.ntmps - [u].toArray.size) undef, defers := [] } (some 2) (.slice none 0 0)).tmps.getD t undef = (([u].toArray ++ Array.replicate (fn.ntmps - [u].toArray.size) undef : Array Value)).getD t undef := by
  intro t ht
  simp only [Act.put]
  rw [Array.getD_eq_getD_getElem?, Array.getD_eq_getD_getElem?, Array.getElem?_setIfInBounds_ne (by omega)]
 have hr3 : eu (qm S) w (.sl c) ((Act.put { tmps := [u].toArray ++ Array.replicate (fn.ntmps - [u].toArray.size) undef, defers := [] } (some 2) (.slice none 0 0)).eval (.tmp 0)) := by
  have h1 := hR1.tmps 0
  have e1 : look (ASt.put ⟨aoq 0 [.sl c], [], 0, fn.ntmps⟩ (some 2) (.v (.slice none 0 0))).f 0 = .sl c := by simp [ASt.put, aa3, aoq, look]
  rw [e1] at h1
  exact h1
 have hu3 : (Act.put { tmps := [u].toArray ++ Array.replicate (fn.ntmps - [u].toArray.size) undef, defers := [] } (some 2) (.slice none 0 0)).eval (.tmp 0) = u := by
  show (Act.put _ (some 2) _).tmps.getD 0 undef = u
  rw [hev 0 (by omega), Array.getD_eq_getD_getElem?, Array.getElem?_append_left (by simp)]
  rfl
 rw [hu3] at hr3
 refine .inl (bgn (v := u) (by simp only [execOp, hu3]; rfl) ?_)
 have hR2 := Rel.put (a := .sl c) (u := u) hR1 hr3 (some 3)
 have he3 : (Act.put (Act.put { tmps := [u].toArray ++ Array.replicate (fn.ntmps - [u].toArray.size) undef, defers := [] } (some 2) (.slice none 0 0)) (some 3) u).eval (.tmp 3) = u := by
  show (Act.put _ (some 3) _).tmps.getD 3 undef = u
  simp only [Act.put]
  rw [Array.getD_eq_getD_getElem?, Array.getElem?_setIfInBounds_self_of_lt (by simp; omega)]
  rfl
 generalize hact2 : (Act.put (Act.put { tmps := [u].toArray ++ Array.replicate (fn.ntmps - [u].toArray.size) undef, defers := [] } (some 2) (.slice none 0 0)) (some 3) u) = a2 at hR2 he3 ⊢
 refine .inl (bgn (v := .bool A.isNone) (by
  have hcn : a2.eval (.const (.slice none 0 0)) = .slice none 0 0 := rfl
  simp only [execOp, he3, hcn]
  rw [hu1]
  simp [eqGuard, binOp, run_equal_slice_nil w t e A c.len cap ht]) ?_)
 have hR3 := Rel.put (a := .v (.bool A.isNone)) (u := .bool A.isNone) hR2 (by simp only [eu]) (some 4)
 simp only [Exit.then]
 generalize hact : Act.put a2 (some 4) (.bool A.isNone) = act at hR3 ⊢
 have hc4 : act.eval (.tmp 4) = .bool A.isNone := by
  have := hR3.tmps 4
  simp only [ASt.put, aa3] at this
  rw [if_pos ⟨trivial, by omega⟩] at this
  simp only [eu] at this
  exact this
 have hk : ∀ t, look ([(0, AVal.sl c), (2, AVal.v (.slice none 0 0))] : List (Nat × AVal)) t = .bot ∨ eu (qm S) w (look [(0, .sl c), (2, .v (.slice none 0 0))] t) (act.tmps.getD t undef) := by
  intro t
  by_cases h0 : t = 0
  ·subst h0
   right
   have := hR3.tmps 0
   simpa [ASt.put, aa3, aoq, look] using this
  ·by_cases h2 : t = 2
   ·subst h2
    right
    have h3 := hR3.tmps 2
    have e2 : look (ASt.put (ASt.put (ASt.put ⟨aoq 0 [.sl c], [], 0, fn.ntmps⟩ (some 2) (.v (.slice none 0 0))) (some 3) (.sl c)) (some 4) (.v (.bool A.isNone))).f 2 = .v (.slice none 0 0) := by
     simp only [ASt.put, aa3]
     rw [if_neg (by simp), if_neg (by simp), if_pos ⟨trivial, by omega⟩]
    rw [e2] at h3
    exact h3
   ·left
    have a0 : Nat.beq 0 t = false := by cases hq : Nat.beq 0 t with
     | false => rfl
     | true => exact absurd (Nat.eq_of_beq_eq_true hq).symm h0
    have a2 : Nat.beq 2 t = false := by cases hq : Nat.beq 2 t with
     | false => rfl
     | true => exact absurd (Nat.eq_of_beq_eq_true hq).symm h2
    simp only [look, a0, a2, cond_false]
 have htm : ∀ t, eu (qm S) w (look [(0, .sl c), (2, .v (.slice none 0 0))] t) (act.tmps.getD t undef) := by
  intro t
  rcases hk t with h | h
  ·rw [h]; exact aip _
  ·exact h
 have hR4 : Rel D w.heap.size ⟨w, S, none⟩ (qm S) ⟨[(0, .sl c), (2, .v (.slice none 0 0))], [], 0, fn.ntmps⟩ act w :=
  { hR3 with tmps := htm }
 have hD0 : Dom (qm S) 0 := fun id u hu => by simp [qm] at hu
 refine wp_cond hc4 ?_
 cases A with
 | some a =>
  simp only [Option.isNone_some, Bool.false_eq_true, if_false]
  refine wp_skip ?_
  simp only [Exit.then]
  obtain ⟨y, hy, hrest⟩ := bkx (axo hG) hgl (ax2 hI (ar5 hY)) hmix (fn := fn) (c := rest) (fun c' hc => by rw [hLr] at hc; cases hc) (fun c _ => ahr hrng c) [.fr e c] (K := b1o) (r := .fr e c) hr
  cases hy
  exact wpIn_wide.1 (hrest S w act w (qm S) hR4 hD0)
 | none =>
  simp only [Option.isNone_none, if_true]
  have hc0 : c.len = 0 := by
   refine Nat.eq_zero_of_not_pos (fun h => ?_)
   obtain ⟨a, ha, _⟩ := hrd h
   cases ha
  obtain ⟨ix, ox, rfl, ho, hod, hog⟩ := hX2
  obtain ⟨dstx, opx, tyx, posx, afterx, gx⟩ := ox
  simp only at ho hod hog
  subst ho
  subst hod
  subst hog
  refine wp_seq (wp_region ?_)
  show wpOps D.P _ _ [0] _ _
  simp only [wpOps, List.getElem?_toArray, List.getElem?_cons_zero, Region.wanted, if_true]
  refine .inl (bgn (v := .slice none 0 0) rfl ?_)
  simp only [Exit.then]
  refine wp_ret ?_
  simp only [Exit.then]
  have hR5 := Rel.put (a := .v (.slice none 0 0)) (u := .slice none 0 0) hR4 (by simp only [eu]) (some 2)
  show LeavesInM _ _ _ _ _ _ (Act.put act (some 2) (.slice none 0 0)).defers _ _
  rw [hR5.idle htop]
  refine ⟨.slice none 0 0, ?_, _, S, [], rfl, hR5.below, fun b hb => .inl hb, by simp only [xk]; exact ⟨⟨[], ownsRow_nil hc0, by simp⟩, rfl⟩, by simp, by simp⟩
  have h2 := hR5.tmps 2
  simp only [ASt.put, aa3] at h2
  rw [if_pos ⟨trivial, by omega⟩] at h2
  simp only [eu] at h2
  unfold results
  rw [hres]
  simp
  rw [← Array.getD_eq_getD_getElem?]
  exact h2
end Go.Abs
end
