/-
  HssVerifies, part 12: an interpreter of my own over abstract values, the pure functions, the walks and the plain law.
-/

import Derived.Test.YtmipokjdajiimaaDoorHssVerifiesH
import Derived.Test.YtmipokjdajiimaaDoorHssVerifiesK
import Derived.Test.YtmipokjdajiimaaDoorHssVerifiesI

noncomputable section
open Go Go.Abs
set_option linter.unusedVariables false
namespace P

abbrev bv5 (ρ : Type) := Int → (List Int) → Int → (List Int) → Int → Int → (List (List Int)) → (List Int) → Option ρ
def ada {ρ : Type} (d : Int) (g : List Int) (h : Int) (e : List Int) (b a : Int) (c : List (List Int)) (f : List Int) (nx i : bv5 ρ) : Option ρ := br (decide (a < b)) (br (decide (0 ≤ a)) (br (decide (a < (↑f.length : Int))) (br (decide (d < 0)) none (br (decide (0 ≤ IntKind.i64.wrap (36 + IntKind.i64.wrap (32 * a)))) (br (decide (IntKind.i64.wrap (36 + IntKind.i64.wrap (32 * a)) ≤ IntKind.i64.wrap (68 + IntKind.i64.wrap (32 * a)))) (br (decide (IntKind.i64.wrap (68 + IntKind.i64.wrap (32 * a)) ≤ (↑e.length : Int))) (ac3 g h a (IntKind.i64.wrap (f.getD a.toNat 0)) (IntKind.i64.wrap (IntKind.i64.wrap (1 * 2 ^ min d.toNat 64) - 1)) (List.drop (IntKind.i64.wrap (36 + IntKind.i64.wrap (32 * a))).toNat (List.take (IntKind.i64.wrap (68 + IntKind.i64.wrap (32 * a))).toNat e)) fun j => br (decide ((c.length + 1) * 24 ≤ 140737488355328)) (nx d g h e b (IntKind.i64.wrap (a + 1)) (c ++ [j]) f) none) none) none) none)) none) none) (i d g h e b a c f)
abbrev bsd := Int × (List Int) × Int × (List Int) × Int × Int × (List (List Int)) × (List Int)
abbrev bur := bsd
def bu7 {ρ : Type} (f : bsd → Option ρ) : bv5 ρ := fun d e g h a b c i => f (d, e, g, h, a, b, c, i)
def bp9 {ρ : Type} : aeh bsd bur ρ := fun (d, e, f, g, a, b, c, h) next ex => ada d e f g a b c h (bu7 next) (bu7 ex)
def byo {ρ : Type} := shut (lp (bp9 (ρ := ρ)))
theorem b0h {ρ : Type} : byo (ρ := ρ) = lp bp9 := bn _
def bsk {ρ : Type} (f : aei bsd bur ρ) (d : Int) (e : List Int) (g : Int) (h : List Int) (a b : Int) (c : List (List Int)) (i : List Int) (j : bv5 ρ) : Option ρ := f (d, e, g, h, a, b, c, i) (fun (d, e, g, h, a, b, c, i) => j d e g h a b c i)
def ahj {ρ : Type} := bsk (lp (bp9 (ρ := ρ)))
def aho {ρ : Type} := bsk (byo (ρ := ρ))
theorem akk {ρ : Type} : aho (ρ := ρ) = ahj := congrArg bsk b0h
def adr {ρ : Type} (b : Int) (c : List Int) (d : Int) (i a : List Int) (k : (List Int) → Int → Option ρ) : Option ρ := ny b fun e u j => br (e == 0) (k [] 9) (br ((↑c.length : Int) != 16) (k [] 14) (qp b fun l => br ((↑a.length : Int) != l) (k [] 1) (br (decide (4 ≤ (↑a.length : Int))) (oh (List.drop 0 (List.take (Int.toNat 4) a)) fun m => br (m != j) (k [] 1) (br (decide (36 ≤ (↑a.length : Int))) (abv c d (List.drop 4 (List.take (Int.toNat 36) a)) i fun n => abk b n fun o v => aho b c d a e 0 [] o fun w p f q r s g t => ahw p f g fun h => k h 0) none)) none)))
def u6 {ρ : Type} := shut (adr (ρ := ρ))
theorem aiv {ρ : Type} (a : Int) (b : List Int) (c : Int) (d : List Int) (e : List Int) (k : (List Int) → Int → Option ρ) : u6 a b c d e k = adr a b c d e k := by unfold u6; rw [bn]

def afd {ρ : Type} (a : List Int) (b : Int) (c : List Int) (k : (List Int) → Option ρ) : Option ρ := j5 b 4 fun d => j5 33410 2 fun e => af0 [a, d, e, c] fun f => k f
def uw {ρ : Type} := shut (afd (ρ := ρ))
theorem akx {ρ : Type} (a : List Int) (b : Int) (c : List Int) (k : (List Int) → Option ρ) : uw a b c k = afd a b c k := by unfold uw; rw [bn]

def ai7 {ρ : Type} (a : List Int) (b : Int) (c d : List Int) (k : (List Int) → Option ρ) : Option ρ := j5 b 4 fun e => j5 33667 2 fun f => af0 [a, e, f, c, d] fun g => k g
def abu {ρ : Type} := shut (ai7 (ρ := ρ))
theorem ar9 {ρ : Type} (a : List Int) (b : Int) (c : List Int) (d : List Int) (k : (List Int) → Option ρ) : abu a b c d k = ai7 a b c d k := by unfold abu; rw [bn]

abbrev bxu (ρ : Type) := (List Int) → (List Int) → Int → (List Int) → (List Int) → Option ρ
def agy {ρ : Type} (e c : List Int) (b : Int) (d a : List Int) (nx f : bxu ρ) : Option ρ := br (decide (b > (1 : Int))) (br (b.tmod (2 : Int) == (0 : Int)) (br (decide ((32 : Int) ≤ (↑a.length : Int))) (abu c (IntKind.u64.wrap (b.tdiv (2 : Int))) d (List.drop 0 (List.take (Int.toNat (32 : Int)) a)) fun g => br (decide ((32 : Int) ≤ (↑a.length : Int))) (br (decide ((↑a.length : Int) ≤ (↑a.length : Int))) (nx e c (IntKind.u64.wrap (b.tdiv (2 : Int))) g (List.drop 32 (List.take (↑a.length : Int).toNat a))) none) none) none) (br (decide ((32 : Int) ≤ (↑a.length : Int))) (abu c (IntKind.u64.wrap (b.tdiv (2 : Int))) (List.drop 0 (List.take (Int.toNat (32 : Int)) a)) d fun h => br (decide ((32 : Int) ≤ (↑a.length : Int))) (br (decide ((↑a.length : Int) ≤ (↑a.length : Int))) (nx e c (IntKind.u64.wrap (b.tdiv (2 : Int))) h (List.drop 32 (List.take (↑a.length : Int).toNat a))) none) none) none)) (f e c b d a)
abbrev bp5 := (List Int) × (List Int) × Int × (List Int) × (List Int)
abbrev bt0 := bp5
def bwt {ρ : Type} (f : bp5 → Option ρ) : bxu ρ := fun e a b c d => f (e, a, b, c, d)
def boy {ρ : Type} : aeh bp5 bt0 ρ := fun (e, a, b, c, d) next ex => agy e a b c d (bwt next) (bwt ex)
def buy {ρ : Type} := shut (lp (boy (ρ := ρ)))
theorem bzm {ρ : Type} : buy (ρ := ρ) = lp boy := bn _
def bso {ρ : Type} (f : aei bp5 bt0 ρ) (e a : List Int) (b : Int) (c d : List Int) (g : bxu ρ) : Option ρ := f (e, a, b, c, d) (fun (e, a, b, c, d) => g e a b c d)
def akq {ρ : Type} := bso (lp (boy (ρ := ρ)))
def ag1 {ρ : Type} := bso (buy (ρ := ρ))
theorem aoo {ρ : Type} : ag1 (ρ := ρ) = akq := congrArg bso bzm
def nk {ρ : Type} (a o b : List Int) (k : Int → Option ρ) : Option ρ := br ((↑a.length : Int) != 56) (k 10) (br (decide (4 ≤ (↑a.length : Int))) (oh (List.drop 0 (List.take (Int.toNat 4) a)) fun p => ku p fun q => br (q == 0) (k 10) (br (decide (8 ≤ (↑a.length : Int))) (oh (List.drop 4 (List.take (Int.toNat 8) a)) fun r => ou r fun s => br (s == 0) (k 10) (zm b fun A f g t h => br (h != 0) (k h) (br (decide ((↑t.length : Int) > 0)) (k 1) (ae5 f g fun u => br (decide (8 ≤ (↑a.length : Int))) (yw u (List.drop 0 (List.take (Int.toNat 8) a)) fun i => br (!i) (k 1) (br (decide (4 ≤ (↑b.length : Int))) (oh (List.drop 0 (List.take (Int.toNat 4) b)) fun e => br (decide (f < 0)) none (br (decide (e ≥ IntKind.u64.wrap (1 * 2 ^ min f.toNat 64))) (k 13) (br (decide (24 ≤ (↑a.length : Int))) (qp g fun c => br (decide (4 ≤ IntKind.i64.wrap (4 + c))) (br (decide (IntKind.i64.wrap (4 + c) ≤ (↑b.length : Int))) (u6 g (List.drop 8 (List.take (Int.toNat 24) a)) (IntKind.u32.wrap e) o (List.drop 4 (List.take (IntKind.i64.wrap (4 + c)).toNat b)) fun j v => br (decide (f < 0)) none (uw (List.drop 8 (List.take (Int.toNat 24) a)) (IntKind.u64.wrap (IntKind.u64.wrap (1 * 2 ^ min f.toNat 64) + e)) j fun l => br (decide (0 ≤ IntKind.i64.wrap (8 + c))) (br (decide (IntKind.i64.wrap (8 + c) ≤ (↑b.length : Int))) (br (decide ((↑b.length : Int) ≤ (↑b.length : Int))) (ag1 a (List.drop 8 (List.take (Int.toNat 24) a)) (IntKind.u64.wrap (IntKind.u64.wrap (1 * 2 ^ min f.toNat 64) + e)) l (List.drop (IntKind.i64.wrap (8 + c)).toNat (List.take (↑b.length : Int).toNat b)) fun d w y m z => br (decide (24 ≤ (↑d.length : Int))) (br (decide ((↑d.length : Int) ≤ (↑d.length : Int))) (yw m (List.drop 24 (List.take (↑d.length : Int).toNat d)) fun n => br (!n) (k 11) (k 0)) none) none) none) none) none)) none) none) none))) none)) none)))) none)) none)
def yt {ρ : Type} := shut (nk (ρ := ρ))
theorem aoc {ρ : Type} (a : List Int) (b : List Int) (c : List Int) (k : Int → Option ρ) : yt a b c k = nk a b c k := by unfold yt; rw [bn]

abbrev bvz (ρ : Type) := (List Int) → Int → (List Int) → (List Int) → Int → Option ρ
def aoe {ρ : Type} (g : List Int) (f : Int) (h i : List Int) (b : Int) (nx m : bvz ρ) (c : Int → Int → Int → Int → Int → Option ρ) : Option ρ := br (decide (b ≤ f)) (zm i fun j d e a k => br (k != 0) (c k d e 0 0) (br (b == f) (br (decide ((↑a.length : Int) > 0)) (c 1 d e 0 0) (yt h g j fun n => c n d e 0 0)) (br (decide ((↑a.length : Int) < 56)) (c 1 d e 0 0) (br (decide (56 ≤ (↑a.length : Int))) (yt h (List.drop 0 (List.take (Int.toNat 56) a)) j fun l => br (l != 0) (c l d e 0 0) (br (decide (56 ≤ (↑a.length : Int))) (br (decide (56 ≤ (↑a.length : Int))) (br (decide ((↑a.length : Int) ≤ (↑a.length : Int))) (nx g f (List.drop 0 (List.take (Int.toNat 56) a)) (List.drop 56 (List.take (↑a.length : Int).toNat a)) (IntKind.u64.wrap (b + 1))) none) none) none)) none)))) (m g f h i b)
abbrev bth := (List Int) × Int × (List Int) × (List Int) × Int
abbrev bxb := ((List Int) × Int × (List Int) × (List Int) × Int) ⊕ (Int × Int × Int × Int × Int)
def b0e {ρ : Type} (f : bth → Option ρ) : bvz ρ := fun b c d e a => f (b, c, d, e, a)
def bqy {ρ : Type} : aeh bth bxb ρ := fun (d, e, f, g, a) next ex => aoe d e f g a (b0e next) (fun d e f g a => ex (.inl (d, e, f, g, a))) (fun j h i b c => ex (.inr (j, h, i, b, c)))
def bum {ρ : Type} := shut (lp (bqy (ρ := ρ)))
theorem bza {ρ : Type} : bum (ρ := ρ) = lp bqy := bn _
def bsh {ρ : Type} (f : aei bth bxb ρ) (b : List Int) (c : Int) (d e : List Int) (a : Int) (g : bvz ρ) (h : Int → Int → Int → Int → Int → Option ρ) : Option ρ := f (b, c, d, e, a) (Sum.elim (fun (b, c, d, e, a) => g b c d e a) (fun (b, c, d, e, a) => h b c d e a))
def anu {ρ : Type} := bsh (lp (bqy (ρ := ρ)))
def ahr {ρ : Type} := bsh (bum (ρ := ρ))
theorem aq2 {ρ : Type} : ahr (ρ := ρ) = anu := congrArg bsh bza
def su {ρ : Type} (a d b : List Int) (k : Int → Option ρ) : Option ρ := br ((↑a.length : Int) != 60) (k 10) (br (decide (4 ≤ (↑a.length : Int))) (oh (List.drop 0 (List.take (Int.toNat 4) a)) fun e => br (decide (e < 1)) (k 10) (br (decide (4 ≤ (↑a.length : Int))) (oh (List.drop 0 (List.take (Int.toNat 4) a)) fun f => br (decide (f > 8)) (k 10) (br (decide (4 ≤ (↑a.length : Int))) (oh (List.drop 0 (List.take (Int.toNat 4) a)) fun c => br (decide ((↑b.length : Int) < 4)) (k 1) (br (decide (4 ≤ (↑b.length : Int))) (oh (List.drop 0 (List.take (Int.toNat 4) b)) fun g => br (IntKind.u64.wrap (g + 1) != c) (k 1) (br (decide (4 ≤ (↑a.length : Int))) (br (decide ((↑a.length : Int) ≤ (↑a.length : Int))) (br (decide (4 ≤ (↑b.length : Int))) (br (decide ((↑b.length : Int) ≤ (↑b.length : Int))) (ahr d c (List.drop 4 (List.take (↑a.length : Int).toNat a)) (List.drop 4 (List.take (↑b.length : Int).toNat b)) 1 (fun n o p q r => k 1) fun h i j l m => k h) none) none) none) none)) none)) none)) none)) none)
def yj {ρ : Type} := shut (su (ρ := ρ))
theorem aml {ρ : Type} (a : List Int) (b : List Int) (c : List Int) (k : Int → Option ρ) : yj a b c k = su a b c k := by unfold yj; rw [bn]

def ab6 {ρ : Type} (b c a : List Int) (k : Bool → Option ρ) : Option ρ := aep [b, c] fun d => br (!d) (ql fun e => k e) (br (decide ((↑a.length : Int) > (25000 : Int))) (ql fun f => k f) (br (decide ((↑a.length : Int) ≥ (12 : Int))) (br (decide ((11 : Int) < (↑a.length : Int))) (br (a.getD 11 (0 : Int) == (4 : Int)) (ql fun g => k g) (qw b c a fun h => yj b c a fun i => br (h == i) (ql fun j => k j) (k false))) none) (qw b c a fun l => yj b c a fun m => br (l == m) (ql fun n => k n) (k false))))
def p8 {ρ : Type} := shut (ab6 (ρ := ρ))
theorem agi {ρ : Type} (a : List Int) (b : List Int) (c : List Int) (k : Bool → Option ρ) : p8 a b c k = ab6 a b c k := by unfold p8; rw [bn]

























































def al0 {ρ : Type} (a b : Int) (k : Bool → Option ρ) : Option ρ := uo a fun c => br (c != 0) (qp b fun d => k (d != 0)) (k false)
def asg {ρ : Type} := shut (al0 (ρ := ρ))
theorem be2 {ρ : Type} (a : Int) (b : Int) (k : Bool → Option ρ) : asg a b k = al0 a b k := by unfold asg; rw [bn]

abbrev bu8 (ρ : Type) := Int → Int → Nat → (List Int) → (List Int) → (List Int) → (List Int) → Option ρ
def ae9 {ρ : Type} (h d : Int) (c : Nat) (a b e f : List Int) (nx i : bu8 ρ) (g : Bool → Int → Int → Int → Int → Nat → (List Int) → (List Int) → (List Int) → (List Int) → Option ρ) : Option ρ := br (decide (d < (↑c : Int))) (br (decide ((0 : Int) ≤ d)) (br (decide (d < (↑c : Int))) (br (decide (d ≥ (8 : Int))) (g false (a.getD d.toNat (0 : Int)) (b.getD d.toNat (0 : Int)) (0 : Int) (0 : Int) c a b e f) (asg (a.getD d.toNat (0 : Int)) (b.getD d.toNat (0 : Int)) fun j => br (!j) (g false (a.getD d.toNat (0 : Int)) (b.getD d.toNat (0 : Int)) (0 : Int) (0 : Int) c a b e f) (br (decide (a.getD d.toNat (0 : Int) > (10 : Int))) (g false (a.getD d.toNat (0 : Int)) (b.getD d.toNat (0 : Int)) (0 : Int) (0 : Int) c a b e f) (nx (IntKind.i64.wrap (h + a.getD d.toNat (0 : Int))) (IntKind.i64.wrap (d + (1 : Int))) c a b e f)))) none) none) (i h d c a b e f)
abbrev bwc := Int × Int × Nat × (List Int) × (List Int) × (List Int) × (List Int)
abbrev b0d := (Int × Int × Nat × (List Int) × (List Int) × (List Int) × (List Int)) ⊕ (Bool × Int × Int × Int × Int × Nat × (List Int) × (List Int) × (List Int) × (List Int))
def by1 {ρ : Type} (f : bwc → Option ρ) : bu8 ρ := fun g h a b c d e => f (g, h, a, b, c, d, e)
def bpu {ρ : Type} : aeh bwc b0d ρ := fun (h, i, a, b, c, d, e) next ex => ae9 h i a b c d e (by1 next) (fun h i a b c d e => ex (.inl (h, i, a, b, c, d, e))) (fun l j k f g a b c d e => ex (.inr (l, j, k, f, g, a, b, c, d, e)))
def bze {ρ : Type} := shut (lp (bpu (ρ := ρ)))
theorem ze51 {ρ : Type} : bze (ρ := ρ) = lp bpu := bn _
def bpx {ρ : Type} (f : aei bwc b0d ρ) (g h : Int) (a : Nat) (b c d e : List Int) (i : bu8 ρ) (j : Bool → Int → Int → Int → Int → Nat → (List Int) → (List Int) → (List Int) → (List Int) → Option ρ) : Option ρ := f (g, h, a, b, c, d, e) (Sum.elim (fun (g, h, a, b, c, d, e) => i g h a b c d e) (fun x => j x.1 x.2.1 x.2.2.1 x.2.2.2.1 x.2.2.2.2.1 x.2.2.2.2.2.1 x.2.2.2.2.2.2.1 x.2.2.2.2.2.2.2.1 x.2.2.2.2.2.2.2.2.1 x.2.2.2.2.2.2.2.2.2))
def apo {ρ : Type} := bpx (lp (bpu (ρ := ρ)))
def av1 {ρ : Type} := bpx (bze (ρ := ρ))
theorem amt {ρ : Type} : av1 (ρ := ρ) = apo := congrArg bpx ze51
def ahq {ρ : Type} (a : Nat) (b c e d : List Int) (k : Bool → Option ρ) : Option ρ := av1 0 0 a b c e d (fun f s g t u h i => br (decide ((↑g : Int) ≥ 1)) (br (decide (f ≤ 60)) (br ((↑h.length : Int) == 16) (k ((↑i.length : Int) == 32)) (k false)) (k false)) (k false)) fun j v w l m n o p q r => k j
def axl {ρ : Type} := shut (ahq (ρ := ρ))
theorem avd {ρ : Type} (a : Nat) (b : List Int) (c : List Int) (e : List Int) (d : List Int) (k : Bool → Option ρ) : axl a b c e d k = ahq a b c e d k := by unfold axl; rw [bn]







end P
end
