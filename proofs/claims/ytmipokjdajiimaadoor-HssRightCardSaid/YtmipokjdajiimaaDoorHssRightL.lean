/-
  HssRight, part 12: an interpreter of my own over abstract values, the pure functions, the walks and the plain law.
-/

import Derived.Test.YtmipokjdajiimaaDoorHssRightH
import Derived.Test.YtmipokjdajiimaaDoorHssRightK
import Derived.Test.YtmipokjdajiimaaDoorHssRightI

noncomputable section
open Go Go.Abs
set_option linter.unusedVariables false
namespace P

abbrev bst (ρ : Type) := Int → Int → (List Int) → Int → (List Int) → (List Int) → Int → Option ρ
def ar4 {ρ : Type} (c g : Int) (b : List Int) (d : Int) (e a : List Int) (f : Int) (nx h : bst ρ) : Option ρ := br (decide (c = 0)) none (br ((IntKind.i64.wrap ((↑a.length : Int) + (↑b.length : Int))).tmod c != IntKind.i64.wrap (c - 8)) (br (decide ((b.length + 1) * 1 ≤ 140737488355328)) (nx c g (b ++ [0]) d e a f) none) (h c g b d e a f))
abbrev bx9 := Int × Int × (List Int) × Int × (List Int) × (List Int) × Int
abbrev b57 := bx9
def b33 {ρ : Type} (f : bx9 → Option ρ) : bst ρ := fun g h e a b c d => f (g, h, e, a, b, c, d)
def by7 {ρ : Type} : adw bx9 b57 ρ := fun (f, g, e, a, b, c, d) next ex => ar4 f g e a b c d (b33 next) (b33 ex)
def b6o {ρ : Type} := shut (lp (by7 (ρ := ρ)))
theorem ze44 {ρ : Type} : b6o (ρ := ρ) = lp by7 := av _
def bxq {ρ : Type} (f : adx bx9 b57 ρ) (g h : Int) (e : List Int) (a : Int) (b c : List Int) (d : Int) (i : bst ρ) : Option ρ := f (g, h, e, a, b, c, d) (fun (g, h, e, a, b, c, d) => i g h e a b c d)
def ayy {ρ : Type} := bxq (lp (by7 (ρ := ρ)))
def arz {ρ : Type} := bxq (b6o (ρ := ρ))
theorem bbn {ρ : Type} : arz (ρ := ρ) = ayy := congrArg bxq ze44
abbrev zc45 (ρ : Type) := Int → Int → (List Int) → Int → (List Int) → (List Int) → Int → Option ρ
def ar6 {ρ : Type} (c g : Int) (b : List Int) (d : Int) (e a : List Int) (f : Int) (nx h : bst ρ) : Option ρ := br (decide (c = 0)) none (br ((IntKind.i64.wrap ((↑a.length : Int) + (↑b.length : Int))).tmod c != IntKind.i64.wrap (c - 16)) (br (decide ((b.length + 1) * 1 ≤ 140737488355328)) (nx c g (b ++ [0]) d e a f) none) (h c g b d e a f))
abbrev bx5 := Int × Int × (List Int) × Int × (List Int) × (List Int) × Int
abbrev b5x := bx5
def bz3 {ρ : Type} (f : bx5 → Option ρ) : zc45 ρ := fun g h e a b c d => f (g, h, e, a, b, c, d)
def bx4 {ρ : Type} : adw bx5 b5x ρ := fun (f, g, e, a, b, c, d) next ex => ar6 f g e a b c d (bz3 next) (bz3 ex)
def b53 {ρ : Type} := shut (lp (bx4 (ρ := ρ)))
theorem ze45 {ρ : Type} : b53 (ρ := ρ) = lp bx4 := av _
def by4 {ρ : Type} (f : adx bx5 b5x ρ) (g h : Int) (e : List Int) (a : Int) (b c : List Int) (d : Int) (i : bst ρ) : Option ρ := f (g, h, e, a, b, c, d) (fun (g, h, e, a, b, c, d) => i g h e a b c d)
def ayu {ρ : Type} := by4 (lp (bx4 (ρ := ρ)))
def ark {ρ : Type} := by4 (b53 (ρ := ρ))
theorem ba1 {ρ : Type} : ark (ρ := ρ) = ayu := congrArg by4 ze45
abbrev zc46 (ρ : Type) := Int → Int → (List Int) → Int → (List Int) → (List Int) → Int → Option ρ
def an7 {ρ : Type} (g c : Int) (a : List Int) (d : Int) (b e : List Int) (f : Int) (nx i : bst ρ) : Option ρ := br (decide (c < 8)) (br (decide (0 ≤ c)) (br (decide (c < (↑8 : Int))) (oz (b.getD c.toNat 0) (IntKind.i64.wrap (g.tdiv 16)) fun h => br (decide ((a.length + h.length) * 1 ≤ 140737488355328)) (nx g (IntKind.i64.wrap (c + 1)) (a ++ h) d b e f) none) none) none) (i g c a d b e f)
abbrev byl := Int × Int × (List Int) × Int × (List Int) × (List Int) × Int
abbrev b5h := byl
def b2o {ρ : Type} (f : byl → Option ρ) : zc46 ρ := fun g h a b c d e => f (g, h, a, b, c, d, e)
def bxp {ρ : Type} : adw byl b5h ρ := fun (f, g, a, b, c, d, e) next ex => an7 f g a b c d e (b2o next) (b2o ex)
def b6h {ρ : Type} := shut (lp (bxp (ρ := ρ)))
theorem ze46 {ρ : Type} : b6h (ρ := ρ) = lp bxp := av _
def byy {ρ : Type} (f : adx byl b5h ρ) (g h : Int) (a : List Int) (b : Int) (c d : List Int) (e : Int) (i : bst ρ) : Option ρ := f (g, h, a, b, c, d, e) (fun (g, h, a, b, c, d, e) => i g h a b c d e)
def avh {ρ : Type} := byy (lp (bxp (ρ := ρ)))
def ajj {ρ : Type} := byy (b6h (ρ := ρ))
theorem aya {ρ : Type} : ajj (ρ := ρ) = avh := congrArg byy ze46
def anu {ρ : Type} (a : Int) (c d : List Int) (b : Int) (k : (List Int) → Option ρ) : Option ρ := ae3 a fun J => arz J (IntKind.u64.wrap (b * 8)) [128] a c d b fun m n o p q r s => br (m == 128) (ark m n [128] p q r s fun M N e t u v i => oz (i.fdiv (2 ^ 61)) 8 fun f => br (decide ((e.length + f.length) * 1 ≤ 140737488355328)) (oz N 8 fun j => br (decide (((e ++ f).length + j.length) * 1 ≤ 140737488355328)) (ahv t u v i (e ++ f ++ j) fun w y z A => ajj M 0 [] w y z A fun O Q g B U W Z => br (B == 2) (br (decide (48 ≤ (↑g.length : Int))) (k (List.take ((48 : Int) - (0 : Int)).toNat g)) none) (k g)) none) none) (oz n 8 fun l => br (decide ((o.length + l.length) * 1 ≤ 140737488355328)) (ahv p q r s (o ++ l) fun C F G H => ajj m 0 [] C F G H fun aa ab h I ac ad ae => br (I == 2) (br (decide (48 ≤ (↑h.length : Int))) (k (List.take ((48 : Int) - (0 : Int)).toNat h)) none) (k h)) none)
def ase {ρ : Type} := shut (anu (ρ := ρ))
theorem bkp {ρ : Type} (b : Int) (a : List Int) (c : List Int) (d : Int) (k : (List Int) → Option ρ) : ase b a c d k = anu b a c d k := by unfold ase; rw [av]

def an9 {ρ : Type} (a : Int) (k : Int → (List Int) → (List Int) → Int → Int → Option ρ) : Option ρ := br (a == 1) (k a [1779033703, 3144134277, 1013904242, 2773480762, 1359893119, 2600822924, 528734635, 1541459225] [] 0 0) (br (a == 2) (k a [14680500436340154072, 7105036623409894663, 10473403895298186519, 1526699215303891257, 7436329637833083697, 10282925794625328401, 15784041429090275239, 5167115440072839076] [] 0 0) (br (a == 3) (k a [7640891576956012808, 13503953896175478587, 4354685564936845355, 11912009170470909681, 5840696475078001361, 11170449401992604703, 2270897969802886507, 6620516959819538809] [] 0 0) (k 0 [0, 0, 0, 0, 0, 0, 0, 0] [] 0 9)))
def ar1 {ρ : Type} := shut (an9 (ρ := ρ))
theorem bkz {ρ : Type} (a : Int) (k : Int → (List Int) → (List Int) → Int → Int → Option ρ) : ar1 a k = an9 a k := by unfold ar1; rw [av]

def anh {ρ : Type} (b : Int) (c : List Int) (k : (List Int) → Int → Option ρ) : Option ρ := ar1 b fun d e f g a => br (a != 0) (k [] a) (ahv d e f g c fun h i j l => ase h i j l fun m => k m 0)
def aq7 {ρ : Type} := shut (anh (ρ := ρ))
theorem bk3 {ρ : Type} (a : Int) (b : List Int) (k : (List Int) → Int → Option ρ) : aq7 a b k = anh a b k := by unfold aq7; rw [av]

abbrev b3u (ρ : Type) := (List Int) → (List Int) → Int → Option ρ
def aoh {ρ : Type} (b c : List Int) (a : Int) (nx d : b3u ρ) (e : Bool → Option ρ) : Option ρ := br (decide (a < (↑b.length : Int))) (br (decide (0 ≤ a)) (br (decide (a < (↑b.length : Int))) (br (decide (0 ≤ a)) (br (decide (a < (↑c.length : Int))) (br (b.getD a.toNat 0 != c.getD a.toNat 0) (e false) (nx b c (IntKind.i64.wrap (a + 1)))) none) none) none) none) (d b c a)
abbrev b34 := (List Int) × (List Int) × Int
abbrev b6c := ((List Int) × (List Int) × Int) ⊕ (Bool)
def b5l {ρ : Type} (f : b34 → Option ρ) : b3u ρ := fun a b c => f (a, b, c)
def bzp {ρ : Type} : adw b34 b6c ρ := fun (a, b, c) next ex => aoh a b c (b5l next) (fun a b c => ex (.inl (a, b, c))) (fun d => ex (.inr d))
def b55 {ρ : Type} := shut (lp (bzp (ρ := ρ)))
theorem ze47 {ρ : Type} : b55 (ρ := ρ) = lp bzp := av _
def bzm {ρ : Type} (f : adx b34 b6c ρ) (a b : List Int) (c : Int) (d : b3u ρ) (e : Bool → Option ρ) : Option ρ := f (a, b, c) (Sum.elim (fun (a, b, c) => d a b c) (fun x => e x))
def av1 {ρ : Type} := bzm (lp (bzp (ρ := ρ)))
def ax0 {ρ : Type} := bzm (b55 (ρ := ρ))
theorem ayh {ρ : Type} : ax0 (ρ := ρ) = av1 := congrArg bzm ze47
def al1 {ρ : Type} (a b : List Int) (k : Bool → Option ρ) : Option ρ := br ((↑a.length : Int) != (↑b.length : Int)) (k false) (ax0 a b 0 (fun d e f => k true) fun c => k c)
def acn {ρ : Type} := shut (al1 (ρ := ρ))
theorem bg0 {ρ : Type} (a : List Int) (b : List Int) (k : Bool → Option ρ) : acn a b k = al1 a b k := by unfold acn; rw [av]











def ag0 {ρ : Type} (a : Int) (k : Int → Int → Int → Option ρ) : Option ρ := br (a == 1) (k 265 7 1) (br (a == 2) (k 133 6 2) (br (a == 4) (k 67 4 3) (br (a == 8) (k 34 0 4) (k 0 0 0))))
def y9 {ρ : Type} := shut (ag0 (ρ := ρ))
theorem ac0 {ρ : Type} (a : Int) (k : Int → Int → Int → Option ρ) : y9 a k = ag0 a k := by unfold y9; rw [av]

abbrev b1e (ρ : Type) := Int → (List Int) → Int → Int → Int → Int → (List Int) → Option ρ
def ai2 {ρ : Type} (c : Int) (e : List Int) (f g d a : Int) (b : List Int) (nx h : b1e ρ) : Option ρ := br (decide (a < (↑b.length : Int))) (br (decide (c < 0)) none (br (decide (0 ≤ a)) (br (decide (a < (↑b.length : Int))) (nx c e f g (IntKind.u64.wrap (IntKind.u64.wrap (d + IntKind.u64.wrap (IntKind.u64.wrap (1 * 2 ^ min c.toNat 64) - 1)) - IntKind.u64.wrap (b.getD a.toNat 0))) (IntKind.i64.wrap (a + 1)) b) none) none)) (h c e f g d a b)
abbrev bzx := Int × (List Int) × Int × Int × Int × Int × (List Int)
abbrev b65 := bzx
def b3e {ρ : Type} (f : bzx → Option ρ) : b1e ρ := fun c d e g a b h => f (c, d, e, g, a, b, h)
def by3 {ρ : Type} : adw bzx b65 ρ := fun (c, d, e, f, a, b, g) next ex => ai2 c d e f a b g (b3e next) (b3e ex)
def b5y {ρ : Type} := shut (lp (by3 (ρ := ρ)))
theorem ze48 {ρ : Type} : b5y (ρ := ρ) = lp by3 := av _
def byc {ρ : Type} (f : adx bzx b65 ρ) (c : Int) (d : List Int) (e g a b : Int) (h : List Int) (i : b1e ρ) : Option ρ := f (c, d, e, g, a, b, h) (fun (c, d, e, g, a, b, h) => i c d e g a b h)
def aou {ρ : Type} := byc (lp (by3 (ρ := ρ)))
def apa {ρ : Type} := byc (b5y (ρ := ρ))
theorem att {ρ : Type} : apa (ρ := ρ) = aou := congrArg byc ze48
def ah6 {ρ : Type} (a : Int) (b : List Int) (k : (List Int) → Int → Option ρ) : Option ρ := y9 a fun c h p => br (c == 0) (k [] 9) (br ((↑b.length : Int) != 32) (k [] 14) (br (decide (a = 0)) none (ac6 b a (IntKind.i64.wrap (Int.tdiv 256 a)) fun i => apa a b c h 0 0 i fun j l m d n q o => br (decide (d < 0)) none (oz (IntKind.u64.wrap (n * 2 ^ min d.toNat 64)) 2 fun e => yg [l, e] fun f => ac6 f j m fun g => k g 0))))
def air {ρ : Type} := shut (ah6 (ρ := ρ))
theorem bcp {ρ : Type} (a : Int) (b : List Int) (k : (List Int) → Int → Option ρ) : air a b k = ah6 a b k := by unfold air; rw [av]

def ahf {ρ : Type} (b : Int) (k : Int → Option ρ) : Option ρ := y9 b fun a c d => br (a == 0) (k 0) (k (IntKind.i64.wrap (36 + IntKind.i64.wrap (32 * a))))
def aa8 {ρ : Type} := shut (ahf (ρ := ρ))
theorem axn {ρ : Type} (a : Int) (k : Int → Option ρ) : aa8 a k = ahf a k := by unfold aa8; rw [av]

















def ai3 {ρ : Type} (a : Int) (b c : List Int) (k : Int → Option ρ) : Option ρ := y9 a fun d e f => br (d == 0) (k 9) (br ((↑b.length : Int) != 16) (k 14) (br ((↑c.length : Int) != 32) (k 14) (k 0)))
def aky {ρ : Type} := shut (ai3 (ρ := ρ))
theorem bev {ρ : Type} (a : Int) (b : List Int) (c : List Int) (k : Int → Option ρ) : aky a b c k = ai3 a b c k := by unfold aky; rw [av]

def axv {ρ : Type} (a : List (List Int)) (k : (List Int) → Option ρ) : Option ρ := yg a fun b => aq7 1 b fun c d => k c
def ax5 {ρ : Type} := shut (axv (ρ := ρ))
theorem bo4 {ρ : Type} (a : List (List Int)) (k : (List Int) → Option ρ) : ax5 a k = axv a k := by unfold ax5; rw [av]

def akn {ρ : Type} (a : List Int) (b c : Int) (d : List Int) (k : (List Int) → Option ρ) : Option ρ := oz (IntKind.u64.wrap b) 4 fun e => oz (IntKind.u64.wrap c) 2 fun f => ax5 [a, e, f, [255], d] fun g => k g
def aml {ρ : Type} := shut (akn (ρ := ρ))
theorem bhm {ρ : Type} (a : List Int) (b : Int) (c : Int) (d : List Int) (k : (List Int) → Option ρ) : aml a b c d k = akn a b c d k := by unfold aml; rw [av]

abbrev b0y (ρ : Type) := (List Int) → Int → Int → Int → (List Int) → Int → Option ρ
def ak9 {ρ : Type} (b : List Int) (c d e : Int) (f : List Int) (a : Int) (nx g : b0y ρ) : Option ρ := br (decide (a < e)) (oz (IntKind.u64.wrap c) 4 fun h => oz (IntKind.u64.wrap d) 2 fun i => ax5 [b, h, i, [IntKind.u8.wrap a], f] fun j => nx b c d e j (IntKind.i64.wrap (a + 1))) (g b c d e f a)
abbrev byg := (List Int) × Int × Int × Int × (List Int) × Int
abbrev b59 := byg
def b0f {ρ : Type} (f : byg → Option ρ) : b0y ρ := fun b c d e g a => f (b, c, d, e, g, a)
def bzi {ρ : Type} : adw byg b59 ρ := fun (b, c, d, e, f, a) next ex => ak9 b c d e f a (b0f next) (b0f ex)
def b5w {ρ : Type} := shut (lp (bzi (ρ := ρ)))
theorem ze49 {ρ : Type} : b5w (ρ := ρ) = lp bzi := av _
def bzc {ρ : Type} (f : adx byg b59 ρ) (b : List Int) (c d e : Int) (g : List Int) (a : Int) (h : b0y ρ) : Option ρ := f (b, c, d, e, g, a) (fun (b, c, d, e, g, a) => h b c d e g a)
def atg {ρ : Type} := bzc (lp (bzi (ρ := ρ)))
def as6 {ρ : Type} := bzc (b5w (ρ := ρ))
theorem av8 {ρ : Type} : as6 (ρ := ρ) = atg := congrArg bzc ze49
def ajs {ρ : Type} (a : List Int) (b c d e : Int) (f : List Int) (k : (List Int) → Option ρ) : Option ρ := as6 a b c e f d fun h i j l g m => k g
def aic {ρ : Type} := shut (ajs (ρ := ρ))
theorem bey {ρ : Type} (a : List Int) (b : Int) (c : Int) (d : Int) (e : Int) (f : List Int) (k : (List Int) → Option ρ) : aic a b c d e f k = ajs a b c d e f k := by unfold aic; rw [av]

def anl {ρ : Type} (a : List Int) (b : Int) (c : List (List Int)) (k : (List Int) → Option ρ) : Option ρ := oz (IntKind.u64.wrap b) 4 fun d => oz 32896 2 fun e => yg c fun f => ax5 [a, d, e, f] fun g => k g
def awj {ρ : Type} := shut (anl (ρ := ρ))
theorem bkl {ρ : Type} (a : List Int) (b : Int) (c : List (List Int)) (k : (List Int) → Option ρ) : awj a b c k = anl a b c k := by unfold awj; rw [av]

abbrev b2w (ρ : Type) := Int → (List Int) → Int → (List Int) → Int → Int → (List (List Int)) → Option ρ
def ajx {ρ : Type} (c : Int) (d : List Int) (e : Int) (f : List Int) (b a : Int) (g : List (List Int)) (nx h : b2w ρ) : Option ρ := br (decide (a < b)) (br (decide (c < 0)) none (aml d e a f fun i => aic d e a 0 (IntKind.i64.wrap (IntKind.i64.wrap (1 * 2 ^ min c.toNat 64) - 1)) i fun j => br (decide ((g.length + 1) * 24 ≤ 140737488355328)) (nx c d e f b (IntKind.i64.wrap (a + 1)) (g ++ [j])) none)) (h c d e f b a g)
abbrev bzs := Int × (List Int) × Int × (List Int) × Int × Int × (List (List Int))
abbrev b6l := bzs
def b36 {ρ : Type} (f : bzs → Option ρ) : b2w ρ := fun c d e g a b h => f (c, d, e, g, a, b, h)
def bxi {ρ : Type} : adw bzs b6l ρ := fun (c, d, e, f, a, b, g) next ex => ajx c d e f a b g (b36 next) (b36 ex)
def b7b {ρ : Type} := shut (lp (bxi (ρ := ρ)))
theorem ze50 {ρ : Type} : b7b (ρ := ρ) = lp bxi := av _
def bzo {ρ : Type} (f : adx bzs b6l ρ) (c : Int) (d : List Int) (e : Int) (g : List Int) (a b : Int) (h : List (List Int)) (i : b2w ρ) : Option ρ := f (c, d, e, g, a, b, h) (fun (c, d, e, g, a, b, h) => i c d e g a b h)
def ao0 {ρ : Type} := bzo (lp (bxi (ρ := ρ)))
def aoy {ρ : Type} := bzo (b7b (ρ := ρ))
theorem at5 {ρ : Type} : aoy (ρ := ρ) = ao0 := congrArg bzo ze50
def ah2 {ρ : Type} (a : Int) (b : List Int) (g : Int) (c : List Int) (k : (List Int) → Int → Option ρ) : Option ρ := aky a b c fun d => br (d != 0) (k [] d) (y9 a fun h l m => aoy a b g c h 0 [] fun n i j o p q e => awj i j e fun f => k f 0)
def amr {ρ : Type} := shut (ah2 (ρ := ρ))
theorem bbh {ρ : Type} (a : Int) (b : List Int) (c : Int) (d : List Int) (k : (List Int) → Int → Option ρ) : amr a b c d k = ah2 a b c d k := by unfold amr; rw [av]

def ahs {ρ : Type} (a : List Int) (b : Int) (c d : List Int) (k : (List Int) → Option ρ) : Option ρ := oz (IntKind.u64.wrap b) 4 fun e => oz 33153 2 fun f => ax5 [a, e, f, c, d] fun g => k g
def aip {ρ : Type} := shut (ahs (ρ := ρ))
theorem bcl {ρ : Type} (a : List Int) (b : Int) (c : List Int) (d : List Int) (k : (List Int) → Option ρ) : aip a b c d k = ahs a b c d k := by unfold aip; rw [av]

abbrev b1h (ρ : Type) := (List Int) → Int → (List Int) → Int → (List (List Int)) → (List Int) → Option ρ
def anc {ρ : Type} (d : List Int) (e : Int) (f : List Int) (a : Int) (b : List (List Int)) (c : List Int) (nx g : b1h ρ) : Option ρ := br (decide (a < (↑c.length : Int))) (br (decide (0 ≤ a)) (br (decide (a < (↑c.length : Int))) (aml d e a f fun h => aic d e a 0 (IntKind.i64.wrap (c.getD a.toNat 0)) h fun i => br (decide ((b.length + 1) * 24 ≤ 140737488355328)) (nx d e f (IntKind.i64.wrap (a + 1)) (b ++ [i]) c) none) none) none) (g d e f a b c)
abbrev bx3 := (List Int) × Int × (List Int) × Int × (List (List Int)) × (List Int)
abbrev b6w := bx3
def b2z {ρ : Type} (f : bx3 → Option ρ) : b1h ρ := fun c d e a b g => f (c, d, e, a, b, g)
def bzf {ρ : Type} : adw bx3 b6w ρ := fun (c, d, e, a, b, f) next ex => anc c d e a b f (b2z next) (b2z ex)
def b63 {ρ : Type} := shut (lp (bzf (ρ := ρ)))
theorem ze51 {ρ : Type} : b63 (ρ := ρ) = lp bzf := av _
def bzg {ρ : Type} (f : adx bx3 b6w ρ) (c : List Int) (d : Int) (e : List Int) (a : Int) (b : List (List Int)) (g : List Int) (h : b1h ρ) : Option ρ := f (c, d, e, a, b, g) (fun (c, d, e, a, b, g) => h c d e a b g)
def awg {ρ : Type} := bzg (lp (bzf (ρ := ρ)))
def awr {ρ : Type} := bzg (b63 (ρ := ρ))
theorem ax6 {ρ : Type} : awr (ρ := ρ) = awg := congrArg bzg ze51
def aln {ρ : Type} (b : Int) (a : List Int) (c : Int) (d i : List Int) (k : (List Int) → Int → Option ρ) : Option ρ := aky b a d fun e => br (e != 0) (k [] e) (y9 b fun s t j => aml a c 65533 d fun f => aip a c f i fun l => air b l fun m u => oz j 4 fun n => awr a c d 0 [n, f] m fun v o p q g r => yg g fun h => k h 0)
def aur {ρ : Type} := shut (aln (ρ := ρ))
theorem bg7 {ρ : Type} (a : Int) (b : List Int) (c : Int) (d : List Int) (e : List Int) (k : (List Int) → Int → Option ρ) : aur a b c d e k = aln a b c d e k := by unfold aur; rw [av]

abbrev bz4 (ρ : Type) := Int → (List Int) → Int → (List Int) → Int → Int → (List (List Int)) → (List Int) → Option ρ
def aed {ρ : Type} (d : Int) (g : List Int) (h : Int) (e : List Int) (b a : Int) (c : List (List Int)) (f : List Int) (nx i : bz4 ρ) : Option ρ := br (decide (a < b)) (br (decide (0 ≤ a)) (br (decide (a < (↑f.length : Int))) (br (decide (d < 0)) none (br (decide (0 ≤ IntKind.i64.wrap (36 + IntKind.i64.wrap (32 * a)))) (br (decide (IntKind.i64.wrap (36 + IntKind.i64.wrap (32 * a)) ≤ IntKind.i64.wrap (68 + IntKind.i64.wrap (32 * a)))) (br (decide (IntKind.i64.wrap (68 + IntKind.i64.wrap (32 * a)) ≤ (↑e.length : Int))) (aic g h a (IntKind.i64.wrap (f.getD a.toNat 0)) (IntKind.i64.wrap (IntKind.i64.wrap (1 * 2 ^ min d.toNat 64) - 1)) (List.drop (IntKind.i64.wrap (36 + IntKind.i64.wrap (32 * a))).toNat (List.take (IntKind.i64.wrap (68 + IntKind.i64.wrap (32 * a))).toNat e)) fun j => br (decide ((c.length + 1) * 24 ≤ 140737488355328)) (nx d g h e b (IntKind.i64.wrap (a + 1)) (c ++ [j]) f) none) none) none) none)) none) none) (i d g h e b a c f)
abbrev bxv := Int × (List Int) × Int × (List Int) × Int × Int × (List (List Int)) × (List Int)
abbrev b60 := bxv
def b26 {ρ : Type} (f : bxv → Option ρ) : bz4 ρ := fun d e g h a b c i => f (d, e, g, h, a, b, c, i)
def by5 {ρ : Type} : adw bxv b60 ρ := fun (d, e, f, g, a, b, c, h) next ex => aed d e f g a b c h (b26 next) (b26 ex)
def b66 {ρ : Type} := shut (lp (by5 (ρ := ρ)))
theorem ze52 {ρ : Type} : b66 (ρ := ρ) = lp by5 := av _
def byv {ρ : Type} (f : adx bxv b60 ρ) (d : Int) (e : List Int) (g : Int) (h : List Int) (a b : Int) (c : List (List Int)) (i : List Int) (j : bz4 ρ) : Option ρ := f (d, e, g, h, a, b, c, i) (fun (d, e, g, h, a, b, c, i) => j d e g h a b c i)
def aiw {ρ : Type} := byv (lp (by5 (ρ := ρ)))
def aij {ρ : Type} := byv (b66 (ρ := ρ))
theorem amx {ρ : Type} : aij (ρ := ρ) = aiw := congrArg byv ze52
def aeb {ρ : Type} (b : Int) (c : List Int) (d : Int) (i a : List Int) (k : (List Int) → Int → Option ρ) : Option ρ := y9 b fun e u j => br (e == 0) (k [] 9) (br ((↑c.length : Int) != 16) (k [] 14) (aa8 b fun l => br ((↑a.length : Int) != l) (k [] 1) (br (decide (4 ≤ (↑a.length : Int))) (acf (List.drop 0 (List.take (Int.toNat 4) a)) fun m => br (m != j) (k [] 1) (br (decide (36 ≤ (↑a.length : Int))) (aip c d (List.drop 4 (List.take (Int.toNat 36) a)) i fun n => air b n fun o v => aij b c d a e 0 [] o fun w p f q r s g t => awj p f g fun h => k h 0) none)) none)))
def afx {ρ : Type} := shut (aeb (ρ := ρ))
theorem aud {ρ : Type} (a : Int) (b : List Int) (c : Int) (d : List Int) (e : List Int) (k : (List Int) → Int → Option ρ) : afx a b c d e k = aeb a b c d e k := by unfold afx; rw [av]

def ae0 {ρ : Type} (b a : Int) (nx d : Int → Int → Option ρ) (e : Int → Option ρ) : Option ρ := br (decide (a ≤ 8)) (y9 a fun f g c => br (c == b) (br (c != 0) (e a) (nx b (IntKind.i64.wrap (a + 1)))) (nx b (IntKind.i64.wrap (a + 1)))) (d b a)
abbrev b5r := Int × Int
abbrev b6t := (Int × Int) ⊕ (Int)
def byb {ρ : Type} : adw b5r b6t ρ := fun (a, b) next ex => ae0 a b (fun a b => next (a, b)) (fun a b => ex (.inl (a, b))) (fun c => ex (.inr c))
def b6b {ρ : Type} := shut (lp (byb (ρ := ρ)))
theorem ze53 {ρ : Type} : b6b (ρ := ρ) = lp byb := av _
def byw {ρ : Type} (f : adx b5r b6t ρ) (a b : Int) (c : Int → Int → Option ρ) (d : Int → Option ρ) : Option ρ := f (a, b) (Sum.elim (fun (a, b) => c a b) (fun x => d x))
def ata {ρ : Type} := byw (lp (byb (ρ := ρ)))
def atj {ρ : Type} := byw (b6b (ρ := ρ))
theorem axx {ρ : Type} : atj (ρ := ρ) = ata := congrArg byw ze53
def ai1 {ρ : Type} (a : Int) (k : Int → Option ρ) : Option ρ := atj a 1 (fun c d => k 0) fun b => k b
def y5 {ρ : Type} := shut (ai1 (ρ := ρ))
theorem bdq {ρ : Type} (a : Int) (k : Int → Option ρ) : y5 a k = ai1 a k := by unfold y5; rw [av]

def ag2 {ρ : Type} (a : Int) (k : Int → Option ρ) : Option ρ := br (decide (a ≥ (1 : Int))) (br (decide (a ≤ (4 : Int))) (k (IntKind.u64.wrap ((3758096384 : Int) + IntKind.u64.wrap a))) (br (decide (a ≥ (5 : Int))) (br (decide (a ≤ (25 : Int))) (br (a.tmod (5 : Int) == (0 : Int)) (k (IntKind.u64.wrap (IntKind.i64.wrap ((4 : Int) + IntKind.i64.wrap (a.tdiv (5 : Int)))))) (k (0 : Int))) (k (0 : Int))) (k (0 : Int)))) (br (decide (a ≥ (5 : Int))) (br (decide (a ≤ (25 : Int))) (br (a.tmod (5 : Int) == (0 : Int)) (k (IntKind.u64.wrap (IntKind.i64.wrap ((4 : Int) + IntKind.i64.wrap (a.tdiv (5 : Int)))))) (k (0 : Int))) (k (0 : Int))) (k (0 : Int)))
def aan {ρ : Type} := shut (ag2 (ρ := ρ))
theorem av7 {ρ : Type} (a : Int) (k : Int → Option ρ) : aan a k = ag2 a k := by unfold aan; rw [av]

def ade {ρ : Type} (b a : Int) (nx c : Int → Int → Option ρ) (d : Int → Option ρ) : Option ρ := br (decide (a ≤ 25)) (aan a fun e => br (e == b) (br (b != 0) (d a) (nx b (IntKind.i64.wrap (a + 1)))) (nx b (IntKind.i64.wrap (a + 1)))) (c b a)
abbrev b54 := Int × Int
abbrev b51 := (Int × Int) ⊕ (Int)
def bxr {ρ : Type} : adw b54 b51 ρ := fun (a, b) next ex => ade a b (fun a b => next (a, b)) (fun a b => ex (.inl (a, b))) (fun c => ex (.inr c))
def b6q {ρ : Type} := shut (lp (bxr (ρ := ρ)))
theorem ze54 {ρ : Type} : b6q (ρ := ρ) = lp bxr := av _
def byk {ρ : Type} (f : adx b54 b51 ρ) (a b : Int) (c : Int → Int → Option ρ) (d : Int → Option ρ) : Option ρ := f (a, b) (Sum.elim (fun (a, b) => c a b) (fun x => d x))
def aqu {ρ : Type} := byk (lp (bxr (ρ := ρ)))
def apc {ρ : Type} := byk (b6q (ρ := ρ))
theorem ato {ρ : Type} : apc (ρ := ρ) = aqu := congrArg byk ze54
def ahx {ρ : Type} (a : Int) (k : Int → Option ρ) : Option ρ := apc a 1 (fun c d => k 0) fun b => k b
def uq {ρ : Type} := shut (ahx (ρ := ρ))
theorem bal {ρ : Type} (a : Int) (k : Int → Option ρ) : uq a k = ahx a k := by unfold uq; rw [av]

def aoa {ρ : Type} (a : List Int) (k : (List Int) → Int → Int → (List Int) → Int → Option ρ) : Option ρ := br (decide ((↑a.length : Int) < 8)) (k [] 0 0 [] 1) (br (decide (8 ≤ (↑a.length : Int))) (acf (List.drop 4 (List.take (Int.toNat 8) a)) fun e => y5 e fun d => br (d == 0) (k [] 0 0 [] 9) (aa8 d fun b => br (decide ((↑a.length : Int) < IntKind.i64.wrap (IntKind.i64.wrap (4 + b) + 4))) (k [] 0 0 [] 1) (br (decide (0 ≤ IntKind.i64.wrap (4 + b))) (br (decide (IntKind.i64.wrap (4 + b) ≤ IntKind.i64.wrap (IntKind.i64.wrap (4 + b) + 4))) (br (decide (IntKind.i64.wrap (IntKind.i64.wrap (4 + b) + 4) ≤ (↑a.length : Int))) (acf (List.drop (IntKind.i64.wrap (4 + b)).toNat (List.take (IntKind.i64.wrap (IntKind.i64.wrap (4 + b) + 4)).toNat a)) fun f => uq f fun c => br (c == 0) (k [] 0 0 [] 9) (br (decide ((↑a.length : Int) < IntKind.i64.wrap (IntKind.i64.wrap (IntKind.i64.wrap (4 + b) + 4) + IntKind.i64.wrap (32 * c)))) (k [] 0 0 [] 1) (br (decide (0 ≤ IntKind.i64.wrap (IntKind.i64.wrap (IntKind.i64.wrap (4 + b) + 4) + IntKind.i64.wrap (32 * c)))) (br (decide (IntKind.i64.wrap (IntKind.i64.wrap (IntKind.i64.wrap (4 + b) + 4) + IntKind.i64.wrap (32 * c)) ≤ (↑a.length : Int))) (br (decide (0 ≤ IntKind.i64.wrap (IntKind.i64.wrap (IntKind.i64.wrap (4 + b) + 4) + IntKind.i64.wrap (32 * c)))) (br (decide (IntKind.i64.wrap (IntKind.i64.wrap (IntKind.i64.wrap (4 + b) + 4) + IntKind.i64.wrap (32 * c)) ≤ (↑a.length : Int))) (br (decide ((↑a.length : Int) ≤ (↑a.length : Int))) (k (List.drop 0 (List.take (IntKind.i64.wrap (IntKind.i64.wrap (IntKind.i64.wrap (4 + b) + 4) + IntKind.i64.wrap (32 * c))).toNat a)) c d (List.drop (IntKind.i64.wrap (IntKind.i64.wrap (IntKind.i64.wrap (4 + b) + 4) + IntKind.i64.wrap (32 * c))).toNat (List.take (↑a.length : Int).toNat a)) 0) none) none) none) none) none))) none) none) none))) none)
def agc {ρ : Type} := shut (aoa (ρ := ρ))
theorem bkg {ρ : Type} (a : List Int) (k : (List Int) → Int → Int → (List Int) → Int → Option ρ) : agc a k = aoa a k := by unfold agc; rw [av]

def ak4 {ρ : Type} (a b : Int) (k : (List Int) → Option ρ) : Option ρ := y9 b fun g h e => aan a fun f => oz f 4 fun c => oz e 4 fun d => br (decide ((c.length + d.length) * 1 ≤ 140737488355328)) (k (c ++ d)) none
def aqk {ρ : Type} := shut (ak4 (ρ := ρ))
theorem bhi {ρ : Type} (a : Int) (b : Int) (k : (List Int) → Option ρ) : aqk a b k = ak4 a b k := by unfold aqk; rw [av]

def agh {ρ : Type} (a : List Int) (b : Int) (c : List Int) (k : (List Int) → Option ρ) : Option ρ := oz b 4 fun d => oz 33410 2 fun e => ax5 [a, d, e, c] fun f => k f
def aak {ρ : Type} := shut (agh (ρ := ρ))
theorem ayn {ρ : Type} (a : List Int) (b : Int) (c : List Int) (k : (List Int) → Option ρ) : aak a b c k = agh a b c k := by unfold aak; rw [av]

def ako {ρ : Type} (a : List Int) (b : Int) (c d : List Int) (k : (List Int) → Option ρ) : Option ρ := oz b 4 fun e => oz 33667 2 fun f => ax5 [a, e, f, c, d] fun g => k g
def aes {ρ : Type} := shut (ako (ρ := ρ))
theorem bhp {ρ : Type} (a : List Int) (b : Int) (c : List Int) (d : List Int) (k : (List Int) → Option ρ) : aes a b c d k = ako a b c d k := by unfold aes; rw [av]

abbrev b1g (ρ : Type) := (List Int) → (List Int) → Int → (List Int) → (List Int) → Option ρ
def ahz {ρ : Type} (e c : List Int) (b : Int) (d a : List Int) (nx f : b1g ρ) : Option ρ := br (decide (b > (1 : Int))) (br (b.tmod (2 : Int) == (0 : Int)) (br (decide ((32 : Int) ≤ (↑a.length : Int))) (aes c (IntKind.u64.wrap (b.tdiv (2 : Int))) d (List.drop 0 (List.take (Int.toNat (32 : Int)) a)) fun g => br (decide ((32 : Int) ≤ (↑a.length : Int))) (br (decide ((↑a.length : Int) ≤ (↑a.length : Int))) (nx e c (IntKind.u64.wrap (b.tdiv (2 : Int))) g (List.drop 32 (List.take (↑a.length : Int).toNat a))) none) none) none) (br (decide ((32 : Int) ≤ (↑a.length : Int))) (aes c (IntKind.u64.wrap (b.tdiv (2 : Int))) (List.drop 0 (List.take (Int.toNat (32 : Int)) a)) d fun h => br (decide ((32 : Int) ≤ (↑a.length : Int))) (br (decide ((↑a.length : Int) ≤ (↑a.length : Int))) (nx e c (IntKind.u64.wrap (b.tdiv (2 : Int))) h (List.drop 32 (List.take (↑a.length : Int).toNat a))) none) none) none)) (f e c b d a)
abbrev bye := (List Int) × (List Int) × Int × (List Int) × (List Int)
abbrev b5e := bye
def b27 {ρ : Type} (f : bye → Option ρ) : b1g ρ := fun e a b c d => f (e, a, b, c, d)
def bzt {ρ : Type} : adw bye b5e ρ := fun (e, a, b, c, d) next ex => ahz e a b c d (b27 next) (b27 ex)
def b5u {ρ : Type} := shut (lp (bzt (ρ := ρ)))
theorem ze55 {ρ : Type} : b5u (ρ := ρ) = lp bzt := av _
def byx {ρ : Type} (f : adx bye b5e ρ) (e a : List Int) (b : Int) (c d : List Int) (g : b1g ρ) : Option ρ := f (e, a, b, c, d) (fun (e, a, b, c, d) => g e a b c d)
def am8 {ρ : Type} := byx (lp (bzt (ρ := ρ)))
def aho {ρ : Type} := byx (b5u (ρ := ρ))
theorem aq9 {ρ : Type} : aho (ρ := ρ) = am8 := congrArg byx ze55
def o8 {ρ : Type} (a o b : List Int) (k : Int → Option ρ) : Option ρ := br ((↑a.length : Int) != 56) (k 10) (br (decide (4 ≤ (↑a.length : Int))) (acf (List.drop 0 (List.take (Int.toNat 4) a)) fun p => uq p fun q => br (q == 0) (k 10) (br (decide (8 ≤ (↑a.length : Int))) (acf (List.drop 4 (List.take (Int.toNat 8) a)) fun r => y5 r fun s => br (s == 0) (k 10) (agc b fun A f g t h => br (h != 0) (k h) (br (decide ((↑t.length : Int) > 0)) (k 1) (aqk f g fun u => br (decide (8 ≤ (↑a.length : Int))) (acn u (List.drop 0 (List.take (Int.toNat 8) a)) fun i => br (!i) (k 1) (br (decide (4 ≤ (↑b.length : Int))) (acf (List.drop 0 (List.take (Int.toNat 4) b)) fun e => br (decide (f < 0)) none (br (decide (e ≥ IntKind.u64.wrap (1 * 2 ^ min f.toNat 64))) (k 13) (br (decide (24 ≤ (↑a.length : Int))) (aa8 g fun c => br (decide (4 ≤ IntKind.i64.wrap (4 + c))) (br (decide (IntKind.i64.wrap (4 + c) ≤ (↑b.length : Int))) (afx g (List.drop 8 (List.take (Int.toNat 24) a)) (IntKind.u32.wrap e) o (List.drop 4 (List.take (IntKind.i64.wrap (4 + c)).toNat b)) fun j v => br (decide (f < 0)) none (aak (List.drop 8 (List.take (Int.toNat 24) a)) (IntKind.u64.wrap (IntKind.u64.wrap (1 * 2 ^ min f.toNat 64) + e)) j fun l => br (decide (0 ≤ IntKind.i64.wrap (8 + c))) (br (decide (IntKind.i64.wrap (8 + c) ≤ (↑b.length : Int))) (br (decide ((↑b.length : Int) ≤ (↑b.length : Int))) (aho a (List.drop 8 (List.take (Int.toNat 24) a)) (IntKind.u64.wrap (IntKind.u64.wrap (1 * 2 ^ min f.toNat 64) + e)) l (List.drop (IntKind.i64.wrap (8 + c)).toNat (List.take (↑b.length : Int).toNat b)) fun d w y m z => br (decide (24 ≤ (↑d.length : Int))) (br (decide ((↑d.length : Int) ≤ (↑d.length : Int))) (acn m (List.drop 24 (List.take (↑d.length : Int).toNat d)) fun n => br (!n) (k 11) (k 0)) none) none) none) none) none)) none) none) none))) none)) none)))) none)) none)
def ail {ρ : Type} := shut (o8 (ρ := ρ))
theorem bbm {ρ : Type} (a : List Int) (b : List Int) (c : List Int) (k : Int → Option ρ) : ail a b c k = o8 a b c k := by unfold ail; rw [av]







def an1 {ρ : Type} (a b : Int) (k : Bool → Option ρ) : Option ρ := aan a fun c => br (c != 0) (aa8 b fun d => k (d != 0)) (k false)
def aq1 {ρ : Type} := shut (an1 (ρ := ρ))
theorem bkm {ρ : Type} (a : Int) (b : Int) (k : Bool → Option ρ) : aq1 a b k = an1 a b k := by unfold aq1; rw [av]

abbrev b2p (ρ : Type) := Int → Int → Nat → (List Int) → (List Int) → (List Int) → (List Int) → Option ρ
def af2 {ρ : Type} (h d : Int) (c : Nat) (a b e f : List Int) (nx i : b2p ρ) (g : Bool → Int → Int → Int → Int → Nat → (List Int) → (List Int) → (List Int) → (List Int) → Option ρ) : Option ρ := br (decide (d < (↑c : Int))) (br (decide ((0 : Int) ≤ d)) (br (decide (d < (↑c : Int))) (br (decide (d ≥ (8 : Int))) (g false (a.getD d.toNat (0 : Int)) (b.getD d.toNat (0 : Int)) (0 : Int) (0 : Int) c a b e f) (aq1 (a.getD d.toNat (0 : Int)) (b.getD d.toNat (0 : Int)) fun j => br (!j) (g false (a.getD d.toNat (0 : Int)) (b.getD d.toNat (0 : Int)) (0 : Int) (0 : Int) c a b e f) (br (decide (a.getD d.toNat (0 : Int) > (10 : Int))) (g false (a.getD d.toNat (0 : Int)) (b.getD d.toNat (0 : Int)) (0 : Int) (0 : Int) c a b e f) (nx (IntKind.i64.wrap (h + a.getD d.toNat (0 : Int))) (IntKind.i64.wrap (d + (1 : Int))) c a b e f)))) none) none) (i h d c a b e f)
abbrev bzz := Int × Int × Nat × (List Int) × (List Int) × (List Int) × (List Int)
abbrev b50 := (Int × Int × Nat × (List Int) × (List Int) × (List Int) × (List Int)) ⊕ (Bool × Int × Int × Int × Int × Nat × (List Int) × (List Int) × (List Int) × (List Int))
def b4v {ρ : Type} (f : bzz → Option ρ) : b2p ρ := fun g h a b c d e => f (g, h, a, b, c, d, e)
def bve {ρ : Type} : adw bzz b50 ρ := fun (h, i, a, b, c, d, e) next ex => af2 h i a b c d e (b4v next) (fun h i a b c d e => ex (.inl (h, i, a, b, c, d, e))) (fun l j k f g a b c d e => ex (.inr (l, j, k, f, g, a, b, c, d, e)))
def b6f {ρ : Type} := shut (lp (bve (ρ := ρ)))
theorem ze56 {ρ : Type} : b6f (ρ := ρ) = lp bve := av _
def bvd {ρ : Type} (f : adx bzz b50 ρ) (g h : Int) (a : Nat) (b c d e : List Int) (i : b2p ρ) (j : Bool → Int → Int → Int → Int → Nat → (List Int) → (List Int) → (List Int) → (List Int) → Option ρ) : Option ρ := f (g, h, a, b, c, d, e) (Sum.elim (fun (g, h, a, b, c, d, e) => i g h a b c d e) (fun x => j x.1 x.2.1 x.2.2.1 x.2.2.2.1 x.2.2.2.2.1 x.2.2.2.2.2.1 x.2.2.2.2.2.2.1 x.2.2.2.2.2.2.2.1 x.2.2.2.2.2.2.2.2.1 x.2.2.2.2.2.2.2.2.2))
def aqz {ρ : Type} := bvd (lp (bve (ρ := ρ)))
def azt {ρ : Type} := bvd (b6f (ρ := ρ))
theorem ap7 {ρ : Type} : azt (ρ := ρ) = aqz := congrArg bvd ze56
def ai8 {ρ : Type} (a : Nat) (b c e d : List Int) (k : Bool → Option ρ) : Option ρ := azt 0 0 a b c e d (fun f s g t u h i => br (decide ((↑g : Int) ≥ 1)) (br (decide (f ≤ 60)) (br ((↑h.length : Int) == 16) (k ((↑i.length : Int) == 32)) (k false)) (k false)) (k false)) fun j v w l m n o p q r => k j
def bah {ρ : Type} := shut (ai8 (ρ := ρ))
theorem ayr {ρ : Type} (a : Nat) (b : List Int) (c : List Int) (e : List Int) (d : List Int) (k : Bool → Option ρ) : bah a b c e d k = ai8 a b c e d k := by unfold bah; rw [av]











def ze {ρ : Type} (a b : Int) (c d : List Int) (k : Int → Option ρ) : Option ρ := aq1 a b fun e => br (!e) (k 9) (br ((↑c.length : Int) != 16) (k 14) (br ((↑d.length : Int) != 32) (k 14) (br (decide (a > 10)) (k 8) (k 0))))
def afd {ρ : Type} := shut (ze (ρ := ρ))
theorem bd7 {ρ : Type} (a : Int) (b : Int) (c : List Int) (d : List Int) (k : Int → Option ρ) : afd a b c d k = ze a b c d k := by unfold afd; rw [av]

abbrev b3z (ρ : Type) := (List Int) → (List Int) → Int → Int → Int → Int → (List (List Int)) → Option ρ
def alk {ρ : Type} (e g : List Int) (f a d b : Int) (c : List (List Int)) (nx h : b3z ρ) : Option ρ := br (decide (a ≥ 1)) (br (decide (a ≥ f)) (amr b e (IntKind.u32.wrap (IntKind.i64.wrap (a - f))) g fun i l => aak e (IntKind.u64.wrap a) i fun j => br (decide (0 ≤ a)) (br (decide (a < (↑c.length : Int))) (nx e g f (IntKind.i64.wrap (a - 1)) d b (c.set a.toNat j)) none) none) (br (decide (0 ≤ IntKind.i64.wrap (2 * a))) (br (decide (IntKind.i64.wrap (2 * a) < (↑c.length : Int))) (br (decide (0 ≤ IntKind.i64.wrap (IntKind.i64.wrap (2 * a) + 1))) (br (decide (IntKind.i64.wrap (IntKind.i64.wrap (2 * a) + 1) < (↑c.length : Int))) (aes e (IntKind.u64.wrap a) (c.getD (IntKind.i64.wrap (2 * a)).toNat []) (c.getD (IntKind.i64.wrap (IntKind.i64.wrap (2 * a) + 1)).toNat []) fun k => br (decide (0 ≤ a)) (br (decide (a < (↑c.length : Int))) (nx e g f (IntKind.i64.wrap (a - 1)) d b (c.set a.toNat k)) none) none) none) none) none) none)) (h e g f a d b c)
abbrev byp := (List Int) × (List Int) × Int × Int × Int × Int × (List (List Int))
abbrev b5i := byp
def b4b {ρ : Type} (f : byp → Option ρ) : b3z ρ := fun c d e g a b h => f (c, d, e, g, a, b, h)
def bys {ρ : Type} : adw byp b5i ρ := fun (c, d, e, f, a, b, g) next ex => alk c d e f a b g (b4b next) (b4b ex)
def b46 {ρ : Type} := shut (lp (bys (ρ := ρ)))
theorem ze57 {ρ : Type} : b46 (ρ := ρ) = lp bys := av _
def by8 {ρ : Type} (f : adx byp b5i ρ) (c d : List Int) (e g a b : Int) (h : List (List Int)) (i : b3z ρ) : Option ρ := f (c, d, e, g, a, b, h) (fun (c, d, e, g, a, b, h) => i c d e g a b h)
def as1 {ρ : Type} := by8 (lp (bys (ρ := ρ)))
def asj {ρ : Type} := by8 (b46 (ρ := ρ))
theorem au2 {ρ : Type} : asj (ρ := ρ) = as1 := congrArg by8 ze57
def ajl {ρ : Type} (a b : Int) (c d : List Int) (k : (List (List Int)) → Option ρ) : Option ρ := br (decide (a < 0)) none (br (decide (0 ≤ IntKind.i64.wrap (2 * IntKind.i64.wrap (1 * 2 ^ min a.toNat 64)))) (br (decide (IntKind.i64.wrap (2 * IntKind.i64.wrap (1 * 2 ^ min a.toNat 64)) ≤ IntKind.i64.wrap (2 * IntKind.i64.wrap (1 * 2 ^ min a.toNat 64)))) (br (decide (IntKind.i64.wrap (2 * IntKind.i64.wrap (1 * 2 ^ min a.toNat 64)) * (↑24 : Int) ≤ (↑140737488355328 : Int))) (asj c d (IntKind.i64.wrap (1 * 2 ^ min a.toNat 64)) (IntKind.i64.wrap (IntKind.i64.wrap (2 * IntKind.i64.wrap (1 * 2 ^ min a.toNat 64)) - 1)) a b (List.replicate (IntKind.i64.wrap (2 * IntKind.i64.wrap (1 * 2 ^ min a.toNat 64))).toNat []) fun f g h i j l e => k e) none) none) none)
def ak3 {ρ : Type} := shut (ajl (ρ := ρ))
theorem bc6 {ρ : Type} (a : Int) (b : Int) (c : List Int) (d : List Int) (k : (List (List Int)) → Option ρ) : ak3 a b c d k = ajl a b c d k := by unfold ak3; rw [av]

def ahm {ρ : Type} (a b : Int) (c d : List Int) (k : (List Int) → Int → Option ρ) : Option ρ := afd a b c d fun e => br (e != 0) (k [] e) (aqk a b fun g => ak3 a b c d fun f => br (decide (1 < (↑f.length : Int))) (yg [g, c, f.getD 1 []] fun h => k h 0) none)
def amt {ρ : Type} := shut (ahm (ρ := ρ))
theorem bbv {ρ : Type} (a : Int) (b : Int) (c : List Int) (d : List Int) (k : (List Int) → Int → Option ρ) : amt a b c d k = ahm a b c d k := by unfold amt; rw [av]

abbrev b3h (ρ : Type) := Int → (List (List Int)) → (List (List Int)) → Option ρ
def al5 {ρ : Type} (a : Int) (b c : List (List Int)) (nx d : b3h ρ) : Option ρ := br (decide (a > 1)) (br (decide (0 ≤ bits BinOp.xor IntKind.i64 a 1)) (br (decide (bits BinOp.xor IntKind.i64 a 1 < (↑c.length : Int))) (br (decide ((b.length + 1) * 24 ≤ 140737488355328)) (nx (IntKind.i64.wrap (a.tdiv 2)) (b ++ [c.getD (bits BinOp.xor IntKind.i64 a 1).toNat []]) c) none) none) none) (d a b c)
abbrev bzk := Int × (List (List Int)) × (List (List Int))
abbrev b68 := bzk
def b4n {ρ : Type} (f : bzk → Option ρ) : b3h ρ := fun a b c => f (a, b, c)
def bxh {ρ : Type} : adw bzk b68 ρ := fun (a, b, c) next ex => al5 a b c (b4n next) (b4n ex)
def b5v {ρ : Type} := shut (lp (bxh (ρ := ρ)))
theorem ze58 {ρ : Type} : b5v (ρ := ρ) = lp bxh := av _
def byt {ρ : Type} (f : adx bzk b68 ρ) (a : Int) (b c : List (List Int)) (d : b3h ρ) : Option ρ := f (a, b, c) (fun (a, b, c) => d a b c)
def asv {ρ : Type} := byt (lp (bxh (ρ := ρ)))
def atf {ρ : Type} := byt (b5v (ρ := ρ))
theorem axp {ρ : Type} : atf (ρ := ρ) = asv := congrArg byt ze58
def al7 {ρ : Type} (a b : Int) (d e : List Int) (c : Int) (h : List Int) (k : (List Int) → Int → Option ρ) : Option ρ := afd a b d e fun f => br (f != 0) (k [] f) (br (decide (a < 0)) none (br (decide (IntKind.u64.wrap c ≥ IntKind.u64.wrap (1 * 2 ^ min a.toNat 64))) (k [] 13) (aur b d c e h fun i p => oz (IntKind.u64.wrap c) 4 fun j => aan a fun l => oz l 4 fun m => ak3 a b d e fun n => br (decide (a < 0)) none (atf (IntKind.i64.wrap (IntKind.i64.wrap (1 * 2 ^ min a.toNat 64) + IntKind.i64.wrap c)) [j, i, m] n fun q o r => yg o fun g => k g 0))))
def aup {ρ : Type} := shut (al7 (ρ := ρ))
theorem bgp {ρ : Type} (a : Int) (b : Int) (c : List Int) (d : List Int) (e : Int) (f : List Int) (k : (List Int) → Int → Option ρ) : aup a b c d e f k = al7 a b c d e f k := by unfold aup; rw [av]











end P
end
