/-
  ForsSigns, part 12: an interpreter of my own over abstract values, the pure functions, the walks and the plain law.
-/

import Derived.Test.YtjhnljhjpnjieaaGreatDoorForsSignsG
import Derived.Test.YtjhnljhjpnjieaaGreatDoorForsSignsK
import Derived.Test.YtjhnljhjpnjieaaGreatDoorForsSignsI

noncomputable section
open Go Go.Abs
set_option linter.unusedVariables false
namespace P

abbrev b3c (ρ : Type) := Int → Int → (List Int) → Int → (List Int) → Int → Bool → Int → (List Int) → Int → Bool → Option ρ
def ag9 {ρ : Type} (j k : Int) (b : List Int) (d : Int) (c : List Int) (a : Int) (e : Bool) (f : Int) (g : List Int) (h : Int) (i : Bool) (nx m : b3c ρ) : Option ρ := br (decide ((↑b.length : Int) < j)) (br (a == k) (nu c fun l => br (decide ((b.length + 1) * 1 ≤ 140737488355328)) (nx j k (b ++ [IntKind.u8.wrap ((l.getD 0 0).fdiv (2 ^ 0))]) d l (IntKind.i64.wrap (0 + 1)) e f g h i) none) (br (decide (0 ≤ IntKind.i64.wrap (a.tdiv 8))) (br (decide (IntKind.i64.wrap (a.tdiv 8) < (↑25 : Int))) (br (decide (IntKind.i64.wrap (8 * a.tmod 8) < 0)) none (br (decide ((b.length + 1) * 1 ≤ 140737488355328)) (nx j k (b ++ [IntKind.u8.wrap ((c.getD (IntKind.i64.wrap (a.tdiv 8)).toNat 0).fdiv (2 ^ min (IntKind.i64.wrap (8 * a.tmod 8)).toNat 64))]) d c (IntKind.i64.wrap (a + 1)) e f g h i) none)) none) none)) (m j k b d c a e f g h i)
abbrev btv := Int × Int × (List Int) × Int × (List Int) × Int × Bool × Int × (List Int) × Int × Bool
abbrev bzl := btv
def b49 {ρ : Type} (f : btv → Option ρ) : b3c ρ := fun k l j a b c d e g h i => f (k, l, j, a, b, c, d, e, g, h, i)
def bvn {ρ : Type} : adp btv bzl ρ := fun (j, k, i, a, b, c, d, e, f, g, h) next ex => ag9 j k i a b c d e f g h (b49 next) (b49 ex)
def b1l {ρ : Type} := shut (lp (bvn (ρ := ρ)))
theorem b53 {ρ : Type} : b1l (ρ := ρ) = lp bvn := bn _
def bxu {ρ : Type} (f : adr btv bzl ρ) (k l : Int) (j : List Int) (a : Int) (b : List Int) (c : Int) (d : Bool) (e : Int) (g : List Int) (h : Int) (i : Bool) (m : b3c ρ) : Option ρ := f (k, l, j, a, b, c, d, e, g, h, i) (fun (k, l, j, a, b, c, d, e, g, h, i) => m k l j a b c d e g h i)
def amh {ρ : Type} := bxu (lp (bvn (ρ := ρ)))
def yh {ρ : Type} := bxu (b1l (ρ := ρ))
theorem aqp {ρ : Type} : yh (ρ := ρ) = amh := congrArg bxu b53
def ahe {ρ : Type} (a : Int) (b : List Int) (c : Int) (d : Bool) (f : Int) (k : Int → (List Int) → Int → Bool → (List Int) → Option ρ) : Option ρ := br (decide (f < 0)) (k a b c d []) (aay a fun e => br (!d) (br (a == 4) (yx b c 6 fun G => yx G (IntKind.i64.wrap (e - 1)) 128 fun H => nu H fun I => yh f e [] a I 0 true 0 [0, 0, 0, 0, 0, 0, 0, 0, 0, 0, 0, 0, 0, 0, 0, 0, 0, 0, 0, 0, 0, 0, 0, 0, 0] 0 false fun q4 q5 J M N O g Q U W Z => k M N O g J) (br (a == 5) (yx b c 6 fun h => yx h (IntKind.i64.wrap (e - 1)) 128 fun i => nu i fun j => yh f e [] a j 0 true 0 [0, 0, 0, 0, 0, 0, 0, 0, 0, 0, 0, 0, 0, 0, 0, 0, 0, 0, 0, 0, 0, 0, 0, 0, 0] 0 false fun aa ab l m n o p ac ad ae af => k m n o p l) (yx b c 31 fun q => yx q (IntKind.i64.wrap (e - 1)) 128 fun r => nu r fun s => yh f e [] a s 0 true 0 [0, 0, 0, 0, 0, 0, 0, 0, 0, 0, 0, 0, 0, 0, 0, 0, 0, 0, 0, 0, 0, 0, 0, 0, 0] 0 false fun ag ah t u v w y ai aj ak al => k u v w y t))) (yh f e [] a b c d 0 [0, 0, 0, 0, 0, 0, 0, 0, 0, 0, 0, 0, 0, 0, 0, 0, 0, 0, 0, 0, 0, 0, 0, 0, 0] 0 false fun am an z A B C F ao ap aq ar => k A B C F z))
def yg {ρ : Type} := shut (ahe (ρ := ρ))
theorem an4 {ρ : Type} (b : Int) (a : List Int) (d : Int) (c : Bool) (e : Int) (k : Int → (List Int) → Int → Bool → (List Int) → Option ρ) : yg b a d c e k = ahe b a d c e k := by unfold yg; rw [bn]

abbrev b4w (ρ : Type) := (List Int) → Int → Int → (List Int) → Int → Bool → Int → (List Int) → Int → Bool → Option ρ
def aj7 {ρ : Type} (i : List Int) (c a : Int) (j : List Int) (b : Int) (d : Bool) (e : Int) (f : List Int) (g : Int) (h : Bool) (nx l : b4w ρ) : Option ρ := br (decide (c < (↑i.length : Int))) (br (decide (0 ≤ c)) (br (decide (c < (↑i.length : Int))) (yx j b (i.getD c.toNat 0) fun k => aay a fun m => br (IntKind.i64.wrap (b + 1) == m) (nu k fun n => nx i (IntKind.i64.wrap (c + 1)) a n 0 d e f g h) (nx i (IntKind.i64.wrap (c + 1)) a k (IntKind.i64.wrap (b + 1)) d e f g h)) none) none) (l i c a j b d e f g h)
abbrev bwz := (List Int) × Int × Int × (List Int) × Int × Bool × Int × (List Int) × Int × Bool
abbrev by9 := bwz
def b2f {ρ : Type} (f : bwz → Option ρ) : b4w ρ := fun j k a b c d e g h i => f (j, k, a, b, c, d, e, g, h, i)
def bt9 {ρ : Type} : adp bwz by9 ρ := fun (i, j, a, b, c, d, e, f, g, h) next ex => aj7 i j a b c d e f g h (b2f next) (b2f ex)
def bz7 {ρ : Type} := shut (lp (bt9 (ρ := ρ)))
theorem b6h {ρ : Type} : bz7 (ρ := ρ) = lp bt9 := bn _
def bxk {ρ : Type} (f : adr bwz by9 ρ) (j : List Int) (k a : Int) (b : List Int) (c : Int) (d : Bool) (e : Int) (g : List Int) (h : Int) (i : Bool) (l : b4w ρ) : Option ρ := f (j, k, a, b, c, d, e, g, h, i) (fun (j, k, a, b, c, d, e, g, h, i) => l j k a b c d e g h i)
def ap1 {ρ : Type} := bxk (lp (bt9 (ρ := ρ)))
def aqg {ρ : Type} := bxk (bz7 (ρ := ρ))
theorem atl {ρ : Type} : aqg (ρ := ρ) = ap1 := congrArg bxk b6h
def aiu {ρ : Type} (c : Int) (a : List Int) (d : Int) (b : Bool) (e : List Int) (k : Int → (List Int) → Int → Bool → Option ρ) : Option ρ := br b (k c a d b) (aqg e 0 c a d b 0 [0, 0, 0, 0, 0, 0, 0, 0, 0, 0, 0, 0, 0, 0, 0, 0, 0, 0, 0, 0, 0, 0, 0, 0, 0] 0 false fun j l f g h i m n o p => k f g h i)
def aap {ρ : Type} := shut (aiu (ρ := ρ))
theorem apy {ρ : Type} (b : Int) (a : List Int) (d : Int) (c : Bool) (e : List Int) (k : Int → (List Int) → Int → Bool → Option ρ) : aap b a d c e k = aiu b a d c e k := by unfold aap; rw [bn]

def apd {ρ : Type} (d : Int) (e : List Int) (a : Int) (k : (List Int) → Int → Option ρ) : Option ρ := al7 d fun f g h i b => br (b != 0) (k [] b) (br (decide (a < 0)) (k [] 8) (br (decide (a > 16777216)) (k [] 8) (aap f g h i e fun j l m n => yg j l m n a fun r o p q c => k c 0)))
def ah3 {ρ : Type} := shut (apd (ρ := ρ))
theorem ayt {ρ : Type} (a : Int) (b : List Int) (c : Int) (k : (List Int) → Int → Option ρ) : ah3 a b c k = apd a b c k := by unfold ah3; rw [bn]

def aoe {ρ : Type} (a : Int) (k : Int → (List Int) → (List Int) → Int → Int → Option ρ) : Option ρ := br (a == 1) (k a [1779033703, 3144134277, 1013904242, 2773480762, 1359893119, 2600822924, 528734635, 1541459225] [] 0 0) (br (a == 2) (k a [14680500436340154072, 7105036623409894663, 10473403895298186519, 1526699215303891257, 7436329637833083697, 10282925794625328401, 15784041429090275239, 5167115440072839076] [] 0 0) (br (a == 3) (k a [7640891576956012808, 13503953896175478587, 4354685564936845355, 11912009170470909681, 5840696475078001361, 11170449401992604703, 2270897969802886507, 6620516959819538809] [] 0 0) (k 0 [0, 0, 0, 0, 0, 0, 0, 0] [] 0 9)))
def ahp {ρ : Type} := shut (aoe (ρ := ρ))
theorem ay0 {ρ : Type} (a : Int) (k : Int → (List Int) → (List Int) → Int → Int → Option ρ) : ahp a k = aoe a k := by unfold ahp; rw [bn]

def akd {ρ : Type} (a : Int) (k : Int → Option ρ) : Option ρ := br (a == 1) (k 64) (k 128)
def za {ρ : Type} := shut (akd (ρ := ρ))
theorem as3 {ρ : Type} (a : Int) (k : Int → Option ρ) : za a k = akd a k := by unfold za; rw [bn]

def ak1 {ρ : Type} (k : (List Int) → Option ρ) : Option ρ := k [1116352408, 1899447441, 3049323471, 3921009573, 961987163, 1508970993, 2453635748, 2870763221, 3624381080, 310598401, 607225278, 1426881987, 1925078388, 2162078206, 2614888103, 3248222580, 3835390401, 4022224774, 264347078, 604807628, 770255983, 1249150122, 1555081692, 1996064986, 2554220882, 2821834349, 2952996808, 3210313671, 3336571891, 3584528711, 113926993, 338241895, 666307205, 773529912, 1294757372, 1396182291, 1695183700, 1986661051, 2177026350, 2456956037, 2730485921, 2820302411, 3259730800, 3345764771, 3516065817, 3600352804, 4094571909, 275423344, 430227734, 506948616, 659060556, 883997877, 958139571, 1322822218, 1537002063, 1747873779, 1955562222, 2024104815, 2227730452, 2361852424, 2428436474, 2756734187, 3204031479, 3329325298]
def x9 {ρ : Type} := shut (ak1 (ρ := ρ))
theorem ahb {ρ : Type}  (k : (List Int) → Option ρ) : x9  k = ak1  k := by unfold x9; rw [bn]

def alb {ρ : Type} (k : (List Int) → Option ρ) : Option ρ := k [4794697086780616226, 8158064640168781261, 13096744586834688815, 16840607885511220156, 4131703408338449720, 6480981068601479193, 10538285296894168987, 12329834152419229976, 15566598209576043074, 1334009975649890238, 2608012711638119052, 6128411473006802146, 8268148722764581231, 9286055187155687089, 11230858885718282805, 13951009754708518548, 16472876342353939154, 17275323862435702243, 1135362057144423861, 2597628984639134821, 3308224258029322869, 5365058923640841347, 6679025012923562964, 8573033837759648693, 10970295158949994411, 12119686244451234320, 12683024718118986047, 13788192230050041572, 14330467153632333762, 15395433587784984357, 489312712824947311, 1452737877330783856, 2861767655752347644, 3322285676063803686, 5560940570517711597, 5996557281743188959, 7280758554555802590, 8532644243296465576, 9350256976987008742, 10552545826968843579, 11727347734174303076, 12113106623233404929, 14000437183269869457, 14369950271660146224, 15101387698204529176, 15463397548674623760, 17586052441742319658, 1182934255886127544, 1847814050463011016, 2177327727835720531, 2830643537854262169, 3796741975233480872, 4115178125766777443, 5681478168544905931, 6601373596472566643, 7507060721942968483, 8399075790359081724, 8693463985226723168, 9568029438360202098, 10144078919501101548, 10430055236837252648, 11840083180663258601, 13761210420658862357, 14299343276471374635, 14566680578165727644, 15097957966210449927, 16922976911328602910, 17689382322260857208, 500013540394364858, 748580250866718886, 1242879168328830382, 1977374033974150939, 2944078676154940804, 3659926193048069267, 4368137639120453308, 4836135668995329356, 5532061633213252278, 6448918945643986474, 6902733635092675308, 7801388544844847127]
def xw {ρ : Type} := shut (alb (ρ := ρ))
theorem aho {ρ : Type}  (k : (List Int) → Option ρ) : xw  k = alb  k := by unfold xw; rw [bn]

abbrev b1y (ρ : Type) := (List Int) → Int → Int → Option ρ
def aro {ρ : Type} (b : List Int) (c a : Int) (nx d : b1y ρ) : Option ρ := br (decide (a < (↑b.length : Int))) (br (decide (0 ≤ a)) (br (decide (a < (↑b.length : Int))) (nx b (IntKind.u64.wrap (IntKind.u64.wrap (c * 256) + IntKind.u64.wrap (b.getD a.toNat 0))) (IntKind.i64.wrap (a + 1))) none) none) (d b c a)
abbrev bso := (List Int) × Int × Int
abbrev b0r := bso
def b3b {ρ : Type} (f : bso → Option ρ) : b1y ρ := fun a b c => f (a, b, c)
def bv3 {ρ : Type} : adp bso b0r ρ := fun (a, b, c) next ex => aro a b c (b3b next) (b3b ex)
def b0j {ρ : Type} := shut (lp (bv3 (ρ := ρ)))
theorem b6u {ρ : Type} : b0j (ρ := ρ) = lp bv3 := bn _
def bx7 {ρ : Type} (f : adr bso b0r ρ) (a : List Int) (b c : Int) (d : b1y ρ) : Option ρ := f (a, b, c) (fun (a, b, c) => d a b c)
def ayu {ρ : Type} := bx7 (lp (bv3 (ρ := ρ)))
def ax0 {ρ : Type} := bx7 (b0j (ρ := ρ))
theorem ay9 {ρ : Type} : ax0 (ρ := ρ) = ayu := congrArg bx7 b6u
def ao3 {ρ : Type} (a : List Int) (k : Int → Option ρ) : Option ρ := ax0 a 0 0 fun c b d => k b
def ac3 {ρ : Type} := shut (ao3 (ρ := ρ))
theorem aye {ρ : Type} (a : List Int) (k : Int → Option ρ) : ac3 a k = ao3 a k := by unfold ac3; rw [bn]

def aea {ρ : Type} (b a : Int) (c : Bool) (k : Int → Option ρ) : Option ρ := br c (br (decide (a < 0)) none (br (decide (IntKind.i64.wrap (64 - a) < 0)) none (k (bits BinOp.or IntKind.u64 (b.fdiv (2 ^ min a.toNat 64)) (IntKind.u64.wrap (b * 2 ^ min (IntKind.i64.wrap (64 - a)).toNat 64)))))) (br (decide (a < 0)) none (br (decide (IntKind.i64.wrap (32 - a) < 0)) none (k (bits BinOp.or IntKind.u64 (b.fdiv (2 ^ min a.toNat 64)) (bits BinOp.and IntKind.u64 (IntKind.u64.wrap (b * 2 ^ min (IntKind.i64.wrap (32 - a)).toNat 64)) 4294967295)))))
def zf {ρ : Type} := shut (aea (ρ := ρ))
theorem ais {ρ : Type} (a : Int) (b : Int) (c : Bool) (k : Int → Option ρ) : zf a b c k = aea a b c k := by unfold zf; rw [bn]

def ab2 {ρ : Type} (a d e c : Int) (f b : Bool) (k : Int → Option ρ) : Option ρ := br (decide (c < 0)) none (br (!f) (zf a c b fun g => zf a d b fun h => zf a e b fun i => k (bits BinOp.xor IntKind.u64 (bits BinOp.xor IntKind.u64 h i) g)) (zf a d b fun j => zf a e b fun l => k (bits BinOp.xor IntKind.u64 (bits BinOp.xor IntKind.u64 j l) (a.fdiv (2 ^ min c.toNat 64)))))
def ze {ρ : Type} := shut (ab2 (ρ := ρ))
theorem ae2 {ρ : Type} (a : Int) (b : Int) (c : Int) (d : Int) (e : Bool) (f : Bool) (k : Int → Option ρ) : ze a b c d e f k = ab2 a b c d e f k := by unfold ze; rw [bn]

abbrev b3p (ρ : Type) := (List Int) → Bool → Int → Int → Int → Int → (List Int) → Option ρ
def afl {ρ : Type} (d : List Int) (f : Bool) (g e c a : Int) (b : List Int) (nx h : b3p ρ) : Option ρ := br (decide (a < g)) (br (decide (a < 16)) (br (decide (0 ≤ IntKind.i64.wrap (a * c))) (br (decide (IntKind.i64.wrap (a * c) ≤ IntKind.i64.wrap (IntKind.i64.wrap (a * c) + c))) (br (decide (IntKind.i64.wrap (IntKind.i64.wrap (a * c) + c) ≤ (↑d.length : Int))) (ac3 (List.drop (IntKind.i64.wrap (a * c)).toNat (List.take (IntKind.i64.wrap (IntKind.i64.wrap (a * c) + c)).toNat d)) fun i => br (decide ((b.length + 1) * 8 ≤ 140737488355328)) (nx d f g e c (IntKind.i64.wrap (a + 1)) (b ++ [i])) none) none) none) none) (br (decide (0 ≤ IntKind.i64.wrap (a - 15))) (br (decide (IntKind.i64.wrap (a - 15) < (↑b.length : Int))) (ze (b.getD (IntKind.i64.wrap (a - 15)).toNat 0) 7 18 3 true false fun j => br (decide (0 ≤ IntKind.i64.wrap (a - 2))) (br (decide (IntKind.i64.wrap (a - 2) < (↑b.length : Int))) (ze (b.getD (IntKind.i64.wrap (a - 2)).toNat 0) 17 19 10 true false fun k => br f (br (decide (0 ≤ IntKind.i64.wrap (a - 15))) (br (decide (IntKind.i64.wrap (a - 15) < (↑b.length : Int))) (ze (b.getD (IntKind.i64.wrap (a - 15)).toNat 0) 1 8 7 true true fun l => br (decide (0 ≤ IntKind.i64.wrap (a - 2))) (br (decide (IntKind.i64.wrap (a - 2) < (↑b.length : Int))) (ze (b.getD (IntKind.i64.wrap (a - 2)).toNat 0) 19 61 6 true true fun m => br (decide (0 ≤ IntKind.i64.wrap (a - 7))) (br (decide (IntKind.i64.wrap (a - 7) < (↑b.length : Int))) (br (decide (0 ≤ IntKind.i64.wrap (a - 16))) (br (decide (IntKind.i64.wrap (a - 16) < (↑b.length : Int))) (br (decide ((b.length + 1) * 8 ≤ 140737488355328)) (nx d f g e c (IntKind.i64.wrap (a + 1)) (b ++ [bits BinOp.and IntKind.u64 (IntKind.u64.wrap (IntKind.u64.wrap (IntKind.u64.wrap (m + b.getD (IntKind.i64.wrap (a - 7)).toNat 0) + l) + b.getD (IntKind.i64.wrap (a - 16)).toNat 0)) e])) none) none) none) none) none) none) none) none) none) (br (decide (0 ≤ IntKind.i64.wrap (a - 7))) (br (decide (IntKind.i64.wrap (a - 7) < (↑b.length : Int))) (br (decide (0 ≤ IntKind.i64.wrap (a - 16))) (br (decide (IntKind.i64.wrap (a - 16) < (↑b.length : Int))) (br (decide ((b.length + 1) * 8 ≤ 140737488355328)) (nx d f g e c (IntKind.i64.wrap (a + 1)) (b ++ [bits BinOp.and IntKind.u64 (IntKind.u64.wrap (IntKind.u64.wrap (IntKind.u64.wrap (k + b.getD (IntKind.i64.wrap (a - 7)).toNat 0) + j) + b.getD (IntKind.i64.wrap (a - 16)).toNat 0)) e])) none) none) none) none) none)) none) none) none) none)) (h d f g e c a b)
abbrev bsd := (List Int) × Bool × Int × Int × Int × Int × (List Int)
abbrev b1u := bsd
def bxt {ρ : Type} (f : bsd → Option ρ) : b3p ρ := fun b c d e g a h => f (b, c, d, e, g, a, h)
def brc {ρ : Type} : adp bsd b1u ρ := fun (b, c, d, e, f, a, g) next ex => afl b c d e f a g (bxt next) (bxt ex)
def by5 {ρ : Type} := shut (lp (brc (ρ := ρ)))
theorem b7i {ρ : Type} : by5 (ρ := ρ) = lp brc := bn _
def btn {ρ : Type} (f : adr bsd b1u ρ) (b : List Int) (c : Bool) (d e g a : Int) (h : List Int) (i : b3p ρ) : Option ρ := f (b, c, d, e, g, a, h) (fun (b, c, d, e, g, a, h) => i b c d e g a h)
def ame {ρ : Type} := btn (lp (brc (ρ := ρ)))
def ami {ρ : Type} := btn (by5 (ρ := ρ))
theorem amj {ρ : Type} : ami (ρ := ρ) = ame := congrArg btn b7i
def ags {ρ : Type} (b : List Int) (a : Bool) (c d : Int) (k : (List Int) → Option ρ) : Option ρ := br a (ami b a c d 8 0 [] fun j l m n o p f => k f) (ami b a c d 4 0 [] fun q r s g h i e => k e)
def ab9 {ρ : Type} := shut (ags (ρ := ρ))
theorem amb {ρ : Type} (a : List Int) (b : Bool) (c : Int) (d : Int) (k : (List Int) → Option ρ) : ab9 a b c d k = ags a b c d k := by unfold ab9; rw [bn]

abbrev b5e (ρ : Type) := Bool → Int → Int → Int → (List Int) → (List Int) → (List Int) → (List Int) → (List Int) → (List Int) → Option ρ
def aeg {ρ : Type} (i : Bool) (j c b : Int) (g h d e f a : List Int) (nx m : b5e ρ) : Option ρ := br (decide (b < j)) (ze (a.getD 0 0) 2 13 22 false false fun n => ze (a.getD 4 0) 6 11 25 false false fun k => br i (ze (a.getD 0 0) 28 34 39 false true fun o => ze (a.getD 4 0) 14 18 41 false true fun l => br (decide (0 ≤ b)) (br (decide (b < (↑80 : Int))) (br (decide (0 ≤ b)) (br (decide (b < (↑f.length : Int))) (nx i j c (IntKind.i64.wrap (b + 1)) g h d e f [bits BinOp.and IntKind.u64 (IntKind.u64.wrap (IntKind.u64.wrap (IntKind.u64.wrap (IntKind.u64.wrap (IntKind.u64.wrap (a.getD 7 0 + l) + bits BinOp.xor IntKind.u64 (bits BinOp.and IntKind.u64 (a.getD 4 0) (a.getD 5 0)) (bits BinOp.and IntKind.u64 (bits BinOp.xor IntKind.u64 c (a.getD 4 0)) (a.getD 6 0))) + e.getD b.toNat 0) + f.getD b.toNat 0) + IntKind.u64.wrap (o + bits BinOp.xor IntKind.u64 (bits BinOp.xor IntKind.u64 (bits BinOp.and IntKind.u64 (a.getD 0 0) (a.getD 1 0)) (bits BinOp.and IntKind.u64 (a.getD 0 0) (a.getD 2 0))) (bits BinOp.and IntKind.u64 (a.getD 1 0) (a.getD 2 0))))) c, a.getD 0 0, a.getD 1 0, a.getD 2 0, bits BinOp.and IntKind.u64 (IntKind.u64.wrap (a.getD 3 0 + IntKind.u64.wrap (IntKind.u64.wrap (IntKind.u64.wrap (IntKind.u64.wrap (a.getD 7 0 + l) + bits BinOp.xor IntKind.u64 (bits BinOp.and IntKind.u64 (a.getD 4 0) (a.getD 5 0)) (bits BinOp.and IntKind.u64 (bits BinOp.xor IntKind.u64 c (a.getD 4 0)) (a.getD 6 0))) + e.getD b.toNat 0) + f.getD b.toNat 0))) c, a.getD 4 0, a.getD 5 0, a.getD 6 0]) none) none) none) none) (br (decide (0 ≤ b)) (br (decide (b < (↑64 : Int))) (br (decide (0 ≤ b)) (br (decide (b < (↑f.length : Int))) (nx i j c (IntKind.i64.wrap (b + 1)) g h d e f [bits BinOp.and IntKind.u64 (IntKind.u64.wrap (IntKind.u64.wrap (IntKind.u64.wrap (IntKind.u64.wrap (IntKind.u64.wrap (a.getD 7 0 + k) + bits BinOp.xor IntKind.u64 (bits BinOp.and IntKind.u64 (a.getD 4 0) (a.getD 5 0)) (bits BinOp.and IntKind.u64 (bits BinOp.xor IntKind.u64 c (a.getD 4 0)) (a.getD 6 0))) + d.getD b.toNat 0) + f.getD b.toNat 0) + IntKind.u64.wrap (n + bits BinOp.xor IntKind.u64 (bits BinOp.xor IntKind.u64 (bits BinOp.and IntKind.u64 (a.getD 0 0) (a.getD 1 0)) (bits BinOp.and IntKind.u64 (a.getD 0 0) (a.getD 2 0))) (bits BinOp.and IntKind.u64 (a.getD 1 0) (a.getD 2 0))))) c, a.getD 0 0, a.getD 1 0, a.getD 2 0, bits BinOp.and IntKind.u64 (IntKind.u64.wrap (a.getD 3 0 + IntKind.u64.wrap (IntKind.u64.wrap (IntKind.u64.wrap (IntKind.u64.wrap (a.getD 7 0 + k) + bits BinOp.xor IntKind.u64 (bits BinOp.and IntKind.u64 (a.getD 4 0) (a.getD 5 0)) (bits BinOp.and IntKind.u64 (bits BinOp.xor IntKind.u64 c (a.getD 4 0)) (a.getD 6 0))) + d.getD b.toNat 0) + f.getD b.toNat 0))) c, a.getD 4 0, a.getD 5 0, a.getD 6 0]) none) none) none) none)) (m i j c b g h d e f a)
abbrev bse := Bool × Int × Int × Int × (List Int) × (List Int) × (List Int) × (List Int) × (List Int) × (List Int)
abbrev bzx := bse
def bxo {ρ : Type} (f : bse → Option ρ) : b5e ρ := fun h i j g a b c d k e => f (h, i, j, g, a, b, c, d, k, e)
def brl {ρ : Type} : adp bse bzx ρ := fun (g, h, i, f, a, b, c, d, j, e) next ex => aeg g h i f a b c d j e (bxo next) (bxo ex)
def b1f {ρ : Type} := shut (lp (brl (ρ := ρ)))
theorem b65 {ρ : Type} : b1f (ρ := ρ) = lp brl := bn _
def bv0 {ρ : Type} (f : adr bse bzx ρ) (h : Bool) (i j g : Int) (a b c d k e : List Int) (l : b5e ρ) : Option ρ := f (h, i, j, g, a, b, c, d, k, e) (fun (h, i, j, g, a, b, c, d, k, e) => l h i j g a b c d k e)
def aj9 {ρ : Type} := bv0 (lp (brl (ρ := ρ)))
def ad4 {ρ : Type} := bv0 (b1f (ρ := ρ))
theorem ak2 {ρ : Type} : ad4 (ρ := ρ) = aj9 := congrArg bv0 b65
abbrev b3f (ρ : Type) := Int → Int → (List Int) → (List Int) → (List Int) → Option ρ
def ady {ρ : Type} (e a : Int) (b d c : List Int) (nx f : b3f ρ) : Option ρ := br (decide (a < 8)) (br (decide (0 ≤ a)) (br (decide (a < (↑8 : Int))) (br (decide (0 ≤ a)) (br (decide (a < (↑8 : Int))) (br (decide (0 ≤ a)) (br (decide (a < (↑8 : Int))) (nx e (IntKind.i64.wrap (a + 1)) b d (c.set a.toNat (bits BinOp.and IntKind.u64 (IntKind.u64.wrap (c.getD a.toNat 0 + b.getD a.toNat 0)) e))) none) none) none) none) none) none) (f e a b d c)
abbrev bup := Int × Int × (List Int) × (List Int) × (List Int)
abbrev b05 := bup
def bxr {ρ : Type} (f : bup → Option ρ) : b3f ρ := fun e d a b c => f (e, d, a, b, c)
def brg {ρ : Type} : adp bup b05 ρ := fun (e, d, a, b, c) next ex => ady e d a b c (bxr next) (bxr ex)
def b5a {ρ : Type} := shut (lp (brg (ρ := ρ)))
theorem b60 {ρ : Type} : b5a (ρ := ρ) = lp brg := bn _
def bte {ρ : Type} (f : adr bup b05 ρ) (e d : Int) (a b c : List Int) (g : b3f ρ) : Option ρ := f (e, d, a, b, c) (fun (e, d, a, b, c) => g e d a b c)
def aki {ρ : Type} := bte (lp (brg (ρ := ρ)))
def ad9 {ρ : Type} := bte (b5a (ρ := ρ))
theorem ala {ρ : Type} : ad9 (ρ := ρ) = aki := congrArg bte b60
def agy {ρ : Type} (b c : List Int) (a : Bool) (k : (List Int) → Option ρ) : Option ρ := x9 fun d => xw fun e => br a (ab9 c a 80 18446744073709551615 fun o => ad4 a 80 18446744073709551615 0 b [0, 0, 0, 0, 0, 0, 0, 0] d e o b fun N O p Q q r U s t f => ad9 p 0 q r f fun u v w y g => k g) (ab9 c a 64 4294967295 fun h => ad4 a 64 4294967295 0 b [0, 0, 0, 0, 0, 0, 0, 0] d e h b fun z A i B j l C F G m => ad9 i 0 j l m fun H I J M n => k n)
def ac5 {ρ : Type} := shut (agy (ρ := ρ))
theorem amm {ρ : Type} (a : List Int) (b : List Int) (c : Bool) (k : (List Int) → Option ρ) : ac5 a b c k = agy a b c k := by unfold ac5; rw [bn]

abbrev b23 (ρ : Type) := Int → (List Int) → Int → (List Int) → (List Int) → Int → Int → (List Int) → Int → Option ρ
def ajx {ρ : Type} (a : Int) (b : List Int) (c : Int) (d e : List Int) (f g : Int) (h : List Int) (i : Int) (nx j : b23 ρ) : Option ρ := br (decide ((↑b.length : Int) ≥ a)) (br (decide (0 ≤ a)) (br (decide (a ≤ (↑b.length : Int))) (ac5 d (List.drop 0 (List.take a.toNat b)) (a == 128) fun k => br (decide (0 ≤ a)) (br (decide (a ≤ (↑b.length : Int))) (br (decide ((↑b.length : Int) ≤ (↑b.length : Int))) (nx a (List.drop a.toNat (List.take (↑b.length : Int).toNat b)) c k e f g h i) none) none) none) none) none) (j a b c d e f g h i)
abbrev bv7 := Int × (List Int) × Int × (List Int) × (List Int) × Int × Int × (List Int) × Int
abbrev b5g := bv7
def bxl {ρ : Type} (f : bv7 → Option ρ) : b23 ρ := fun i j a b c d e g h => f (i, j, a, b, c, d, e, g, h)
def bq9 {ρ : Type} : adp bv7 b5g ρ := fun (h, i, a, b, c, d, e, f, g) next ex => ajx h i a b c d e f g (bxl next) (bxl ex)
def bzt {ρ : Type} := shut (lp (bq9 (ρ := ρ)))
theorem b7e {ρ : Type} : bzt (ρ := ρ) = lp bq9 := bn _
def bwt {ρ : Type} (f : adr bv7 b5g ρ) (i : Int) (j : List Int) (a : Int) (b c : List Int) (d e : Int) (g : List Int) (h : Int) (k : b23 ρ) : Option ρ := f (i, j, a, b, c, d, e, g, h) (fun (i, j, a, b, c, d, e, g, h) => k i j a b c d e g h)
def ara {ρ : Type} := bwt (lp (bq9 (ρ := ρ)))
def am5 {ρ : Type} := bwt (bzt (ρ := ρ))
theorem apq {ρ : Type} : am5 (ρ := ρ) = ara := congrArg bwt b7e
def ao6 {ρ : Type} (a : Int) (c b : List Int) (d : Int) (e : List Int) (k : Int → (List Int) → (List Int) → Int → Option ρ) : Option ρ := za a fun f => jv [b, e] fun g => am5 f g a c b (IntKind.u64.wrap (d + IntKind.u64.wrap (↑e.length : Int))) 0 [0, 0, 0, 0, 0, 0, 0, 0] 0 fun n h i j o l p q m => k i j h l
def ab0 {ρ : Type} := shut (ao6 (ρ := ρ))
theorem ax8 {ρ : Type} (b : Int) (a : List Int) (c : List Int) (d : Int) (e : List Int) (k : Int → (List Int) → (List Int) → Int → Option ρ) : ab0 b a c d e k = ao6 b a c d e k := by unfold ab0; rw [bn]

abbrev b0a (ρ : Type) := Int → Int → (List Int) → Option ρ
def aub {ρ : Type} (b a : Int) (c : List Int) (nx d : b0a ρ) : Option ρ := br (decide (a ≥ 0)) (br (decide (0 ≤ a)) (br (decide (a < (↑c.length : Int))) (nx (b.fdiv (2 ^ 8)) (IntKind.i64.wrap (a - 1)) (c.set a.toNat (IntKind.u8.wrap (bits BinOp.and IntKind.u64 b 255)))) none) none) (d b a c)
abbrev br7 := Int × Int × (List Int)
abbrev b2s := br7
def b1q {ρ : Type} (f : br7 → Option ρ) : b0a ρ := fun a b c => f (a, b, c)
def bvj {ρ : Type} : adp br7 b2s ρ := fun (a, b, c) next ex => aub a b c (b1q next) (b1q ex)
def b4j {ρ : Type} := shut (lp (bvj (ρ := ρ)))
theorem b7p {ρ : Type} : b4j (ρ := ρ) = lp bvj := bn _
def byf {ρ : Type} (f : adr br7 b2s ρ) (a b : Int) (c : List Int) (d : b0a ρ) : Option ρ := f (a, b, c) (fun (a, b, c) => d a b c)
def bca {ρ : Type} := byf (lp (bvj (ρ := ρ)))
def bc4 {ρ : Type} := byf (b4j (ρ := ρ))
theorem bbg {ρ : Type} : bc4 (ρ := ρ) = bca := congrArg byf b7p
def ar3 {ρ : Type} (b a : Int) (k : (List Int) → Option ρ) : Option ρ := br (decide (a < 0)) (k []) (br (decide (a > 65536)) (k []) (br (decide (0 ≤ a)) (br (decide (a ≤ a)) (br (decide (a * (↑1 : Int) ≤ (↑140737488355328 : Int))) (bc4 b (IntKind.i64.wrap (a - 1)) (List.replicate a.toNat (0 : Int)) fun d e c => k c) none) none) none))
def zi {ρ : Type} := shut (ar3 (ρ := ρ))
theorem bbl {ρ : Type} (a : Int) (b : Int) (k : (List Int) → Option ρ) : zi a b k = ar3 a b k := by unfold zi; rw [bn]

abbrev bp2 (ρ : Type) := Int → Int → (List Int) → Int → (List Int) → (List Int) → Int → Option ρ
def asi {ρ : Type} (c g : Int) (b : List Int) (d : Int) (e a : List Int) (f : Int) (nx h : bp2 ρ) : Option ρ := br (decide (c = 0)) none (br ((IntKind.i64.wrap ((↑a.length : Int) + (↑b.length : Int))).tmod c != IntKind.i64.wrap (c - 8)) (br (decide ((b.length + 1) * 1 ≤ 140737488355328)) (nx c g (b ++ [0]) d e a f) none) (h c g b d e a f))
abbrev bt2 := Int × Int × (List Int) × Int × (List Int) × (List Int) × Int
abbrev b0t := bt2
def b2i {ρ : Type} (f : bt2 → Option ρ) : bp2 ρ := fun g h e a b c d => f (g, h, e, a, b, c, d)
def bu4 {ρ : Type} : adp bt2 b0t ρ := fun (f, g, e, a, b, c, d) next ex => asi f g e a b c d (b2i next) (b2i ex)
def b1m {ρ : Type} := shut (lp (bu4 (ρ := ρ)))
theorem b6k {ρ : Type} : b1m (ρ := ρ) = lp bu4 := bn _
def bxd {ρ : Type} (f : adr bt2 b0t ρ) (g h : Int) (e : List Int) (a : Int) (b c : List Int) (d : Int) (i : bp2 ρ) : Option ρ := f (g, h, e, a, b, c, d) (fun (g, h, e, a, b, c, d) => i g h e a b c d)
def axh {ρ : Type} := bxd (lp (bu4 (ρ := ρ)))
def aru {ρ : Type} := bxd (b1m (ρ := ρ))
theorem ay7 {ρ : Type} : aru (ρ := ρ) = axh := congrArg bxd b6k
abbrev zc52 (ρ : Type) := Int → Int → (List Int) → Int → (List Int) → (List Int) → Int → Option ρ
def ar2 {ρ : Type} (c g : Int) (b : List Int) (d : Int) (e a : List Int) (f : Int) (nx h : bp2 ρ) : Option ρ := br (decide (c = 0)) none (br ((IntKind.i64.wrap ((↑a.length : Int) + (↑b.length : Int))).tmod c != IntKind.i64.wrap (c - 16)) (br (decide ((b.length + 1) * 1 ≤ 140737488355328)) (nx c g (b ++ [0]) d e a f) none) (h c g b d e a f))
abbrev bs3 := Int × Int × (List Int) × Int × (List Int) × (List Int) × Int
abbrev b40 := bs3
def b0s {ρ : Type} (f : bs3 → Option ρ) : zc52 ρ := fun g h e a b c d => f (g, h, e, a, b, c, d)
def bvv {ρ : Type} : adp bs3 b40 ρ := fun (f, g, e, a, b, c, d) next ex => ar2 f g e a b c d (b0s next) (b0s ex)
def b1v {ρ : Type} := shut (lp (bvv (ρ := ρ)))
theorem b7m {ρ : Type} : b1v (ρ := ρ) = lp bvv := bn _
def bxf {ρ : Type} (f : adr bs3 b40 ρ) (g h : Int) (e : List Int) (a : Int) (b c : List Int) (d : Int) (i : bp2 ρ) : Option ρ := f (g, h, e, a, b, c, d) (fun (g, h, e, a, b, c, d) => i g h e a b c d)
def axx {ρ : Type} := bxf (lp (bvv (ρ := ρ)))
def ar1 {ρ : Type} := bxf (b1v (ρ := ρ))
theorem aza {ρ : Type} : ar1 (ρ := ρ) = axx := congrArg bxf b7m
abbrev zc53 (ρ : Type) := Int → Int → (List Int) → Int → (List Int) → (List Int) → Int → Option ρ
def aor {ρ : Type} (g c : Int) (a : List Int) (d : Int) (b e : List Int) (f : Int) (nx i : bp2 ρ) : Option ρ := br (decide (c < 8)) (br (decide (0 ≤ c)) (br (decide (c < (↑8 : Int))) (zi (b.getD c.toNat 0) (IntKind.i64.wrap (g.tdiv 16)) fun h => br (decide ((a.length + h.length) * 1 ≤ 140737488355328)) (nx g (IntKind.i64.wrap (c + 1)) (a ++ h) d b e f) none) none) none) (i g c a d b e f)
abbrev bwx := Int × Int × (List Int) × Int × (List Int) × (List Int) × Int
abbrev b0c := bwx
def b2g {ρ : Type} (f : bwx → Option ρ) : zc53 ρ := fun g h a b c d e => f (g, h, a, b, c, d, e)
def bwc {ρ : Type} : adp bwx b0c ρ := fun (f, g, a, b, c, d, e) next ex => aor f g a b c d e (b2g next) (b2g ex)
def b1i {ρ : Type} := shut (lp (bwc (ρ := ρ)))
theorem b52 {ρ : Type} : b1i (ρ := ρ) = lp bwc := bn _
def bw8 {ρ : Type} (f : adr bwx b0c ρ) (g h : Int) (a : List Int) (b : Int) (c d : List Int) (e : Int) (i : bp2 ρ) : Option ρ := f (g, h, a, b, c, d, e) (fun (g, h, a, b, c, d, e) => i g h a b c d e)
def avl {ρ : Type} := bw8 (lp (bwc (ρ := ρ)))
def akf {ρ : Type} := bw8 (b1i (ρ := ρ))
theorem awy {ρ : Type} : akf (ρ := ρ) = avl := congrArg bw8 b52
def aov {ρ : Type} (a : Int) (c d : List Int) (b : Int) (k : (List Int) → Option ρ) : Option ρ := za a fun J => aru J (IntKind.u64.wrap (b * 8)) [128] a c d b fun m n o p q r s => br (m == 128) (ar1 m n [128] p q r s fun M N e t u v i => zi (i.fdiv (2 ^ 61)) 8 fun f => br (decide ((e.length + f.length) * 1 ≤ 140737488355328)) (zi N 8 fun j => br (decide (((e ++ f).length + j.length) * 1 ≤ 140737488355328)) (ab0 t u v i (e ++ f ++ j) fun w y z A => akf M 0 [] w y z A fun O Q g B U W Z => br (B == 2) (br (decide (48 ≤ (↑g.length : Int))) (k (List.take ((48 : Int) - (0 : Int)).toNat g)) none) (k g)) none) none) (zi n 8 fun l => br (decide ((o.length + l.length) * 1 ≤ 140737488355328)) (ab0 p q r s (o ++ l) fun C F G H => akf m 0 [] C F G H fun aa ab h I ac ad ae => br (I == 2) (br (decide (48 ≤ (↑h.length : Int))) (k (List.take ((48 : Int) - (0 : Int)).toNat h)) none) (k h)) none)
def ahj {ρ : Type} := shut (aov (ρ := ρ))
theorem axt {ρ : Type} (b : Int) (a : List Int) (c : List Int) (d : Int) (k : (List Int) → Option ρ) : ahj b a c d k = aov b a c d k := by unfold ahj; rw [bn]

def aon {ρ : Type} (b : Int) (c : List Int) (k : (List Int) → Int → Option ρ) : Option ρ := ahp b fun d e f g a => br (a != 0) (k [] a) (ab0 d e f g c fun h i j l => ahj h i j l fun m => k m 0)
def aek {ρ : Type} := shut (aon (ρ := ρ))
theorem ayi {ρ : Type} (a : Int) (b : List Int) (k : (List Int) → Int → Option ρ) : aek a b k = aon a b k := by unfold aek; rw [bn]

def akc {ρ : Type} (a : List Int) (k : (List Int) → Option ρ) : Option ρ := jv [List.take 1 (List.drop 3 a), List.take 8 (List.drop 8 a), List.take 1 (List.drop 19 a), List.take 12 (List.drop 20 a)] fun b => k b
def zw {ρ : Type} := shut (akc (ρ := ρ))
theorem asr {ρ : Type} (a : List Int) (k : (List Int) → Option ρ) : zw a k = akc a k := by unfold zw; rw [bn]

def aop {ρ : Type} (a h i j l : Int) (b : Bool) (c e d : List Int) (k : (List Int) → Option ρ) : Option ρ := br ((↑c.length : Int) != a) (k []) (qo a h i j l b fun p => br (!p) (k []) (br b (jv [c, List.take 32 (List.drop 0 e), d] fun q => ah3 7 q a fun r z => k r) (br (decide (a > 16)) (br (decide ((↑d.length : Int) > a)) (br (decide (0 ≤ IntKind.i64.wrap (128 - a))) (br (decide (IntKind.i64.wrap (128 - a) ≤ IntKind.i64.wrap (128 - a))) (br (decide (IntKind.i64.wrap (128 - a) * (↑1 : Int) ≤ (↑140737488355328 : Int))) (zw e fun s => jv [c, List.replicate (IntKind.i64.wrap (128 - a)).toNat (0 : Int), s, d] fun t => aek 3 t fun m A => br (decide (0 ≤ a)) (br (decide (a ≤ (↑m.length : Int))) (k (List.take (a - 0).toNat (List.drop 0 m))) none) none) none) none) none) (br (decide (0 ≤ IntKind.i64.wrap (64 - a))) (br (decide (IntKind.i64.wrap (64 - a) ≤ IntKind.i64.wrap (64 - a))) (br (decide (IntKind.i64.wrap (64 - a) * (↑1 : Int) ≤ (↑140737488355328 : Int))) (zw e fun u => jv [c, List.replicate (IntKind.i64.wrap (64 - a)).toNat (0 : Int), u, d] fun v => aek 1 v fun f w => br (decide (0 ≤ a)) (br (decide (a ≤ (↑f.length : Int))) (k (List.take (a - 0).toNat (List.drop 0 f))) none) none) none) none) none)) (br (decide (0 ≤ IntKind.i64.wrap (64 - a))) (br (decide (IntKind.i64.wrap (64 - a) ≤ IntKind.i64.wrap (64 - a))) (br (decide (IntKind.i64.wrap (64 - a) * (↑1 : Int) ≤ (↑140737488355328 : Int))) (zw e fun n => jv [c, List.replicate (IntKind.i64.wrap (64 - a)).toNat (0 : Int), n, d] fun o => aek 1 o fun g y => br (decide (0 ≤ a)) (br (decide (a ≤ (↑g.length : Int))) (k (List.take (a - 0).toNat (List.drop 0 g))) none) none) none) none) none))))
def sw {ρ : Type} := shut (aop (ρ := ρ))
theorem ayn {ρ : Type} (b : Int) (c : Int) (d : Int) (e : Int) (f : Int) (a : Bool) (g : List Int) (h : List Int) (i : List Int) (k : (List Int) → Option ρ) : sw b c d e f a g h i k = aop b c d e f a g h i k := by unfold sw; rw [bn]

abbrev b5h (ρ : Type) := Int → (List Int) → Int → (List Int) → (List Int) → Option ρ
def ash {ρ : Type} (b : Int) (c : List Int) (a : Int) (d e : List Int) (nx f : b5h ρ) : Option ρ := br (decide (a < (↑c.length : Int))) (br (decide (0 ≤ a)) (br (decide (a < (↑c.length : Int))) (br (decide (0 ≤ IntKind.i64.wrap (b + a))) (br (decide (IntKind.i64.wrap (b + a) < (↑32 : Int))) (nx b c (IntKind.i64.wrap (a + 1)) (d.set (IntKind.i64.wrap (b + a)).toNat (c.getD a.toNat 0)) e) none) none) none) none) (f b c a d e)
abbrev bsx := Int × (List Int) × Int × (List Int) × (List Int)
abbrev b3i := bsx
def byq {ρ : Type} (f : bsx → Option ρ) : b5h ρ := fun c d e a b => f (c, d, e, a, b)
def bt1 {ρ : Type} : adp bsx b3i ρ := fun (c, d, e, a, b) next ex => ash c d e a b (byq next) (byq ex)
def b3v {ρ : Type} := shut (lp (bt1 (ρ := ρ)))
theorem b5y {ρ : Type} : b3v (ρ := ρ) = lp bt1 := bn _
def bw9 {ρ : Type} (f : adr bsx b3i ρ) (c : Int) (d : List Int) (e : Int) (a b : List Int) (g : b5h ρ) : Option ρ := f (c, d, e, a, b) (fun (c, d, e, a, b) => g c d e a b)
def axd {ρ : Type} := bw9 (lp (bt1 (ρ := ρ)))
def ax4 {ρ : Type} := bw9 (b3v (ρ := ρ))
theorem bao {ρ : Type} : ax4 (ρ := ρ) = axd := congrArg bw9 b5y
def an8 {ρ : Type} (a : List Int) (b : Int) (c : List Int) (k : (List Int) → Option ρ) : Option ρ := ax4 b c 0 a [0, 0, 0, 0, 0, 0, 0, 0, 0, 0, 0, 0, 0, 0, 0, 0, 0, 0, 0, 0, 0, 0, 0, 0, 0, 0, 0, 0, 0, 0, 0, 0] fun e f g d h => k d
def zn {ρ : Type} := shut (an8 (ρ := ρ))
theorem axn {ρ : Type} (a : List Int) (b : Int) (c : List Int) (k : (List Int) → Option ρ) : zn a b c k = an8 a b c k := by unfold zn; rw [bn]

def aot {ρ : Type} (b : List Int) (a c : Int) (k : (List Int) → Option ρ) : Option ρ := br (a == 0) (zi c 4 fun g => zn b 0 g fun h => k h) (br (a == 1) (zi c 12 fun i => zn b 4 i fun j => k j) (br (a == 2) (zi c 4 fun l => zn b 16 l fun m => zn m 20 (List.replicate 12 (0 : Int)) fun n => k n) (br (a == 3) (br (a == 3) (zi c 4 fun o => zn b (IntKind.i64.wrap (8 + IntKind.i64.wrap (4 * a))) o fun p => k p) (k b)) (br (a == 4) (br (a == 4) (zi c 4 fun q => zn b (IntKind.i64.wrap (8 + IntKind.i64.wrap (4 * a))) q fun d => k d) (k b)) (br (a == 5) (zi c 4 fun e => zn b (IntKind.i64.wrap (8 + IntKind.i64.wrap (4 * a))) e fun f => k f) (k b))))))
def wh {ρ : Type} := shut (aot (ρ := ρ))
theorem ayc {ρ : Type} (a : List Int) (b : Int) (c : Int) (k : (List Int) → Option ρ) : wh a b c k = aot a b c k := by unfold wh; rw [bn]

def ama {ρ : Type} (a : List Int) (k : Int → Option ρ) : Option ρ := ac3 (List.take 4 (List.drop 20 a)) fun b => k b
def aau {ρ : Type} := shut (ama (ρ := ρ))
theorem aut {ρ : Type} (a : List Int) (k : Int → Option ρ) : aau a k = ama a k := by unfold aau; rw [bn]

def aq5 {ρ : Type} (a : List Int) (b c d : Int) (k : (List Int) → Option ρ) : Option ρ := wh a 2 b fun e => aau a fun f => wh e 3 f fun g => wh g 4 (IntKind.u64.wrap c) fun h => wh h 5 d fun i => k i
def uq {ρ : Type} := shut (aq5 (ρ := ρ))
theorem bav {ρ : Type} (a : List Int) (b : Int) (c : Int) (d : Int) (k : (List Int) → Option ρ) : uq a b c d k = aq5 a b c d k := by unfold uq; rw [bn]

def alp {ρ : Type} (b c d e f : Int) (a : Bool) (h g i : List Int) (k : (List Int) → Option ρ) : Option ρ := br ((↑g.length : Int) != b) (k []) (sw b c d e f a h i g fun j => k j)
def aic {ρ : Type} := shut (alp (ρ := ρ))
theorem avg {ρ : Type} (b : Int) (c : Int) (d : Int) (e : Int) (f : Int) (a : Bool) (g : List Int) (h : List Int) (i : List Int) (k : (List Int) → Option ρ) : aic b c d e f a g h i k = alp b c d e f a g h i k := by unfold aic; rw [bn]

def alq {ρ : Type} (b c d e f : Int) (a : Bool) (g h i : List Int) (j : Int) (k : (List Int) → Option ρ) : Option ρ := uq i 6 0 j fun l => aic b c d e f a h g l fun m => k m
def aax {ρ : Type} := shut (alq (ρ := ρ))
theorem auh {ρ : Type} (b : Int) (c : Int) (d : Int) (e : Int) (f : Int) (a : Bool) (g : List Int) (h : List Int) (i : List Int) (j : Int) (k : (List Int) → Option ρ) : aax b c d e f a g h i j k = alq b c d e f a g h i j k := by unfold aax; rw [bn]

def aie {ρ : Type} (rc : Int → Int → Int → Int → Int → Bool → (List Int) → (List Int) → (List Int) → Int → Int → ((List Int) → Option ρ) → Option ρ) (d e f b c : Int) (a : Bool) (l h j : List Int) (g i : Int) (k : (List Int) → Option ρ) : Option ρ := uo d e f b c a l h fun m => br m (k []) (br (decide (g < 0)) (k []) (br (decide (g > b)) (k []) (br (decide (IntKind.i64.wrap (b - g) < 0)) none (br (decide (i ≥ IntKind.u64.wrap (IntKind.u64.wrap c * 2 ^ min (IntKind.i64.wrap (b - g)).toNat 64))) (k []) (br (g == 0) (uq j 3 0 i fun n => aax d e f b c a l h j i fun o => sw d e f b c a h n o fun p => k p) (rc d e f b c a l h j (IntKind.i64.wrap (g - 1)) (IntKind.u64.wrap (2 * i)) fun q => rc d e f b c a l h j (IntKind.i64.wrap (g - 1)) (IntKind.u64.wrap (IntKind.u64.wrap (2 * i) + 1)) fun r => uq j 3 g i fun s => jv [q, r] fun t => sw d e f b c a h s t fun u => k u))))))
def aaz {ρ : Type} (n : Nat) : Int → Int → Int → Int → Int → Bool → (List Int) → (List Int) → (List Int) → Int → Int → ((List Int) → Option ρ) → Option ρ := Nat.rec (fun _ _ _ _ _ _ _ _ _ _ _ _ => none) (fun _ rc => shut (aie (ρ := ρ) rc)) n
theorem ao4 {ρ : Type} (n : Nat) : aaz (ρ := ρ) (n + 1) = aie (aaz n) := bn _

def asz {ρ : Type} (c : List Int) (a b : Int) (k : Bool → Option ρ) : Option ρ := br (decide (a ≥ 1)) (br (decide (a ≤ 24)) (br (decide (b ≥ 0)) (br (decide (a = 0)) none (k (decide (b ≤ IntKind.i64.wrap ((IntKind.i64.wrap ((↑c.length : Int) * 8)).tdiv a))))) (k false)) (k false)) (k false)
def adv {ρ : Type} := shut (asz (ρ := ρ))
theorem au2 {ρ : Type} (a : List Int) (b : Int) (c : Int) (k : Bool → Option ρ) : adv a b c k = asz a b c k := by unfold adv; rw [bn]

abbrev b4d (ρ : Type) := (List Int) → Int → Int → Int → Int → Int → (List Int) → Option ρ
def aj4 {ρ : Type} (d : List Int) (b e c f a : Int) (g : List Int) (nx h : b4d ρ) : Option ρ := br (decide (a < b)) (br (decide (0 ≤ IntKind.i64.wrap ((IntKind.i64.wrap (IntKind.i64.wrap (c * b) + a)).tdiv 8))) (br (decide (IntKind.i64.wrap ((IntKind.i64.wrap (IntKind.i64.wrap (c * b) + a)).tdiv 8) < (↑d.length : Int))) (br (decide (IntKind.i64.wrap (7 - (IntKind.i64.wrap (IntKind.i64.wrap (c * b) + a)).tmod 8) < 0)) none (nx d b e c (IntKind.u32.wrap (IntKind.u32.wrap (f * 2) + IntKind.u32.wrap (bits BinOp.and IntKind.u8 ((d.getD (IntKind.i64.wrap ((IntKind.i64.wrap (IntKind.i64.wrap (c * b) + a)).tdiv 8)).toNat 0).fdiv (2 ^ min (IntKind.i64.wrap (7 - (IntKind.i64.wrap (IntKind.i64.wrap (c * b) + a)).tmod 8)).toNat 8)) 1))) (IntKind.i64.wrap (a + 1)) g)) none) none) (h d b e c f a g)
abbrev bt6 := (List Int) × Int × Int × Int × Int × Int × (List Int)
abbrev byr := bt6
def byn {ρ : Type} (f : bt6 → Option ρ) : b4d ρ := fun b c d e g a h => f (b, c, d, e, g, a, h)
def bs0 {ρ : Type} : adp bt6 byr ρ := fun (b, c, d, e, f, a, g) next ex => aj4 b c d e f a g (byn next) (byn ex)
def b34 {ρ : Type} := shut (lp (bs0 (ρ := ρ)))
theorem b7n {ρ : Type} : b34 (ρ := ρ) = lp bs0 := bn _
def bya {ρ : Type} (f : adr bt6 byr ρ) (b : List Int) (c d e g a : Int) (h : List Int) (i : b4d ρ) : Option ρ := f (b, c, d, e, g, a, h) (fun (b, c, d, e, g, a, h) => i b c d e g a h)
def aqx {ρ : Type} := bya (lp (bs0 (ρ := ρ)))
def aqw {ρ : Type} := bya (b34 (ρ := ρ))
theorem atu {ρ : Type} : aqw (ρ := ρ) = aqx := congrArg bya b7n
abbrev b3w (ρ : Type) := (List Int) → Int → Int → Int → (List Int) → Option ρ
def ake {ρ : Type} (c : List Int) (d a b : Int) (e : List Int) (nx g : b3w ρ) : Option ρ := br (decide (b < a)) (aqw c d a b 0 0 e fun h i j k l m f => br (decide ((f.length + 1) * 4 ≤ 140737488355328)) (nx h i j (IntKind.i64.wrap (k + 1)) (f ++ [l])) none) (g c d a b e)
abbrev bvr := (List Int) × Int × Int × Int × (List Int)
abbrev b1p := bvr
def b1x {ρ : Type} (f : bvr → Option ρ) : b3w ρ := fun a b c d e => f (a, b, c, d, e)
def bvs {ρ : Type} : adp bvr b1p ρ := fun (a, b, c, d, e) next ex => ake a b c d e (b1x next) (b1x ex)
def bz6 {ρ : Type} := shut (lp (bvs (ρ := ρ)))
theorem b59 {ρ : Type} : bz6 (ρ := ρ) = lp bvs := bn _
def bxe {ρ : Type} (f : adr bvr b1p ρ) (a : List Int) (b c d : Int) (e : List Int) (g : b3w ρ) : Option ρ := f (a, b, c, d, e) (fun (a, b, c, d, e) => g a b c d e)
def aql {ρ : Type} := bxe (lp (bvs (ρ := ρ)))
def apl {ρ : Type} := bxe (bz6 (ρ := ρ))
theorem atr {ρ : Type} : apl (ρ := ρ) = aql := congrArg bxe b59
def ai8 {ρ : Type} (a : List Int) (b c : Int) (k : (List Int) → Option ρ) : Option ρ := adv a b c fun d => br (!d) (k []) (apl a b c 0 [] fun f g h i e => k e)
def uz {ρ : Type} := shut (ai8 (ρ := ρ))
theorem apk {ρ : Type} (a : List Int) (b : Int) (c : Int) (k : (List Int) → Option ρ) : uz a b c k = ai8 a b c k := by unfold uz; rw [bn]

abbrev b3m (ρ : Type) := (List Int) → (List Int) → Int → Int → Int → (List (List Int)) → Int → Int → Int → Int → Int → Bool → (List Int) → (List Int) → Option ρ
def aml {ρ : Type} (l m : List Int) (k i a : Int) (j : List (List Int)) (c d e b f : Int) (g : Bool) (h n : List Int) (nx o : b3m ρ) : Option ρ := br (decide (a < b)) (br (decide (a < 0)) none (aaz (a.toNat + 1) c d e b f g l m h a (bits BinOp.xor IntKind.u64 (i.fdiv (2 ^ min a.toNat 64)) 1) fun p => br (decide ((j.length + 1) * 24 ≤ 140737488355328)) (nx l m k i (IntKind.i64.wrap (a + 1)) (j ++ [p]) c d e b f g h n) none)) (o l m k i a j c d e b f g h n)
abbrev bvd := (List Int) × (List Int) × Int × Int × Int × (List (List Int)) × Int × Int × Int × Int × Int × Bool × (List Int) × (List Int)
abbrev b4m := bvd
def b3u {ρ : Type} (f : bvd → Option ρ) : b3m ρ := fun m n i j k l a b c d e g h o => f (m, n, i, j, k, l, a, b, c, d, e, g, h, o)
def bur {ρ : Type} : adp bvd b4m ρ := fun (l, m, h, i, j, k, a, b, c, d, e, f, g, n) next ex => aml l m h i j k a b c d e f g n (b3u next) (b3u ex)
def b09 {ρ : Type} := shut (lp (bur (ρ := ρ)))
theorem b63 {ρ : Type} : b09 (ρ := ρ) = lp bur := bn _
def byd {ρ : Type} (f : adr bvd b4m ρ) (m n : List Int) (i j k : Int) (l : List (List Int)) (a b c d e : Int) (g : Bool) (h o : List Int) (p : b3m ρ) : Option ρ := f (m, n, i, j, k, l, a, b, c, d, e, g, h, o) (fun (m, n, i, j, k, l, a, b, c, d, e, g, h, o) => p m n i j k l a b c d e g h o)
def as8 {ρ : Type} := byd (lp (bur (ρ := ρ)))
def asl {ρ : Type} := byd (b09 (ρ := ρ))
theorem at5 {ρ : Type} : asl (ρ := ρ) = as8 := congrArg byd b63
abbrev b4l (ρ : Type) := (List Int) → (List Int) → Int → (List (List Int)) → Int → Int → Int → Int → Int → Bool → (List Int) → (List Int) → Option ρ
def aom {ρ : Type} (j k : List Int) (a : Int) (l : List (List Int)) (d e f b c : Int) (g : Bool) (h i : List Int) (nx r : b4l ρ) : Option ρ := br (decide (a < c)) (br (decide (b < 0)) none (br (decide (0 ≤ a)) (br (decide (a < (↑i.length : Int))) (aax d e f b c g j k h (IntKind.u64.wrap (IntKind.u64.wrap (IntKind.u64.wrap a * 2 ^ min b.toNat 64) + IntKind.u64.wrap (i.getD a.toNat 0))) fun s => br (decide ((l.length + 1) * 24 ≤ 140737488355328)) (asl j k a (IntKind.u64.wrap (IntKind.u64.wrap (IntKind.u64.wrap a * 2 ^ min b.toNat 64) + IntKind.u64.wrap (i.getD a.toNat 0))) 0 (l ++ [s]) d e f b c g h i fun t u v B C w y z A m n o p q => nx t u (IntKind.i64.wrap (v + 1)) w y z A m n o p q) none) none) none)) (r j k a l d e f b c g h i)
abbrev bww := (List Int) × (List Int) × Int × (List (List Int)) × Int × Int × Int × Int × Int × Bool × (List Int) × (List Int)
abbrev b1c := bww
def b2y {ρ : Type} (f : bww → Option ρ) : b4l ρ := fun j k i l a b c d e g h m => f (j, k, i, l, a, b, c, d, e, g, h, m)
def br2 {ρ : Type} : adp bww b1c ρ := fun (i, j, h, k, a, b, c, d, e, f, g, l) next ex => aom i j h k a b c d e f g l (b2y next) (b2y ex)
def bzz {ρ : Type} := shut (lp (br2 (ρ := ρ)))
theorem b7d {ρ : Type} : bzz (ρ := ρ) = lp br2 := bn _
def bxh {ρ : Type} (f : adr bww b1c ρ) (j k : List Int) (i : Int) (l : List (List Int)) (a b c d e : Int) (g : Bool) (h m : List Int) (n : b4l ρ) : Option ρ := f (j, k, i, l, a, b, c, d, e, g, h, m) (fun (j, k, i, l, a, b, c, d, e, g, h, m) => n j k i l a b c d e g h m)
def awh {ρ : Type} := bxh (lp (br2 (ρ := ρ)))
def aun {ρ : Type} := bxh (bzz (ρ := ρ))
theorem aw5 {ρ : Type} : aun (ρ := ρ) = awh := congrArg bxh b7d
def af0 {ρ : Type} (d e f b c : Int) (a : Bool) (g h i l : List Int) (k : (List Int) → Option ρ) : Option ρ := vw d e f b c a fun w m => uo d e f b c a h i fun n => br n (k []) (br ((↑g.length : Int) != m) (k []) (uz g b c fun o => aun h i 0 [] d e f b c a l o fun y z A p B C q r s t u v => jv p fun j => k j))
def ac9 {ρ : Type} := shut (af0 (ρ := ρ))
theorem aj3 {ρ : Type} (b : Int) (c : Int) (d : Int) (e : Int) (f : Int) (a : Bool) (g : List Int) (h : List Int) (i : List Int) (j : List Int) (k : (List Int) → Option ρ) : ac9 b c d e f a g h i j k = af0 b c d e f a g h i j k := by unfold ac9; rw [bn]

abbrev b29 (ρ : Type) := Int → (List Int) → (List Int) → Int → Int → Int → Int → Int → Int → Int → Bool → (List Int) → (List Int) → (List Int) → Option ρ
def af4 {ρ : Type} (m : Int) (c n : List Int) (l b a d e f g : Int) (h : Bool) (i j k : List Int) (nx o : b29 ρ) : Option ρ := br (decide (b < l)) (br (decide ((0 : Int) ≤ a)) (br (decide (a ≤ (↑c.length : Int))) (br (decide ((↑c.length : Int) ≤ (↑c.length : Int))) (br (decide ((0 : Int) ≤ a)) (br (decide (a ≤ (↑(List.drop a.toNat (List.take (↑c.length : Int).toNat c)).length : Int))) (br (decide (b < (0 : Int))) none (br (bits BinOp.and IntKind.u64 (m.fdiv ((2 : Int) ^ min b.toNat 64)) (1 : Int) == (1 : Int)) (br (decide (IntKind.i64.wrap (b + (1 : Int)) < (0 : Int))) none (jc a d e f g h i j k (IntKind.i64.wrap (b + (1 : Int))) (m.fdiv ((2 : Int) ^ min (IntKind.i64.wrap (b + (1 : Int))).toNat 64)) [List.drop 0 (List.take a.toNat (List.drop a.toNat (List.take (↑c.length : Int).toNat c))), n] fun p => nx m (List.drop a.toNat (List.take (↑c.length : Int).toNat c)) p l (IntKind.i64.wrap (b + (1 : Int))) a d e f g h i j k)) (br (decide (IntKind.i64.wrap (b + (1 : Int)) < (0 : Int))) none (jc a d e f g h i j k (IntKind.i64.wrap (b + (1 : Int))) (m.fdiv ((2 : Int) ^ min (IntKind.i64.wrap (b + (1 : Int))).toNat 64)) [n, List.drop 0 (List.take a.toNat (List.drop a.toNat (List.take (↑c.length : Int).toNat c)))] fun q => nx m (List.drop a.toNat (List.take (↑c.length : Int).toNat c)) q l (IntKind.i64.wrap (b + (1 : Int))) a d e f g h i j k)))) none) none) none) none) none) (o m c n l b a d e f g h i j k)
abbrev bv2 := Int × (List Int) × (List Int) × Int × Int × Int × Int × Int × Int × Int × Bool × (List Int) × (List Int) × (List Int)
abbrev b0w := bv2
def b2d {ρ : Type} (f : bv2 → Option ρ) : b29 ρ := fun m n o k l a b c d e g h i j => f (m, n, o, k, l, a, b, c, d, e, g, h, i, j)
def bt4 {ρ : Type} : adp bv2 b0w ρ := fun (l, m, n, j, k, a, b, c, d, e, f, g, h, i) next ex => af4 l m n j k a b c d e f g h i (b2d next) (b2d ex)
def bzb {ρ : Type} := shut (lp (bt4 (ρ := ρ)))
theorem b6n {ρ : Type} : bzb (ρ := ρ) = lp bt4 := bn _
def bx4 {ρ : Type} (f : adr bv2 b0w ρ) (m : Int) (n o : List Int) (k l a b c d e : Int) (g : Bool) (h i j : List Int) (p : b29 ρ) : Option ρ := f (m, n, o, k, l, a, b, c, d, e, g, h, i, j) (fun (m, n, o, k, l, a, b, c, d, e, g, h, i, j) => p m n o k l a b c d e g h i j)
def akz {ρ : Type} := bx4 (lp (bt4 (ρ := ρ)))
def ak3 {ρ : Type} := bx4 (bzb (ρ := ρ))
theorem apa {ρ : Type} : ak3 (ρ := ρ) = akz := congrArg bx4 b6n
def aes {ρ : Type} (a e f c g : Int) (b : Bool) (d h i : List Int) (l : Int) (j : List Int) (k : (List Int) → Option ρ) : Option ρ := br (decide (0 ≤ a)) (br (decide (a ≤ (↑j.length : Int))) (jc a e f c g b d h i 0 l [List.drop 0 (List.take a.toNat j)] fun m => ak3 l j m c 0 a e f c g b d h i fun t u n v w y z A B o p q r s => k n) none) none
def oh {ρ : Type} := shut (aes (ρ := ρ))
theorem akx {ρ : Type} (c : Int) (d : Int) (e : Int) (f : Int) (g : Int) (a : Bool) (b : List Int) (h : List Int) (i : List Int) (j : Int) (l : List Int) (k : (List Int) → Option ρ) : oh c d e f g a b h i j l k = aes c d e f g a b h i j l k := by unfold oh; rw [bn]

def aei {ρ : Type} (b c d e f : Int) (a : Bool) (g h i j : List Int) (k : (List Int) → Option ρ) : Option ρ := jm b c d e f a g h i 4 fun l => xg b c d e f a h l j fun m => k m
def mh {ρ : Type} := shut (aei (ρ := ρ))
theorem ajk {ρ : Type} (c : Int) (d : Int) (e : Int) (f : Int) (g : Int) (a : Bool) (b : List Int) (h : List Int) (i : List Int) (j : List Int) (k : (List Int) → Option ρ) : mh c d e f g a b h i j k = aei c d e f g a b h i j k := by unfold mh; rw [bn]

abbrev b5p (ρ : Type) := Int → Int → (List Int) → Int → Int → Int → Int → Int → Bool → (List Int) → Int → Int → Int → Int → Int → Bool → (List Int) → (List Int) → Int → Int → Int → Int → Int → Bool → (List Int) → (List Int) → (List Int) → Option ρ
def adb {ρ : Type} (o b : Int) (f : List Int) (c p q d r : Int) (s : Bool) (a : List Int) (g h i j k : Int) (l : Bool) (m n : List Int) (t u v e w : Int) (y : Bool) (z A B : List Int) (nx F : b5p ρ) : Option ρ := br (decide (b < o)) (br (decide (0 ≤ b)) (br (decide (b < (↑B.length : Int))) (br (decide (e < 0)) none (oh g h i j k l [] m n (bits BinOp.or IntKind.u64 (IntKind.u64.wrap (IntKind.u64.wrap b * 2 ^ min e.toNat 64)) (IntKind.u64.wrap (B.getD b.toNat 0))) a fun C => br (decide ((f.length + C.length) * 1 ≤ 140737488355328)) (br (decide (0 ≤ IntKind.i64.wrap (c * IntKind.i64.wrap (d + 1)))) (br (decide (IntKind.i64.wrap (c * IntKind.i64.wrap (d + 1)) ≤ (↑a.length : Int))) (br (decide ((↑a.length : Int) ≤ (↑a.length : Int))) (nx o (IntKind.i64.wrap (b + 1)) (f ++ C) c p q d r s (List.drop (IntKind.i64.wrap (c * IntKind.i64.wrap (d + 1))).toNat (List.take (↑a.length : Int).toNat a)) g h i j k l m n t u v e w y z A B) none) none) none) none)) none) none) (F o b f c p q d r s a g h i j k l m n t u v e w y z A B)
abbrev bta := Int × Int × (List Int) × Int × Int × Int × Int × Int × Bool × (List Int) × Int × Int × Int × Int × Int × Bool × (List Int) × (List Int) × Int × Int × Int × Int × Int × Bool × (List Int) × (List Int) × (List Int)
abbrev b5j := bta
def b1e {ρ : Type} (f : bta → Option ρ) : b5p ρ := fun A B a b c d e g h i j k l m n o p q r s t u v w y z C => f (A, B, a, b, c, d, e, g, h, i, j, k, l, m, n, o, p, q, r, s, t, u, v, w, y, z, C)
def bth {ρ : Type} : adp bta b5j ρ := fun (z, A, a, b, c, d, e, f, g, h, i, j, k, l, m, n, o, p, q, r, s, t, u, v, w, y, B) next ex => adb z A a b c d e f g h i j k l m n o p q r s t u v w y B (b1e next) (b1e ex)
def b0z {ρ : Type} := shut (lp (bth (ρ := ρ)))
theorem b54 {ρ : Type} : b0z (ρ := ρ) = lp bth := bn _
def bxg {ρ : Type} (f : adr bta b5j ρ) (A B : Int) (a : List Int) (b c d e g : Int) (h : Bool) (i : List Int) (j k l m n : Int) (o : Bool) (p q : List Int) (r s t u v : Int) (w : Bool) (y z C : List Int) (F : b5p ρ) : Option ρ := f (A, B, a, b, c, d, e, g, h, i, j, k, l, m, n, o, p, q, r, s, t, u, v, w, y, z, C) (fun (A, B, a, b, c, d, e, g, h, i, j, k, l, m, n, o, p, q, r, s, t, u, v, w, y, z, C) => F A B a b c d e g h i j k l m n o p q r s t u v w y z C)
def ah0 {ρ : Type} := bxg (lp (bth (ρ := ρ)))
def ahh {ρ : Type} := bxg (b0z (ρ := ρ))
theorem ald {ρ : Type} : ahh (ρ := ρ) = ah0 := congrArg bxg b54
def vv {ρ : Type} (b e f c d : Int) (a : Bool) (h i g j : List Int) (k : (List Int) → Option ρ) : Option ρ := iq b e f c d a fun v w => mq b e f c d a fun y => br (!y) (k []) (br ((↑g.length : Int) != b) (k []) (br ((↑i.length : Int) != w) (k []) (br ((↑h.length : Int) != v) (k []) (jk i c d fun l => ahh (↑l.length : Int) 0 [] b e f c d a h b e f c d a g j b e f c d a g j l fun W Z z q7 q8 q9 A B C F m n o p q r s t G H I J M N O Q U => mh m n o p q r [] s t z fun u => k u))))
def pq {ρ : Type} := shut (vv (ρ := ρ))
theorem aaj {ρ : Type} (b : Int) (c : Int) (d : Int) (e : Int) (f : Int) (a : Bool) (g : List Int) (h : List Int) (i : List Int) (j : List Int) (k : (List Int) → Option ρ) : pq b c d e f a g h i j k = vv b c d e f a g h i j k := by unfold pq; rw [bn]

def ao0 {ρ : Type} (b c d e f : Int) (a : Bool) (h : List (List Int)) (i g : List Int) (k : (List Int) → Option ρ) : Option ρ := wh g 2 4 fun j => aau g fun l => wh j 3 l fun m => jv h fun n => sw b c d e f a i m n fun o => k o
def ahl {ρ : Type} := shut (ao0 (ρ := ρ))
theorem ax7 {ρ : Type} (b : Int) (c : Int) (d : Int) (e : Int) (f : Int) (a : Bool) (g : List (List Int)) (h : List Int) (i : List Int) (k : (List Int) → Option ρ) : ahl b c d e f a g h i k = ao0 b c d e f a g h i k := by unfold ahl; rw [bn]

abbrev by7 (ρ : Type) := (List Int) → (List Int) → Int → Int → (List Int) → (List Int) → Int → (List Int) → (List Int) → Int → Int → Int → Int → Int → Bool → (List (List Int)) → Option ρ
def ae0 {ρ : Type} (n k : List Int) (l i : Int) (j m : List Int) (a : Int) (o d : List Int) (b e f c g : Int) (h : Bool) (p : List (List Int)) (nx q : by7 ρ) : Option ρ := br (decide (a < c)) (br (decide ((0 : Int) ≤ IntKind.i64.wrap (b * IntKind.i64.wrap (a + (1 : Int))))) (br (decide (IntKind.i64.wrap (b * IntKind.i64.wrap (a + (1 : Int))) ≤ IntKind.i64.wrap (b * IntKind.i64.wrap (a + (2 : Int))))) (br (decide (IntKind.i64.wrap (b * IntKind.i64.wrap (a + (2 : Int))) ≤ (↑j.length : Int))) (jv [m, List.drop (IntKind.i64.wrap (b * IntKind.i64.wrap (a + (1 : Int)))).toNat (List.take (IntKind.i64.wrap (b * IntKind.i64.wrap (a + (2 : Int)))).toNat j)] fun r => br (decide (a < (0 : Int))) none (br ((i.fdiv ((2 : Int) ^ min a.toNat 64)).tmod (2 : Int) == (1 : Int)) (jv [List.drop (IntKind.i64.wrap (b * IntKind.i64.wrap (a + (1 : Int)))).toNat (List.take (IntKind.i64.wrap (b * IntKind.i64.wrap (a + (2 : Int)))).toNat j), m] fun s => br (decide (IntKind.i64.wrap (a + (1 : Int)) < (0 : Int))) none (uq d (3 : Int) (IntKind.i64.wrap (a + (1 : Int))) (i.fdiv ((2 : Int) ^ min (IntKind.i64.wrap (a + (1 : Int))).toNat 64)) fun t => sw b e f c g h k t s fun u => nx n k l i j u (IntKind.i64.wrap (a + (1 : Int))) o d b e f c g h p)) (br (decide (IntKind.i64.wrap (a + (1 : Int)) < (0 : Int))) none (uq d (3 : Int) (IntKind.i64.wrap (a + (1 : Int))) (i.fdiv ((2 : Int) ^ min (IntKind.i64.wrap (a + (1 : Int))).toNat 64)) fun v => sw b e f c g h k v r fun w => nx n k l i j w (IntKind.i64.wrap (a + (1 : Int))) o d b e f c g h p)))) none) none) none) (q n k l i j m a o d b e f c g h p)
abbrev bsq := (List Int) × (List Int) × Int × Int × (List Int) × (List Int) × Int × (List Int) × (List Int) × Int × Int × Int × Int × Int × Bool × (List (List Int))
abbrev bys := bsq
def b1g {ρ : Type} (f : bsq → Option ρ) : by7 ρ := fun n o i j k l m p a b c d e g h q => f (n, o, i, j, k, l, m, p, a, b, c, d, e, g, h, q)
def bsi {ρ : Type} : adp bsq bys ρ := fun (m, n, h, i, j, k, l, o, a, b, c, d, e, f, g, p) next ex => ae0 m n h i j k l o a b c d e f g p (b1g next) (b1g ex)
def b2j {ρ : Type} := shut (lp (bsi (ρ := ρ)))
theorem b62 {ρ : Type} : b2j (ρ := ρ) = lp bsi := bn _
def bxc {ρ : Type} (f : adr bsq bys ρ) (n o : List Int) (i j : Int) (k l : List Int) (m : Int) (p a : List Int) (b c d e g : Int) (h : Bool) (q : List (List Int)) (r : by7 ρ) : Option ρ := f (n, o, i, j, k, l, m, p, a, b, c, d, e, g, h, q) (fun (n, o, i, j, k, l, m, p, a, b, c, d, e, g, h, q) => r n o i j k l m p a b c d e g h q)
def ajt {ρ : Type} := bxc (lp (bsi (ρ := ρ)))
def ajr {ρ : Type} := bxc (b2j (ρ := ρ))
theorem anj {ρ : Type} : ajr (ρ := ρ) = ajt := congrArg bxc b62
abbrev b1j (ρ : Type) := (List Int) → (List Int) → Int → (List (List Int)) → Int → Int → Int → Int → Int → Bool → (List Int) → (List Int) → Option ρ
def af6 {ρ : Type} (d l : List Int) (c : Int) (m : List (List Int)) (a f g b e : Int) (h : Bool) (i j : List Int) (nx u : b1j ρ) : Option ρ := br (decide (c < e)) (br (decide (b < 0)) none (br (decide (0 ≤ c)) (br (decide (c < (↑j.length : Int))) (br (decide (0 ≤ IntKind.i64.wrap (IntKind.i64.wrap (c * a) * IntKind.i64.wrap (b + 1)))) (br (decide (IntKind.i64.wrap (IntKind.i64.wrap (c * a) * IntKind.i64.wrap (b + 1)) ≤ (↑d.length : Int))) (br (decide ((↑d.length : Int) ≤ (↑d.length : Int))) (uq i 3 0 (IntKind.u64.wrap (IntKind.u64.wrap (IntKind.u64.wrap c * 2 ^ min b.toNat 64) + IntKind.u64.wrap (j.getD c.toNat 0))) fun v => br (decide (0 ≤ a)) (br (decide (a ≤ (↑(List.drop (IntKind.i64.wrap (IntKind.i64.wrap (c * a) * IntKind.i64.wrap (b + 1))).toNat (List.take (↑d.length : Int).toNat d)).length : Int))) (sw a f g b e h l v (List.drop 0 (List.take a.toNat (List.drop (IntKind.i64.wrap (IntKind.i64.wrap (c * a) * IntKind.i64.wrap (b + 1))).toNat (List.take (↑d.length : Int).toNat d)))) fun w => ajr d l c (IntKind.u64.wrap (IntKind.u64.wrap (IntKind.u64.wrap c * 2 ^ min b.toNat 64) + IntKind.u64.wrap (j.getD c.toNat 0))) (List.drop (IntKind.i64.wrap (IntKind.i64.wrap (c * a) * IntKind.i64.wrap (b + 1))).toNat (List.take (↑d.length : Int).toNat d)) w 0 j i a f g b e h m fun y z A F G B H C n o p q r s t k => br (decide ((k.length + 1) * 24 ≤ 140737488355328)) (nx y z (IntKind.i64.wrap (A + 1)) (k ++ [B]) o p q r s t n C) none) none) none) none) none) none) none) none)) (u d l c m a f g b e h i j)
abbrev bs9 := (List Int) × (List Int) × Int × (List (List Int)) × Int × Int × Int × Int × Int × Bool × (List Int) × (List Int)
abbrev bze := bs9
def b3g {ρ : Type} (f : bs9 → Option ρ) : b1j ρ := fun j k i l a b c d e g h m => f (j, k, i, l, a, b, c, d, e, g, h, m)
def btf {ρ : Type} : adp bs9 bze ρ := fun (i, j, h, k, a, b, c, d, e, f, g, l) next ex => af6 i j h k a b c d e f g l (b3g next) (b3g ex)
def b35 {ρ : Type} := shut (lp (btf (ρ := ρ)))
theorem b5z {ρ : Type} : b35 (ρ := ρ) = lp btf := bn _
def bxs {ρ : Type} (f : adr bs9 bze ρ) (j k : List Int) (i : Int) (l : List (List Int)) (a b c d e : Int) (g : Bool) (h m : List Int) (n : b1j ρ) : Option ρ := f (j, k, i, l, a, b, c, d, e, g, h, m) (fun (j, k, i, l, a, b, c, d, e, g, h, m) => n j k i l a b c d e g h m)
def alc {ρ : Type} := bxs (lp (btf (ρ := ρ)))
def aku {ρ : Type} := bxs (b35 (ρ := ρ))
theorem aod {ρ : Type} : aku (ρ := ρ) = alc := congrArg bxs b5z
def yc {ρ : Type} (b e f c d : Int) (a : Bool) (g h i q : List Int) (k : (List Int) → Option ρ) : Option ρ := vw b e f c d a fun r s => qo b e f c d a fun t => br (!t) (k []) (br ((↑i.length : Int) != b) (k []) (br ((↑h.length : Int) != s) (k []) (br ((↑g.length : Int) != r) (k []) (uz h c d fun u => aku g i 0 [] b e f c d a q u fun B v C w y z j l m n o A => ahl y z j l m n w v o fun p => k p))))
def ql {ρ : Type} := shut (yc (ρ := ρ))
theorem aa4 {ρ : Type} (b : Int) (c : Int) (d : Int) (e : Int) (f : Int) (a : Bool) (g : List Int) (h : List Int) (i : List Int) (j : List Int) (k : (List Int) → Option ρ) : ql b c d e f a g h i j k = yc b c d e f a g h i j k := by unfold ql; rw [bn]

def afb {ρ : Type} (b c d e f : Int) (a : Bool) (i j g h l : List Int) (k : Bool → Option ρ) : Option ρ := aam b c d e f a fun o => br (!o) (tu fun p => k p) (agh [j, g, h] fun q => br (!q) (tu fun r => k r) (br (decide ((↑l.length : Int) > 2000)) (tu fun s => k s) (yw b c d e f a h j g i fun t => ac9 b c d e f a h j g i fun u => aci t u fun v => br v (pq b c d e f a l h g i fun w => ql b c d e f a l h g i fun y => aci w y fun m => br m (tu fun n => k n) (k false)) (k false))))
def xq {ρ : Type} := shut (afb (ρ := ρ))
theorem aky {ρ : Type} (b : Int) (c : Int) (d : Int) (e : Int) (f : Int) (a : Bool) (g : List Int) (h : List Int) (i : List Int) (j : List Int) (l : List Int) (k : Bool → Option ρ) : xq b c d e f a g h i j l k = afb b c d e f a g h i j l k := by unfold xq; rw [bn]

























































































def ahf {ρ : Type} (b : List Int) (a : Int) (k : Int → Option ρ) : Option ρ := br (decide (0 ≤ IntKind.i64.wrap (8 + IntKind.i64.wrap (4 * a)))) (br (decide (IntKind.i64.wrap (8 + IntKind.i64.wrap (4 * a)) ≤ IntKind.i64.wrap (12 + IntKind.i64.wrap (4 * a)))) (br (decide (IntKind.i64.wrap (12 + IntKind.i64.wrap (4 * a)) ≤ (↑32 : Int))) (u6 (List.take (IntKind.i64.wrap (12 + IntKind.i64.wrap (4 * a)) - IntKind.i64.wrap (8 + IntKind.i64.wrap (4 * a))).toNat (List.drop (IntKind.i64.wrap (8 + IntKind.i64.wrap (4 * a))).toNat b)) fun c => k c) none) none) none
def aey {ρ : Type} := shut (ahf (ρ := ρ))
theorem aw1 {ρ : Type} (a : List Int) (b : Int) (k : Int → Option ρ) : aey a b k = ahf a b k := by unfold aey; rw [bn]

def ab6 {ρ : Type} (r s t u v : Int) (q : Bool) (n : Nat) (d : Int) (a : List Int) (m : Int) (l : Bool) (o e : Int) (b f : List Int) (g p h : Int) (c i : List Int) (j : Int) (w y : List Int) (A : Int) (k : (List Int) → Option ρ) : Option ρ := oz y 2 5 fun B => aey y 3 fun C => oz B 3 C fun F => oz F 4 (IntKind.u64.wrap A) fun z => br (decide (n = 1)) (l9 z w d a m l o fun G => k G) (br (decide (n = 2)) (l8 z w e b f g p h c i j fun H => k H) none)
def ae6 {ρ : Type} := shut (ab6 (ρ := ρ))
theorem ani {ρ : Type} (q : Int) (r : Int) (s : Int) (t : Int) (u : Int) (m : Bool) (v : Nat) (d : Int) (a : List Int) (n : Int) (l : Bool) (o : Int) (e : Int) (b : List Int) (f : List Int) (g : Int) (p : Int) (h : Int) (c : List Int) (i : List Int) (j : Int) (w : List Int) (y : List Int) (z : Int) (k : (List Int) → Option ρ) : ae6 q r s t u m v d a n l o e b f g p h c i j w y z k = ab6 q r s t u m v d a n l o e b f g p h c i j w y z k := by unfold ae6; rw [bn]































































end P
end
