/-
  ForsGrows, part 12: an interpreter of my own over abstract values, the pure functions, the walks and the plain law.
-/

import Derived.Test.YtjhnljhjpnjieaaGreatDoorForsGrowsG
import Derived.Test.YtjhnljhjpnjieaaGreatDoorForsGrowsK
import Derived.Test.YtjhnljhjpnjieaaGreatDoorForsGrowsI

noncomputable section
open Go Go.Abs
set_option linter.unusedVariables false
namespace P

abbrev byr (ρ : Type) := Int → Int → (List Int) → Int → (List Int) → Int → Bool → Int → (List Int) → Int → Bool → Option ρ
def ag8 {ρ : Type} (j k : Int) (b : List Int) (d : Int) (c : List Int) (a : Int) (e : Bool) (f : Int) (g : List Int) (h : Int) (i : Bool) (nx m : byr ρ) : Option ρ := br (decide ((↑b.length : Int) < j)) (br (a == k) (mo c fun l => br (decide ((b.length + 1) * 1 ≤ 140737488355328)) (nx j k (b ++ [IntKind.u8.wrap ((l.getD 0 0).fdiv (2 ^ 0))]) d l (IntKind.i64.wrap (0 + 1)) e f g h i) none) (br (decide (0 ≤ IntKind.i64.wrap (a.tdiv 8))) (br (decide (IntKind.i64.wrap (a.tdiv 8) < (↑25 : Int))) (br (decide (IntKind.i64.wrap (8 * a.tmod 8) < 0)) none (br (decide ((b.length + 1) * 1 ≤ 140737488355328)) (nx j k (b ++ [IntKind.u8.wrap ((c.getD (IntKind.i64.wrap (a.tdiv 8)).toNat 0).fdiv (2 ^ min (IntKind.i64.wrap (8 * a.tmod 8)).toNat 64))]) d c (IntKind.i64.wrap (a + 1)) e f g h i) none)) none) none)) (m j k b d c a e f g h i)
abbrev bsc := Int × Int × (List Int) × Int × (List Int) × Int × Bool × Int × (List Int) × Int × Bool
abbrev byz := bsc
def bzh {ρ : Type} (f : bsc → Option ρ) : byr ρ := fun k l j a b c d e g h i => f (k, l, j, a, b, c, d, e, g, h, i)
def bqv {ρ : Type} : aea bsc byz ρ := fun (j, k, i, a, b, c, d, e, f, g, h) next ex => ag8 j k i a b c d e f g h (bzh next) (bzh ex)
def b1p {ρ : Type} := shut (lp (bqv (ρ := ρ)))
theorem b39 {ρ : Type} : b1p (ρ := ρ) = lp bqv := bn _
def bvy {ρ : Type} (f : aeg bsc byz ρ) (k l : Int) (j : List Int) (a : Int) (b : List Int) (c : Int) (d : Bool) (e : Int) (g : List Int) (h : Int) (i : Bool) (m : byr ρ) : Option ρ := f (k, l, j, a, b, c, d, e, g, h, i) (fun (k, l, j, a, b, c, d, e, g, h, i) => m k l j a b c d e g h i)
def ald {ρ : Type} := bvy (lp (bqv (ρ := ρ)))
def yg {ρ : Type} := bvy (b1p (ρ := ρ))
theorem apg {ρ : Type} : yg (ρ := ρ) = ald := congrArg bvy b39
def agu {ρ : Type} (a : Int) (b : List Int) (c : Int) (d : Bool) (f : Int) (k : Int → (List Int) → Int → Bool → (List Int) → Option ρ) : Option ρ := br (decide (f < 0)) (k a b c d []) (aak a fun e => br (!d) (br (a == 4) (w9 b c 6 fun G => w9 G (IntKind.i64.wrap (e - 1)) 128 fun H => mo H fun I => yg f e [] a I 0 true 0 [0, 0, 0, 0, 0, 0, 0, 0, 0, 0, 0, 0, 0, 0, 0, 0, 0, 0, 0, 0, 0, 0, 0, 0, 0] 0 false fun q4 q5 J M N O g Q U W Z => k M N O g J) (br (a == 5) (w9 b c 6 fun h => w9 h (IntKind.i64.wrap (e - 1)) 128 fun i => mo i fun j => yg f e [] a j 0 true 0 [0, 0, 0, 0, 0, 0, 0, 0, 0, 0, 0, 0, 0, 0, 0, 0, 0, 0, 0, 0, 0, 0, 0, 0, 0] 0 false fun aa ab l m n o p ac ad ae af => k m n o p l) (w9 b c 31 fun q => w9 q (IntKind.i64.wrap (e - 1)) 128 fun r => mo r fun s => yg f e [] a s 0 true 0 [0, 0, 0, 0, 0, 0, 0, 0, 0, 0, 0, 0, 0, 0, 0, 0, 0, 0, 0, 0, 0, 0, 0, 0, 0] 0 false fun ag ah t u v w y ai aj ak al => k u v w y t))) (yg f e [] a b c d 0 [0, 0, 0, 0, 0, 0, 0, 0, 0, 0, 0, 0, 0, 0, 0, 0, 0, 0, 0, 0, 0, 0, 0, 0, 0] 0 false fun am an z A B C F ao ap aq ar => k A B C F z))
def yh {ρ : Type} := shut (agu (ρ := ρ))
theorem aml {ρ : Type} (b : Int) (a : List Int) (d : Int) (c : Bool) (e : Int) (k : Int → (List Int) → Int → Bool → (List Int) → Option ρ) : yh b a d c e k = agu b a d c e k := by unfold yh; rw [bn]

abbrev by9 (ρ : Type) := (List Int) → Int → Int → (List Int) → Int → Bool → Int → (List Int) → Int → Bool → Option ρ
def ajm {ρ : Type} (i : List Int) (c a : Int) (j : List Int) (b : Int) (d : Bool) (e : Int) (f : List Int) (g : Int) (h : Bool) (nx l : by9 ρ) : Option ρ := br (decide (c < (↑i.length : Int))) (br (decide (0 ≤ c)) (br (decide (c < (↑i.length : Int))) (w9 j b (i.getD c.toNat 0) fun k => aak a fun m => br (IntKind.i64.wrap (b + 1) == m) (mo k fun n => nx i (IntKind.i64.wrap (c + 1)) a n 0 d e f g h) (nx i (IntKind.i64.wrap (c + 1)) a k (IntKind.i64.wrap (b + 1)) d e f g h)) none) none) (l i c a j b d e f g h)
abbrev btj := (List Int) × Int × Int × (List Int) × Int × Bool × Int × (List Int) × Int × Bool
abbrev b1f := btj
def bxt {ρ : Type} (f : btj → Option ρ) : by9 ρ := fun j k a b c d e g h i => f (j, k, a, b, c, d, e, g, h, i)
def bue {ρ : Type} : aea btj b1f ρ := fun (i, j, a, b, c, d, e, f, g, h) next ex => ajm i j a b c d e f g h (bxt next) (bxt ex)
def bww {ρ : Type} := shut (lp (bue (ρ := ρ)))
theorem b3j {ρ : Type} : bww (ρ := ρ) = lp bue := bn _
def bu5 {ρ : Type} (f : aeg btj b1f ρ) (j : List Int) (k a : Int) (b : List Int) (c : Int) (d : Bool) (e : Int) (g : List Int) (h : Int) (i : Bool) (l : by9 ρ) : Option ρ := f (j, k, a, b, c, d, e, g, h, i) (fun (j, k, a, b, c, d, e, g, h, i) => l j k a b c d e g h i)
def aom {ρ : Type} := bu5 (lp (bue (ρ := ρ)))
def aoh {ρ : Type} := bu5 (bww (ρ := ρ))
theorem ar9 {ρ : Type} : aoh (ρ := ρ) = aom := congrArg bu5 b3j
def aix {ρ : Type} (c : Int) (a : List Int) (d : Int) (b : Bool) (e : List Int) (k : Int → (List Int) → Int → Bool → Option ρ) : Option ρ := br b (k c a d b) (aoh e 0 c a d b 0 [0, 0, 0, 0, 0, 0, 0, 0, 0, 0, 0, 0, 0, 0, 0, 0, 0, 0, 0, 0, 0, 0, 0, 0, 0] 0 false fun j l f g h i m n o p => k f g h i)
def z8 {ρ : Type} := shut (aix (ρ := ρ))
theorem apq {ρ : Type} (b : Int) (a : List Int) (d : Int) (c : Bool) (e : List Int) (k : Int → (List Int) → Int → Bool → Option ρ) : z8 b a d c e k = aix b a d c e k := by unfold z8; rw [bn]

def ane {ρ : Type} (d : Int) (e : List Int) (a : Int) (k : (List Int) → Int → Option ρ) : Option ρ := alz d fun f g h i b => br (b != 0) (k [] b) (br (decide (a < 0)) (k [] 8) (br (decide (a > 16777216)) (k [] 8) (z8 f g h i e fun j l m n => yh j l m n a fun r o p q c => k c 0)))
def ag3 {ρ : Type} := shut (ane (ρ := ρ))
theorem axo {ρ : Type} (a : Int) (b : List Int) (c : Int) (k : (List Int) → Int → Option ρ) : ag3 a b c k = ane a b c k := by unfold ag3; rw [bn]

def ani {ρ : Type} (a : Int) (k : Int → (List Int) → (List Int) → Int → Int → Option ρ) : Option ρ := br (a == 1) (k a [1779033703, 3144134277, 1013904242, 2773480762, 1359893119, 2600822924, 528734635, 1541459225] [] 0 0) (br (a == 2) (k a [14680500436340154072, 7105036623409894663, 10473403895298186519, 1526699215303891257, 7436329637833083697, 10282925794625328401, 15784041429090275239, 5167115440072839076] [] 0 0) (br (a == 3) (k a [7640891576956012808, 13503953896175478587, 4354685564936845355, 11912009170470909681, 5840696475078001361, 11170449401992604703, 2270897969802886507, 6620516959819538809] [] 0 0) (k 0 [0, 0, 0, 0, 0, 0, 0, 0] [] 0 9)))
def ahf {ρ : Type} := shut (ani (ρ := ρ))
theorem awi {ρ : Type} (a : Int) (k : Int → (List Int) → (List Int) → Int → Int → Option ρ) : ahf a k = ani a k := by unfold ahf; rw [bn]

def aj7 {ρ : Type} (a : Int) (k : Int → Option ρ) : Option ρ := br (a == 1) (k 64) (k 128)
def xq {ρ : Type} := shut (aj7 (ρ := ρ))
theorem aru {ρ : Type} (a : Int) (k : Int → Option ρ) : xq a k = aj7 a k := by unfold xq; rw [bn]

def akm {ρ : Type} (k : (List Int) → Option ρ) : Option ρ := k [1116352408, 1899447441, 3049323471, 3921009573, 961987163, 1508970993, 2453635748, 2870763221, 3624381080, 310598401, 607225278, 1426881987, 1925078388, 2162078206, 2614888103, 3248222580, 3835390401, 4022224774, 264347078, 604807628, 770255983, 1249150122, 1555081692, 1996064986, 2554220882, 2821834349, 2952996808, 3210313671, 3336571891, 3584528711, 113926993, 338241895, 666307205, 773529912, 1294757372, 1396182291, 1695183700, 1986661051, 2177026350, 2456956037, 2730485921, 2820302411, 3259730800, 3345764771, 3516065817, 3600352804, 4094571909, 275423344, 430227734, 506948616, 659060556, 883997877, 958139571, 1322822218, 1537002063, 1747873779, 1955562222, 2024104815, 2227730452, 2361852424, 2428436474, 2756734187, 3204031479, 3329325298]
def wm {ρ : Type} := shut (akm (ρ := ρ))
theorem agy {ρ : Type}  (k : (List Int) → Option ρ) : wm  k = akm  k := by unfold wm; rw [bn]

def aj9 {ρ : Type} (k : (List Int) → Option ρ) : Option ρ := k [4794697086780616226, 8158064640168781261, 13096744586834688815, 16840607885511220156, 4131703408338449720, 6480981068601479193, 10538285296894168987, 12329834152419229976, 15566598209576043074, 1334009975649890238, 2608012711638119052, 6128411473006802146, 8268148722764581231, 9286055187155687089, 11230858885718282805, 13951009754708518548, 16472876342353939154, 17275323862435702243, 1135362057144423861, 2597628984639134821, 3308224258029322869, 5365058923640841347, 6679025012923562964, 8573033837759648693, 10970295158949994411, 12119686244451234320, 12683024718118986047, 13788192230050041572, 14330467153632333762, 15395433587784984357, 489312712824947311, 1452737877330783856, 2861767655752347644, 3322285676063803686, 5560940570517711597, 5996557281743188959, 7280758554555802590, 8532644243296465576, 9350256976987008742, 10552545826968843579, 11727347734174303076, 12113106623233404929, 14000437183269869457, 14369950271660146224, 15101387698204529176, 15463397548674623760, 17586052441742319658, 1182934255886127544, 1847814050463011016, 2177327727835720531, 2830643537854262169, 3796741975233480872, 4115178125766777443, 5681478168544905931, 6601373596472566643, 7507060721942968483, 8399075790359081724, 8693463985226723168, 9568029438360202098, 10144078919501101548, 10430055236837252648, 11840083180663258601, 13761210420658862357, 14299343276471374635, 14566680578165727644, 15097957966210449927, 16922976911328602910, 17689382322260857208, 500013540394364858, 748580250866718886, 1242879168328830382, 1977374033974150939, 2944078676154940804, 3659926193048069267, 4368137639120453308, 4836135668995329356, 5532061633213252278, 6448918945643986474, 6902733635092675308, 7801388544844847127]
def wh {ρ : Type} := shut (aj9 (ρ := ρ))
theorem aho {ρ : Type}  (k : (List Int) → Option ρ) : wh  k = aj9  k := by unfold wh; rw [bn]

abbrev bw1 (ρ : Type) := (List Int) → Int → Int → Option ρ
def aqu {ρ : Type} (b : List Int) (c a : Int) (nx d : bw1 ρ) : Option ρ := br (decide (a < (↑b.length : Int))) (br (decide (0 ≤ a)) (br (decide (a < (↑b.length : Int))) (nx b (IntKind.u64.wrap (IntKind.u64.wrap (c * 256) + IntKind.u64.wrap (b.getD a.toNat 0))) (IntKind.i64.wrap (a + 1))) none) none) (d b c a)
abbrev brx := (List Int) × Int × Int
abbrev b0a := brx
def bzv {ρ : Type} (f : brx → Option ρ) : bw1 ρ := fun a b c => f (a, b, c)
def bqb {ρ : Type} : aea brx b0a ρ := fun (a, b, c) next ex => aqu a b c (bzv next) (bzv ex)
def bzm {ρ : Type} := shut (lp (bqb (ρ := ρ)))
theorem b4e {ρ : Type} : bzm (ρ := ρ) = lp bqb := bn _
def bu0 {ρ : Type} (f : aeg brx b0a ρ) (a : List Int) (b c : Int) (d : bw1 ρ) : Option ρ := f (a, b, c) (fun (a, b, c) => d a b c)
def av2 {ρ : Type} := bu0 (lp (bqb (ρ := ρ)))
def aw9 {ρ : Type} := bu0 (bzm (ρ := ρ))
theorem ayq {ρ : Type} : aw9 (ρ := ρ) = av2 := congrArg bu0 b4e
def ano {ρ : Type} (a : List Int) (k : Int → Option ρ) : Option ρ := aw9 a 0 0 fun c b d => k b
def acs {ρ : Type} := shut (ano (ρ := ρ))
theorem aw3 {ρ : Type} (a : List Int) (k : Int → Option ρ) : acs a k = ano a k := by unfold acs; rw [bn]

def ado {ρ : Type} (b a : Int) (c : Bool) (k : Int → Option ρ) : Option ρ := br c (br (decide (a < 0)) none (br (decide (IntKind.i64.wrap (64 - a) < 0)) none (k (bits BinOp.or IntKind.u64 (b.fdiv (2 ^ min a.toNat 64)) (IntKind.u64.wrap (b * 2 ^ min (IntKind.i64.wrap (64 - a)).toNat 64)))))) (br (decide (a < 0)) none (br (decide (IntKind.i64.wrap (32 - a) < 0)) none (k (bits BinOp.or IntKind.u64 (b.fdiv (2 ^ min a.toNat 64)) (bits BinOp.and IntKind.u64 (IntKind.u64.wrap (b * 2 ^ min (IntKind.i64.wrap (32 - a)).toNat 64)) 4294967295)))))
def yc {ρ : Type} := shut (ado (ρ := ρ))
theorem ahz {ρ : Type} (a : Int) (b : Int) (c : Bool) (k : Int → Option ρ) : yc a b c k = ado a b c k := by unfold yc; rw [bn]

def abh {ρ : Type} (a d e c : Int) (f b : Bool) (k : Int → Option ρ) : Option ρ := br (decide (c < 0)) none (br (!f) (yc a c b fun g => yc a d b fun h => yc a e b fun i => k (bits BinOp.xor IntKind.u64 (bits BinOp.xor IntKind.u64 h i) g)) (yc a d b fun j => yc a e b fun l => k (bits BinOp.xor IntKind.u64 (bits BinOp.xor IntKind.u64 j l) (a.fdiv (2 ^ min c.toNat 64)))))
def yt {ρ : Type} := shut (abh (ρ := ρ))
theorem aey {ρ : Type} (a : Int) (b : Int) (c : Int) (d : Int) (e : Bool) (f : Bool) (k : Int → Option ρ) : yt a b c d e f k = abh a b c d e f k := by unfold yt; rw [bn]

abbrev byw (ρ : Type) := (List Int) → Bool → Int → Int → Int → Int → (List Int) → Option ρ
def afd {ρ : Type} (d : List Int) (f : Bool) (g e c a : Int) (b : List Int) (nx h : byw ρ) : Option ρ := br (decide (a < g)) (br (decide (a < 16)) (br (decide (0 ≤ IntKind.i64.wrap (a * c))) (br (decide (IntKind.i64.wrap (a * c) ≤ IntKind.i64.wrap (IntKind.i64.wrap (a * c) + c))) (br (decide (IntKind.i64.wrap (IntKind.i64.wrap (a * c) + c) ≤ (↑d.length : Int))) (acs (List.drop (IntKind.i64.wrap (a * c)).toNat (List.take (IntKind.i64.wrap (IntKind.i64.wrap (a * c) + c)).toNat d)) fun i => br (decide ((b.length + 1) * 8 ≤ 140737488355328)) (nx d f g e c (IntKind.i64.wrap (a + 1)) (b ++ [i])) none) none) none) none) (br (decide (0 ≤ IntKind.i64.wrap (a - 15))) (br (decide (IntKind.i64.wrap (a - 15) < (↑b.length : Int))) (yt (b.getD (IntKind.i64.wrap (a - 15)).toNat 0) 7 18 3 true false fun j => br (decide (0 ≤ IntKind.i64.wrap (a - 2))) (br (decide (IntKind.i64.wrap (a - 2) < (↑b.length : Int))) (yt (b.getD (IntKind.i64.wrap (a - 2)).toNat 0) 17 19 10 true false fun k => br f (br (decide (0 ≤ IntKind.i64.wrap (a - 15))) (br (decide (IntKind.i64.wrap (a - 15) < (↑b.length : Int))) (yt (b.getD (IntKind.i64.wrap (a - 15)).toNat 0) 1 8 7 true true fun l => br (decide (0 ≤ IntKind.i64.wrap (a - 2))) (br (decide (IntKind.i64.wrap (a - 2) < (↑b.length : Int))) (yt (b.getD (IntKind.i64.wrap (a - 2)).toNat 0) 19 61 6 true true fun m => br (decide (0 ≤ IntKind.i64.wrap (a - 7))) (br (decide (IntKind.i64.wrap (a - 7) < (↑b.length : Int))) (br (decide (0 ≤ IntKind.i64.wrap (a - 16))) (br (decide (IntKind.i64.wrap (a - 16) < (↑b.length : Int))) (br (decide ((b.length + 1) * 8 ≤ 140737488355328)) (nx d f g e c (IntKind.i64.wrap (a + 1)) (b ++ [bits BinOp.and IntKind.u64 (IntKind.u64.wrap (IntKind.u64.wrap (IntKind.u64.wrap (m + b.getD (IntKind.i64.wrap (a - 7)).toNat 0) + l) + b.getD (IntKind.i64.wrap (a - 16)).toNat 0)) e])) none) none) none) none) none) none) none) none) none) (br (decide (0 ≤ IntKind.i64.wrap (a - 7))) (br (decide (IntKind.i64.wrap (a - 7) < (↑b.length : Int))) (br (decide (0 ≤ IntKind.i64.wrap (a - 16))) (br (decide (IntKind.i64.wrap (a - 16) < (↑b.length : Int))) (br (decide ((b.length + 1) * 8 ≤ 140737488355328)) (nx d f g e c (IntKind.i64.wrap (a + 1)) (b ++ [bits BinOp.and IntKind.u64 (IntKind.u64.wrap (IntKind.u64.wrap (IntKind.u64.wrap (k + b.getD (IntKind.i64.wrap (a - 7)).toNat 0) + j) + b.getD (IntKind.i64.wrap (a - 16)).toNat 0)) e])) none) none) none) none) none)) none) none) none) none)) (h d f g e c a b)
abbrev bqj := (List Int) × Bool × Int × Int × Int × Int × (List Int)
abbrev b1b := bqj
def bu7 {ρ : Type} (f : bqj → Option ρ) : byw ρ := fun b c d e g a h => f (b, c, d, e, g, a, h)
def bp1 {ρ : Type} : aea bqj b1b ρ := fun (b, c, d, e, f, a, g) next ex => afd b c d e f a g (bu7 next) (bu7 ex)
def bxs {ρ : Type} := shut (lp (bp1 (ρ := ρ)))
theorem b3x {ρ : Type} : bxs (ρ := ρ) = lp bp1 := bn _
def bq9 {ρ : Type} (f : aeg bqj b1b ρ) (b : List Int) (c : Bool) (d e g a : Int) (h : List Int) (i : byw ρ) : Option ρ := f (b, c, d, e, g, a, h) (fun (b, c, d, e, g, a, h) => i b c d e g a h)
def alx {ρ : Type} := bq9 (lp (bp1 (ρ := ρ)))
def alb {ρ : Type} := bq9 (bxs (ρ := ρ))
theorem alr {ρ : Type} : alb (ρ := ρ) = alx := congrArg bq9 b3x
def agk {ρ : Type} (b : List Int) (a : Bool) (c d : Int) (k : (List Int) → Option ρ) : Option ρ := br a (alb b a c d 8 0 [] fun j l m n o p f => k f) (alb b a c d 4 0 [] fun q r s g h i e => k e)
def abt {ρ : Type} := shut (agk (ρ := ρ))
theorem aly {ρ : Type} (a : List Int) (b : Bool) (c : Int) (d : Int) (k : (List Int) → Option ρ) : abt a b c d k = agk a b c d k := by unfold abt; rw [bn]

abbrev bv9 (ρ : Type) := Bool → Int → Int → Int → (List Int) → (List Int) → (List Int) → (List Int) → (List Int) → (List Int) → Option ρ
def ad5 {ρ : Type} (i : Bool) (j c b : Int) (g h d e f a : List Int) (nx m : bv9 ρ) : Option ρ := br (decide (b < j)) (yt (a.getD 0 0) 2 13 22 false false fun n => yt (a.getD 4 0) 6 11 25 false false fun k => br i (yt (a.getD 0 0) 28 34 39 false true fun o => yt (a.getD 4 0) 14 18 41 false true fun l => br (decide (0 ≤ b)) (br (decide (b < (↑80 : Int))) (br (decide (0 ≤ b)) (br (decide (b < (↑f.length : Int))) (nx i j c (IntKind.i64.wrap (b + 1)) g h d e f [bits BinOp.and IntKind.u64 (IntKind.u64.wrap (IntKind.u64.wrap (IntKind.u64.wrap (IntKind.u64.wrap (IntKind.u64.wrap (a.getD 7 0 + l) + bits BinOp.xor IntKind.u64 (bits BinOp.and IntKind.u64 (a.getD 4 0) (a.getD 5 0)) (bits BinOp.and IntKind.u64 (bits BinOp.xor IntKind.u64 c (a.getD 4 0)) (a.getD 6 0))) + e.getD b.toNat 0) + f.getD b.toNat 0) + IntKind.u64.wrap (o + bits BinOp.xor IntKind.u64 (bits BinOp.xor IntKind.u64 (bits BinOp.and IntKind.u64 (a.getD 0 0) (a.getD 1 0)) (bits BinOp.and IntKind.u64 (a.getD 0 0) (a.getD 2 0))) (bits BinOp.and IntKind.u64 (a.getD 1 0) (a.getD 2 0))))) c, a.getD 0 0, a.getD 1 0, a.getD 2 0, bits BinOp.and IntKind.u64 (IntKind.u64.wrap (a.getD 3 0 + IntKind.u64.wrap (IntKind.u64.wrap (IntKind.u64.wrap (IntKind.u64.wrap (a.getD 7 0 + l) + bits BinOp.xor IntKind.u64 (bits BinOp.and IntKind.u64 (a.getD 4 0) (a.getD 5 0)) (bits BinOp.and IntKind.u64 (bits BinOp.xor IntKind.u64 c (a.getD 4 0)) (a.getD 6 0))) + e.getD b.toNat 0) + f.getD b.toNat 0))) c, a.getD 4 0, a.getD 5 0, a.getD 6 0]) none) none) none) none) (br (decide (0 ≤ b)) (br (decide (b < (↑64 : Int))) (br (decide (0 ≤ b)) (br (decide (b < (↑f.length : Int))) (nx i j c (IntKind.i64.wrap (b + 1)) g h d e f [bits BinOp.and IntKind.u64 (IntKind.u64.wrap (IntKind.u64.wrap (IntKind.u64.wrap (IntKind.u64.wrap (IntKind.u64.wrap (a.getD 7 0 + k) + bits BinOp.xor IntKind.u64 (bits BinOp.and IntKind.u64 (a.getD 4 0) (a.getD 5 0)) (bits BinOp.and IntKind.u64 (bits BinOp.xor IntKind.u64 c (a.getD 4 0)) (a.getD 6 0))) + d.getD b.toNat 0) + f.getD b.toNat 0) + IntKind.u64.wrap (n + bits BinOp.xor IntKind.u64 (bits BinOp.xor IntKind.u64 (bits BinOp.and IntKind.u64 (a.getD 0 0) (a.getD 1 0)) (bits BinOp.and IntKind.u64 (a.getD 0 0) (a.getD 2 0))) (bits BinOp.and IntKind.u64 (a.getD 1 0) (a.getD 2 0))))) c, a.getD 0 0, a.getD 1 0, a.getD 2 0, bits BinOp.and IntKind.u64 (IntKind.u64.wrap (a.getD 3 0 + IntKind.u64.wrap (IntKind.u64.wrap (IntKind.u64.wrap (IntKind.u64.wrap (a.getD 7 0 + k) + bits BinOp.xor IntKind.u64 (bits BinOp.and IntKind.u64 (a.getD 4 0) (a.getD 5 0)) (bits BinOp.and IntKind.u64 (bits BinOp.xor IntKind.u64 c (a.getD 4 0)) (a.getD 6 0))) + d.getD b.toNat 0) + f.getD b.toNat 0))) c, a.getD 4 0, a.getD 5 0, a.getD 6 0]) none) none) none) none)) (m i j c b g h d e f a)
abbrev bq4 := Bool × Int × Int × Int × (List Int) × (List Int) × (List Int) × (List Int) × (List Int) × (List Int)
abbrev bxk := bq4
def bu2 {ρ : Type} (f : bq4 → Option ρ) : bv9 ρ := fun h i j g a b c d k e => f (h, i, j, g, a, b, c, d, k, e)
def bp2 {ρ : Type} : aea bq4 bxk ρ := fun (g, h, i, f, a, b, c, d, j, e) next ex => ad5 g h i f a b c d j e (bu2 next) (bu2 ex)
def bzf {ρ : Type} := shut (lp (bp2 (ρ := ρ)))
theorem b3s {ρ : Type} : bzf (ρ := ρ) = lp bp2 := bn _
def bqp {ρ : Type} (f : aeg bq4 bxk ρ) (h : Bool) (i j g : Int) (a b c d k e : List Int) (l : bv9 ρ) : Option ρ := f (h, i, j, g, a, b, c, d, k, e) (fun (h, i, j, g, a, b, c, d, k, e) => l h i j g a b c d k e)
def ajv {ρ : Type} := bqp (lp (bp2 (ρ := ρ)))
def ad7 {ρ : Type} := bqp (bzf (ρ := ρ))
theorem ake {ρ : Type} : ad7 (ρ := ρ) = ajv := congrArg bqp b3s
abbrev bv8 (ρ : Type) := Int → Int → (List Int) → (List Int) → (List Int) → Option ρ
def adj {ρ : Type} (e a : Int) (b d c : List Int) (nx f : bv8 ρ) : Option ρ := br (decide (a < 8)) (br (decide (0 ≤ a)) (br (decide (a < (↑8 : Int))) (br (decide (0 ≤ a)) (br (decide (a < (↑8 : Int))) (br (decide (0 ≤ a)) (br (decide (a < (↑8 : Int))) (nx e (IntKind.i64.wrap (a + 1)) b d (c.set a.toNat (bits BinOp.and IntKind.u64 (IntKind.u64.wrap (c.getD a.toNat 0 + b.getD a.toNat 0)) e))) none) none) none) none) none) none) (f e a b d c)
abbrev brj := Int × Int × (List Int) × (List Int) × (List Int)
abbrev b2p := brj
def bux {ρ : Type} (f : brj → Option ρ) : bv8 ρ := fun e d a b c => f (e, d, a, b, c)
def bp0 {ρ : Type} : aea brj b2p ρ := fun (e, d, a, b, c) next ex => adj e d a b c (bux next) (bux ex)
def b1e {ρ : Type} := shut (lp (bp0 (ρ := ρ)))
theorem b4j {ρ : Type} : b1e (ρ := ρ) = lp bp0 := bn _
def br8 {ρ : Type} (f : aeg brj b2p ρ) (e d : Int) (a b c : List Int) (g : bv8 ρ) : Option ρ := f (e, d, a, b, c) (fun (e, d, a, b, c) => g e d a b c)
def ajz {ρ : Type} := br8 (lp (bp0 (ρ := ρ)))
def ad4 {ρ : Type} := br8 (b1e (ρ := ρ))
theorem akk {ρ : Type} : ad4 (ρ := ρ) = ajz := congrArg br8 b4j
def agi {ρ : Type} (b c : List Int) (a : Bool) (k : (List Int) → Option ρ) : Option ρ := wm fun d => wh fun e => br a (abt c a 80 18446744073709551615 fun o => ad7 a 80 18446744073709551615 0 b [0, 0, 0, 0, 0, 0, 0, 0] d e o b fun N O p Q q r U s t f => ad4 p 0 q r f fun u v w y g => k g) (abt c a 64 4294967295 fun h => ad7 a 64 4294967295 0 b [0, 0, 0, 0, 0, 0, 0, 0] d e h b fun z A i B j l C F G m => ad4 i 0 j l m fun H I J M n => k n)
def acu {ρ : Type} := shut (agi (ρ := ρ))
theorem aln {ρ : Type} (a : List Int) (b : List Int) (c : Bool) (k : (List Int) → Option ρ) : acu a b c k = agi a b c k := by unfold acu; rw [bn]

abbrev bza (ρ : Type) := Int → (List Int) → Int → (List Int) → (List Int) → Int → Int → (List Int) → Int → Option ρ
def ajg {ρ : Type} (a : Int) (b : List Int) (c : Int) (d e : List Int) (f g : Int) (h : List Int) (i : Int) (nx j : bza ρ) : Option ρ := br (decide ((↑b.length : Int) ≥ a)) (br (decide (0 ≤ a)) (br (decide (a ≤ (↑b.length : Int))) (acu d (List.drop 0 (List.take a.toNat b)) (a == 128) fun k => br (decide (0 ≤ a)) (br (decide (a ≤ (↑b.length : Int))) (br (decide ((↑b.length : Int) ≤ (↑b.length : Int))) (nx a (List.drop a.toNat (List.take (↑b.length : Int).toNat b)) c k e f g h i) none) none) none) none) none) (j a b c d e f g h i)
abbrev bt1 := Int × (List Int) × Int × (List Int) × (List Int) × Int × Int × (List Int) × Int
abbrev b09 := bt1
def bvu {ρ : Type} (f : bt1 → Option ρ) : bza ρ := fun i j a b c d e g h => f (i, j, a, b, c, d, e, g, h)
def bp4 {ρ : Type} : aea bt1 b09 ρ := fun (h, i, a, b, c, d, e, f, g) next ex => ajg h i a b c d e f g (bvu next) (bvu ex)
def byp {ρ : Type} := shut (lp (bp4 (ρ := ρ)))
theorem b23 {ρ : Type} : byp (ρ := ρ) = lp bp4 := bn _
def bro {ρ : Type} (f : aeg bt1 b09 ρ) (i : Int) (j : List Int) (a : Int) (b c : List Int) (d e : Int) (g : List Int) (h : Int) (k : bza ρ) : Option ρ := f (i, j, a, b, c, d, e, g, h) (fun (i, j, a, b, c, d, e, g, h) => k i j a b c d e g h)
def aqk {ρ : Type} := bro (lp (bp4 (ρ := ρ)))
def amc {ρ : Type} := bro (byp (ρ := ρ))
theorem aph {ρ : Type} : amc (ρ := ρ) = aqk := congrArg bro b23
def ana {ρ : Type} (a : Int) (c b : List Int) (d : Int) (e : List Int) (k : Int → (List Int) → (List Int) → Int → Option ρ) : Option ρ := xq a fun f => l8 [b, e] fun g => amc f g a c b (IntKind.u64.wrap (d + IntKind.u64.wrap (↑e.length : Int))) 0 [0, 0, 0, 0, 0, 0, 0, 0] 0 fun n h i j o l p q m => k i j h l
def ab3 {ρ : Type} := shut (ana (ρ := ρ))
theorem av9 {ρ : Type} (b : Int) (a : List Int) (c : List Int) (d : Int) (e : List Int) (k : Int → (List Int) → (List Int) → Int → Option ρ) : ab3 b a c d e k = ana b a c d e k := by unfold ab3; rw [bn]

abbrev bx5 (ρ : Type) := Int → Int → (List Int) → Option ρ
def auo {ρ : Type} (b a : Int) (c : List Int) (nx d : bx5 ρ) : Option ρ := br (decide (a ≥ 0)) (br (decide (0 ≤ a)) (br (decide (a < (↑c.length : Int))) (nx (b.fdiv (2 ^ 8)) (IntKind.i64.wrap (a - 1)) (c.set a.toNat (IntKind.u8.wrap (bits BinOp.and IntKind.u64 b 255)))) none) none) (d b a c)
abbrev bqs := Int × Int × (List Int)
abbrev byf := bqs
def bwa {ρ : Type} (f : bqs → Option ρ) : bx5 ρ := fun a b c => f (a, b, c)
def bqf {ρ : Type} : aea bqs byf ρ := fun (a, b, c) next ex => auo a b c (bwa next) (bwa ex)
def b0p {ρ : Type} := shut (lp (bqf (ρ := ρ)))
theorem b4h {ρ : Type} : b0p (ρ := ρ) = lp bqf := bn _
def bu4 {ρ : Type} (f : aeg bqs byf ρ) (a b : Int) (c : List Int) (d : bx5 ρ) : Option ρ := f (a, b, c) (fun (a, b, c) => d a b c)
def bbt {ρ : Type} := bu4 (lp (bqf (ρ := ρ)))
def bau {ρ : Type} := bu4 (b0p (ρ := ρ))
theorem baj {ρ : Type} : bau (ρ := ρ) = bbt := congrArg bu4 b4h
def aq1 {ρ : Type} (b a : Int) (k : (List Int) → Option ρ) : Option ρ := br (decide (a < 0)) (k []) (br (decide (a > 65536)) (k []) (br (decide (0 ≤ a)) (br (decide (a ≤ a)) (br (decide (a * (↑1 : Int) ≤ (↑140737488355328 : Int))) (bau b (IntKind.i64.wrap (a - 1)) (List.replicate a.toNat (0 : Int)) fun d e c => k c) none) none) none))
def yu {ρ : Type} := shut (aq1 (ρ := ρ))
theorem bbq {ρ : Type} (a : Int) (b : Int) (k : (List Int) → Option ρ) : yu a b k = aq1 a b k := by unfold yu; rw [bn]

abbrev bo4 (ρ : Type) := Int → Int → (List Int) → Int → (List Int) → (List Int) → Int → Option ρ
def ap6 {ρ : Type} (c g : Int) (b : List Int) (d : Int) (e a : List Int) (f : Int) (nx h : bo4 ρ) : Option ρ := br (decide (c = 0)) none (br ((IntKind.i64.wrap ((↑a.length : Int) + (↑b.length : Int))).tmod c != IntKind.i64.wrap (c - 8)) (br (decide ((b.length + 1) * 1 ≤ 140737488355328)) (nx c g (b ++ [0]) d e a f) none) (h c g b d e a f))
abbrev bso := Int × Int × (List Int) × Int × (List Int) × (List Int) × Int
abbrev b0e := bso
def bwg {ρ : Type} (f : bso → Option ρ) : bo4 ρ := fun g h e a b c d => f (g, h, e, a, b, c, d)
def bs1 {ρ : Type} : aea bso b0e ρ := fun (f, g, e, a, b, c, d) next ex => ap6 f g e a b c d (bwg next) (bwg ex)
def bz7 {ρ : Type} := shut (lp (bs1 (ρ := ρ)))
theorem b3a {ρ : Type} : bz7 (ρ := ρ) = lp bs1 := bn _
def bv2 {ρ : Type} (f : aeg bso b0e ρ) (g h : Int) (e : List Int) (a : Int) (b c : List Int) (d : Int) (i : bo4 ρ) : Option ρ := f (g, h, e, a, b, c, d) (fun (g, h, e, a, b, c, d) => i g h e a b c d)
def aw2 {ρ : Type} := bv2 (lp (bs1 (ρ := ρ)))
def ap4 {ρ : Type} := bv2 (bz7 (ρ := ρ))
theorem axr {ρ : Type} : ap4 (ρ := ρ) = aw2 := congrArg bv2 b3a
abbrev zc52 (ρ : Type) := Int → Int → (List Int) → Int → (List Int) → (List Int) → Int → Option ρ
def aqz {ρ : Type} (c g : Int) (b : List Int) (d : Int) (e a : List Int) (f : Int) (nx h : bo4 ρ) : Option ρ := br (decide (c = 0)) none (br ((IntKind.i64.wrap ((↑a.length : Int) + (↑b.length : Int))).tmod c != IntKind.i64.wrap (c - 16)) (br (decide ((b.length + 1) * 1 ≤ 140737488355328)) (nx c g (b ++ [0]) d e a f) none) (h c g b d e a f))
abbrev bsk := Int × Int × (List Int) × Int × (List Int) × (List Int) × Int
abbrev bwu := bsk
def bw5 {ρ : Type} (f : bsk → Option ρ) : zc52 ρ := fun g h e a b c d => f (g, h, e, a, b, c, d)
def bqn {ρ : Type} : aea bsk bwu ρ := fun (f, g, e, a, b, c, d) next ex => aqz f g e a b c d (bw5 next) (bw5 ex)
def bzj {ρ : Type} := shut (lp (bqn (ρ := ρ)))
theorem b4a {ρ : Type} : bzj (ρ := ρ) = lp bqn := bn _
def bvi {ρ : Type} (f : aeg bsk bwu ρ) (g h : Int) (e : List Int) (a : Int) (b c : List Int) (d : Int) (i : bo4 ρ) : Option ρ := f (g, h, e, a, b, c, d) (fun (g, h, e, a, b, c, d) => i g h e a b c d)
def awu {ρ : Type} := bvi (lp (bqn (ρ := ρ)))
def aqj {ρ : Type} := bvi (bzj (ρ := ρ))
theorem aym {ρ : Type} : aqj (ρ := ρ) = awu := congrArg bvi b4a
abbrev zc53 (ρ : Type) := Int → Int → (List Int) → Int → (List Int) → (List Int) → Int → Option ρ
def anl {ρ : Type} (g c : Int) (a : List Int) (d : Int) (b e : List Int) (f : Int) (nx i : bo4 ρ) : Option ρ := br (decide (c < 8)) (br (decide (0 ≤ c)) (br (decide (c < (↑8 : Int))) (yu (b.getD c.toNat 0) (IntKind.i64.wrap (g.tdiv 16)) fun h => br (decide ((a.length + h.length) * 1 ≤ 140737488355328)) (nx g (IntKind.i64.wrap (c + 1)) (a ++ h) d b e f) none) none) none) (i g c a d b e f)
abbrev brz := Int × Int × (List Int) × Int × (List Int) × (List Int) × Int
abbrev bwr := brz
def bw0 {ρ : Type} (f : brz → Option ρ) : zc53 ρ := fun g h a b c d e => f (g, h, a, b, c, d, e)
def br2 {ρ : Type} : aea brz bwr ρ := fun (f, g, a, b, c, d, e) next ex => anl f g a b c d e (bw0 next) (bw0 ex)
def bw6 {ρ : Type} := shut (lp (br2 (ρ := ρ)))
theorem b3e {ρ : Type} : bw6 (ρ := ρ) = lp br2 := bn _
def bv0 {ρ : Type} (f : aeg brz bwr ρ) (g h : Int) (a : List Int) (b : Int) (c d : List Int) (e : Int) (i : bo4 ρ) : Option ρ := f (g, h, a, b, c, d, e) (fun (g, h, a, b, c, d, e) => i g h a b c d e)
def auj {ρ : Type} := bv0 (lp (br2 (ρ := ρ)))
def ajy {ρ : Type} := bv0 (bw6 (ρ := ρ))
theorem avg {ρ : Type} : ajy (ρ := ρ) = auj := congrArg bv0 b3e
def aoa {ρ : Type} (a : Int) (c d : List Int) (b : Int) (k : (List Int) → Option ρ) : Option ρ := xq a fun J => ap4 J (IntKind.u64.wrap (b * 8)) [128] a c d b fun m n o p q r s => br (m == 128) (aqj m n [128] p q r s fun M N e t u v i => yu (i.fdiv (2 ^ 61)) 8 fun f => br (decide ((e.length + f.length) * 1 ≤ 140737488355328)) (yu N 8 fun j => br (decide (((e ++ f).length + j.length) * 1 ≤ 140737488355328)) (ab3 t u v i (e ++ f ++ j) fun w y z A => ajy M 0 [] w y z A fun O Q g B U W Z => br (B == 2) (br (decide (48 ≤ (↑g.length : Int))) (k (List.take ((48 : Int) - (0 : Int)).toNat g)) none) (k g)) none) none) (yu n 8 fun l => br (decide ((o.length + l.length) * 1 ≤ 140737488355328)) (ab3 p q r s (o ++ l) fun C F G H => ajy m 0 [] C F G H fun aa ab h I ac ad ae => br (I == 2) (br (decide (48 ≤ (↑h.length : Int))) (k (List.take ((48 : Int) - (0 : Int)).toNat h)) none) (k h)) none)
def ahc {ρ : Type} := shut (aoa (ρ := ρ))
theorem awg {ρ : Type} (b : Int) (a : List Int) (c : List Int) (d : Int) (k : (List Int) → Option ρ) : ahc b a c d k = aoa b a c d k := by unfold ahc; rw [bn]

def aod {ρ : Type} (b : Int) (c : List Int) (k : (List Int) → Int → Option ρ) : Option ρ := ahf b fun d e f g a => br (a != 0) (k [] a) (ab3 d e f g c fun h i j l => ahc h i j l fun m => k m 0)
def adz {ρ : Type} := shut (aod (ρ := ρ))
theorem av7 {ρ : Type} (a : Int) (b : List Int) (k : (List Int) → Int → Option ρ) : adz a b k = aod a b k := by unfold adz; rw [bn]

def ajq {ρ : Type} (a : List Int) (k : (List Int) → Option ρ) : Option ρ := l8 [List.take 1 (List.drop 3 a), List.take 8 (List.drop 8 a), List.take 1 (List.drop 19 a), List.take 12 (List.drop 20 a)] fun b => k b
def za {ρ : Type} := shut (ajq (ρ := ρ))
theorem ard {ρ : Type} (a : List Int) (k : (List Int) → Option ρ) : za a k = ajq a k := by unfold za; rw [bn]

def anx {ρ : Type} (a h i j l : Int) (b : Bool) (c e d : List Int) (k : (List Int) → Option ρ) : Option ρ := br ((↑c.length : Int) != a) (k []) (vk a h i j l b fun p => br (!p) (k []) (br b (l8 [c, List.take 32 (List.drop 0 e), d] fun q => ag3 7 q a fun r z => k r) (br (decide (a > 16)) (br (decide ((↑d.length : Int) > a)) (br (decide (0 ≤ IntKind.i64.wrap (128 - a))) (br (decide (IntKind.i64.wrap (128 - a) ≤ IntKind.i64.wrap (128 - a))) (br (decide (IntKind.i64.wrap (128 - a) * (↑1 : Int) ≤ (↑140737488355328 : Int))) (za e fun s => l8 [c, List.replicate (IntKind.i64.wrap (128 - a)).toNat (0 : Int), s, d] fun t => adz 3 t fun m A => br (decide (0 ≤ a)) (br (decide (a ≤ (↑m.length : Int))) (k (List.take (a - 0).toNat (List.drop 0 m))) none) none) none) none) none) (br (decide (0 ≤ IntKind.i64.wrap (64 - a))) (br (decide (IntKind.i64.wrap (64 - a) ≤ IntKind.i64.wrap (64 - a))) (br (decide (IntKind.i64.wrap (64 - a) * (↑1 : Int) ≤ (↑140737488355328 : Int))) (za e fun u => l8 [c, List.replicate (IntKind.i64.wrap (64 - a)).toNat (0 : Int), u, d] fun v => adz 1 v fun f w => br (decide (0 ≤ a)) (br (decide (a ≤ (↑f.length : Int))) (k (List.take (a - 0).toNat (List.drop 0 f))) none) none) none) none) none)) (br (decide (0 ≤ IntKind.i64.wrap (64 - a))) (br (decide (IntKind.i64.wrap (64 - a) ≤ IntKind.i64.wrap (64 - a))) (br (decide (IntKind.i64.wrap (64 - a) * (↑1 : Int) ≤ (↑140737488355328 : Int))) (za e fun n => l8 [c, List.replicate (IntKind.i64.wrap (64 - a)).toNat (0 : Int), n, d] fun o => adz 1 o fun g y => br (decide (0 ≤ a)) (br (decide (a ≤ (↑g.length : Int))) (k (List.take (a - 0).toNat (List.drop 0 g))) none) none) none) none) none))))
def zi {ρ : Type} := shut (anx (ρ := ρ))
theorem axj {ρ : Type} (b : Int) (c : Int) (d : Int) (e : Int) (f : Int) (a : Bool) (g : List Int) (h : List Int) (i : List Int) (k : (List Int) → Option ρ) : zi b c d e f a g h i k = anx b c d e f a g h i k := by unfold zi; rw [bn]

abbrev b1i (ρ : Type) := Int → (List Int) → Int → (List Int) → (List Int) → Option ρ
def aqx {ρ : Type} (b : Int) (c : List Int) (a : Int) (d e : List Int) (nx f : b1i ρ) : Option ρ := br (decide (a < (↑c.length : Int))) (br (decide (0 ≤ a)) (br (decide (a < (↑c.length : Int))) (br (decide (0 ≤ IntKind.i64.wrap (b + a))) (br (decide (IntKind.i64.wrap (b + a) < (↑32 : Int))) (nx b c (IntKind.i64.wrap (a + 1)) (d.set (IntKind.i64.wrap (b + a)).toNat (c.getD a.toNat 0)) e) none) none) none) none) (f b c a d e)
abbrev bus := Int × (List Int) × Int × (List Int) × (List Int)
abbrev bz6 := bus
def bw7 {ρ : Type} (f : bus → Option ρ) : b1i ρ := fun c d e a b => f (c, d, e, a, b)
def bs6 {ρ : Type} : aea bus bz6 ρ := fun (c, d, e, a, b) next ex => aqx c d e a b (bw7 next) (bw7 ex)
def bxq {ρ : Type} := shut (lp (bs6 (ρ := ρ)))
theorem b3c {ρ : Type} : bxq (ρ := ρ) = lp bs6 := bn _
def bu1 {ρ : Type} (f : aeg bus bz6 ρ) (c : Int) (d : List Int) (e : Int) (a b : List Int) (g : b1i ρ) : Option ρ := f (c, d, e, a, b) (fun (c, d, e, a, b) => g c d e a b)
def axl {ρ : Type} := bu1 (lp (bs6 (ρ := ρ)))
def avv {ρ : Type} := bu1 (bxq (ρ := ρ))
theorem axt {ρ : Type} : avv (ρ := ρ) = axl := congrArg bu1 b3c
def aoc {ρ : Type} (a : List Int) (b : Int) (c : List Int) (k : (List Int) → Option ρ) : Option ρ := avv b c 0 a [0, 0, 0, 0, 0, 0, 0, 0, 0, 0, 0, 0, 0, 0, 0, 0, 0, 0, 0, 0, 0, 0, 0, 0, 0, 0, 0, 0, 0, 0, 0, 0] fun e f g d h => k d
def y8 {ρ : Type} := shut (aoc (ρ := ρ))
theorem aw1 {ρ : Type} (a : List Int) (b : Int) (c : List Int) (k : (List Int) → Option ρ) : y8 a b c k = aoc a b c k := by unfold y8; rw [bn]

def anu {ρ : Type} (b : List Int) (a c : Int) (k : (List Int) → Option ρ) : Option ρ := br (a == 0) (yu c 4 fun g => y8 b 0 g fun h => k h) (br (a == 1) (yu c 12 fun i => y8 b 4 i fun j => k j) (br (a == 2) (yu c 4 fun l => y8 b 16 l fun m => y8 m 20 (List.replicate 12 (0 : Int)) fun n => k n) (br (a == 3) (br (a == 3) (yu c 4 fun o => y8 b (IntKind.i64.wrap (8 + IntKind.i64.wrap (4 * a))) o fun p => k p) (k b)) (br (a == 4) (br (a == 4) (yu c 4 fun q => y8 b (IntKind.i64.wrap (8 + IntKind.i64.wrap (4 * a))) q fun d => k d) (k b)) (br (a == 5) (yu c 4 fun e => y8 b (IntKind.i64.wrap (8 + IntKind.i64.wrap (4 * a))) e fun f => k f) (k b))))))
def uz {ρ : Type} := shut (anu (ρ := ρ))
theorem awc {ρ : Type} (a : List Int) (b : Int) (c : Int) (k : (List Int) → Option ρ) : uz a b c k = anu a b c k := by unfold uz; rw [bn]

def alf {ρ : Type} (a : List Int) (k : Int → Option ρ) : Option ρ := acs (List.take 4 (List.drop 20 a)) fun b => k b
def aap {ρ : Type} := shut (alf (ρ := ρ))
theorem asy {ρ : Type} (a : List Int) (k : Int → Option ρ) : aap a k = alf a k := by unfold aap; rw [bn]

def aqv {ρ : Type} (a : List Int) (b c d : Int) (k : (List Int) → Option ρ) : Option ρ := uz a 2 b fun e => aap a fun f => uz e 3 f fun g => uz g 4 (IntKind.u64.wrap c) fun h => uz h 5 d fun i => k i
def abj {ρ : Type} := shut (aqv (ρ := ρ))
theorem bbe {ρ : Type} (a : List Int) (b : Int) (c : Int) (d : Int) (k : (List Int) → Option ρ) : abj a b c d k = aqv a b c d k := by unfold abj; rw [bn]

def ak0 {ρ : Type} (b c d e f : Int) (a : Bool) (h g i : List Int) (k : (List Int) → Option ρ) : Option ρ := br ((↑g.length : Int) != b) (k []) (zi b c d e f a h i g fun j => k j)
def ahw {ρ : Type} := shut (ak0 (ρ := ρ))
theorem att {ρ : Type} (b : Int) (c : Int) (d : Int) (e : Int) (f : Int) (a : Bool) (g : List Int) (h : List Int) (i : List Int) (k : (List Int) → Option ρ) : ahw b c d e f a g h i k = ak0 b c d e f a g h i k := by unfold ahw; rw [bn]

def ak2 {ρ : Type} (b c d e f : Int) (a : Bool) (g h i : List Int) (j : Int) (k : (List Int) → Option ρ) : Option ρ := abj i 6 0 j fun l => ahw b c d e f a h g l fun m => k m
def adk {ρ : Type} := shut (ak2 (ρ := ρ))
theorem atl {ρ : Type} (b : Int) (c : Int) (d : Int) (e : Int) (f : Int) (a : Bool) (g : List Int) (h : List Int) (i : List Int) (j : Int) (k : (List Int) → Option ρ) : adk b c d e f a g h i j k = ak2 b c d e f a g h i j k := by unfold adk; rw [bn]

def aaj {ρ : Type} (rc : Int → Int → Int → Int → Int → Bool → (List Int) → (List Int) → (List Int) → Int → Int → ((List Int) → Option ρ) → Option ρ) (d e f b c : Int) (a : Bool) (l h j : List Int) (g i : Int) (k : (List Int) → Option ρ) : Option ρ := pz d e f b c a l h fun m => br m (k []) (br (decide (g < 0)) (k []) (br (decide (g > b)) (k []) (br (decide (IntKind.i64.wrap (b - g) < 0)) none (br (decide (i ≥ IntKind.u64.wrap (IntKind.u64.wrap c * 2 ^ min (IntKind.i64.wrap (b - g)).toNat 64))) (k []) (br (g == 0) (abj j 3 0 i fun n => adk d e f b c a l h j i fun o => zi d e f b c a h n o fun p => k p) (rc d e f b c a l h j (IntKind.i64.wrap (g - 1)) (IntKind.u64.wrap (2 * i)) fun q => rc d e f b c a l h j (IntKind.i64.wrap (g - 1)) (IntKind.u64.wrap (IntKind.u64.wrap (2 * i) + 1)) fun r => abj j 3 g i fun s => l8 [q, r] fun t => zi d e f b c a h s t fun u => k u))))))
def uo {ρ : Type} (n : Nat) : Int → Int → Int → Int → Int → Bool → (List Int) → (List Int) → (List Int) → Int → Int → ((List Int) → Option ρ) → Option ρ := Nat.rec (fun _ _ _ _ _ _ _ _ _ _ _ _ => none) (fun _ rc => shut (aaj (ρ := ρ) rc)) n
theorem ac9 {ρ : Type} (n : Nat) : uo (ρ := ρ) (n + 1) = aaj (uo n) := bn _

def ad9 {ρ : Type} (b c d e f : Int) (a : Bool) (g h i j : List Int) (k : (List Int) → Option ρ) : Option ρ := jk b c d e f a g h i 4 fun l => vg b c d e f a h l j fun m => k m
def uh {ρ : Type} := shut (ad9 (ρ := ρ))
theorem ai8 {ρ : Type} (c : Int) (d : Int) (e : Int) (f : Int) (g : Int) (a : Bool) (b : List Int) (h : List Int) (i : List Int) (j : List Int) (k : (List Int) → Option ρ) : uh c d e f g a b h i j k = ad9 c d e f g a b h i j k := by unfold uh; rw [bn]

abbrev bxu (ρ : Type) := Int → Int → (List Int) → Int → Int → Int → Int → Int → Bool → Int → Int → Int → Int → Int → Bool → (List Int) → (List Int) → (List Int) → Option ρ
def ail {ρ : Type} (l k : Int) (m : List Int) (n o p a q : Int) (r : Bool) (b c d e f : Int) (g : Bool) (h i j : List Int) (nx t : bxu ρ) : Option ρ := br (decide (k < l)) (iw b c d e f g h i j a (IntKind.u64.wrap k) fun s => br (decide ((m.length + s.length) * 1 ≤ 140737488355328)) (nx l (IntKind.i64.wrap (k + 1)) (m ++ s) n o p a q r b c d e f g h i j) none) (t l k m n o p a q r b c d e f g h i j)
abbrev bsh := Int × Int × (List Int) × Int × Int × Int × Int × Int × Bool × Int × Int × Int × Int × Int × Bool × (List Int) × (List Int) × (List Int)
abbrev bzw := bsh
def bxl {ρ : Type} (f : bsh → Option ρ) : bxu ρ := fun q r s a b c d e g h i j k l m n o p => f (q, r, s, a, b, c, d, e, g, h, i, j, k, l, m, n, o, p)
def bte {ρ : Type} : aea bsh bzw ρ := fun (p, q, r, a, b, c, d, e, f, g, h, i, j, k, l, m, n, o) next ex => ail p q r a b c d e f g h i j k l m n o (bxl next) (bxl ex)
def byi {ρ : Type} := shut (lp (bte (ρ := ρ)))
theorem b2w {ρ : Type} : byi (ρ := ρ) = lp bte := bn _
def buu {ρ : Type} (f : aeg bsh bzw ρ) (q r : Int) (s : List Int) (a b c d e : Int) (g : Bool) (h i j k l : Int) (m : Bool) (n o p : List Int) (t : bxu ρ) : Option ρ := f (q, r, s, a, b, c, d, e, g, h, i, j, k, l, m, n, o, p) (fun (q, r, s, a, b, c, d, e, g, h, i, j, k, l, m, n, o, p) => t q r s a b c d e g h i j k l m n o p)
def amw {ρ : Type} := buu (lp (bte (ρ := ρ)))
def am4 {ρ : Type} := buu (byi (ρ := ρ))
theorem aqp {ρ : Type} : am4 (ρ := ρ) = amw := congrArg buu b2w
def adu {ρ : Type} (c d e f b : Int) (a : Bool) (s t u : List Int) (k : (List Int) → Option ρ) : Option ρ := gy c d e f b a s t u fun v w y z A B C F G H => br (!H) (k []) (am4 b 0 [] c d e f b a v w y z A B C F G fun I J g M N O Q U W h i j l m n o p q => uh h i j l m n o p q g fun r => k r)
def uq {ρ : Type} := shut (adu (ρ := ρ))
theorem ais {ρ : Type} (b : Int) (c : Int) (d : Int) (e : Int) (f : Int) (a : Bool) (g : List Int) (h : List Int) (i : List Int) (k : (List Int) → Option ρ) : uq b c d e f a g h i k = adu b c d e f a g h i k := by unfold uq; rw [bn]

def anv {ρ : Type} (b c d e f : Int) (a : Bool) (h : List (List Int)) (i g : List Int) (k : (List Int) → Option ρ) : Option ρ := uz g 2 4 fun j => aap g fun l => uz j 3 l fun m => l8 h fun n => zi b c d e f a i m n fun o => k o
def ahk {ρ : Type} := shut (anv (ρ := ρ))
theorem aww {ρ : Type} (b : Int) (c : Int) (d : Int) (e : Int) (f : Int) (a : Bool) (g : List (List Int)) (h : List Int) (i : List Int) (k : (List Int) → Option ρ) : ahk b c d e f a g h i k = anv b c d e f a g h i k := by unfold ahk; rw [bn]

abbrev b0b (ρ : Type) := (List Int) → (List Int) → Int → (List (List Int)) → Int → Int → Int → Int → Int → Bool → (List Int) → Option ρ
def ajx {ρ : Type} (i j : List Int) (h : Int) (k : List (List Int)) (c d e a b : Int) (f : Bool) (g : List Int) (nx l : b0b ρ) : Option ρ := br (decide (h < b)) (uo (a.toNat + 1) c d e a b f i j g a (IntKind.u64.wrap h) fun m => br (decide ((k.length + 1) * 24 ≤ 140737488355328)) (nx i j (IntKind.i64.wrap (h + 1)) (k ++ [m]) c d e a b f g) none) (l i j h k c d e a b f g)
abbrev bre := (List Int) × (List Int) × Int × (List (List Int)) × Int × Int × Int × Int × Int × Bool × (List Int)
abbrev byy := bre
def byx {ρ : Type} (f : bre → Option ρ) : b0b ρ := fun j k i l a b c d e g h => f (j, k, i, l, a, b, c, d, e, g, h)
def br1 {ρ : Type} : aea bre byy ρ := fun (i, j, h, k, a, b, c, d, e, f, g) next ex => ajx i j h k a b c d e f g (byx next) (byx ex)
def b0d {ρ : Type} := shut (lp (br1 (ρ := ρ)))
theorem b3n {ρ : Type} : b0d (ρ := ρ) = lp br1 := bn _
def bvj {ρ : Type} (f : aeg bre byy ρ) (j k : List Int) (i : Int) (l : List (List Int)) (a b c d e : Int) (g : Bool) (h : List Int) (m : b0b ρ) : Option ρ := f (j, k, i, l, a, b, c, d, e, g, h) (fun (j, k, i, l, a, b, c, d, e, g, h) => m j k i l a b c d e g h)
def apf {ρ : Type} := bvj (lp (br1 (ρ := ρ)))
def apa {ρ : Type} := bvj (b0d (ρ := ρ))
theorem ar7 {ρ : Type} : apa (ρ := ρ) = apf := congrArg bvj b3n
def ae5 {ρ : Type} (b c d e f : Int) (a : Bool) (g h m : List Int) (k : (List Int) → Option ρ) : Option ρ := pz b c d e f a g h fun n => br n (k []) (apa g h 0 [] b c d e f a m fun v o w p q r s t u i j => ahk q r s t u i p o j fun l => k l)
def y9 {ρ : Type} := shut (ae5 (ρ := ρ))
theorem ajr {ρ : Type} (b : Int) (c : Int) (d : Int) (e : Int) (f : Int) (a : Bool) (g : List Int) (h : List Int) (i : List Int) (k : (List Int) → Option ρ) : y9 b c d e f a g h i k = ae5 b c d e f a g h i k := by unfold y9; rw [bn]

def aex {ρ : Type} (b c d e f : Int) (a : Bool) (i g h : List Int) (j l : Int) (k : Bool → Option ρ) : Option ρ := afy [g, h] fun q => br (!q) (ze fun r => k r) (ko b c d e f a fun s t => acv b c d e f a fun u v => br (s != u) (k false) (br (t != v) (k false) (zx b c d e f a fun w => br (!w) (k true) (adr b c d e f a g h i j l fun y => uo (j.toNat + 1) b c d e f a g h i j l fun z => acf y z fun A => br A (uq b c d e f a g h i fun m => y9 b c d e f a g h i fun n => acf m n fun o => br o (ze fun p => k p) (k false)) (k false)))))
def vw {ρ : Type} := shut (aex (ρ := ρ))
theorem akl {ρ : Type} (b : Int) (c : Int) (d : Int) (e : Int) (f : Int) (a : Bool) (g : List Int) (h : List Int) (i : List Int) (j : Int) (l : Int) (k : Bool → Option ρ) : vw b c d e f a g h i j l k = aex b c d e f a g h i j l k := by unfold vw; rw [bn]





























































































def ahn {ρ : Type} (b : List Int) (a : Int) (k : Int → Option ρ) : Option ρ := br (decide (0 ≤ IntKind.i64.wrap (8 + IntKind.i64.wrap (4 * a)))) (br (decide (IntKind.i64.wrap (8 + IntKind.i64.wrap (4 * a)) ≤ IntKind.i64.wrap (12 + IntKind.i64.wrap (4 * a)))) (br (decide (IntKind.i64.wrap (12 + IntKind.i64.wrap (4 * a)) ≤ (↑32 : Int))) (tu (List.take (IntKind.i64.wrap (12 + IntKind.i64.wrap (4 * a)) - IntKind.i64.wrap (8 + IntKind.i64.wrap (4 * a))).toNat (List.drop (IntKind.i64.wrap (8 + IntKind.i64.wrap (4 * a))).toNat b)) fun c => k c) none) none) none
def aek {ρ : Type} := shut (ahn (ρ := ρ))
theorem avm {ρ : Type} (a : List Int) (b : Int) (k : Int → Option ρ) : aek a b k = ahn a b k := by unfold aek; rw [bn]

def ab2 {ρ : Type} (r s t u v : Int) (q : Bool) (n : Nat) (d : Int) (a : List Int) (m : Int) (l : Bool) (o e : Int) (b f : List Int) (g p h : Int) (c i : List Int) (j : Int) (w y : List Int) (A : Int) (k : (List Int) → Option ρ) : Option ρ := oh y 2 5 fun B => aek y 3 fun C => oh B 3 C fun F => oh F 4 (IntKind.u64.wrap A) fun z => br (decide (n = 1)) (l5 z w d a m l o fun G => k G) (br (decide (n = 2)) (lq z w e b f g p h c i j fun H => k H) none)
def ae1 {ρ : Type} := shut (ab2 (ρ := ρ))
theorem amg {ρ : Type} (q : Int) (r : Int) (s : Int) (t : Int) (u : Int) (m : Bool) (v : Nat) (d : Int) (a : List Int) (n : Int) (l : Bool) (o : Int) (e : Int) (b : List Int) (f : List Int) (g : Int) (p : Int) (h : Int) (c : List Int) (i : List Int) (j : Int) (w : List Int) (y : List Int) (z : Int) (k : (List Int) → Option ρ) : ae1 q r s t u m v d a n l o e b f g p h c i j w y z k = ab2 q r s t u m v d a n l o e b f g p h c i j w y z k := by unfold ae1; rw [bn]

























































end P
end
