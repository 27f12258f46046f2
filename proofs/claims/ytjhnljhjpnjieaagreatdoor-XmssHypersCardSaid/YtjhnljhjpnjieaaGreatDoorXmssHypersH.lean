/-
  XmssHypers, part 8: an interpreter of my own over abstract values, the pure functions, the walks and the plain law.
-/

import Derived.Test.YtjhnljhjpnjieaaGreatDoorXmssHypersG

noncomputable section
namespace P
@[irreducible] def roots256 : List Int := [1116352408, 1899447441, 3049323471, 3921009573, 961987163, 1508970993, 2453635748, 2870763221, 3624381080, 310598401, 607225278, 1426881987, 1925078388, 2162078206, 2614888103, 3248222580, 3835390401, 4022224774, 264347078, 604807628, 770255983, 1249150122, 1555081692, 1996064986, 2554220882, 2821834349, 2952996808, 3210313671, 3336571891, 3584528711, 113926993, 338241895, 666307205, 773529912, 1294757372, 1396182291, 1695183700, 1986661051, 2177026350, 2456956037, 2730485921, 2820302411, 3259730800, 3345764771, 3516065817, 3600352804, 4094571909, 275423344, 430227734, 506948616, 659060556, 883997877, 958139571, 1322822218, 1537002063, 1747873779, 1955562222, 2024104815, 2227730452, 2361852424, 2428436474, 2756734187, 3204031479, 3329325298]
@[irreducible] def roots512 : List Int := [4794697086780616226, 8158064640168781261, 13096744586834688815, 16840607885511220156, 4131703408338449720, 6480981068601479193, 10538285296894168987, 12329834152419229976, 15566598209576043074, 1334009975649890238, 2608012711638119052, 6128411473006802146, 8268148722764581231, 9286055187155687089, 11230858885718282805, 13951009754708518548, 16472876342353939154, 17275323862435702243, 1135362057144423861, 2597628984639134821, 3308224258029322869, 5365058923640841347, 6679025012923562964, 8573033837759648693, 10970295158949994411, 12119686244451234320, 12683024718118986047, 13788192230050041572, 14330467153632333762, 15395433587784984357, 489312712824947311, 1452737877330783856, 2861767655752347644, 3322285676063803686, 5560940570517711597, 5996557281743188959, 7280758554555802590, 8532644243296465576, 9350256976987008742, 10552545826968843579, 11727347734174303076, 12113106623233404929, 14000437183269869457, 14369950271660146224, 15101387698204529176, 15463397548674623760, 17586052441742319658, 1182934255886127544, 1847814050463011016, 2177327727835720531, 2830643537854262169, 3796741975233480872, 4115178125766777443, 5681478168544905931, 6601373596472566643, 7507060721942968483, 8399075790359081724, 8693463985226723168, 9568029438360202098, 10144078919501101548, 10430055236837252648, 11840083180663258601, 13761210420658862357, 14299343276471374635, 14566680578165727644, 15097957966210449927, 16922976911328602910, 17689382322260857208, 500013540394364858, 748580250866718886, 1242879168328830382, 1977374033974150939, 2944078676154940804, 3659926193048069267, 4368137639120453308, 4836135668995329356, 5532061633213252278, 6448918945643986474, 6902733635092675308, 7801388544844847127]
@[irreducible] def blw : List Int := [1, 32898, 9223372036854808714, 9223372039002292224, 32907, 2147483649, 9223372039002292353, 9223372036854808585, 138, 136, 2147516425, 2147483658, 2147516555, 9223372036854775947, 9223372036854808713, 9223372036854808579, 9223372036854808578, 9223372036854775936, 32778, 9223372039002259466, 9223372039002292353, 9223372036854808704, 2147483649, 9223372039002292232]
@[irreducible] def bu0 : List Int := [10, 7, 11, 17, 18, 3, 5, 16, 8, 21, 24, 4, 15, 23, 19, 13, 12, 2, 20, 14, 22, 9, 6, 1]
@[irreducible] def b1x : List Int := [1, 3, 6, 10, 15, 21, 28, 36, 45, 55, 2, 14, 27, 41, 56, 8, 25, 43, 62, 18, 39, 61, 20, 44]
end P
open Go Go.Abs
namespace GLO
end GLO
namespace GLO
abbrev gx : List (Nat × List Go.Abs.AVal) := [(0, [Go.Abs.AVal.arr .u64 24 P.blw]), (1, [Go.Abs.AVal.arr .i64 24 P.bu0]), (2, [Go.Abs.AVal.arr .i64 24 P.b1x]), (3, [Go.Abs.AVal.arr .u32 64 P.roots256]), (4, [Go.Abs.AVal.arr .u64 80 P.roots512])]
end GLO
end

noncomputable section
open Go Go.Abs
set_option linter.unusedVariables false
namespace P

abbrev zc1 (ρ : Type) := (List Int) → (List Int) → Int → Option ρ
def aqt {ρ : Type} (b c : List Int) (a : Int) (nx d : zc1 ρ) (e : Bool → Option ρ) : Option ρ := br (decide (a < (↑b.length : Int))) (br (decide (0 ≤ a)) (br (decide (a < (↑b.length : Int))) (br (decide (0 ≤ a)) (br (decide (a < (↑c.length : Int))) (br (b.getD a.toNat 0 != c.getD a.toNat 0) (e false) (nx b c (IntKind.i64.wrap (a + 1)))) none) none) none) none) (d b c a)
abbrev zt1 := (List Int) × (List Int) × Int
abbrev zy1 := ((List Int) × (List Int) × Int) ⊕ (Bool)
def zu1 {ρ : Type} (f : zt1 → Option ρ) : zc1 ρ := fun a b c => f (a, b, c)
def zs1 {ρ : Type} : ab3 zt1 zy1 ρ := fun (a, b, c) next ex => aqt a b c (zu1 next) (fun a b c => ex (.inl (a, b, c))) (fun d => ex (.inr d))
def zm1 {ρ : Type} := shut (lp (zs1 (ρ := ρ)))
theorem ze1 {ρ : Type} : zm1 (ρ := ρ) = lp zs1 := bq _
def zk1 {ρ : Type} (f : ab8 zt1 zy1 ρ) (a b : List Int) (c : Int) (d : zc1 ρ) (e : Bool → Option ρ) : Option ρ := f (a, b, c) (Sum.elim (fun (a, b, c) => d a b c) (fun x => e x))
def aw7 {ρ : Type} := zk1 (lp (zs1 (ρ := ρ)))
def azv {ρ : Type} := zk1 (zm1 (ρ := ρ))
theorem az7 {ρ : Type} : azv (ρ := ρ) = aw7 := congrArg zk1 ze1
def an6 {ρ : Type} (a b : List Int) (k : Bool → Option ρ) : Option ρ := br ((↑a.length : Int) != (↑b.length : Int)) (k false) (azv a b 0 (fun d e f => k true) fun c => k c)
def abq {ρ : Type} := shut (an6 (ρ := ρ))
theorem azf {ρ : Type} (a : List Int) (b : List Int) (k : Bool → Option ρ) : abq a b k = an6 a b k := by unfold abq; rw [bq]

def aro {ρ : Type} (e b a c d : Int) (f : Bool) (k : Bool → Option ρ) : Option ρ := br (e != 16) (br (e != 24) (br (e != 32) (k false) (br (decide (a ≥ 1)) (br (decide (b ≤ 68)) (br (decide (b ≥ a)) (br (decide (a = 0)) none (br (b.tmod a == 0) (br (decide (a = 0)) none (br (decide (IntKind.i64.wrap (b.tdiv a) ≤ 9)) (br (decide (c ≥ 1)) (br (decide (c ≤ 14)) (br (decide (d ≥ 1)) (k (decide (d ≤ 40))) (k false)) (k false)) (k false)) (k false))) (k false))) (k false)) (k false)) (k false))) (br (decide (a ≥ 1)) (br (decide (b ≤ 68)) (br (decide (b ≥ a)) (br (decide (a = 0)) none (br (b.tmod a == 0) (br (decide (a = 0)) none (br (decide (IntKind.i64.wrap (b.tdiv a) ≤ 9)) (br (decide (c ≥ 1)) (br (decide (c ≤ 14)) (br (decide (d ≥ 1)) (k (decide (d ≤ 40))) (k false)) (k false)) (k false)) (k false))) (k false))) (k false)) (k false)) (k false))) (br (decide (a ≥ 1)) (br (decide (b ≤ 68)) (br (decide (b ≥ a)) (br (decide (a = 0)) none (br (b.tmod a == 0) (br (decide (a = 0)) none (br (decide (IntKind.i64.wrap (b.tdiv a) ≤ 9)) (br (decide (c ≥ 1)) (br (decide (c ≤ 14)) (br (decide (d ≥ 1)) (k (decide (d ≤ 40))) (k false)) (k false)) (k false)) (k false))) (k false))) (k false)) (k false)) (k false))
def p8 {ρ : Type} := shut (aro (ρ := ρ))
theorem bbk {ρ : Type} (b : Int) (c : Int) (d : Int) (e : Int) (f : Int) (a : Bool) (k : Bool → Option ρ) : p8 b c d e f a k = aro b c d e f a k := by unfold p8; rw [bq]

def ahw {ρ : Type} (d a b e f : Int) (c : Bool) (k : Bool → Option ρ) : Option ρ := p8 d a b e f c fun g => br g (br (decide (a ≤ 4)) (br (decide (b = 0)) none (k (decide (IntKind.i64.wrap (a.tdiv b) ≤ 2)))) (k false)) (k false)
def abd {ρ : Type} := shut (ahw (ρ := ρ))
theorem ava {ρ : Type} (b : Int) (c : Int) (d : Int) (e : Int) (f : Int) (a : Bool) (k : Bool → Option ρ) : abd b c d e f a k = ahw b c d e f a k := by unfold abd; rw [bq]

abbrev zc2 (ρ : Type) := (List (List Int)) → Int → Int → Option ρ
def ao3 {ρ : Type} (b : List (List Int)) (c a : Int) (nx d : zc2 ρ) (e : Bool → Option ρ) : Option ρ := br (decide (a < c)) (br (decide (0 ≤ a)) (br (decide (a < (↑b.length : Int))) (br (decide ((↑(b.getD a.toNat []).length : Int) > 300)) (e false) (nx b c (IntKind.i64.wrap (a + 1)))) none) none) (d b c a)
abbrev zt2 := (List (List Int)) × Int × Int
abbrev zy2 := ((List (List Int)) × Int × Int) ⊕ (Bool)
def zu2 {ρ : Type} (f : zt2 → Option ρ) : zc2 ρ := fun a b c => f (a, b, c)
def zs2 {ρ : Type} : ab3 zt2 zy2 ρ := fun (a, b, c) next ex => ao3 a b c (zu2 next) (fun a b c => ex (.inl (a, b, c))) (fun d => ex (.inr d))
def zm2 {ρ : Type} := shut (lp (zs2 (ρ := ρ)))
theorem ze2 {ρ : Type} : zm2 (ρ := ρ) = lp zs2 := bq _
def zk2 {ρ : Type} (f : ab8 zt2 zy2 ρ) (a : List (List Int)) (b c : Int) (d : zc2 ρ) (e : Bool → Option ρ) : Option ρ := f (a, b, c) (Sum.elim (fun (a, b, c) => d a b c) (fun x => e x))
def ba6 {ρ : Type} := zk2 (lp (zs2 (ρ := ρ)))
def bcn {ρ : Type} := zk2 (zm2 (ρ := ρ))
theorem bdp {ρ : Type} : bcn (ρ := ρ) = ba6 := congrArg zk2 ze2
def aqk {ρ : Type} (a : List (List Int)) (k : Bool → Option ρ) : Option ρ := bcn a (↑a.length : Int) 0 (fun c d e => k true) fun b => k b
def ag6 {ρ : Type} := shut (aqk (ρ := ρ))
theorem bao {ρ : Type} (a : List (List Int)) (k : Bool → Option ρ) : ag6 a k = aqk a k := by unfold ag6; rw [bq]

def ane {ρ : Type} (e b a c d : Int) (f : Bool) (k : Bool → Option ρ) : Option ρ := br (e != 16) (br (e != 24) (br (e != 32) (k false) (br (decide (a < 1)) (k false) (br (decide (b < a)) (k false) (br (decide (b > 68)) (k false) (br (decide (a = 0)) none (br (b.tmod a != 0) (k false) (br (decide (a = 0)) none (br (decide (IntKind.i64.wrap (b.tdiv a) > 9)) (k false) (br (decide (c ≥ 1)) (br (decide (c ≤ 14)) (br (decide (d ≥ 1)) (k (decide (d ≤ 40))) (k false)) (k false)) (k false)))))))))) (br (decide (a < 1)) (k false) (br (decide (b < a)) (k false) (br (decide (b > 68)) (k false) (br (decide (a = 0)) none (br (b.tmod a != 0) (k false) (br (decide (a = 0)) none (br (decide (IntKind.i64.wrap (b.tdiv a) > 9)) (k false) (br (decide (c ≥ 1)) (br (decide (c ≤ 14)) (br (decide (d ≥ 1)) (k (decide (d ≤ 40))) (k false)) (k false)) (k false)))))))))) (br (decide (a < 1)) (k false) (br (decide (b < a)) (k false) (br (decide (b > 68)) (k false) (br (decide (a = 0)) none (br (b.tmod a != 0) (k false) (br (decide (a = 0)) none (br (decide (IntKind.i64.wrap (b.tdiv a) > 9)) (k false) (br (decide (c ≥ 1)) (br (decide (c ≤ 14)) (br (decide (d ≥ 1)) (k (decide (d ≤ 40))) (k false)) (k false)) (k false)))))))))
def yw {ρ : Type} := shut (ane (ρ := ρ))
theorem ay7 {ρ : Type} (b : Int) (c : Int) (d : Int) (e : Int) (f : Int) (a : Bool) (k : Bool → Option ρ) : yw b c d e f a k = ane b c d e f a k := by unfold yw; rw [bq]

def al0 {ρ : Type} (d b a e f : Int) (c : Bool) (k : Int → Option ρ) : Option ρ := br (decide (a = 0)) none (k (IntKind.i64.wrap (b.tdiv a)))
def iy {ρ : Type} := shut (al0 (ρ := ρ))
theorem avb {ρ : Type} (b : Int) (c : Int) (d : Int) (e : Int) (f : Int) (a : Bool) (k : Int → Option ρ) : iy b c d e f a k = al0 b c d e f a k := by unfold iy; rw [bq]

def al2 {ρ : Type} (b c d e f : Int) (a : Bool) (k : Int → Option ρ) : Option ρ := yw b c d e f a fun g => br (!g) (k 0) (iy b c d e f a fun h => k (IntKind.i64.wrap (b * IntKind.i64.wrap (IntKind.i64.wrap (IntKind.i64.wrap (2 * b) + 3) + h))))
def mg {ρ : Type} := shut (al2 (ρ := ρ))
theorem avn {ρ : Type} (b : Int) (c : Int) (d : Int) (e : Int) (f : Int) (a : Bool) (k : Int → Option ρ) : mg b c d e f a k = al2 b c d e f a k := by unfold mg; rw [bq]

abbrev zc3 (ρ : Type) := (List (List Int)) → Int → Int → Int → Int → Int → Int → Int → Bool → Option ρ
def agr {ρ : Type} (h : List (List Int)) (i g a b c d e : Int) (f : Bool) (nx j : zc3 ρ) (k : Bool → Int → Int → Int → Int → Int → Bool → Option ρ) : Option ρ := br (decide (g < i)) (br (decide (0 ≤ g)) (br (decide (g < (↑h.length : Int))) (br ((↑(h.getD g.toNat []).length : Int) != a) (k false a b c d e f) (nx h i (IntKind.i64.wrap (g + 1)) a b c d e f)) none) none) (j h i g a b c d e f)
abbrev zt3 := (List (List Int)) × Int × Int × Int × Int × Int × Int × Int × Bool
abbrev zy3 := ((List (List Int)) × Int × Int × Int × Int × Int × Int × Int × Bool) ⊕ (Bool × Int × Int × Int × Int × Int × Bool)
def zu3 {ρ : Type} (f : zt3 → Option ρ) : zc3 ρ := fun h i j a b c d e g => f (h, i, j, a, b, c, d, e, g)
def zs3 {ρ : Type} : ab3 zt3 zy3 ρ := fun (g, h, i, a, b, c, d, e, f) next ex => agr g h i a b c d e f (zu3 next) (fun g h i a b c d e f => ex (.inl (g, h, i, a, b, c, d, e, f))) (fun j a b c d e f => ex (.inr (j, a, b, c, d, e, f)))
def zm3 {ρ : Type} := shut (lp (zs3 (ρ := ρ)))
theorem ze3 {ρ : Type} : zm3 (ρ := ρ) = lp zs3 := bq _
def zk3 {ρ : Type} (f : ab8 zt3 zy3 ρ) (h : List (List Int)) (i j a b c d e : Int) (g : Bool) (k : zc3 ρ) (l : Bool → Int → Int → Int → Int → Int → Bool → Option ρ) : Option ρ := f (h, i, j, a, b, c, d, e, g) (Sum.elim (fun (h, i, j, a, b, c, d, e, g) => k h i j a b c d e g) (fun x => l x.1 x.2.1 x.2.2.1 x.2.2.2.1 x.2.2.2.2.1 x.2.2.2.2.2.1 x.2.2.2.2.2.2))
def aoj {ρ : Type} := zk3 (lp (zs3 (ρ := ρ)))
def ave {ρ : Type} := zk3 (zm3 (ρ := ρ))
theorem an0 {ρ : Type} : ave (ρ := ρ) = aoj := congrArg zk3 ze3
def ahz {ρ : Type} (b c d e f : Int) (a : Bool) (g : List (List Int)) (k : Bool → Option ρ) : Option ρ := ave g (↑g.length : Int) 0 b c d e f a (fun w y z i j l m n o => yw i j l m n o fun p => k p) fun h q r s t u v => k h
def ku {ρ : Type} := shut (ahz (ρ := ρ))
theorem anu {ρ : Type} (b : Int) (c : Int) (d : Int) (e : Int) (f : Int) (a : Bool) (g : List (List Int)) (k : Bool → Option ρ) : ku b c d e f a g k = ahz b c d e f a g k := by unfold ku; rw [bq]

def ad6 {ρ : Type} (a : Int) (k : (List Int) → Option ρ) : Option ρ := br (decide (a < 0)) none (br (decide (IntKind.i64.wrap (a - IntKind.i64.wrap (0 - (↑0 : Int))) > 0)) (br (decide (0 ≤ IntKind.i64.wrap (a - IntKind.i64.wrap (0 - (↑0 : Int))))) (br (decide ((IntKind.i64.wrap (a - IntKind.i64.wrap (0 - (↑0 : Int)))).toNat * 1 ≤ 140737488355328)) (k (List.take ((↑0 : Int) - (0 : Int)).toNat (List.replicate (IntKind.i64.wrap (a - IntKind.i64.wrap (0 - (↑0 : Int)))).toNat (0 : Int)))) none) none) (k []))
def qb {ρ : Type} := shut (ad6 (ρ := ρ))
theorem aiz {ρ : Type} (a : Int) (k : (List Int) → Option ρ) : qb a k = ad6 a k := by unfold qb; rw [bq]

abbrev zc4 (ρ : Type) := (List (List Int)) → Int → (List (List Int)) → Int → Int → Option ρ
def ac5 {ρ : Type} (e : List (List Int)) (d : Int) (b : List (List Int)) (c a : Int) (nx f : zc4 ρ) : Option ρ := br (decide (a < c)) (br (decide (0 ≤ a)) (br (decide (a < (↑b.length : Int))) (br (decide (IntKind.i64.wrap (d + (↑(b.getD a.toNat []).length : Int)) < 0)) none (nx e (IntKind.i64.wrap (d + (↑(b.getD a.toNat []).length : Int))) b c (IntKind.i64.wrap (a + 1)))) none) none) (f e d b c a)
abbrev zt4 := (List (List Int)) × Int × (List (List Int)) × Int × Int
abbrev zy4 := zt4
def zu4 {ρ : Type} (f : zt4 → Option ρ) : zc4 ρ := fun c d e a b => f (c, d, e, a, b)
def zs4 {ρ : Type} : ab3 zt4 zy4 ρ := fun (c, d, e, a, b) next ex => ac5 c d e a b (zu4 next) (zu4 ex)
def zm4 {ρ : Type} := shut (lp (zs4 (ρ := ρ)))
theorem ze4 {ρ : Type} : zm4 (ρ := ρ) = lp zs4 := bq _
def zk4 {ρ : Type} (f : ab8 zt4 zy4 ρ) (c : List (List Int)) (d : Int) (e : List (List Int)) (a b : Int) (g : zc4 ρ) : Option ρ := f (c, d, e, a, b) (fun (c, d, e, a, b) => g c d e a b)
def ag1 {ρ : Type} := zk4 (lp (zs4 (ρ := ρ)))
def agt {ρ : Type} := zk4 (zm4 (ρ := ρ))
theorem ak7 {ρ : Type} : agt (ρ := ρ) = ag1 := congrArg zk4 ze4
abbrev zc5 (ρ : Type) := (List (List Int)) → Int → Int → (List Int) → Option ρ
def ab5 {ρ : Type} (b : List (List Int)) (c a : Int) (d : List Int) (nx e : zc5 ρ) : Option ρ := br (decide (a < c)) (br (decide (0 ≤ a)) (br (decide (a < (↑b.length : Int))) (br (decide ((d.length + (b.getD a.toNat []).length) * 1 ≤ 140737488355328)) (nx b c (IntKind.i64.wrap (a + 1)) (d ++ b.getD a.toNat [])) none) none) none) (e b c a d)
abbrev zt5 := (List (List Int)) × Int × Int × (List Int)
abbrev zy5 := zt5
def zu5 {ρ : Type} (f : zt5 → Option ρ) : zc5 ρ := fun a b c d => f (a, b, c, d)
def zs5 {ρ : Type} : ab3 zt5 zy5 ρ := fun (a, b, c, d) next ex => ab5 a b c d (zu5 next) (zu5 ex)
def zm5 {ρ : Type} := shut (lp (zs5 (ρ := ρ)))
theorem ze5 {ρ : Type} : zm5 (ρ := ρ) = lp zs5 := bq _
def zk5 {ρ : Type} (f : ab8 zt5 zy5 ρ) (a : List (List Int)) (b c : Int) (d : List Int) (e : zc5 ρ) : Option ρ := f (a, b, c, d) (fun (a, b, c, d) => e a b c d)
def afu {ρ : Type} := zk5 (lp (zs5 (ρ := ρ)))
def afp {ρ : Type} := zk5 (zm5 (ρ := ρ))
theorem akf {ρ : Type} : afp (ρ := ρ) = afu := congrArg zk5 ze5
def ab9 {ρ : Type} (a : List (List Int)) (k : (List Int) → Option ρ) : Option ρ := agt a 0 a (↑a.length : Int) 0 fun b c f g h => qb c fun d => afp b (↑b.length : Int) 0 d fun i j l e => k e
def jq {ρ : Type} := shut (ab9 (ρ := ρ))
theorem agz {ρ : Type} (a : List (List Int)) (k : (List Int) → Option ρ) : jq a k = ab9 a k := by unfold jq; rw [bq]

def alm {ρ : Type} (a : List (List Int)) (k : (List Int) → Option ρ) : Option ρ := jq a fun b => k b
def l5 {ρ : Type} := shut (alm (ρ := ρ))
theorem av5 {ρ : Type} (a : List (List Int)) (k : (List Int) → Option ρ) : l5 a k = alm a k := by unfold l5; rw [bq]

abbrev zc6 (ρ : Type) := Int → Int → Int → (List Int) → Option ρ
def auu {ρ : Type} (c b a : Int) (d : List Int) (nx e : zc6 ρ) : Option ρ := br (decide (a < b)) (br (decide (IntKind.i64.wrap (8 * a) < 0)) none (br (decide (0 ≤ a)) (br (decide (a < (↑d.length : Int))) (nx c b (IntKind.i64.wrap (a + 1)) (d.set a.toNat (IntKind.u8.wrap (c.fdiv (2 ^ min (IntKind.i64.wrap (8 * a)).toNat 64))))) none) none)) (e c b a d)
abbrev zt6 := Int × Int × Int × (List Int)
abbrev zy6 := zt6
def zu6 {ρ : Type} (f : zt6 → Option ρ) : zc6 ρ := fun c a b d => f (c, a, b, d)
def zs6 {ρ : Type} : ab3 zt6 zy6 ρ := fun (c, a, b, d) next ex => auu c a b d (zu6 next) (zu6 ex)
def zm6 {ρ : Type} := shut (lp (zs6 (ρ := ρ)))
theorem ze6 {ρ : Type} : zm6 (ρ := ρ) = lp zs6 := bq _
def zk6 {ρ : Type} (f : ab8 zt6 zy6 ρ) (c a b : Int) (d : List Int) (e : zc6 ρ) : Option ρ := f (c, a, b, d) (fun (c, a, b, d) => e c a b d)
def bay {ρ : Type} := zk6 (lp (zs6 (ρ := ρ)))
def bci {ρ : Type} := zk6 (zm6 (ρ := ρ))
theorem bdn {ρ : Type} : bci (ρ := ρ) = bay := congrArg zk6 ze6
def aq3 {ρ : Type} (b a : Int) (k : (List Int) → Option ρ) : Option ρ := br (decide (a < 0)) (k []) (br (decide (a > 65536)) (k []) (br (decide (0 ≤ a)) (br (decide (a ≤ a)) (br (decide (a * (↑1 : Int) ≤ (↑140737488355328 : Int))) (bci b (bif decide (8 < a) then 8 else a) 0 (List.replicate a.toNat (0 : Int)) fun d e f c => k c) none) none) none))
def aga {ρ : Type} := shut (aq3 (ρ := ρ))
theorem bcr {ρ : Type} (a : Int) (b : Int) (k : (List Int) → Option ρ) : aga a b k = aq3 a b k := by unfold aga; rw [bq]

abbrev zc7 (ρ : Type) := Int → Int → (List Int) → Option ρ
def aot {ρ : Type} (a b : Int) (c : List Int) (nx d : zc7 ρ) : Option ρ := br (decide (a < b)) (br (decide (0 ≤ b)) (br (decide (b < (↑c.length : Int))) (br (decide (0 ≤ a)) (br (decide (a < (↑c.length : Int))) (br (decide (0 ≤ a)) (br (decide (a < (↑c.length : Int))) (br (decide (0 ≤ b)) (br (decide (b < (↑(c.set a.toNat (c.getD b.toNat 0)).length : Int))) (nx (IntKind.i64.wrap (a + 1)) (IntKind.i64.wrap (b - 1)) ((c.set a.toNat (c.getD b.toNat 0)).set b.toNat (c.getD a.toNat 0))) none) none) none) none) none) none) none) none) (d a b c)
abbrev zt7 := Int × Int × (List Int)
abbrev zy7 := zt7
def zu7 {ρ : Type} (f : zt7 → Option ρ) : zc7 ρ := fun a b c => f (a, b, c)
def zs7 {ρ : Type} : ab3 zt7 zy7 ρ := fun (a, b, c) next ex => aot a b c (zu7 next) (zu7 ex)
def zm7 {ρ : Type} := shut (lp (zs7 (ρ := ρ)))
theorem ze7 {ρ : Type} : zm7 (ρ := ρ) = lp zs7 := bq _
def zk7 {ρ : Type} (f : ab8 zt7 zy7 ρ) (a b : Int) (c : List Int) (d : zc7 ρ) : Option ρ := f (a, b, c) (fun (a, b, c) => d a b c)
def avx {ρ : Type} := zk7 (lp (zs7 (ρ := ρ)))
def awg {ρ : Type} := zk7 (zm7 (ρ := ρ))
theorem ax0 {ρ : Type} : awg (ρ := ρ) = avx := congrArg zk7 ze7
def arp {ρ : Type} (b c : Int) (k : (List Int) → Option ρ) : Option ρ := aga b c fun a => awg 0 (IntKind.i64.wrap ((↑a.length : Int) - 1)) a fun e f d => k d
def yg {ρ : Type} := shut (arp (ρ := ρ))
theorem bcu {ρ : Type} (a : Int) (b : Int) (k : (List Int) → Option ρ) : yg a b k = arp a b k := by unfold yg; rw [bq]

def aon {ρ : Type} (b : List Int) (a c : Int) (k : (List Int) → Option ρ) : Option ρ := br (a == 0) (yg c 4 fun d => k ((List.take 4 d).append (List.drop (0 + min 4 d.length) b))) (br (a == 1) (yg c 12 fun e => k ((List.take 4 b).append (List.take 12 e ++ List.drop (4 + min 12 e.length) b))) (br (a == 2) (yg c 4 fun j => l5 [j, List.replicate 12 (0 : Int)] fun f => k ((List.take 16 b).append (List.take 16 f ++ List.drop (16 + min 16 f.length) b))) (br (a == 3) (br (a == 3) (br (decide (0 ≤ IntKind.i64.wrap (8 + IntKind.i64.wrap (4 * a)))) (br (decide (IntKind.i64.wrap (8 + IntKind.i64.wrap (4 * a)) ≤ (↑32 : Int))) (yg c 4 fun g => k ((List.take (IntKind.i64.wrap (8 + IntKind.i64.wrap (4 * a))).toNat b).append (List.take ((↑32 : Int) - IntKind.i64.wrap (8 + IntKind.i64.wrap (4 * a))).toNat g ++ List.drop ((IntKind.i64.wrap (8 + IntKind.i64.wrap (4 * a))).toNat + min ((↑32 : Int) - IntKind.i64.wrap (8 + IntKind.i64.wrap (4 * a))).toNat g.length) b))) none) none) (k b)) (br (a == 4) (br (a == 4) (br (decide (0 ≤ IntKind.i64.wrap (8 + IntKind.i64.wrap (4 * a)))) (br (decide (IntKind.i64.wrap (8 + IntKind.i64.wrap (4 * a)) ≤ (↑32 : Int))) (yg c 4 fun h => k ((List.take (IntKind.i64.wrap (8 + IntKind.i64.wrap (4 * a))).toNat b).append (List.take ((↑32 : Int) - IntKind.i64.wrap (8 + IntKind.i64.wrap (4 * a))).toNat h ++ List.drop ((IntKind.i64.wrap (8 + IntKind.i64.wrap (4 * a))).toNat + min ((↑32 : Int) - IntKind.i64.wrap (8 + IntKind.i64.wrap (4 * a))).toNat h.length) b))) none) none) (k b)) (br (a == 5) (br (decide (0 ≤ IntKind.i64.wrap (8 + IntKind.i64.wrap (4 * a)))) (br (decide (IntKind.i64.wrap (8 + IntKind.i64.wrap (4 * a)) ≤ (↑32 : Int))) (yg c 4 fun i => k ((List.take (IntKind.i64.wrap (8 + IntKind.i64.wrap (4 * a))).toNat b).append (List.take ((↑32 : Int) - IntKind.i64.wrap (8 + IntKind.i64.wrap (4 * a))).toNat i ++ List.drop ((IntKind.i64.wrap (8 + IntKind.i64.wrap (4 * a))).toNat + min ((↑32 : Int) - IntKind.i64.wrap (8 + IntKind.i64.wrap (4 * a))).toNat i.length) b))) none) none) (k b))))))
def ig {ρ : Type} := shut (aon (ρ := ρ))
theorem azx {ρ : Type} (a : List Int) (b : Int) (c : Int) (k : (List Int) → Option ρ) : ig a b c k = aon a b c k := by unfold ig; rw [bq]

def afd {ρ : Type} (d e f g h : Int) (a : Bool) (c i b : List Int) (j : Int) (k : (List Int) → Option ρ) : Option ρ := ig b 2 0 fun l => ig l 3 j fun m => k m
def oo {ρ : Type} := shut (afd (ρ := ρ))
theorem akx {ρ : Type} (c : Int) (d : Int) (e : Int) (f : Int) (g : Int) (a : Bool) (b : List Int) (h : List Int) (i : List Int) (j : Int) (k : (List Int) → Option ρ) : oo c d e f g a b h i j k = afd c d e f g a b h i j k := by unfold oo; rw [bq]

def aio {ρ : Type} (a : Int) (k : Int → Option ρ) : Option ρ := br (a == 4) (br (a == 4) (k 136) (br (a == 5) (k 72) (br (a == 6) (k 168) (k 0)))) (br (a == 7) (k 136) (br (a == 5) (k 72) (br (a == 6) (k 168) (k 0))))
def mq {ρ : Type} := shut (aio (ρ := ρ))
theorem apn {ρ : Type} (a : Int) (k : Int → Option ρ) : mq a k = aio a k := by unfold mq; rw [bq]

def akc {ρ : Type} (a : Int) (k : Int → (List Int) → Int → Bool → Int → Option ρ) : Option ρ := mq a fun b => br (b == 0) (k 0 [0, 0, 0, 0, 0, 0, 0, 0, 0, 0, 0, 0, 0, 0, 0, 0, 0, 0, 0, 0, 0, 0, 0, 0, 0] 0 false 9) (k a [0, 0, 0, 0, 0, 0, 0, 0, 0, 0, 0, 0, 0, 0, 0, 0, 0, 0, 0, 0, 0, 0, 0, 0, 0] 0 false 0)
def aep {ρ : Type} := shut (akc (ρ := ρ))
theorem as2 {ρ : Type} (a : Int) (k : Int → (List Int) → Int → Bool → Int → Option ρ) : aep a k = akc a k := by unfold aep; rw [bq]

def o7 {ρ : Type} (b a : Int) (k : Int → Option ρ) : Option ρ := br (decide (IntKind.u64.wrap (64 - bits BinOp.and IntKind.u64 (IntKind.u64.wrap a) 63) < 0)) none (k (bits BinOp.or IntKind.u64 (IntKind.u64.wrap (b * 2 ^ min (bits BinOp.and IntKind.u64 (IntKind.u64.wrap a) 63).toNat 64)) (b.fdiv (2 ^ min (IntKind.u64.wrap (64 - bits BinOp.and IntKind.u64 (IntKind.u64.wrap a) 63)).toNat 64))))
def jk {ρ : Type} := shut (o7 (ρ := ρ))
theorem ru {ρ : Type} (a : Int) (b : Int) (k : Int → Option ρ) : jk a b k = o7 a b k := by unfold jk; rw [bq]

abbrev zc8 (ρ : Type) := Int → (List Int) → (List Int) → (List Int) → Option ρ
def ain {ρ : Type} (a : Int) (c b d : List Int) (nx e : zc8 ρ) : Option ρ := br (decide (a < 5)) (br (decide (0 ≤ a)) (br (decide (a < (↑25 : Int))) (br (decide (0 ≤ IntKind.i64.wrap (a + 5))) (br (decide (IntKind.i64.wrap (a + 5) < (↑25 : Int))) (br (decide (0 ≤ IntKind.i64.wrap (a + 10))) (br (decide (IntKind.i64.wrap (a + 10) < (↑25 : Int))) (br (decide (0 ≤ IntKind.i64.wrap (a + 15))) (br (decide (IntKind.i64.wrap (a + 15) < (↑25 : Int))) (br (decide (0 ≤ IntKind.i64.wrap (a + 20))) (br (decide (IntKind.i64.wrap (a + 20) < (↑25 : Int))) (br (decide (0 ≤ a)) (br (decide (a < (↑5 : Int))) (nx (IntKind.i64.wrap (a + 1)) c b (d.set a.toNat (bits BinOp.xor IntKind.u64 (bits BinOp.xor IntKind.u64 (bits BinOp.xor IntKind.u64 (bits BinOp.xor IntKind.u64 (b.getD a.toNat 0) (b.getD (IntKind.i64.wrap (a + 5)).toNat 0)) (b.getD (IntKind.i64.wrap (a + 10)).toNat 0)) (b.getD (IntKind.i64.wrap (a + 15)).toNat 0)) (b.getD (IntKind.i64.wrap (a + 20)).toNat 0)))) none) none) none) none) none) none) none) none) none) none) none) none) (e a c b d)
abbrev zt8 := Int × (List Int) × (List Int) × (List Int)
abbrev zy8 := zt8
def zu8 {ρ : Type} (f : zt8 → Option ρ) : zc8 ρ := fun d a b c => f (d, a, b, c)
def zs8 {ρ : Type} : ab3 zt8 zy8 ρ := fun (d, a, b, c) next ex => ain d a b c (zu8 next) (zu8 ex)
def zm8 {ρ : Type} := shut (lp (zs8 (ρ := ρ)))
theorem ze8 {ρ : Type} : zm8 (ρ := ρ) = lp zs8 := bq _
def zk8 {ρ : Type} (f : ab8 zt8 zy8 ρ) (d : Int) (a b c : List Int) (e : zc8 ρ) : Option ρ := f (d, a, b, c) (fun (d, a, b, c) => e d a b c)
def aje {ρ : Type} := zk8 (lp (zs8 (ρ := ρ)))
def aee {ρ : Type} := zk8 (zm8 (ρ := ρ))
theorem am7 {ρ : Type} : aee (ρ := ρ) = aje := congrArg zk8 ze8
abbrev zc9 (ρ : Type) := Int → Int → Int → Int → Int → (List Int) → (List Int) → (List Int) → (List Int) → Option ρ
def abl {ρ : Type} (i b h a g : Int) (d e f c : List Int) (nx j : zc9 ρ) : Option ρ := br (decide (a < 25)) (br (decide (0 ≤ IntKind.i64.wrap (b + a))) (br (decide (IntKind.i64.wrap (b + a) < (↑25 : Int))) (br (decide (0 ≤ IntKind.i64.wrap (b + a))) (br (decide (IntKind.i64.wrap (b + a) < (↑25 : Int))) (nx i b h (IntKind.i64.wrap (a + 5)) g d e f (c.set (IntKind.i64.wrap (b + a)).toNat (bits BinOp.xor IntKind.u64 (c.getD (IntKind.i64.wrap (b + a)).toNat 0) h))) none) none) none) none) (j i b h a g d e f c)
abbrev zt9 := Int × Int × Int × Int × Int × (List Int) × (List Int) × (List Int) × (List Int)
abbrev zy9 := zt9
def zu9 {ρ : Type} (f : zt9 → Option ρ) : zc9 ρ := fun g h i j e a b c d => f (g, h, i, j, e, a, b, c, d)
def zs9 {ρ : Type} : ab3 zt9 zy9 ρ := fun (f, g, h, i, e, a, b, c, d) next ex => abl f g h i e a b c d (zu9 next) (zu9 ex)
def zm9 {ρ : Type} := shut (lp (zs9 (ρ := ρ)))
theorem ze9 {ρ : Type} : zm9 (ρ := ρ) = lp zs9 := bq _
def zk9 {ρ : Type} (f : ab8 zt9 zy9 ρ) (g h i j e : Int) (a b c d : List Int) (k : zc9 ρ) : Option ρ := f (g, h, i, j, e, a, b, c, d) (fun (g, h, i, j, e, a, b, c, d) => k g h i j e a b c d)
def abt {ρ : Type} := zk9 (lp (zs9 (ρ := ρ)))
def aij {ρ : Type} := zk9 (zm9 (ρ := ρ))
theorem acd {ρ : Type} : aij (ρ := ρ) = abt := congrArg zk9 ze9
abbrev bv9 (ρ : Type) := Int → Int → (List Int) → (List Int) → (List Int) → (List Int) → Option ρ
def aiy {ρ : Type} (f a : Int) (c d e b : List Int) (nx g : bv9 ρ) : Option ρ := br (decide (a < 5)) (br (decide (0 ≤ (IntKind.i64.wrap (a + 4)).tmod 5)) (br (decide ((IntKind.i64.wrap (a + 4)).tmod 5 < (↑5 : Int))) (br (decide (0 ≤ (IntKind.i64.wrap (a + 1)).tmod 5)) (br (decide ((IntKind.i64.wrap (a + 1)).tmod 5 < (↑5 : Int))) (jk (b.getD ((IntKind.i64.wrap (a + 1)).tmod 5).toNat 0) 1 fun h => aij f a (bits BinOp.xor IntKind.u64 (b.getD ((IntKind.i64.wrap (a + 4)).tmod 5).toNat 0) h) 0 a b e d c fun i o p q j k l m n => nx i (IntKind.i64.wrap (j + 1)) n m l k) none) none) none) none) (g f a c d e b)
abbrev bxn := Int × Int × (List Int) × (List Int) × (List Int) × (List Int)
abbrev b54 := bxn
def cbd {ρ : Type} (f : bxn → Option ρ) : bv9 ρ := fun g e a b c d => f (g, e, a, b, c, d)
def by3 {ρ : Type} : ab3 bxn b54 ρ := fun (f, e, a, b, c, d) next ex => aiy f e a b c d (cbd next) (cbd ex)
def b9h {ρ : Type} := shut (lp (by3 (ρ := ρ)))
theorem cc8 {ρ : Type} : b9h (ρ := ρ) = lp by3 := bq _
def b3f {ρ : Type} (f : ab8 bxn b54 ρ) (g e : Int) (a b c d : List Int) (h : bv9 ρ) : Option ρ := f (g, e, a, b, c, d) (fun (g, e, a, b, c, d) => h g e a b c d)
def ai0 {ρ : Type} := b3f (lp (by3 (ρ := ρ)))
def aeh {ρ : Type} := b3f (b9h (ρ := ρ))
theorem am9 {ρ : Type} : aeh (ρ := ρ) = ai0 := congrArg b3f cc8
abbrev b4x (ρ : Type) := Int → Int → (List Int) → Int → (List Int) → (List Int) → (List Int) → (List Int) → Option ρ
def ahm {ρ : Type} (g h : Int) (b : List Int) (a : Int) (d e f c : List Int) (nx i : b4x ρ) : Option ρ := br (decide (a < 24)) (br (decide (0 ≤ a)) (br (decide (a < (↑24 : Int))) (br (decide (0 ≤ a)) (br (decide (a < (↑24 : Int))) (jk h (b1x.getD a.toNat 0) fun j => br (decide (0 ≤ b.getD a.toNat 0)) (br (decide (b.getD a.toNat 0 < (↑25 : Int))) (br (decide (0 ≤ b.getD a.toNat 0)) (br (decide (b.getD a.toNat 0 < (↑25 : Int))) (nx g (c.getD (b.getD a.toNat 0).toNat 0) b (IntKind.i64.wrap (a + 1)) d e f (c.set (b.getD a.toNat 0).toNat j)) none) none) none) none) none) none) none) none) (i g h b a d e f c)
abbrev byt := Int × Int × (List Int) × Int × (List Int) × (List Int) × (List Int) × (List Int)
abbrev b4f := byt
def b4y {ρ : Type} (f : byt → Option ρ) : b4x ρ := fun h i e g a b c d => f (h, i, e, g, a, b, c, d)
def bwk {ρ : Type} : ab3 byt b4f ρ := fun (g, h, e, f, a, b, c, d) next ex => ahm g h e f a b c d (b4y next) (b4y ex)
def b3u {ρ : Type} := shut (lp (bwk (ρ := ρ)))
theorem cdy {ρ : Type} : b3u (ρ := ρ) = lp bwk := bq _
def b2j {ρ : Type} (f : ab8 byt b4f ρ) (h i : Int) (e : List Int) (g : Int) (a b c d : List Int) (j : b4x ρ) : Option ρ := f (h, i, e, g, a, b, c, d) (fun (h, i, e, g, a, b, c, d) => j h i e g a b c d)
def ahl {ρ : Type} := b2j (lp (bwk (ρ := ρ)))
def ad4 {ρ : Type} := b2j (b3u (ρ := ρ))
theorem alv {ρ : Type} : ad4 (ρ := ρ) = ahl := congrArg b2j cdy
abbrev cam (ρ : Type) := Int → Int → Int → (List Int) → (List Int) → (List Int) → (List Int) → (List Int) → Option ρ
def aa3 {ρ : Type} (h c a : Int) (d e f g b : List Int) (nx i : cam ρ) : Option ρ := br (decide (a < 5)) (br (decide (0 ≤ a)) (br (decide (a < (↑5 : Int))) (br (decide (0 ≤ (IntKind.i64.wrap (a + 2)).tmod 5)) (br (decide ((IntKind.i64.wrap (a + 2)).tmod 5 < (↑5 : Int))) (br (decide (0 ≤ (IntKind.i64.wrap (a + 1)).tmod 5)) (br (decide ((IntKind.i64.wrap (a + 1)).tmod 5 < (↑5 : Int))) (br (decide (0 ≤ IntKind.i64.wrap (c + a))) (br (decide (IntKind.i64.wrap (c + a) < (↑25 : Int))) (nx h c (IntKind.i64.wrap (a + 1)) d e f (g.set (IntKind.i64.wrap (c + a)).toNat (bits BinOp.xor IntKind.u64 (b.getD a.toNat 0) (bits BinOp.andNot IntKind.u64 (b.getD ((IntKind.i64.wrap (a + 2)).tmod 5).toNat 0) (b.getD ((IntKind.i64.wrap (a + 1)).tmod 5).toNat 0)))) b) none) none) none) none) none) none) none) none) (i h c a d e f g b)
abbrev b0s := Int × Int × Int × (List Int) × (List Int) × (List Int) × (List Int) × (List Int)
abbrev b38 := b0s
def bx6 {ρ : Type} (f : b0s → Option ρ) : cam ρ := fun i g h a b c d e => f (i, g, h, a, b, c, d, e)
def zs12 {ρ : Type} : ab3 b0s b38 ρ := fun (h, f, g, a, b, c, d, e) next ex => aa3 h f g a b c d e (bx6 next) (bx6 ex)
def b95 {ρ : Type} := shut (lp (zs12 (ρ := ρ)))
theorem cdc {ρ : Type} : b95 (ρ := ρ) = lp zs12 := bq _
def buu {ρ : Type} (f : ab8 b0s b38 ρ) (i g h : Int) (a b c d e : List Int) (j : cam ρ) : Option ρ := f (i, g, h, a, b, c, d, e) (fun (i, g, h, a, b, c, d, e) => j i g h a b c d e)
def aa5 {ρ : Type} := buu (lp (zs12 (ρ := ρ)))
def ahr {ρ : Type} := buu (b95 (ρ := ρ))
theorem abr {ρ : Type} : ahr (ρ := ρ) = aa5 := congrArg buu cdc
abbrev zc13 (ρ : Type) := Int → Int → (List Int) → (List Int) → (List Int) → (List Int) → Option ρ
def ahp {ρ : Type} (f a : Int) (b c d e : List Int) (nx g : bv9 ρ) : Option ρ := br (decide (a < 25)) (br (decide (0 ≤ a)) (br (decide (a ≤ IntKind.i64.wrap (a + 5))) (br (decide (IntKind.i64.wrap (a + 5) ≤ (↑25 : Int))) (br (decide (5 ≤ (IntKind.i64.wrap (a + 5) - a).toNat)) (br (decide (a.toNat + 5 ≤ 25)) (ahr f a 0 e d c b (List.take 5 (List.drop a.toNat b)) fun h i n j k l m o => nx h (IntKind.i64.wrap (i + 5)) m l k j) none) none) none) none) none) (g f a b c d e)
abbrev b0o := Int × Int × (List Int) × (List Int) × (List Int) × (List Int)
abbrev b45 := b0o
def b58 {ρ : Type} (f : b0o → Option ρ) : zc13 ρ := fun g e a b c d => f (g, e, a, b, c, d)
def bxw {ρ : Type} : ab3 b0o b45 ρ := fun (f, e, a, b, c, d) next ex => ahp f e a b c d (b58 next) (b58 ex)
def b8o {ρ : Type} := shut (lp (bxw (ρ := ρ)))
theorem cdr {ρ : Type} : b8o (ρ := ρ) = lp bxw := bq _
def b28 {ρ : Type} (f : ab8 b0o b45 ρ) (g e : Int) (a b c d : List Int) (h : bv9 ρ) : Option ρ := f (g, e, a, b, c, d) (fun (g, e, a, b, c, d) => h g e a b c d)
def ahk {ρ : Type} := b28 (lp (bxw (ρ := ρ)))
def ad7 {ρ : Type} := b28 (b8o (ρ := ρ))
theorem ame {ρ : Type} : ad7 (ρ := ρ) = ahk := congrArg b28 cdr
abbrev b5l (ρ : Type) := (List Int) → Int → (List Int) → (List Int) → Option ρ
def af9 {ρ : Type} (e : List Int) (a : Int) (b c : List Int) (nx o : b5l ρ) : Option ρ := br (decide (a < 24)) (br (decide (0 ≤ a)) (br (decide (a < (↑24 : Int))) (aee 0 c b [0, 0, 0, 0, 0] fun C p q f => aeh (e.getD a.toNat 0) 0 q p f f fun r F g s t u => ad4 r (g.getD 1 0) bu0 0 u t s g fun h v w y i j k l => ad7 h 0 l k j i fun m z d n A B => nx e (IntKind.i64.wrap (a + 1)) (d.set 0 (bits BinOp.xor IntKind.u64 (d.getD 0 0) m)) n) none) none) (o e a b c)
abbrev bwy := (List Int) × Int × (List Int) × (List Int)
abbrev b8h := bwy
def b6t {ρ : Type} (f : bwy → Option ρ) : b5l ρ := fun c d a b => f (c, d, a, b)
def byl {ρ : Type} : ab3 bwy b8h ρ := fun (c, d, a, b) next ex => af9 c d a b (b6t next) (b6t ex)
def ca0 {ρ : Type} := shut (lp (byl (ρ := ρ)))
theorem ccf {ρ : Type} : ca0 (ρ := ρ) = lp byl := bq _
def b2w {ρ : Type} (f : ab8 bwy b8h ρ) (c : List Int) (d : Int) (a b : List Int) (e : b5l ρ) : Option ρ := f (c, d, a, b) (fun (c, d, a, b) => e c d a b)
def ak2 {ρ : Type} := b2w (lp (byl (ρ := ρ)))
def akt {ρ : Type} := b2w (ca0 (ρ := ρ))
theorem apg {ρ : Type} : akt (ρ := ρ) = ak2 := congrArg b2w ccf
def aez {ρ : Type} (a : List Int) (k : (List Int) → Option ρ) : Option ρ := akt blw 0 a [0, 0, 0, 0, 0, 0, 0, 0, 0, 0, 0, 0, 0, 0, 0, 0, 0, 0, 0, 0, 0, 0, 0, 0, 0] fun c d b e => k b
def jf {ρ : Type} := shut (aez (ρ := ρ))
theorem akr {ρ : Type} (a : List Int) (k : (List Int) → Option ρ) : jf a k = aez a k := by unfold jf; rw [bq]

abbrev b75 (ρ : Type) := (List Int) → Int → Int → Int → Int → (List Int) → Int → Bool → Int → (List Int) → Int → Bool → Option ρ
def ahb {ρ : Type} (k : List Int) (l j b d : Int) (c : List Int) (a : Int) (e : Bool) (f : Int) (g : List Int) (h : Int) (i : Bool) (nx m : b75 ρ) : Option ρ := br (decide (b < j)) (br (decide (0 ≤ b)) (br (decide (b < (↑k.length : Int))) (br (decide (0 ≤ IntKind.i64.wrap (a.tdiv 8))) (br (decide (IntKind.i64.wrap (a.tdiv 8) < (↑25 : Int))) (br (decide (IntKind.i64.wrap (8 * a.tmod 8) < 0)) none (br (decide (0 ≤ IntKind.i64.wrap (a.tdiv 8))) (br (decide (IntKind.i64.wrap (a.tdiv 8) < (↑25 : Int))) (br (IntKind.i64.wrap (a + 1) == l) (jf (c.set (IntKind.i64.wrap (a.tdiv 8)).toNat (bits BinOp.xor IntKind.u64 (c.getD (IntKind.i64.wrap (a.tdiv 8)).toNat 0) (IntKind.u64.wrap (IntKind.u64.wrap (k.getD b.toNat 0) * 2 ^ min (IntKind.i64.wrap (8 * a.tmod 8)).toNat 64)))) fun n => nx k l j (IntKind.i64.wrap (b + 1)) d n 0 e f g h i) (nx k l j (IntKind.i64.wrap (b + 1)) d (c.set (IntKind.i64.wrap (a.tdiv 8)).toNat (bits BinOp.xor IntKind.u64 (c.getD (IntKind.i64.wrap (a.tdiv 8)).toNat 0) (IntKind.u64.wrap (IntKind.u64.wrap (k.getD b.toNat 0) * 2 ^ min (IntKind.i64.wrap (8 * a.tmod 8)).toNat 64)))) (IntKind.i64.wrap (a + 1)) e f g h i)) none) none)) none) none) none) none) (m k l j b d c a e f g h i)
abbrev bzq := (List Int) × Int × Int × Int × Int × (List Int) × Int × Bool × Int × (List Int) × Int × Bool
abbrev b4g := bzq
def ca4 {ρ : Type} (f : bzq → Option ρ) : b75 ρ := fun l m j k a b c d e g h i => f (l, m, j, k, a, b, c, d, e, g, h, i)
def bz7 {ρ : Type} : ab3 bzq b4g ρ := fun (k, l, i, j, a, b, c, d, e, f, g, h) next ex => ahb k l i j a b c d e f g h (ca4 next) (ca4 ex)
def b3l {ρ : Type} := shut (lp (bz7 (ρ := ρ)))
theorem cdx {ρ : Type} : b3l (ρ := ρ) = lp bz7 := bq _
def b1v {ρ : Type} (f : ab8 bzq b4g ρ) (l : List Int) (m j k a : Int) (b : List Int) (c : Int) (d : Bool) (e : Int) (g : List Int) (h : Int) (i : Bool) (n : b75 ρ) : Option ρ := f (l, m, j, k, a, b, c, d, e, g, h, i) (fun (l, m, j, k, a, b, c, d, e, g, h, i) => n l m j k a b c d e g h i)
def ams {ρ : Type} := b1v (lp (bz7 (ρ := ρ)))
def amx {ρ : Type} := b1v (b3l (ρ := ρ))
theorem aqa {ρ : Type} : amx (ρ := ρ) = ams := congrArg b1v cdx
def af4 {ρ : Type} (a : Int) (b : List Int) (d : Int) (c : Bool) (e : List Int) (k : Int → (List Int) → Int → Bool → Option ρ) : Option ρ := br c (k a b d c) (mq a fun f => amx e f (↑e.length : Int) 0 a b d c 0 [0, 0, 0, 0, 0, 0, 0, 0, 0, 0, 0, 0, 0, 0, 0, 0, 0, 0, 0, 0, 0, 0, 0, 0, 0] 0 false fun o p q r g h i j s l m n => k g h i j)
def p9 {ρ : Type} := shut (af4 (ρ := ρ))
theorem amn {ρ : Type} (b : Int) (a : List Int) (d : Int) (c : Bool) (e : List Int) (k : Int → (List Int) → Int → Bool → Option ρ) : p9 b a d c e k = af4 b a d c e k := by unfold p9; rw [bq]

def af7 {ρ : Type} (c : Int) (b : List Int) (a : Int) (g : Bool) (k : Int → (List Int) → Int → Bool → Option ρ) : Option ρ := br (c == 4) (br (decide (0 ≤ IntKind.i64.wrap (a.tdiv 8))) (br (decide (IntKind.i64.wrap (a.tdiv 8) < (↑25 : Int))) (br (decide (IntKind.i64.wrap (8 * a.tmod 8) < 0)) none (br (decide (0 ≤ IntKind.i64.wrap (a.tdiv 8))) (br (decide (IntKind.i64.wrap (a.tdiv 8) < (↑25 : Int))) (mq c fun d => br (decide (0 ≤ IntKind.i64.wrap ((IntKind.i64.wrap (d - 1)).tdiv 8))) (br (decide (IntKind.i64.wrap ((IntKind.i64.wrap (d - 1)).tdiv 8) < (↑25 : Int))) (br (decide (IntKind.i64.wrap (8 * (IntKind.i64.wrap (d - 1)).tmod 8) < 0)) none (br (decide (0 ≤ IntKind.i64.wrap ((IntKind.i64.wrap (d - 1)).tdiv 8))) (br (decide (IntKind.i64.wrap ((IntKind.i64.wrap (d - 1)).tdiv 8) < (↑25 : Int))) (jf ((b.set (IntKind.i64.wrap (a.tdiv 8)).toNat (bits BinOp.xor IntKind.u64 (b.getD (IntKind.i64.wrap (a.tdiv 8)).toNat 0) (IntKind.u64.wrap (IntKind.u64.wrap 6 * 2 ^ min (IntKind.i64.wrap (8 * a.tmod 8)).toNat 64)))).set (IntKind.i64.wrap ((IntKind.i64.wrap (d - 1)).tdiv 8)).toNat (bits BinOp.xor IntKind.u64 ((b.set (IntKind.i64.wrap (a.tdiv 8)).toNat (bits BinOp.xor IntKind.u64 (b.getD (IntKind.i64.wrap (a.tdiv 8)).toNat 0) (IntKind.u64.wrap (IntKind.u64.wrap 6 * 2 ^ min (IntKind.i64.wrap (8 * a.tmod 8)).toNat 64)))).getD (IntKind.i64.wrap ((IntKind.i64.wrap (d - 1)).tdiv 8)).toNat 0) (IntKind.u64.wrap (IntKind.u64.wrap 128 * 2 ^ min (IntKind.i64.wrap (8 * (IntKind.i64.wrap (d - 1)).tmod 8)).toNat 64)))) fun h => k c h 0 true) none) none)) none) none) none) none)) none) none) (br (c == 5) (br (decide (0 ≤ IntKind.i64.wrap (a.tdiv 8))) (br (decide (IntKind.i64.wrap (a.tdiv 8) < (↑25 : Int))) (br (decide (IntKind.i64.wrap (8 * a.tmod 8) < 0)) none (br (decide (0 ≤ IntKind.i64.wrap (a.tdiv 8))) (br (decide (IntKind.i64.wrap (a.tdiv 8) < (↑25 : Int))) (mq c fun e => br (decide (0 ≤ IntKind.i64.wrap ((IntKind.i64.wrap (e - 1)).tdiv 8))) (br (decide (IntKind.i64.wrap ((IntKind.i64.wrap (e - 1)).tdiv 8) < (↑25 : Int))) (br (decide (IntKind.i64.wrap (8 * (IntKind.i64.wrap (e - 1)).tmod 8) < 0)) none (br (decide (0 ≤ IntKind.i64.wrap ((IntKind.i64.wrap (e - 1)).tdiv 8))) (br (decide (IntKind.i64.wrap ((IntKind.i64.wrap (e - 1)).tdiv 8) < (↑25 : Int))) (jf ((b.set (IntKind.i64.wrap (a.tdiv 8)).toNat (bits BinOp.xor IntKind.u64 (b.getD (IntKind.i64.wrap (a.tdiv 8)).toNat 0) (IntKind.u64.wrap (IntKind.u64.wrap 6 * 2 ^ min (IntKind.i64.wrap (8 * a.tmod 8)).toNat 64)))).set (IntKind.i64.wrap ((IntKind.i64.wrap (e - 1)).tdiv 8)).toNat (bits BinOp.xor IntKind.u64 ((b.set (IntKind.i64.wrap (a.tdiv 8)).toNat (bits BinOp.xor IntKind.u64 (b.getD (IntKind.i64.wrap (a.tdiv 8)).toNat 0) (IntKind.u64.wrap (IntKind.u64.wrap 6 * 2 ^ min (IntKind.i64.wrap (8 * a.tmod 8)).toNat 64)))).getD (IntKind.i64.wrap ((IntKind.i64.wrap (e - 1)).tdiv 8)).toNat 0) (IntKind.u64.wrap (IntKind.u64.wrap 128 * 2 ^ min (IntKind.i64.wrap (8 * (IntKind.i64.wrap (e - 1)).tmod 8)).toNat 64)))) fun i => k c i 0 true) none) none)) none) none) none) none)) none) none) (br (decide (0 ≤ IntKind.i64.wrap (a.tdiv 8))) (br (decide (IntKind.i64.wrap (a.tdiv 8) < (↑25 : Int))) (br (decide (IntKind.i64.wrap (8 * a.tmod 8) < 0)) none (br (decide (0 ≤ IntKind.i64.wrap (a.tdiv 8))) (br (decide (IntKind.i64.wrap (a.tdiv 8) < (↑25 : Int))) (mq c fun f => br (decide (0 ≤ IntKind.i64.wrap ((IntKind.i64.wrap (f - 1)).tdiv 8))) (br (decide (IntKind.i64.wrap ((IntKind.i64.wrap (f - 1)).tdiv 8) < (↑25 : Int))) (br (decide (IntKind.i64.wrap (8 * (IntKind.i64.wrap (f - 1)).tmod 8) < 0)) none (br (decide (0 ≤ IntKind.i64.wrap ((IntKind.i64.wrap (f - 1)).tdiv 8))) (br (decide (IntKind.i64.wrap ((IntKind.i64.wrap (f - 1)).tdiv 8) < (↑25 : Int))) (jf ((b.set (IntKind.i64.wrap (a.tdiv 8)).toNat (bits BinOp.xor IntKind.u64 (b.getD (IntKind.i64.wrap (a.tdiv 8)).toNat 0) (IntKind.u64.wrap (IntKind.u64.wrap 31 * 2 ^ min (IntKind.i64.wrap (8 * a.tmod 8)).toNat 64)))).set (IntKind.i64.wrap ((IntKind.i64.wrap (f - 1)).tdiv 8)).toNat (bits BinOp.xor IntKind.u64 ((b.set (IntKind.i64.wrap (a.tdiv 8)).toNat (bits BinOp.xor IntKind.u64 (b.getD (IntKind.i64.wrap (a.tdiv 8)).toNat 0) (IntKind.u64.wrap (IntKind.u64.wrap 31 * 2 ^ min (IntKind.i64.wrap (8 * a.tmod 8)).toNat 64)))).getD (IntKind.i64.wrap ((IntKind.i64.wrap (f - 1)).tdiv 8)).toNat 0) (IntKind.u64.wrap (IntKind.u64.wrap 128 * 2 ^ min (IntKind.i64.wrap (8 * (IntKind.i64.wrap (f - 1)).tmod 8)).toNat 64)))) fun j => k c j 0 true) none) none)) none) none) none) none)) none) none))
def vo {ρ : Type} := shut (af7 (ρ := ρ))
theorem amu {ρ : Type} (b : Int) (a : List Int) (d : Int) (c : Bool) (k : Int → (List Int) → Int → Bool → Option ρ) : vo b a d c k = af7 b a d c k := by unfold vo; rw [bq]

abbrev ca5 (ρ : Type) := Int → Int → Int → (List Int) → Int → Bool → Int → (List Int) → Int → Bool → (List Int) → Option ρ
def afx {ρ : Type} (j b c : Int) (d : List Int) (a : Int) (e : Bool) (f : Int) (g : List Int) (h : Int) (i : Bool) (k : List Int) (nx m : ca5 ρ) : Option ρ := br (decide (b < j)) (mq c fun n => br (a == n) (jf d fun l => br (decide (0 ≤ b)) (br (decide (b < (↑k.length : Int))) (nx j (IntKind.i64.wrap (b + 1)) c l (IntKind.i64.wrap (0 + 1)) e f g h i (k.set b.toNat (IntKind.u8.wrap ((l.getD 0 0).fdiv (2 ^ 0))))) none) none) (br (decide (0 ≤ IntKind.i64.wrap (a.tdiv 8))) (br (decide (IntKind.i64.wrap (a.tdiv 8) < (↑25 : Int))) (br (decide (IntKind.i64.wrap (8 * a.tmod 8) < 0)) none (br (decide (0 ≤ b)) (br (decide (b < (↑k.length : Int))) (nx j (IntKind.i64.wrap (b + 1)) c d (IntKind.i64.wrap (a + 1)) e f g h i (k.set b.toNat (IntKind.u8.wrap ((d.getD (IntKind.i64.wrap (a.tdiv 8)).toNat 0).fdiv (2 ^ min (IntKind.i64.wrap (8 * a.tmod 8)).toNat 64))))) none) none)) none) none)) (m j b c d a e f g h i k)
abbrev bzc := Int × Int × Int × (List Int) × Int × Bool × Int × (List Int) × Int × Bool × (List Int)
abbrev cbk := bzc
def b5n {ρ : Type} (f : bzc → Option ρ) : ca5 ρ := fun j k a b c d e g h i l => f (j, k, a, b, c, d, e, g, h, i, l)
def bvq {ρ : Type} : ab3 bzc cbk ρ := fun (i, j, a, b, c, d, e, f, g, h, k) next ex => afx i j a b c d e f g h k (b5n next) (b5n ex)
def b6w {ρ : Type} := shut (lp (bvq (ρ := ρ)))
theorem cc7 {ρ : Type} : b6w (ρ := ρ) = lp bvq := bq _
def b2e {ρ : Type} (f : ab8 bzc cbk ρ) (j k a : Int) (b : List Int) (c : Int) (d : Bool) (e : Int) (g : List Int) (h : Int) (i : Bool) (l : List Int) (m : ca5 ρ) : Option ρ := f (j, k, a, b, c, d, e, g, h, i, l) (fun (j, k, a, b, c, d, e, g, h, i, l) => m j k a b c d e g h i l)
def aky {ρ : Type} := b2e (lp (bvq (ρ := ρ)))
def adt {ρ : Type} := b2e (b6w (ρ := ρ))
theorem aph {ρ : Type} : adt (ρ := ρ) = aky := congrArg b2e cc7
def afa {ρ : Type} (c : Int) (a : List Int) (e : Int) (b : Bool) (d : Int) (k : Int → (List Int) → Int → Bool → (List Int) → Option ρ) : Option ρ := br (decide (d < 0)) (k c a e b []) (br (!b) (vo c a e b fun m n o p => br (decide (0 ≤ d)) (br (decide (d ≤ d)) (br (decide (d * (↑1 : Int) ≤ (↑140737488355328 : Int))) (adt (↑(List.replicate d.toNat (0 : Int)).length : Int) 0 m n o p 0 [0, 0, 0, 0, 0, 0, 0, 0, 0, 0, 0, 0, 0, 0, 0, 0, 0, 0, 0, 0, 0, 0, 0, 0, 0] 0 false (List.replicate d.toNat (0 : Int)) fun H I q r s t u v w y f => k q r s t f) none) none) none) (br (decide (0 ≤ d)) (br (decide (d ≤ d)) (br (decide (d * (↑1 : Int) ≤ (↑140737488355328 : Int))) (adt (↑(List.replicate d.toNat (0 : Int)).length : Int) 0 c a e b 0 [0, 0, 0, 0, 0, 0, 0, 0, 0, 0, 0, 0, 0, 0, 0, 0, 0, 0, 0, 0, 0, 0, 0, 0, 0] 0 false (List.replicate d.toNat (0 : Int)) fun z A g h i j B C F G l => k g h i j l) none) none) none))
def su {ρ : Type} := shut (afa (ρ := ρ))
theorem akq {ρ : Type} (b : Int) (a : List Int) (d : Int) (c : Bool) (e : Int) (k : Int → (List Int) → Int → Bool → (List Int) → Option ρ) : su b a d c e k = afa b a d c e k := by unfold su; rw [bq]

def afk {ρ : Type} (e f : List Int) (b : Int) (a : List Int) (d : Int) (c : Bool) (g : Int) (k : (List Int) → Option ρ) : Option ρ := l5 [List.take 32 (List.drop 0 e), f] fun h => p9 b a d c h fun i j l m => su i j l m g fun o p q r n => k n
def jg {ρ : Type} := shut (afk (ρ := ρ))
theorem aku {ρ : Type} (e : List Int) (f : List Int) (b : Int) (a : List Int) (d : Int) (c : Bool) (g : Int) (k : (List Int) → Option ρ) : jg e f b a d c g k = afk e f b a d c g k := by unfold jg; rw [bq]

def aiq {ρ : Type} (a : Int) (b : List Int) (k : Int → (List Int) → Int → Bool → Int → Option ρ) : Option ρ := aep 7 fun c d e f l => p9 c d e f b fun g h i j => k g h i j a
def adn {ρ : Type} := shut (aiq (ρ := ρ))
theorem ap2 {ρ : Type} (a : Int) (b : List Int) (k : Int → (List Int) → Int → Bool → Int → Option ρ) : adn a b k = aiq a b k := by unfold adn; rw [bq]

abbrev b4u (ρ : Type) := Int → (List Int) → Int → Int → Option ρ
def aq7 {ρ : Type} (d : Int) (b : List Int) (c a : Int) (nx e : b4u ρ) : Option ρ := br (decide (a < c)) (br (decide (0 ≤ a)) (br (decide (a < (↑b.length : Int))) (nx (bits BinOp.or IntKind.u64 (IntKind.u64.wrap (d * 2 ^ 8)) (IntKind.u64.wrap (b.getD a.toNat 0))) b c (IntKind.i64.wrap (a + 1))) none) none) (e d b c a)
abbrev byr := Int × (List Int) × Int × Int
abbrev b9f := byr
def b4o {ρ : Type} (f : byr → Option ρ) : b4u ρ := fun a b c d => f (a, b, c, d)
def bvt {ρ : Type} : ab3 byr b9f ρ := fun (a, b, c, d) next ex => aq7 a b c d (b4o next) (b4o ex)
def b6v {ρ : Type} := shut (lp (bvt (ρ := ρ)))
theorem ccz {ρ : Type} : b6v (ρ := ρ) = lp bvt := bq _
def b1r {ρ : Type} (f : ab8 byr b9f ρ) (a : Int) (b : List Int) (c d : Int) (e : b4u ρ) : Option ρ := f (a, b, c, d) (fun (a, b, c, d) => e a b c d)
def ayl {ρ : Type} := b1r (lp (bvt (ρ := ρ)))
def ayg {ρ : Type} := b1r (b6v (ρ := ρ))
theorem bab {ρ : Type} : ayg (ρ := ρ) = ayl := congrArg b1r ccz
def an7 {ρ : Type} (a : List Int) (k : Int → Option ρ) : Option ρ := ayg 0 a (↑a.length : Int) 0 fun b c d e => k b
def zf {ρ : Type} := shut (an7 (ρ := ρ))
theorem ayv {ρ : Type} (a : List Int) (k : Int → Option ρ) : zf a k = an7 a k := by unfold zf; rw [bq]

def aic {ρ : Type} (a : Int) (k : Int → Option ρ) : Option ρ := br (decide (0 ≤ a)) (br (decide (a < (↑64 : Int))) (k (roots256.getD a.toNat 0)) none) none
def o8 {ρ : Type} := shut (aic (ρ := ρ))
theorem apq {ρ : Type} (a : Int) (k : Int → Option ρ) : o8 a k = aic a k := by unfold o8; rw [bq]

def yx {ρ : Type} (a g : Int) (b c d e : List Int) (h f : Int) (k : Int → Option ρ) : Option ρ := br (decide (f < 0)) none (br (decide (IntKind.i64.wrap (a - f) < 0)) none (k (bits BinOp.or IntKind.u32 (h.fdiv (2 ^ min f.toNat 32)) (IntKind.u32.wrap (h * 2 ^ min (IntKind.i64.wrap (a - f)).toNat 32)))))
def dw {ρ : Type} := shut (yx (ρ := ρ))
theorem ach {ρ : Type} (f : Int) (e : Int) (a : List Int) (b : List Int) (c : List Int) (d : List Int) (g : Int) (h : Int) (k : Int → Option ρ) : dw f e a b c d g h k = yx f e a b c d g h k := by unfold dw; rw [bq]

def wo {ρ : Type} (f e : Int) (a b c d : List Int) (g h : Int) (k : Int → Option ρ) : Option ρ := br (decide (h = (↑0 : Int))) (dw f e a b c d g (a.getD 0 0) fun l => dw f e a b c d g (a.getD 1 0) fun m => dw f e a b c d g (a.getD 2 0) fun n => k (bits BinOp.xor IntKind.u32 (bits BinOp.xor IntKind.u32 l m) n)) (br (decide (h = (↑1 : Int))) (dw f e a b c d g (b.getD 0 0) fun o => dw f e a b c d g (b.getD 1 0) fun p => dw f e a b c d g (b.getD 2 0) fun q => k (bits BinOp.xor IntKind.u32 (bits BinOp.xor IntKind.u32 o p) q)) (br (decide (h = (↑2 : Int))) (dw f e a b c d g (c.getD 0 0) fun r => dw f e a b c d g (c.getD 1 0) fun s => dw f e a b c d g (c.getD 2 0) fun t => k (bits BinOp.xor IntKind.u32 (bits BinOp.xor IntKind.u32 r s) t)) (br (decide (h = (↑3 : Int))) (dw f e a b c d g (d.getD 0 0) fun u => dw f e a b c d g (d.getD 1 0) fun i => dw f e a b c d g (d.getD 2 0) fun j => k (bits BinOp.xor IntKind.u32 (bits BinOp.xor IntKind.u32 u i) j)) none)))
def j6 {ρ : Type} := shut (wo (ρ := ρ))
theorem aa1 {ρ : Type} (f : Int) (e : Int) (a : List Int) (b : List Int) (c : List Int) (d : List Int) (g : Int) (h : Int) (k : Int → Option ρ) : j6 f e a b c d g h k = wo f e a b c d g h k := by unfold j6; rw [bq]

def x9 {ρ : Type} (f e : Int) (a b c d : List Int) (g h : Int) (k : Int → Option ρ) : Option ρ := br (decide (h = (↑0 : Int))) (dw f e a b c d g (a.getD 0 (0 : Int)) fun i => dw f e a b c d g (a.getD 1 (0 : Int)) fun j => br (decide (a.getD 2 (0 : Int) < (0 : Int))) none (k (bits BinOp.xor IntKind.u32 (bits BinOp.xor IntKind.u32 i j) (g.fdiv ((2 : Int) ^ min (a.getD 2 (0 : Int)).toNat 32))))) (br (decide (h = (↑1 : Int))) (dw f e a b c d g (b.getD 0 (0 : Int)) fun l => dw f e a b c d g (b.getD 1 (0 : Int)) fun m => br (decide (b.getD 2 (0 : Int) < (0 : Int))) none (k (bits BinOp.xor IntKind.u32 (bits BinOp.xor IntKind.u32 l m) (g.fdiv ((2 : Int) ^ min (b.getD 2 (0 : Int)).toNat 32))))) (br (decide (h = (↑2 : Int))) (dw f e a b c d g (c.getD 0 (0 : Int)) fun n => dw f e a b c d g (c.getD 1 (0 : Int)) fun o => br (decide (c.getD 2 (0 : Int) < (0 : Int))) none (k (bits BinOp.xor IntKind.u32 (bits BinOp.xor IntKind.u32 n o) (g.fdiv ((2 : Int) ^ min (c.getD 2 (0 : Int)).toNat 32))))) (br (decide (h = (↑3 : Int))) (dw f e a b c d g (d.getD 0 (0 : Int)) fun p => dw f e a b c d g (d.getD 1 (0 : Int)) fun q => br (decide (d.getD 2 (0 : Int) < (0 : Int))) none (k (bits BinOp.xor IntKind.u32 (bits BinOp.xor IntKind.u32 p q) (g.fdiv ((2 : Int) ^ min (d.getD 2 (0 : Int)).toNat 32))))) none)))
def l6 {ρ : Type} := shut (x9 (ρ := ρ))
theorem abh {ρ : Type} (f : Int) (e : Int) (a : List Int) (b : List Int) (c : List Int) (d : List Int) (g : Int) (h : Int) (k : Int → Option ρ) : l6 f e a b c d g h k = x9 f e a b c d g h k := by unfold l6; rw [bq]

abbrev caw (ρ : Type) := (List Int) → Int → Int → Int → Int → (List Int) → (List Int) → (List Int) → (List Int) → (List Int) → (List Int) → (List Int) → Option ρ
def aan {ρ : Type} (l : List Int) (b a c d : Int) (e f g h i j k : List Int) (nx m : caw ρ) : Option ρ := br (decide (a < 16)) (br (decide (0 ≤ IntKind.i64.wrap (a * b))) (br (decide (IntKind.i64.wrap (a * b) ≤ IntKind.i64.wrap (IntKind.i64.wrap (a + 1) * b))) (br (decide (IntKind.i64.wrap (IntKind.i64.wrap (a + 1) * b) ≤ (↑l.length : Int))) (zf (List.drop (IntKind.i64.wrap (a * b)).toNat (List.take (IntKind.i64.wrap (IntKind.i64.wrap (a + 1) * b)).toNat l)) fun n => br (decide (0 ≤ a)) (br (decide (a < (↑16 : Int))) (nx l b (IntKind.i64.wrap (a + 1)) c d e f g h i j (k.set a.toNat (IntKind.u32.wrap n))) none) none) none) none) none) (m l b a c d e f g h i j k)
abbrev bzg := (List Int) × Int × Int × Int × Int × (List Int) × (List Int) × (List Int) × (List Int) × (List Int) × (List Int) × (List Int)
abbrev b4m := bzg
def b47 {ρ : Type} (f : bzg → Option ρ) : caw ρ := fun l m k a b c d e g h i j => f (l, m, k, a, b, c, d, e, g, h, i, j)
def bvm {ρ : Type} : ab3 bzg b4m ρ := fun (k, l, j, a, b, c, d, e, f, g, h, i) next ex => aan k l j a b c d e f g h i (b47 next) (b47 ex)
def cby {ρ : Type} := shut (lp (bvm (ρ := ρ)))
theorem cd8 {ρ : Type} : cby (ρ := ρ) = lp bvm := bq _
def b2d {ρ : Type} (f : ab8 bzg b4m ρ) (l : List Int) (m k a b : Int) (c d e g h i j : List Int) (n : caw ρ) : Option ρ := f (l, m, k, a, b, c, d, e, g, h, i, j) (fun (l, m, k, a, b, c, d, e, g, h, i, j) => n l m k a b c d e g h i j)
def ad2 {ρ : Type} := b2d (lp (bvm (ρ := ρ)))
def aaq {ρ : Type} := b2d (cby (ρ := ρ))
theorem ag9 {ρ : Type} : aaq (ρ := ρ) = ad2 := congrArg b2d cd8
abbrev caj (ρ : Type) := Int → Int → (List Int) → (List Int) → (List Int) → Int → Int → (List Int) → (List Int) → (List Int) → (List Int) → (List Int) → Option ρ
def aac {ρ : Type} (j b : Int) (c k l : List Int) (d e : Int) (f g h i a : List Int) (nx o : caj ρ) : Option ρ := br (decide (b < j)) (br (decide (0 ≤ b.tmod 16)) (br (decide (b.tmod 16 < (↑16 : Int))) (j6 d e f g h i (a.getD 4 0) 3 fun m => o8 b fun n => j6 d e f g h i (a.getD 0 0) 2 fun p => br (decide (0 ≤ (IntKind.i64.wrap (b + 1)).tmod 16)) (br (decide ((IntKind.i64.wrap (b + 1)).tmod 16 < (↑16 : Int))) (l6 d e f g h i (c.getD ((IntKind.i64.wrap (b + 1)).tmod 16).toNat 0) 0 fun q => br (decide (0 ≤ (IntKind.i64.wrap (b + 9)).tmod 16)) (br (decide ((IntKind.i64.wrap (b + 9)).tmod 16 < (↑16 : Int))) (br (decide (0 ≤ (IntKind.i64.wrap (b + 14)).tmod 16)) (br (decide ((IntKind.i64.wrap (b + 14)).tmod 16 < (↑16 : Int))) (l6 d e f g h i (c.getD ((IntKind.i64.wrap (b + 14)).tmod 16).toNat 0) 1 fun r => br (decide (0 ≤ b.tmod 16)) (br (decide (b.tmod 16 < (↑16 : Int))) (nx j (IntKind.i64.wrap (b + 1)) (c.set (b.tmod 16).toNat (IntKind.u32.wrap (IntKind.u32.wrap (IntKind.u32.wrap (c.getD (b.tmod 16).toNat 0 + q) + c.getD ((IntKind.i64.wrap (b + 9)).tmod 16).toNat 0) + r))) k l d e f g h i ((((List.take 1 a).append (List.take 7 (List.take 7 (List.drop 0 a)) ++ List.drop (1 + min 7 (List.take 7 (List.drop 0 a)).length) a)).set 4 (IntKind.u32.wrap (((List.take 1 a).append (List.take 7 (List.take 7 (List.drop 0 a)) ++ List.drop (1 + min 7 (List.take 7 (List.drop 0 a)).length) a)).getD 4 0 + IntKind.u32.wrap (IntKind.u32.wrap (IntKind.u32.wrap (IntKind.u32.wrap (a.getD 7 0 + m) + bits BinOp.xor IntKind.u32 (a.getD 6 0) (bits BinOp.and IntKind.u32 (a.getD 4 0) (bits BinOp.xor IntKind.u32 (a.getD 5 0) (a.getD 6 0)))) + n) + c.getD (b.tmod 16).toNat 0)))).set 0 (IntKind.u32.wrap (IntKind.u32.wrap (IntKind.u32.wrap (IntKind.u32.wrap (IntKind.u32.wrap (a.getD 7 0 + m) + bits BinOp.xor IntKind.u32 (a.getD 6 0) (bits BinOp.and IntKind.u32 (a.getD 4 0) (bits BinOp.xor IntKind.u32 (a.getD 5 0) (a.getD 6 0)))) + n) + c.getD (b.tmod 16).toNat 0) + IntKind.u32.wrap (p + bits BinOp.or IntKind.u32 (bits BinOp.and IntKind.u32 (a.getD 0 0) (a.getD 1 0)) (bits BinOp.and IntKind.u32 (a.getD 2 0) (bits BinOp.or IntKind.u32 (a.getD 0 0) (a.getD 1 0)))))))) none) none) none) none) none) none) none) none) none) none) (o j b c k l d e f g h i a)
abbrev bxv := Int × Int × (List Int) × (List Int) × (List Int) × Int × Int × (List Int) × (List Int) × (List Int) × (List Int) × (List Int)
abbrev b8v := bxv
def b8w {ρ : Type} (f : bxv → Option ρ) : caj ρ := fun l m a b c d e g h i j k => f (l, m, a, b, c, d, e, g, h, i, j, k)
def by5 {ρ : Type} : ab3 bxv b8v ρ := fun (k, l, a, b, c, d, e, f, g, h, i, j) next ex => aac k l a b c d e f g h i j (b8w next) (b8w ex)
def b92 {ρ : Type} := shut (lp (by5 (ρ := ρ)))
theorem cc9 {ρ : Type} : b92 (ρ := ρ) = lp by5 := bq _
def b22 {ρ : Type} (f : ab8 bxv b8v ρ) (l m : Int) (a b c : List Int) (d e : Int) (g h i j k : List Int) (n : caj ρ) : Option ρ := f (l, m, a, b, c, d, e, g, h, i, j, k) (fun (l, m, a, b, c, d, e, g, h, i, j, k) => n l m a b c d e g h i j k)
def acy {ρ : Type} := b22 (lp (by5 (ρ := ρ)))
def vv {ρ : Type} := b22 (b92 (ρ := ρ))
theorem ag4 {ρ : Type} : vv (ρ := ρ) = acy := congrArg b22 cc9
abbrev b9b (ρ : Type) := Int → (List Int) → (List Int) → (List Int) → Option ρ
def aae {ρ : Type} (a : Int) (b d c : List Int) (nx e : b9b ρ) : Option ρ := br (decide (a < 8)) (br (decide (0 ≤ a)) (br (decide (a < (↑8 : Int))) (br (decide (0 ≤ a)) (br (decide (a < (↑8 : Int))) (br (decide (0 ≤ a)) (br (decide (a < (↑8 : Int))) (nx (IntKind.i64.wrap (a + 1)) b d (c.set a.toNat (IntKind.u32.wrap (c.getD a.toNat 0 + b.getD a.toNat 0)))) none) none) none) none) none) none) (e a b d c)
abbrev bxf := Int × (List Int) × (List Int) × (List Int)
abbrev b91 := bxf
def b81 {ρ : Type} (f : bxf → Option ρ) : b9b ρ := fun a b c d => f (a, b, c, d)
def bwr {ρ : Type} : ab3 bxf b91 ρ := fun (a, b, c, d) next ex => aae a b c d (b81 next) (b81 ex)
def b43 {ρ : Type} := shut (lp (bwr (ρ := ρ)))
theorem ccp {ρ : Type} : b43 (ρ := ρ) = lp bwr := bq _
def b1f {ρ : Type} (f : ab8 bxf b91 ρ) (a : Int) (b c d : List Int) (e : b9b ρ) : Option ρ := f (a, b, c, d) (fun (a, b, c, d) => e a b c d)
def acu {ρ : Type} := b1f (lp (bwr (ρ := ρ)))
def uq {ρ : Type} := b1f (b43 (ρ := ρ))
theorem agw {ρ : Type} : uq (ρ := ρ) = acu := congrArg b1f ccp
def zu {ρ : Type} (a f : Int) (b c d e p q : List Int) (k : (List Int) → Option ρ) : Option ρ := aaq q (IntKind.i64.wrap (a.tdiv 8)) 0 a f b c d e p [0, 0, 0, 0, 0, 0, 0, 0] [0, 0, 0, 0, 0, 0, 0, 0, 0, 0, 0, 0, 0, 0, 0, 0] fun N O Q r g s t u v h i j => vv g 0 j i h r g s t u v h fun w y z l m A B C F G H n => uq 0 m l n fun I J M o => k o
def mo {ρ : Type} := shut (zu (ρ := ρ))
theorem ady {ρ : Type} (f : Int) (e : Int) (a : List Int) (b : List Int) (c : List Int) (d : List Int) (g : List Int) (h : List Int) (k : (List Int) → Option ρ) : mo f e a b c d g h k = zu f e a b c d g h k := by unfold mo; rw [bq]

abbrev b9w (ρ : Type) := (List Int) → (List Int) → Int → Int → Int → (List Int) → (List Int) → (List Int) → (List Int) → (List Int) → (List Int) → (List Int) → Option ρ
def adi {ρ : Type} (l b : List Int) (a c d : Int) (e f g h i j k : List Int) (nx m : b9w ρ) : Option ρ := br (decide (a < 8)) (br (decide (0 ≤ a)) (br (decide (a < (↑8 : Int))) (br (decide (0 ≤ a)) (br (decide (a < (↑8 : Int))) (nx l b (IntKind.i64.wrap (a + 1)) c d e f g h i j (k.set a.toNat (IntKind.u32.wrap (b.getD a.toNat 0)))) none) none) none) none) (m l b a c d e f g h i j k)
abbrev bz5 := (List Int) × (List Int) × Int × Int × Int × (List Int) × (List Int) × (List Int) × (List Int) × (List Int) × (List Int) × (List Int)
abbrev b7e := bz5
def b8c {ρ : Type} (f : bz5 → Option ρ) : b9w ρ := fun m k l a b c d e g h i j => f (m, k, l, a, b, c, d, e, g, h, i, j)
def bx4 {ρ : Type} : ab3 bz5 b7e ρ := fun (l, j, k, a, b, c, d, e, f, g, h, i) next ex => adi l j k a b c d e f g h i (b8c next) (b8c ex)
def b5d {ρ : Type} := shut (lp (bx4 (ρ := ρ)))
theorem ccx {ρ : Type} : b5d (ρ := ρ) = lp bx4 := bq _
def b2q {ρ : Type} (f : ab8 bz5 b7e ρ) (m k : List Int) (l a b : Int) (c d e g h i j : List Int) (n : b9w ρ) : Option ρ := f (m, k, l, a, b, c, d, e, g, h, i, j) (fun (m, k, l, a, b, c, d, e, g, h, i, j) => n m k l a b c d e g h i j)
def agv {ρ : Type} := b2q (lp (bx4 (ρ := ρ)))
def adb {ρ : Type} := b2q (b5d (ρ := ρ))
theorem akn {ρ : Type} : adb (ρ := ρ) = agv := congrArg b2q ccx
abbrev cbf (ρ : Type) := (List Int) → Int → (List Int) → (List Int) → (List Int) → Int → Int → (List Int) → (List Int) → (List Int) → (List Int) → Option ρ
def acr {ρ : Type} (b : List Int) (a : Int) (i j k : List Int) (c d : Int) (e f g h : List Int) (nx l : cbf ρ) : Option ρ := br (decide ((↑b.length : Int) ≥ a)) (br (decide (0 ≤ a)) (br (decide (a ≤ (↑b.length : Int))) (mo c d e f g h i (List.drop 0 (List.take a.toNat b)) fun m => br (decide (0 ≤ a)) (br (decide (a ≤ (↑b.length : Int))) (br (decide ((↑b.length : Int) ≤ (↑b.length : Int))) (nx (List.drop a.toNat (List.take (↑b.length : Int).toNat b)) a m j k c d e f g h) none) none) none) none) none) (l b a i j k c d e f g h)
abbrev bxe := (List Int) × Int × (List Int) × (List Int) × (List Int) × Int × Int × (List Int) × (List Int) × (List Int) × (List Int)
abbrev b5a := bxe
def b71 {ρ : Type} (f : bxe → Option ρ) : cbf ρ := fun l k a b c d e g h i j => f (l, k, a, b, c, d, e, g, h, i, j)
def bzh {ρ : Type} : ab3 bxe b5a ρ := fun (k, j, a, b, c, d, e, f, g, h, i) next ex => acr k j a b c d e f g h i (b71 next) (b71 ex)
def b8p {ρ : Type} := shut (lp (bzh (ρ := ρ)))
theorem ccn {ρ : Type} : b8p (ρ := ρ) = lp bzh := bq _
def b1s {ρ : Type} (f : ab8 bxe b5a ρ) (l : List Int) (k : Int) (a b c : List Int) (d e : Int) (g h i j : List Int) (m : cbf ρ) : Option ρ := f (l, k, a, b, c, d, e, g, h, i, j) (fun (l, k, a, b, c, d, e, g, h, i, j) => m l k a b c d e g h i j)
def agu {ρ : Type} := b1s (lp (bzh (ρ := ρ)))
def acw {ρ : Type} := b1s (b8p (ρ := ρ))
theorem akk {ρ : Type} : acw (ρ := ρ) = agu := congrArg b1s ccn
abbrev b46 (ρ : Type) := (List Int) → (List Int) → Int → (List Int) → (List Int) → Option ρ
def acf {ρ : Type} (e b : List Int) (a : Int) (c d : List Int) (nx f : b46 ρ) : Option ρ := br (decide (a < 8)) (br (decide (0 ≤ a)) (br (decide (a < (↑8 : Int))) (br (decide (0 ≤ a)) (br (decide (a < (↑8 : Int))) (nx e b (IntKind.i64.wrap (a + 1)) (c.set a.toNat (IntKind.u64.wrap (b.getD a.toNat 0))) d) none) none) none) none) (f e b a c d)
abbrev byy := (List Int) × (List Int) × Int × (List Int) × (List Int)
abbrev cbo := byy
def b8a {ρ : Type} (f : byy → Option ρ) : b46 ρ := fun e c d a b => f (e, c, d, a, b)
def bw4 {ρ : Type} : ab3 byy cbo ρ := fun (e, c, d, a, b) next ex => acf e c d a b (b8a next) (b8a ex)
def b9a {ρ : Type} := shut (lp (bw4 (ρ := ρ)))
theorem ccl {ρ : Type} : b9a (ρ := ρ) = lp bw4 := bq _
def b2k {ρ : Type} (f : ab8 byy cbo ρ) (e c : List Int) (d : Int) (a b : List Int) (g : b46 ρ) : Option ρ := f (e, c, d, a, b) (fun (e, c, d, a, b) => g e c d a b)
def afs {ρ : Type} := b2k (lp (bw4 (ρ := ρ)))
def ab7 {ρ : Type} := b2k (b9a (ρ := ρ))
theorem aj3 {ρ : Type} : ab7 (ρ := ρ) = afs := congrArg b2k ccl
def acg {ρ : Type} (f e : Int) (a b c d g r : List Int) (k : (List Int) → (List Int) → Option ρ) : Option ρ := adb r g 0 f e a b c d g [0, 0, 0, 0, 0, 0, 0, 0] [0, 0, 0, 0, 0, 0, 0, 0] fun s O Q h t u v w y z i j => acw s (IntKind.i64.wrap (h * 2)) j i z h t u v w y fun l A m n o B C F G H I => ab7 l m 0 o n fun p J M q N => k q p
def qj {ρ : Type} := shut (acg (ρ := ρ))
theorem agp {ρ : Type} (f : Int) (e : Int) (a : List Int) (b : List Int) (c : List Int) (d : List Int) (g : List Int) (h : List Int) (k : (List Int) → (List Int) → Option ρ) : qj f e a b c d g h k = acg f e a b c d g h k := by unfold qj; rw [bq]

def atg {ρ : Type} (k : Int → Int → (List Int) → (List Int) → (List Int) → (List Int) → Option ρ) : Option ρ := k 32 64 [7, 18, 3] [17, 19, 10] [2, 13, 22] [6, 11, 25]
def acs {ρ : Type} := shut (atg (ρ := ρ))
theorem awf {ρ : Type}  (k : Int → Int → (List Int) → (List Int) → (List Int) → (List Int) → Option ρ) : acs  k = atg  k := by unfold acs; rw [bq]

def ai3 {ρ : Type} (a : Int) (k : Int → Option ρ) : Option ρ := br (decide (0 ≤ a)) (br (decide (a < (↑80 : Int))) (k (roots512.getD a.toNat 0)) none) none
def pq {ρ : Type} := shut (ai3 (ρ := ρ))
theorem apk {ρ : Type} (a : Int) (k : Int → Option ρ) : pq a k = ai3 a k := by unfold pq; rw [bq]

def y7 {ρ : Type} (a g : Int) (b c d e : List Int) (h f : Int) (k : Int → Option ρ) : Option ρ := br (decide (f < 0)) none (br (decide (IntKind.i64.wrap (a - f) < 0)) none (k (bits BinOp.or IntKind.u64 (h.fdiv (2 ^ min f.toNat 64)) (IntKind.u64.wrap (h * 2 ^ min (IntKind.i64.wrap (a - f)).toNat 64)))))
def dx {ρ : Type} := shut (y7 (ρ := ρ))
theorem aci {ρ : Type} (f : Int) (e : Int) (a : List Int) (b : List Int) (c : List Int) (d : List Int) (g : Int) (h : Int) (k : Int → Option ρ) : dx f e a b c d g h k = y7 f e a b c d g h k := by unfold dx; rw [bq]

def wu {ρ : Type} (f e : Int) (a b c d : List Int) (g h : Int) (k : Int → Option ρ) : Option ρ := br (decide (h = (↑0 : Int))) (dx f e a b c d g (a.getD 0 0) fun l => dx f e a b c d g (a.getD 1 0) fun m => dx f e a b c d g (a.getD 2 0) fun n => k (bits BinOp.xor IntKind.u64 (bits BinOp.xor IntKind.u64 l m) n)) (br (decide (h = (↑1 : Int))) (dx f e a b c d g (b.getD 0 0) fun o => dx f e a b c d g (b.getD 1 0) fun p => dx f e a b c d g (b.getD 2 0) fun q => k (bits BinOp.xor IntKind.u64 (bits BinOp.xor IntKind.u64 o p) q)) (br (decide (h = (↑2 : Int))) (dx f e a b c d g (c.getD 0 0) fun r => dx f e a b c d g (c.getD 1 0) fun s => dx f e a b c d g (c.getD 2 0) fun t => k (bits BinOp.xor IntKind.u64 (bits BinOp.xor IntKind.u64 r s) t)) (br (decide (h = (↑3 : Int))) (dx f e a b c d g (d.getD 0 0) fun u => dx f e a b c d g (d.getD 1 0) fun i => dx f e a b c d g (d.getD 2 0) fun j => k (bits BinOp.xor IntKind.u64 (bits BinOp.xor IntKind.u64 u i) j)) none)))
def j5 {ρ : Type} := shut (wu (ρ := ρ))
theorem aaz {ρ : Type} (f : Int) (e : Int) (a : List Int) (b : List Int) (c : List Int) (d : List Int) (g : Int) (h : Int) (k : Int → Option ρ) : j5 f e a b c d g h k = wu f e a b c d g h k := by unfold j5; rw [bq]

def xw {ρ : Type} (f e : Int) (a b c d : List Int) (g h : Int) (k : Int → Option ρ) : Option ρ := br (decide (h = (↑0 : Int))) (dx f e a b c d g (a.getD 0 (0 : Int)) fun i => dx f e a b c d g (a.getD 1 (0 : Int)) fun j => br (decide (a.getD 2 (0 : Int) < (0 : Int))) none (k (bits BinOp.xor IntKind.u64 (bits BinOp.xor IntKind.u64 i j) (g.fdiv ((2 : Int) ^ min (a.getD 2 (0 : Int)).toNat 64))))) (br (decide (h = (↑1 : Int))) (dx f e a b c d g (b.getD 0 (0 : Int)) fun l => dx f e a b c d g (b.getD 1 (0 : Int)) fun m => br (decide (b.getD 2 (0 : Int) < (0 : Int))) none (k (bits BinOp.xor IntKind.u64 (bits BinOp.xor IntKind.u64 l m) (g.fdiv ((2 : Int) ^ min (b.getD 2 (0 : Int)).toNat 64))))) (br (decide (h = (↑2 : Int))) (dx f e a b c d g (c.getD 0 (0 : Int)) fun n => dx f e a b c d g (c.getD 1 (0 : Int)) fun o => br (decide (c.getD 2 (0 : Int) < (0 : Int))) none (k (bits BinOp.xor IntKind.u64 (bits BinOp.xor IntKind.u64 n o) (g.fdiv ((2 : Int) ^ min (c.getD 2 (0 : Int)).toNat 64))))) (br (decide (h = (↑3 : Int))) (dx f e a b c d g (d.getD 0 (0 : Int)) fun p => dx f e a b c d g (d.getD 1 (0 : Int)) fun q => br (decide (d.getD 2 (0 : Int) < (0 : Int))) none (k (bits BinOp.xor IntKind.u64 (bits BinOp.xor IntKind.u64 p q) (g.fdiv ((2 : Int) ^ min (d.getD 2 (0 : Int)).toNat 64))))) none)))
def lu {ρ : Type} := shut (xw (ρ := ρ))
theorem abg {ρ : Type} (f : Int) (e : Int) (a : List Int) (b : List Int) (c : List Int) (d : List Int) (g : Int) (h : Int) (k : Int → Option ρ) : lu f e a b c d g h k = xw f e a b c d g h k := by unfold lu; rw [bq]

abbrev b7w (ρ : Type) := (List Int) → Int → Int → Int → Int → (List Int) → (List Int) → (List Int) → (List Int) → (List Int) → (List Int) → (List Int) → Option ρ
def aao {ρ : Type} (l : List Int) (b a c d : Int) (e f g h i j k : List Int) (nx m : b7w ρ) : Option ρ := br (decide (a < 16)) (br (decide (0 ≤ IntKind.i64.wrap (a * b))) (br (decide (IntKind.i64.wrap (a * b) ≤ IntKind.i64.wrap (IntKind.i64.wrap (a + 1) * b))) (br (decide (IntKind.i64.wrap (IntKind.i64.wrap (a + 1) * b) ≤ (↑l.length : Int))) (zf (List.drop (IntKind.i64.wrap (a * b)).toNat (List.take (IntKind.i64.wrap (IntKind.i64.wrap (a + 1) * b)).toNat l)) fun n => br (decide (0 ≤ a)) (br (decide (a < (↑16 : Int))) (nx l b (IntKind.i64.wrap (a + 1)) c d e f g h i j (k.set a.toNat n)) none) none) none) none) none) (m l b a c d e f g h i j k)
abbrev byd := (List Int) × Int × Int × Int × Int × (List Int) × (List Int) × (List Int) × (List Int) × (List Int) × (List Int) × (List Int)
abbrev b5t := byd
def b57 {ρ : Type} (f : byd → Option ρ) : b7w ρ := fun l m k a b c d e g h i j => f (l, m, k, a, b, c, d, e, g, h, i, j)
def bxo {ρ : Type} : ab3 byd b5t ρ := fun (k, l, j, a, b, c, d, e, f, g, h, i) next ex => aao k l j a b c d e f g h i (b57 next) (b57 ex)
def b51 {ρ : Type} := shut (lp (bxo (ρ := ρ)))
theorem ccs {ρ : Type} : b51 (ρ := ρ) = lp bxo := bq _
def b2v {ρ : Type} (f : ab8 byd b5t ρ) (l : List Int) (m k a b : Int) (c d e g h i j : List Int) (n : b7w ρ) : Option ρ := f (l, m, k, a, b, c, d, e, g, h, i, j) (fun (l, m, k, a, b, c, d, e, g, h, i, j) => n l m k a b c d e g h i j)
def adx {ρ : Type} := b2v (lp (bxo (ρ := ρ)))
def aar {ρ : Type} := b2v (b51 (ρ := ρ))
theorem ag8 {ρ : Type} : aar (ρ := ρ) = adx := congrArg b2v ccs
abbrev b5h (ρ : Type) := Int → Int → (List Int) → (List Int) → (List Int) → Int → Int → (List Int) → (List Int) → (List Int) → (List Int) → (List Int) → Option ρ
def aai {ρ : Type} (j b : Int) (c k l : List Int) (d e : Int) (f g h i a : List Int) (nx o : b5h ρ) : Option ρ := br (decide (b < j)) (br (decide (0 ≤ b.tmod 16)) (br (decide (b.tmod 16 < (↑16 : Int))) (j5 d e f g h i (a.getD 4 0) 3 fun m => pq b fun n => j5 d e f g h i (a.getD 0 0) 2 fun p => br (decide (0 ≤ (IntKind.i64.wrap (b + 1)).tmod 16)) (br (decide ((IntKind.i64.wrap (b + 1)).tmod 16 < (↑16 : Int))) (lu d e f g h i (c.getD ((IntKind.i64.wrap (b + 1)).tmod 16).toNat 0) 0 fun q => br (decide (0 ≤ (IntKind.i64.wrap (b + 9)).tmod 16)) (br (decide ((IntKind.i64.wrap (b + 9)).tmod 16 < (↑16 : Int))) (br (decide (0 ≤ (IntKind.i64.wrap (b + 14)).tmod 16)) (br (decide ((IntKind.i64.wrap (b + 14)).tmod 16 < (↑16 : Int))) (lu d e f g h i (c.getD ((IntKind.i64.wrap (b + 14)).tmod 16).toNat 0) 1 fun r => br (decide (0 ≤ b.tmod 16)) (br (decide (b.tmod 16 < (↑16 : Int))) (nx j (IntKind.i64.wrap (b + 1)) (c.set (b.tmod 16).toNat (IntKind.u64.wrap (IntKind.u64.wrap (IntKind.u64.wrap (c.getD (b.tmod 16).toNat 0 + q) + c.getD ((IntKind.i64.wrap (b + 9)).tmod 16).toNat 0) + r))) k l d e f g h i ((((List.take 1 a).append (List.take 7 (List.take 7 (List.drop 0 a)) ++ List.drop (1 + min 7 (List.take 7 (List.drop 0 a)).length) a)).set 4 (IntKind.u64.wrap (((List.take 1 a).append (List.take 7 (List.take 7 (List.drop 0 a)) ++ List.drop (1 + min 7 (List.take 7 (List.drop 0 a)).length) a)).getD 4 0 + IntKind.u64.wrap (IntKind.u64.wrap (IntKind.u64.wrap (IntKind.u64.wrap (a.getD 7 0 + m) + bits BinOp.xor IntKind.u64 (a.getD 6 0) (bits BinOp.and IntKind.u64 (a.getD 4 0) (bits BinOp.xor IntKind.u64 (a.getD 5 0) (a.getD 6 0)))) + n) + c.getD (b.tmod 16).toNat 0)))).set 0 (IntKind.u64.wrap (IntKind.u64.wrap (IntKind.u64.wrap (IntKind.u64.wrap (IntKind.u64.wrap (a.getD 7 0 + m) + bits BinOp.xor IntKind.u64 (a.getD 6 0) (bits BinOp.and IntKind.u64 (a.getD 4 0) (bits BinOp.xor IntKind.u64 (a.getD 5 0) (a.getD 6 0)))) + n) + c.getD (b.tmod 16).toNat 0) + IntKind.u64.wrap (p + bits BinOp.or IntKind.u64 (bits BinOp.and IntKind.u64 (a.getD 0 0) (a.getD 1 0)) (bits BinOp.and IntKind.u64 (a.getD 2 0) (bits BinOp.or IntKind.u64 (a.getD 0 0) (a.getD 1 0)))))))) none) none) none) none) none) none) none) none) none) none) (o j b c k l d e f g h i a)
abbrev bwx := Int × Int × (List Int) × (List Int) × (List Int) × Int × Int × (List Int) × (List Int) × (List Int) × (List Int) × (List Int)
abbrev cbs := bwx
def b6y {ρ : Type} (f : bwx → Option ρ) : b5h ρ := fun l m a b c d e g h i j k => f (l, m, a, b, c, d, e, g, h, i, j, k)
def bzx {ρ : Type} : ab3 bwx cbs ρ := fun (k, l, a, b, c, d, e, f, g, h, i, j) next ex => aai k l a b c d e f g h i j (b6y next) (b6y ex)
def b5z {ρ : Type} := shut (lp (bzx (ρ := ρ)))
theorem cca {ρ : Type} : b5z (ρ := ρ) = lp bzx := bq _
def b1w {ρ : Type} (f : ab8 bwx cbs ρ) (l m : Int) (a b c : List Int) (d e : Int) (g h i j k : List Int) (n : b5h ρ) : Option ρ := f (l, m, a, b, c, d, e, g, h, i, j, k) (fun (l, m, a, b, c, d, e, g, h, i, j, k) => n l m a b c d e g h i j k)
def ada {ρ : Type} := b1w (lp (bzx (ρ := ρ)))
def vk {ρ : Type} := b1w (b5z (ρ := ρ))
theorem agy {ρ : Type} : vk (ρ := ρ) = ada := congrArg b1w cca
abbrev b4c (ρ : Type) := Int → (List Int) → (List Int) → (List Int) → Option ρ
def aaf {ρ : Type} (a : Int) (b d c : List Int) (nx e : b4c ρ) : Option ρ := br (decide (a < 8)) (br (decide (0 ≤ a)) (br (decide (a < (↑8 : Int))) (br (decide (0 ≤ a)) (br (decide (a < (↑8 : Int))) (br (decide (0 ≤ a)) (br (decide (a < (↑8 : Int))) (nx (IntKind.i64.wrap (a + 1)) b d (c.set a.toNat (IntKind.u64.wrap (c.getD a.toNat 0 + b.getD a.toNat 0)))) none) none) none) none) none) none) (e a b d c)
abbrev bvl := Int × (List Int) × (List Int) × (List Int)
abbrev b6b := bvl
def cav {ρ : Type} (f : bvl → Option ρ) : b4c ρ := fun a b c d => f (a, b, c, d)
def bwm {ρ : Type} : ab3 bvl b6b ρ := fun (a, b, c, d) next ex => aaf a b c d (cav next) (cav ex)
def b8z {ρ : Type} := shut (lp (bwm (ρ := ρ)))
theorem cco {ρ : Type} : b8z (ρ := ρ) = lp bwm := bq _
def b3c {ρ : Type} (f : ab8 bvl b6b ρ) (a : Int) (b c d : List Int) (e : b4c ρ) : Option ρ := f (a, b, c, d) (fun (a, b, c, d) => e a b c d)
def acz {ρ : Type} := b3c (lp (bwm (ρ := ρ)))
def uw {ρ : Type} := b3c (b8z (ρ := ρ))
theorem ag5 {ρ : Type} : uw (ρ := ρ) = acz := congrArg b3c cco
def aal {ρ : Type} (a f : Int) (b c d e p q : List Int) (k : (List Int) → Option ρ) : Option ρ := aar q (IntKind.i64.wrap (a.tdiv 8)) 0 a f b c d e p [0, 0, 0, 0, 0, 0, 0, 0] [0, 0, 0, 0, 0, 0, 0, 0, 0, 0, 0, 0, 0, 0, 0, 0] fun N O Q r g s t u v h i j => vk g 0 j i h r g s t u v h fun w y z l m A B C F G H n => uw 0 m l n fun I J M o => k o
def mh {ρ : Type} := shut (aal (ρ := ρ))
theorem ad1 {ρ : Type} (f : Int) (e : Int) (a : List Int) (b : List Int) (c : List Int) (d : List Int) (g : List Int) (h : List Int) (k : (List Int) → Option ρ) : mh f e a b c d g h k = aal f e a b c d g h k := by unfold mh; rw [bq]

abbrev b5c (ρ : Type) := (List Int) → (List Int) → Int → Int → Int → (List Int) → (List Int) → (List Int) → (List Int) → (List Int) → (List Int) → (List Int) → Option ρ
def ac7 {ρ : Type} (l b : List Int) (a c d : Int) (e f g h i j k : List Int) (nx m : b5c ρ) : Option ρ := br (decide (a < 8)) (br (decide (0 ≤ a)) (br (decide (a < (↑8 : Int))) (br (decide (0 ≤ a)) (br (decide (a < (↑8 : Int))) (nx l b (IntKind.i64.wrap (a + 1)) c d e f g h i j (k.set a.toNat (b.getD a.toNat 0))) none) none) none) none) (m l b a c d e f g h i j k)
abbrev by0 := (List Int) × (List Int) × Int × Int × Int × (List Int) × (List Int) × (List Int) × (List Int) × (List Int) × (List Int) × (List Int)
abbrev b9p := by0
def cbx {ρ : Type} (f : by0 → Option ρ) : b5c ρ := fun m k l a b c d e g h i j => f (m, k, l, a, b, c, d, e, g, h, i, j)
def b07 {ρ : Type} : ab3 by0 b9p ρ := fun (l, j, k, a, b, c, d, e, f, g, h, i) next ex => ac7 l j k a b c d e f g h i (cbx next) (cbx ex)
def ca3 {ρ : Type} := shut (lp (b07 (ρ := ρ)))
theorem cds {ρ : Type} : ca3 (ρ := ρ) = lp b07 := bq _
def b2n {ρ : Type} (f : ab8 by0 b9p ρ) (m k : List Int) (l a b : Int) (c d e g h i j : List Int) (n : b5c ρ) : Option ρ := f (m, k, l, a, b, c, d, e, g, h, i, j) (fun (m, k, l, a, b, c, d, e, g, h, i, j) => n m k l a b c d e g h i j)
def agq {ρ : Type} := b2n (lp (b07 (ρ := ρ)))
def aco {ρ : Type} := b2n (ca3 (ρ := ρ))
theorem ako {ρ : Type} : aco (ρ := ρ) = agq := congrArg b2n cds
abbrev b7d (ρ : Type) := (List Int) → Int → (List Int) → (List Int) → (List Int) → Int → Int → (List Int) → (List Int) → (List Int) → (List Int) → Option ρ
def adh {ρ : Type} (b : List Int) (a : Int) (i j k : List Int) (c d : Int) (e f g h : List Int) (nx l : b7d ρ) : Option ρ := br (decide ((↑b.length : Int) ≥ a)) (br (decide (0 ≤ a)) (br (decide (a ≤ (↑b.length : Int))) (mh c d e f g h i (List.drop 0 (List.take a.toNat b)) fun m => br (decide (0 ≤ a)) (br (decide (a ≤ (↑b.length : Int))) (br (decide ((↑b.length : Int) ≤ (↑b.length : Int))) (nx (List.drop a.toNat (List.take (↑b.length : Int).toNat b)) a m j k c d e f g h) none) none) none) none) none) (l b a i j k c d e f g h)
abbrev bvh := (List Int) × Int × (List Int) × (List Int) × (List Int) × Int × Int × (List Int) × (List Int) × (List Int) × (List Int)
abbrev b70 := bvh
def b60 {ρ : Type} (f : bvh → Option ρ) : b7d ρ := fun l k a b c d e g h i j => f (l, k, a, b, c, d, e, g, h, i, j)
def bz6 {ρ : Type} : ab3 bvh b70 ρ := fun (k, j, a, b, c, d, e, f, g, h, i) next ex => adh k j a b c d e f g h i (b60 next) (b60 ex)
def caz {ρ : Type} := shut (lp (bz6 (ρ := ρ)))
theorem cb1 {ρ : Type} : caz (ρ := ρ) = lp bz6 := bq _
def b24 {ρ : Type} (f : ab8 bvh b70 ρ) (l : List Int) (k : Int) (a b c : List Int) (d e : Int) (g h i j : List Int) (m : b7d ρ) : Option ρ := f (l, k, a, b, c, d, e, g, h, i, j) (fun (l, k, a, b, c, d, e, g, h, i, j) => m l k a b c d e g h i j)
def ags {ρ : Type} := b24 (lp (bz6 (ρ := ρ)))
def adk {ρ : Type} := b24 (caz (ρ := ρ))
theorem ak0 {ρ : Type} : adk (ρ := ρ) = ags := congrArg b24 cb1
abbrev b8y (ρ : Type) := (List Int) → (List Int) → Int → (List Int) → (List Int) → Option ρ
def ab6 {ρ : Type} (e b : List Int) (a : Int) (c d : List Int) (nx f : b8y ρ) : Option ρ := br (decide (a < 8)) (br (decide (0 ≤ a)) (br (decide (a < (↑8 : Int))) (br (decide (0 ≤ a)) (br (decide (a < (↑8 : Int))) (nx e b (IntKind.i64.wrap (a + 1)) (c.set a.toNat (b.getD a.toNat 0)) d) none) none) none) none) (f e b a c d)
abbrev b0d := (List Int) × (List Int) × Int × (List Int) × (List Int)
abbrev b74 := b0d
def b6e {ρ : Type} (f : b0d → Option ρ) : b8y ρ := fun e c d a b => f (e, c, d, a, b)
def b0w {ρ : Type} : ab3 b0d b74 ρ := fun (e, c, d, a, b) next ex => ab6 e c d a b (b6e next) (b6e ex)
def b6u {ρ : Type} := shut (lp (b0w (ρ := ρ)))
theorem cb0 {ρ : Type} : b6u (ρ := ρ) = lp b0w := bq _
def b1h {ρ : Type} (f : ab8 b0d b74 ρ) (e c : List Int) (d : Int) (a b : List Int) (g : b8y ρ) : Option ρ := f (e, c, d, a, b) (fun (e, c, d, a, b) => g e c d a b)
def aft {ρ : Type} := b1h (lp (b0w (ρ := ρ)))
def ace {ρ : Type} := b1h (b6u (ρ := ρ))
theorem akj {ρ : Type} : ace (ρ := ρ) = aft := congrArg b1h cb0
def ab4 {ρ : Type} (f e : Int) (a b c d g r : List Int) (k : (List Int) → (List Int) → Option ρ) : Option ρ := aco r g 0 f e a b c d g [0, 0, 0, 0, 0, 0, 0, 0] [0, 0, 0, 0, 0, 0, 0, 0] fun s O Q h t u v w y z i j => adk s (IntKind.i64.wrap (h * 2)) j i z h t u v w y fun l A m n o B C F G H I => ace l m 0 o n fun p J M q N => k q p
def ql {ρ : Type} := shut (ab4 (ρ := ρ))
theorem ag0 {ρ : Type} (f : Int) (e : Int) (a : List Int) (b : List Int) (c : List Int) (d : List Int) (g : List Int) (h : List Int) (k : (List Int) → (List Int) → Option ρ) : ql f e a b c d g h k = ab4 f e a b c d g h k := by unfold ql; rw [bq]

def atr {ρ : Type} (k : Int → Int → (List Int) → (List Int) → (List Int) → (List Int) → Option ρ) : Option ρ := k 64 80 [1, 8, 7] [19, 61, 6] [28, 34, 39] [14, 18, 41]
def acv {ρ : Type} := shut (atr (ρ := ρ))
theorem av1 {ρ : Type}  (k : Int → Int → (List Int) → (List Int) → (List Int) → (List Int) → Option ρ) : acv  k = atr  k := by unfold acv; rw [bq]

def qg {ρ : Type} (a : List Int) (k : (List Int) → Option ρ) : Option ρ := br (decide (a.length * 1 ≤ 140737488355328)) (k a) none

def arj {ρ : Type} (a : Int) (b d : List Int) (c : Int) (e : List Int) (k : Int → (List Int) → (List Int) → Int → Option ρ) : Option ρ := jq [d, e] fun f => br (a == 1) (acs fun q r s t u v => qj q r s t u v b f fun w y => qg y fun z => k a w z (IntKind.u64.wrap (c + IntKind.u64.wrap (↑e.length : Int)))) (acv fun g h i j l m => ql g h i j l m b f fun n o => qg o fun p => k a n p (IntKind.u64.wrap (c + IntKind.u64.wrap (↑e.length : Int))))
def aak {ρ : Type} := shut (arj (ρ := ρ))
theorem bcw {ρ : Type} (b : Int) (a : List Int) (c : List Int) (d : Int) (e : List Int) (k : Int → (List Int) → (List Int) → Int → Option ρ) : aak b a c d e k = arj b a c d e k := by unfold aak; rw [bq]

def asv {ρ : Type} (a : Int) (k : (List Int) → Bool → Option ρ) : Option ρ := br (a == 1) (k [1779033703, 3144134277, 1013904242, 2773480762, 1359893119, 2600822924, 528734635, 1541459225] true) (br (a == 2) (k [14680500436340154072, 7105036623409894663, 10473403895298186519, 1526699215303891257, 7436329637833083697, 10282925794625328401, 15784041429090275239, 5167115440072839076] true) (br (a == 3) (k [7640891576956012808, 13503953896175478587, 4354685564936845355, 11912009170470909681, 5840696475078001361, 11170449401992604703, 2270897969802886507, 6620516959819538809] true) (k [0, 0, 0, 0, 0, 0, 0, 0] false)))
def afh {ρ : Type} := shut (asv (ρ := ρ))
theorem avh {ρ : Type} (a : Int) (k : (List Int) → Bool → Option ρ) : afh a k = asv a k := by unfold afh; rw [bq]

def aql {ρ : Type} (a : Int) (k : Int → (List Int) → (List Int) → Int → Int → Option ρ) : Option ρ := afh a fun b c => br (!c) (k 0 [0, 0, 0, 0, 0, 0, 0, 0] [] 0 9) (k a b [] 0 0)
def aiv {ρ : Type} := shut (aql (ρ := ρ))
theorem bbm {ρ : Type} (a : Int) (k : Int → (List Int) → (List Int) → Int → Int → Option ρ) : aiv a k = aql a k := by unfold aiv; rw [bq]

def ai9 {ρ : Type} (d b : Int) (a : List Int) (k : Int → (List Int) → (List Int) → Int → Option ρ) : Option ρ := aiv d fun e f g h n => l5 [a] fun c => br (decide (0 ≤ IntKind.i64.wrap (b - (↑a.length : Int)))) (br (decide ((c.length + (IntKind.i64.wrap (b - (↑a.length : Int))).toNat) * 1 ≤ 140737488355328)) (aak e f g h (c ++ List.replicate (IntKind.i64.wrap (b - (↑a.length : Int))).toNat (0 : Int)) fun i j l m => k i j l m) none) none
def xg {ρ : Type} := shut (ai9 (ρ := ρ))
theorem ap6 {ρ : Type} (a : Int) (b : Int) (c : List Int) (k : Int → (List Int) → (List Int) → Int → Option ρ) : xg a b c k = ai9 a b c k := by unfold xg; rw [bq]

def af6 {ρ : Type} (a : Int) (k : Int → Option ρ) : Option ρ := br (a == 1) (k 64) (k 128)
def vg {ρ : Type} := shut (af6 (ρ := ρ))
theorem amj {ρ : Type} (a : Int) (k : Int → Option ρ) : vg a k = af6 a k := by unfold vg; rw [bq]

abbrev b8j (ρ : Type) := Int → (List Int) → Int → (List Int) → Int → (List Int) → Int → (List Int) → Option ρ
def aqy {ρ : Type} (g : Int) (b : List Int) (a : Int) (c : List Int) (d : Int) (e : List Int) (f : Int) (h : List Int) (nx j : b8j ρ) : Option ρ := br (decide (a < 8)) (br (decide (0 ≤ a)) (br (decide (a < (↑8 : Int))) (yg (b.getD a.toNat 0) (IntKind.i64.wrap (g.tdiv 16)) fun i => br (decide ((c.length + i.length) * 1 ≤ 140737488355328)) (nx g b (IntKind.i64.wrap (a + 1)) (c ++ i) d e f h) none) none) none) (j g b a c d e f h)
abbrev bv5 := Int × (List Int) × Int × (List Int) × Int × (List Int) × Int × (List Int)
abbrev cao := bv5
def b55 {ρ : Type} (f : bv5 → Option ρ) : b8j ρ := fun h d e g a b c i => f (h, d, e, g, a, b, c, i)
def bxc {ρ : Type} : ab3 bv5 cao ρ := fun (g, d, e, f, a, b, c, h) next ex => aqy g d e f a b c h (b55 next) (b55 ex)
def b9j {ρ : Type} := shut (lp (bxc (ρ := ρ)))
theorem cd1 {ρ : Type} : b9j (ρ := ρ) = lp bxc := bq _
def b1j {ρ : Type} (f : ab8 bv5 cao ρ) (h : Int) (d : List Int) (e : Int) (g : List Int) (a : Int) (b : List Int) (c : Int) (i : List Int) (j : b8j ρ) : Option ρ := f (h, d, e, g, a, b, c, i) (fun (h, d, e, g, a, b, c, i) => j h d e g a b c i)
def aza {ρ : Type} := b1j (lp (bxc (ρ := ρ)))
def aq6 {ρ : Type} := b1j (b9j (ρ := ρ))
theorem az6 {ρ : Type} : aq6 (ρ := ρ) = aza := congrArg b1j cd1
def aqf {ρ : Type} (c : Int) (e a : List Int) (d : Int) (k : (List Int) → Option ρ) : Option ρ := vg c fun b => br (decide (1 ≤ b)) (br (decide (b * (↑1 : Int) ≤ (↑140737488355328 : Int))) (br (decide (b = 0)) none (br (decide (0 ≤ IntKind.i64.wrap (IntKind.i64.wrap ((IntKind.i64.wrap (IntKind.i64.wrap (IntKind.i64.wrap (IntKind.i64.wrap (2 * b) - 1) - IntKind.i64.wrap (b.tdiv 8)) - (↑a.length : Int))).tmod b + IntKind.i64.wrap (b.tdiv 8)) - 8))) (br (decide ((1 + (IntKind.i64.wrap (IntKind.i64.wrap ((IntKind.i64.wrap (IntKind.i64.wrap (IntKind.i64.wrap (IntKind.i64.wrap (2 * b) - 1) - IntKind.i64.wrap (b.tdiv 8)) - (↑a.length : Int))).tmod b + IntKind.i64.wrap (b.tdiv 8)) - 8)).toNat) * 1 ≤ 140737488355328)) (yg (IntKind.u64.wrap (d * 2 ^ 3)) 8 fun g => br (decide ((((List.replicate (IntKind.i64.wrap (IntKind.i64.wrap ((IntKind.i64.wrap (IntKind.i64.wrap (IntKind.i64.wrap (IntKind.i64.wrap (2 * b) - 1) - IntKind.i64.wrap (b.tdiv 8)) - (↑a.length : Int))).tmod b + IntKind.i64.wrap (b.tdiv 8)) - 8)).toNat (0 : Int)).length.add 0).succ + g.length) * 1 ≤ 140737488355328)) (aak c e a d ((List.replicate 1 (0 : Int)).set 0 128 ++ List.replicate (IntKind.i64.wrap (IntKind.i64.wrap ((IntKind.i64.wrap (IntKind.i64.wrap (IntKind.i64.wrap (IntKind.i64.wrap (2 * b) - 1) - IntKind.i64.wrap (b.tdiv 8)) - (↑a.length : Int))).tmod b + IntKind.i64.wrap (b.tdiv 8)) - 8)).toNat (0 : Int) ++ g) fun j h l m => aq6 b h 0 [] j h m l fun q r s f i n o p => br (i == 2) (br (decide (48 ≤ (↑f.length : Int))) (k (List.take ((48 : Int) - (0 : Int)).toNat f)) none) (k f)) none) none) none)) none) none
def ae0 {ρ : Type} := shut (aqf (ρ := ρ))
theorem bas {ρ : Type} (b : Int) (a : List Int) (c : List Int) (d : Int) (k : (List Int) → Option ρ) : ae0 b a c d k = aqf b a c d k := by unfold ae0; rw [bq]

def akg {ρ : Type} (a : List Int) (k : (List Int) → Option ρ) : Option ρ := l5 [List.take 1 (List.drop 3 a), List.take 8 (List.drop 8 a), List.take 13 (List.drop 19 a)] fun b => k b
def xq {ρ : Type} := shut (akg (ρ := ρ))
theorem as1 {ρ : Type} (a : List Int) (k : (List Int) → Option ρ) : xq a k = akg a k := by unfold xq; rw [bq]

def aev {ρ : Type} (n j : List Int) (c : Int) (a d : List Int) (e b g : Int) (f h : List Int) (i : Int) (k : (List Int) → Option ρ) : Option ρ := br (decide (b > 16)) (br (decide ((↑j.length : Int) > b)) (xq n fun z => l5 [z, j] fun A => aak g f h i A fun B C F G => ae0 B C F G fun o => br (decide (0 ≤ b)) (br (decide (b ≤ (↑o.length : Int))) (k (List.take (b - 0).toNat (List.drop 0 o))) none) none) (xq n fun H => l5 [H, j] fun I => aak c a d e I fun J p q r => ae0 J p q r fun l => br (decide (0 ≤ b)) (br (decide (b ≤ (↑l.length : Int))) (k (List.take (b - 0).toNat (List.drop 0 l))) none) none)) (xq n fun s => l5 [s, j] fun t => aak c a d e t fun u v w y => ae0 u v w y fun m => br (decide (0 ≤ b)) (br (decide (b ≤ (↑m.length : Int))) (k (List.take (b - 0).toNat (List.drop 0 m))) none) none)
def je {ρ : Type} := shut (aev (ρ := ρ))
theorem ak3 {ρ : Type} (i : List Int) (j : List Int) (c : Int) (a : List Int) (d : List Int) (e : Int) (l : Int) (f : Int) (b : List Int) (g : List Int) (h : Int) (k : (List Int) → Option ρ) : je i j c a d e l f b g h k = aev i j c a d e l f b g h k := by unfold je; rw [bq]

def aib {ρ : Type} (b : Int) (a : List Int) (k : Int → (List Int) → (List Int) → Int → Int → Int → (List Int) → (List Int) → Int → Option ρ) : Option ρ := xg 1 64 a fun c d e f => xg 3 128 a fun g h i j => k c d e f b g h i j
def acp {ρ : Type} := shut (aib (ρ := ρ))
theorem ap3 {ρ : Type} (a : Int) (b : List Int) (k : Int → (List Int) → (List Int) → Int → Int → Int → (List Int) → (List Int) → Int → Option ρ) : acp a b k = aib a b k := by unfold acp; rw [bq]

def agl {ρ : Type} (b c d e f : Int) (a : Bool) (g : List Int) (k : Int → Int → Int → Int → Int → Bool → Nat → Int → (List Int) → Int → Bool → Int → Int → (List Int) → (List Int) → Int → Int → Int → (List Int) → (List Int) → Int → Bool → Option ρ) : Option ρ := yw b c d e f a fun n => br (!n) (k 0 0 0 0 0 false 0 0 [] 0 false 0 0 [] [] 0 0 0 [] [] 0 false) (br ((↑g.length : Int) != b) (k 0 0 0 0 0 false 0 0 [] 0 false 0 0 [] [] 0 0 0 [] [] 0 false) (br a (adn b g fun o p q r s => k b c d e f a 1 o p q r s 0 [] [] 0 0 0 [] [] 0 true) (acp b g fun t u v w h i j l m => k b c d e f a 2 0 [] 0 false 0 t u v w h i j l m true)))
def qy {ρ : Type} := shut (agl (ρ := ρ))
theorem alu {ρ : Type} (b : Int) (c : Int) (d : Int) (e : Int) (f : Int) (a : Bool) (g : List Int) (k : Int → Int → Int → Int → Int → Bool → Nat → Int → (List Int) → Int → Bool → Int → Int → (List Int) → (List Int) → Int → Int → Int → (List Int) → (List Int) → Int → Bool → Option ρ) : qy b c d e f a g k = agl b c d e f a g k := by unfold qy; rw [bq]

def aor {ρ : Type} (b c d e f : Int) (a : Bool) (z g h : List Int) (k : (List Int) → Option ρ) : Option ρ := qy b c d e f a z fun F G H I J M i A B C j l m n o p q r s t u v => br (!v) (k []) (br (decide (i = 1)) (jg g h A B C j l fun w => k w) (br (decide (i = 2)) (je g h m n o p q r s t u fun y => k y) none))
def afo {ρ : Type} := shut (aor (ρ := ρ))
theorem ay0 {ρ : Type} (b : Int) (c : Int) (d : Int) (e : Int) (f : Int) (a : Bool) (g : List Int) (h : List Int) (i : List Int) (k : (List Int) → Option ρ) : afo b c d e f a g h i k = aor b c d e f a g h i k := by unfold afo; rw [bq]

def ae8 {ρ : Type} (b c d e f : Int) (a : Bool) (i g h : List Int) (j l : Int) (m n : List Int) (k : (List Int) → Option ρ) : Option ρ := ig h 2 2 fun o => ig o 4 (IntKind.u64.wrap j) fun p => ig p 5 l fun q => l5 [m, n] fun r => afo b c d e f a g q r fun s => k s
def qh {ρ : Type} := shut (ae8 (ρ := ρ))
theorem akl {ρ : Type} (c : Int) (d : Int) (e : Int) (f : Int) (g : Int) (a : Bool) (b : List Int) (h : List Int) (i : List Int) (j : Int) (l : Int) (m : List Int) (n : List Int) (k : (List Int) → Option ρ) : qh c d e f g a b h i j l m n k = ae8 c d e f g a b h i j l m n k := by unfold qh; rw [bq]

abbrev b6n (ρ : Type) := (List Int) → Int → Int → Int → Int → Int → Int → Int → Bool → Nat → Int → (List Int) → Int → Bool → Int → Int → (List Int) → (List Int) → Int → Int → Int → (List Int) → (List Int) → Int → (List Int) → Option ρ
def ad3 {ρ : Type} (z : List Int) (y q r s t u v : Int) (w : Bool) (o : Nat) (a : Int) (b : List Int) (c : Int) (d : Bool) (e f : Int) (g h : List Int) (i j k : Int) (l m : List Int) (n : Int) (p : List Int) (nx B : b6n ρ) : Option ρ := br (decide (q < y)) (ig p 5 (IntKind.u64.wrap q) fun A => br (decide (o = 1)) (jg A z a b c d e fun C => nx C y (IntKind.u32.wrap (q + 1)) r s t u v w o a b c d e f g h i j k l m n p) (br (decide (o = 2)) (je A z f g h i j k l m n fun F => nx F y (IntKind.u32.wrap (q + 1)) r s t u v w o a b c d e f g h i j k l m n p) none)) (B z y q r s t u v w o a b c d e f g h i j k l m n p)
abbrev b03 := (List Int) × Int × Int × Int × Int × Int × Int × Int × Bool × Nat × Int × (List Int) × Int × Bool × Int × Int × (List Int) × (List Int) × Int × Int × Int × (List Int) × (List Int) × Int × (List Int)
abbrev b8b := b03
def cbq {ρ : Type} (f : b03 → Option ρ) : b6n ρ := fun z A y p q r s t u v a b c d e g h i j k l m n o w => f (z, A, y, p, q, r, s, t, u, v, a, b, c, d, e, g, h, i, j, k, l, m, n, o, w)
def bwb {ρ : Type} : ab3 b03 b8b ρ := fun (y, z, w, o, p, q, r, s, t, u, a, b, c, d, e, f, g, h, i, j, k, l, m, n, v) next ex => ad3 y z w o p q r s t u a b c d e f g h i j k l m n v (cbq next) (cbq ex)
def cbr {ρ : Type} := shut (lp (bwb (ρ := ρ)))
theorem cb9 {ρ : Type} : cbr (ρ := ρ) = lp bwb := bq _
def b1p {ρ : Type} (f : ab8 b03 b8b ρ) (z : List Int) (A y p q r s t : Int) (u : Bool) (v : Nat) (a : Int) (b : List Int) (c : Int) (d : Bool) (e g : Int) (h i : List Int) (j k l : Int) (m n : List Int) (o : Int) (w : List Int) (B : b6n ρ) : Option ρ := f (z, A, y, p, q, r, s, t, u, v, a, b, c, d, e, g, h, i, j, k, l, m, n, o, w) (fun (z, A, y, p, q, r, s, t, u, v, a, b, c, d, e, g, h, i, j, k, l, m, n, o, w) => B z A y p q r s t u v a b c d e g h i j k l m n o w)
def ahj {ρ : Type} := b1p (lp (bwb (ρ := ρ)))
def ahs {ρ : Type} := b1p (cbr (ρ := ρ))
theorem amf {ρ : Type} : ahs (ρ := ρ) = ahj := congrArg b1p cb9
def adj {ρ : Type} (q r s t u : Int) (m : Bool) (v : Nat) (d : Int) (a : List Int) (n : Int) (l : Bool) (o e : Int) (b f : List Int) (g p h : Int) (c i : List Int) (j : Int) (w y : List Int) (z A : Int) (k : (List Int) → Option ρ) : Option ρ := ahs y A z q r s t u m v d a n l o e b f g p h c i j w fun B q1 q2 q3 q4 q5 q6 q7 q8 q9 C F G H I J M N O Q U W Z aa ab => k B
def kr {ρ : Type} := shut (adj (ρ := ρ))
theorem aho {ρ : Type} (q : Int) (r : Int) (s : Int) (t : Int) (u : Int) (m : Bool) (v : Nat) (d : Int) (a : List Int) (n : Int) (l : Bool) (o : Int) (e : Int) (b : List Int) (f : List Int) (g : Int) (p : Int) (h : Int) (c : List Int) (i : List Int) (j : Int) (w : List Int) (y : List Int) (z : Int) (A : Int) (k : (List Int) → Option ρ) : kr q r s t u m v d a n l o e b f g p h c i j w y z A k = adj q r s t u m v d a n l o e b f g p h c i j w y z A k := by unfold kr; rw [bq]

def ajd {ρ : Type} (b : List Int) (a : Int) (k : Int → Option ρ) : Option ρ := br (decide (0 ≤ IntKind.i64.wrap (8 + IntKind.i64.wrap (4 * a)))) (br (decide (IntKind.i64.wrap (8 + IntKind.i64.wrap (4 * a)) ≤ IntKind.i64.wrap (12 + IntKind.i64.wrap (4 * a)))) (br (decide (IntKind.i64.wrap (12 + IntKind.i64.wrap (4 * a)) ≤ (↑32 : Int))) (zf (List.take (IntKind.i64.wrap (12 + IntKind.i64.wrap (4 * a)) - IntKind.i64.wrap (8 + IntKind.i64.wrap (4 * a))).toNat (List.drop (IntKind.i64.wrap (8 + IntKind.i64.wrap (4 * a))).toNat b)) fun c => k c) none) none) none
def uf {ρ : Type} := shut (ajd (ρ := ρ))
theorem aps {ρ : Type} (a : List Int) (b : Int) (k : Int → Option ρ) : uf a b k = ajd a b k := by unfold uf; rw [bq]

def ac6 {ρ : Type} (r s t u v : Int) (q : Bool) (n : Nat) (d : Int) (a : List Int) (m : Int) (l : Bool) (o e : Int) (b f : List Int) (g p h : Int) (c i : List Int) (j : Int) (w y : List Int) (A : Int) (k : (List Int) → Option ρ) : Option ρ := ig y 2 5 fun B => uf y 3 fun C => ig B 3 C fun F => ig F 4 (IntKind.u64.wrap A) fun z => br (decide (n = 1)) (jg z w d a m l o fun G => k G) (br (decide (n = 2)) (je z w e b f g p h c i j fun H => k H) none)
def ny {ρ : Type} := shut (ac6 (ρ := ρ))
theorem ahn {ρ : Type} (q : Int) (r : Int) (s : Int) (t : Int) (u : Int) (m : Bool) (v : Nat) (d : Int) (a : List Int) (n : Int) (l : Bool) (o : Int) (e : Int) (b : List Int) (f : List Int) (g : Int) (p : Int) (h : Int) (c : List Int) (i : List Int) (j : Int) (w : List Int) (y : List Int) (z : Int) (k : (List Int) → Option ρ) : ny q r s t u m v d a n l o e b f g p h c i j w y z k = ac6 q r s t u m v d a n l o e b f g p h c i j w y z k := by unfold ny; rw [bq]

def ac0 {ρ : Type} (a r s t u : Int) (n : Bool) (v : Nat) (e : Int) (b : List Int) (o : Int) (m : Bool) (p f : Int) (c g : List Int) (h q i : Int) (d j : List Int) (l : Int) (k : Int → Option ρ) : Option ρ := k (IntKind.i64.wrap (IntKind.i64.wrap (2 * a) + 3))
def nk {ρ : Type} := shut (ac0 (ρ := ρ))
theorem ahq {ρ : Type} (q : Int) (r : Int) (s : Int) (t : Int) (u : Int) (m : Bool) (v : Nat) (d : Int) (a : List Int) (n : Int) (l : Bool) (o : Int) (e : Int) (b : List Int) (f : List Int) (g : Int) (p : Int) (h : Int) (c : List Int) (i : List Int) (j : Int) (k : Int → Option ρ) : nk q r s t u m v d a n l o e b f g p h c i j k = ac0 q r s t u m v d a n l o e b f g p h c i j k := by unfold nk; rw [bq]

def aec {ρ : Type} (r s t u v : Int) (q : Bool) (n : Nat) (d : Int) (a : List Int) (m : Int) (l : Bool) (o e : Int) (b f : List Int) (g p h : Int) (c i : List Int) (j : Int) (w y : List Int) (k : (List Int) → Option ρ) : Option ρ := ig y 2 1 fun A => uf y 3 fun B => ig A 3 B fun z => br (decide (n = 1)) (jg z w d a m l o fun C => k C) (br (decide (n = 2)) (je z w e b f g p h c i j fun F => k F) none)
def qd {ρ : Type} := shut (aec (ρ := ρ))
theorem ajp {ρ : Type} (q : Int) (r : Int) (s : Int) (t : Int) (u : Int) (m : Bool) (v : Nat) (d : Int) (a : List Int) (n : Int) (l : Bool) (o : Int) (e : Int) (b : List Int) (f : List Int) (g : Int) (p : Int) (h : Int) (c : List Int) (i : List Int) (j : Int) (w : List Int) (y : List Int) (k : (List Int) → Option ρ) : qd q r s t u m v d a n l o e b f g p h c i j w y k = aec q r s t u m v d a n l o e b f g p h c i j w y k := by unfold qd; rw [bq]

abbrev b4p (ρ : Type) := (List Int) → Int → Int → (List Int) → (List Int) → Int → Int → Int → Int → Int → Bool → Nat → Int → (List Int) → Int → Bool → Int → Int → (List Int) → (List Int) → Int → Int → Int → (List Int) → (List Int) → Int → Option ρ
def aj1 {ρ : Type} (A : List Int) (y w : Int) (z o : List Int) (p q r s t : Int) (u : Bool) (v : Nat) (a : Int) (b : List Int) (c : Int) (d : Bool) (e f : Int) (g h : List Int) (i j k : Int) (l m : List Int) (n : Int) (nx C : b4p ρ) : Option ρ := br (decide (w < y)) (ig o 4 (IntKind.u64.wrap w) fun F => ny p q r s t u v a b c d e f g h i j k l m n A o w fun G => kr p q r s t u v a b c d e f g h i j k l m n F G 0 15 fun B => br (decide ((z.length + B.length) * 1 ≤ 140737488355328)) (nx A y (IntKind.i64.wrap (w + 1)) (z ++ B) o p q r s t u v a b c d e f g h i j k l m n) none) (C A y w z o p q r s t u v a b c d e f g h i j k l m n)
abbrev b05 := (List Int) × Int × Int × (List Int) × (List Int) × Int × Int × Int × Int × Int × Bool × Nat × Int × (List Int) × Int × Bool × Int × Int × (List Int) × (List Int) × Int × Int × Int × (List Int) × (List Int) × Int
abbrev b89 := b05
def b87 {ρ : Type} (f : b05 → Option ρ) : b4p ρ := fun B y z A p q r s t u v w a b c d e g h i j k l m n o => f (B, y, z, A, p, q, r, s, t, u, v, w, a, b, c, d, e, g, h, i, j, k, l, m, n, o)
def byw {ρ : Type} : ab3 b05 b89 ρ := fun (A, w, y, z, o, p, q, r, s, t, u, v, a, b, c, d, e, f, g, h, i, j, k, l, m, n) next ex => aj1 A w y z o p q r s t u v a b c d e f g h i j k l m n (b87 next) (b87 ex)
def b7a {ρ : Type} := shut (lp (byw (ρ := ρ)))
theorem cdb {ρ : Type} : b7a (ρ := ρ) = lp byw := bq _
def b3b {ρ : Type} (f : ab8 b05 b89 ρ) (B : List Int) (y z : Int) (A p : List Int) (q r s t u : Int) (v : Bool) (w : Nat) (a : Int) (b : List Int) (c : Int) (d : Bool) (e g : Int) (h i : List Int) (j k l : Int) (m n : List Int) (o : Int) (C : b4p ρ) : Option ρ := f (B, y, z, A, p, q, r, s, t, u, v, w, a, b, c, d, e, g, h, i, j, k, l, m, n, o) (fun (B, y, z, A, p, q, r, s, t, u, v, w, a, b, c, d, e, g, h, i, j, k, l, m, n, o) => C B y z A p q r s t u v w a b c d e g h i j k l m n o)
def apw {ρ : Type} := b3b (lp (byw (ρ := ρ)))
def ap7 {ρ : Type} := b3b (b7a (ρ := ρ))
theorem au8 {ρ : Type} : ap7 (ρ := ρ) = apw := congrArg b3b cdb
def aiw {ρ : Type} (b o p q r : Int) (a : Bool) (s a2 a3 : List Int) (k : (List Int) → Option ρ) : Option ρ := qy b o p q r a a2 fun t u v w y z A B C F c d e f g h i j l m n G => br (!G) (k []) (br ((↑s.length : Int) != b) (k []) (nk t u v w y z A B C F c d e f g h i j l m n fun H => ap7 s H 0 [] a3 t u v w y z A B C F c d e f g h i j l m n fun ap aq ar I J M N O Q U W Z aa ab ac ad ae af ag ah ai aj ak al am an => qd M N O Q U W Z aa ab ac ad ae af ag ah ai aj ak al am an I J fun ao => k ao))
def aag {ρ : Type} := shut (aiw (ρ := ρ))
theorem ap1 {ρ : Type} (b : Int) (c : Int) (d : Int) (e : Int) (f : Int) (a : Bool) (g : List Int) (h : List Int) (i : List Int) (k : (List Int) → Option ρ) : aag b c d e f a g h i k = aiw b c d e f a g h i k := by unfold aag; rw [bq]

def acj {ρ : Type} (rc : Int → Int → Int → Int → Int → Bool → (List Int) → (List Int) → (List Int) → Int → Int → ((List Int) → Option ρ) → Option ρ) (c d e f g : Int) (a : Bool) (b h i : List Int) (j l : Int) (k : (List Int) → Option ρ) : Option ρ := br (j == 0) (oo c d e f g a b h i l fun m => aag c d e f g a b h m fun n => k n) (rc c d e f g a b h i (IntKind.i64.wrap (j - 1)) (IntKind.u64.wrap (2 * l)) fun o => rc c d e f g a b h i (IntKind.i64.wrap (j - 1)) (IntKind.u64.wrap (IntKind.u64.wrap (2 * l) + 1)) fun p => qh c d e f g a b h i j l o p fun q => k q)
def ow {ρ : Type} (n : Nat) : Int → Int → Int → Int → Int → Bool → (List Int) → (List Int) → (List Int) → Int → Int → ((List Int) → Option ρ) → Option ρ := Nat.rec (fun _ _ _ _ _ _ _ _ _ _ _ _ => none) (fun _ rc => shut (acj (ρ := ρ) rc)) n
theorem agf {ρ : Type} (n : Nat) : ow (ρ := ρ) (n + 1) = acj (ow n) := bq _

end P
end
