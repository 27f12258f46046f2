/-
  XmssGrows, part 8: an interpreter of my own over abstract values, the pure functions, the walks and the plain law.
-/

import Derived.Test.YtjhnljhjpnjieaaGreatDoorXmssGrowsG

noncomputable section
namespace P
@[irreducible] def roots256 : List Int := [1116352408, 1899447441, 3049323471, 3921009573, 961987163, 1508970993, 2453635748, 2870763221, 3624381080, 310598401, 607225278, 1426881987, 1925078388, 2162078206, 2614888103, 3248222580, 3835390401, 4022224774, 264347078, 604807628, 770255983, 1249150122, 1555081692, 1996064986, 2554220882, 2821834349, 2952996808, 3210313671, 3336571891, 3584528711, 113926993, 338241895, 666307205, 773529912, 1294757372, 1396182291, 1695183700, 1986661051, 2177026350, 2456956037, 2730485921, 2820302411, 3259730800, 3345764771, 3516065817, 3600352804, 4094571909, 275423344, 430227734, 506948616, 659060556, 883997877, 958139571, 1322822218, 1537002063, 1747873779, 1955562222, 2024104815, 2227730452, 2361852424, 2428436474, 2756734187, 3204031479, 3329325298]
@[irreducible] def roots512 : List Int := [4794697086780616226, 8158064640168781261, 13096744586834688815, 16840607885511220156, 4131703408338449720, 6480981068601479193, 10538285296894168987, 12329834152419229976, 15566598209576043074, 1334009975649890238, 2608012711638119052, 6128411473006802146, 8268148722764581231, 9286055187155687089, 11230858885718282805, 13951009754708518548, 16472876342353939154, 17275323862435702243, 1135362057144423861, 2597628984639134821, 3308224258029322869, 5365058923640841347, 6679025012923562964, 8573033837759648693, 10970295158949994411, 12119686244451234320, 12683024718118986047, 13788192230050041572, 14330467153632333762, 15395433587784984357, 489312712824947311, 1452737877330783856, 2861767655752347644, 3322285676063803686, 5560940570517711597, 5996557281743188959, 7280758554555802590, 8532644243296465576, 9350256976987008742, 10552545826968843579, 11727347734174303076, 12113106623233404929, 14000437183269869457, 14369950271660146224, 15101387698204529176, 15463397548674623760, 17586052441742319658, 1182934255886127544, 1847814050463011016, 2177327727835720531, 2830643537854262169, 3796741975233480872, 4115178125766777443, 5681478168544905931, 6601373596472566643, 7507060721942968483, 8399075790359081724, 8693463985226723168, 9568029438360202098, 10144078919501101548, 10430055236837252648, 11840083180663258601, 13761210420658862357, 14299343276471374635, 14566680578165727644, 15097957966210449927, 16922976911328602910, 17689382322260857208, 500013540394364858, 748580250866718886, 1242879168328830382, 1977374033974150939, 2944078676154940804, 3659926193048069267, 4368137639120453308, 4836135668995329356, 5532061633213252278, 6448918945643986474, 6902733635092675308, 7801388544844847127]
@[irreducible] def bjs : List Int := [1, 32898, 9223372036854808714, 9223372039002292224, 32907, 2147483649, 9223372039002292353, 9223372036854808585, 138, 136, 2147516425, 2147483658, 2147516555, 9223372036854775947, 9223372036854808713, 9223372036854808579, 9223372036854808578, 9223372036854775936, 32778, 9223372039002259466, 9223372039002292353, 9223372036854808704, 2147483649, 9223372039002292232]
@[irreducible] def bso : List Int := [10, 7, 11, 17, 18, 3, 5, 16, 8, 21, 24, 4, 15, 23, 19, 13, 12, 2, 20, 14, 22, 9, 6, 1]
@[irreducible] def by2 : List Int := [1, 3, 6, 10, 15, 21, 28, 36, 45, 55, 2, 14, 27, 41, 56, 8, 25, 43, 62, 18, 39, 61, 20, 44]
end P
open Go Go.Abs
namespace GLO
end GLO
namespace GLO
abbrev gx : List (Nat × List Go.Abs.AVal) := [(0, [Go.Abs.AVal.arr .u64 24 P.bjs]), (1, [Go.Abs.AVal.arr .i64 24 P.bso]), (2, [Go.Abs.AVal.arr .i64 24 P.by2]), (3, [Go.Abs.AVal.arr .u32 64 P.roots256]), (4, [Go.Abs.AVal.arr .u64 80 P.roots512])]
end GLO
end

noncomputable section
open Go Go.Abs
set_option linter.unusedVariables false
namespace P

abbrev zc1 (ρ : Type) := (List Int) → (List Int) → Int → Option ρ
def ao9 {ρ : Type} (b c : List Int) (a : Int) (nx d : zc1 ρ) (e : Bool → Option ρ) : Option ρ := br (decide (a < (↑b.length : Int))) (br (decide (0 ≤ a)) (br (decide (a < (↑b.length : Int))) (br (decide (0 ≤ a)) (br (decide (a < (↑c.length : Int))) (br (b.getD a.toNat 0 != c.getD a.toNat 0) (e false) (nx b c (IntKind.i64.wrap (a + 1)))) none) none) none) none) (d b c a)
abbrev zt1 := (List Int) × (List Int) × Int
abbrev zy1 := ((List Int) × (List Int) × Int) ⊕ (Bool)
def zu1 {ρ : Type} (f : zt1 → Option ρ) : zc1 ρ := fun a b c => f (a, b, c)
def zs1 {ρ : Type} : adk zt1 zy1 ρ := fun (a, b, c) next ex => ao9 a b c (zu1 next) (fun a b c => ex (.inl (a, b, c))) (fun d => ex (.inr d))
def zm1 {ρ : Type} := shut (lp (zs1 (ρ := ρ)))
theorem ze1 {ρ : Type} : zm1 (ρ := ρ) = lp zs1 := bq _
def zk1 {ρ : Type} (f : adj zt1 zy1 ρ) (a b : List Int) (c : Int) (d : zc1 ρ) (e : Bool → Option ρ) : Option ρ := f (a, b, c) (Sum.elim (fun (a, b, c) => d a b c) (fun x => e x))
def ayj {ρ : Type} := zk1 (lp (zs1 (ρ := ρ)))
def ax5 {ρ : Type} := zk1 (zm1 (ρ := ρ))
theorem ays {ρ : Type} : ax5 (ρ := ρ) = ayj := congrArg zk1 ze1
def amd {ρ : Type} (a b : List Int) (k : Bool → Option ρ) : Option ρ := br ((↑a.length : Int) != (↑b.length : Int)) (k false) (ax5 a b 0 (fun d e f => k true) fun c => k c)
def abr {ρ : Type} := shut (amd (ρ := ρ))
theorem aw0 {ρ : Type} (a : List Int) (b : List Int) (k : Bool → Option ρ) : abr a b k = amd a b k := by unfold abr; rw [bq]

def aqj {ρ : Type} (e b a c d : Int) (f : Bool) (k : Bool → Option ρ) : Option ρ := br (e != 16) (br (e != 24) (br (e != 32) (k false) (br (decide (a ≥ 1)) (br (decide (b ≤ 68)) (br (decide (b ≥ a)) (br (decide (a = 0)) none (br (b.tmod a == 0) (br (decide (a = 0)) none (br (decide (IntKind.i64.wrap (b.tdiv a) ≤ 9)) (br (decide (c ≥ 1)) (br (decide (c ≤ 14)) (br (decide (d ≥ 1)) (k (decide (d ≤ 40))) (k false)) (k false)) (k false)) (k false))) (k false))) (k false)) (k false)) (k false))) (br (decide (a ≥ 1)) (br (decide (b ≤ 68)) (br (decide (b ≥ a)) (br (decide (a = 0)) none (br (b.tmod a == 0) (br (decide (a = 0)) none (br (decide (IntKind.i64.wrap (b.tdiv a) ≤ 9)) (br (decide (c ≥ 1)) (br (decide (c ≤ 14)) (br (decide (d ≥ 1)) (k (decide (d ≤ 40))) (k false)) (k false)) (k false)) (k false))) (k false))) (k false)) (k false)) (k false))) (br (decide (a ≥ 1)) (br (decide (b ≤ 68)) (br (decide (b ≥ a)) (br (decide (a = 0)) none (br (b.tmod a == 0) (br (decide (a = 0)) none (br (decide (IntKind.i64.wrap (b.tdiv a) ≤ 9)) (br (decide (c ≥ 1)) (br (decide (c ≤ 14)) (br (decide (d ≥ 1)) (k (decide (d ≤ 40))) (k false)) (k false)) (k false)) (k false))) (k false))) (k false)) (k false)) (k false))
def mh {ρ : Type} := shut (aqj (ρ := ρ))
theorem aze {ρ : Type} (b : Int) (c : Int) (d : Int) (e : Int) (f : Int) (a : Bool) (k : Bool → Option ρ) : mh b c d e f a k = aqj b c d e f a k := by unfold mh; rw [bq]

def ahv {ρ : Type} (d a b e f : Int) (c : Bool) (k : Bool → Option ρ) : Option ρ := mh d a b e f c fun g => br g (br (decide (a ≤ 4)) (br (decide (b = 0)) none (k (decide (IntKind.i64.wrap (a.tdiv b) ≤ 2)))) (k false)) (k false)
def aa4 {ρ : Type} := shut (ahv (ρ := ρ))
theorem au3 {ρ : Type} (b : Int) (c : Int) (d : Int) (e : Int) (f : Int) (a : Bool) (k : Bool → Option ρ) : aa4 b c d e f a k = ahv b c d e f a k := by unfold aa4; rw [bq]

abbrev zc2 (ρ : Type) := (List (List Int)) → Int → Int → Option ρ
def an7 {ρ : Type} (b : List (List Int)) (c a : Int) (nx d : zc2 ρ) (e : Bool → Option ρ) : Option ρ := br (decide (a < c)) (br (decide (0 ≤ a)) (br (decide (a < (↑b.length : Int))) (br (decide ((↑(b.getD a.toNat []).length : Int) > 300)) (e false) (nx b c (IntKind.i64.wrap (a + 1)))) none) none) (d b c a)
abbrev zt2 := (List (List Int)) × Int × Int
abbrev zy2 := ((List (List Int)) × Int × Int) ⊕ (Bool)
def zu2 {ρ : Type} (f : zt2 → Option ρ) : zc2 ρ := fun a b c => f (a, b, c)
def zs2 {ρ : Type} : adk zt2 zy2 ρ := fun (a, b, c) next ex => an7 a b c (zu2 next) (fun a b c => ex (.inl (a, b, c))) (fun d => ex (.inr d))
def zm2 {ρ : Type} := shut (lp (zs2 (ρ := ρ)))
theorem ze2 {ρ : Type} : zm2 (ρ := ρ) = lp zs2 := bq _
def zk2 {ρ : Type} (f : adj zt2 zy2 ρ) (a : List (List Int)) (b c : Int) (d : zc2 ρ) (e : Bool → Option ρ) : Option ρ := f (a, b, c) (Sum.elim (fun (a, b, c) => d a b c) (fun x => e x))
def baf {ρ : Type} := zk2 (lp (zs2 (ρ := ρ)))
def ay5 {ρ : Type} := zk2 (zm2 (ρ := ρ))
theorem bbh {ρ : Type} : ay5 (ρ := ρ) = baf := congrArg zk2 ze2
def apr {ρ : Type} (a : List (List Int)) (k : Bool → Option ρ) : Option ρ := ay5 a (↑a.length : Int) 0 (fun c d e => k true) fun b => k b
def ag9 {ρ : Type} := shut (apr (ρ := ρ))
theorem bam {ρ : Type} (a : List (List Int)) (k : Bool → Option ρ) : ag9 a k = apr a k := by unfold ag9; rw [bq]

def ani {ρ : Type} (e b a c d : Int) (f : Bool) (k : Bool → Option ρ) : Option ρ := br (e != 16) (br (e != 24) (br (e != 32) (k false) (br (decide (a < 1)) (k false) (br (decide (b < a)) (k false) (br (decide (b > 68)) (k false) (br (decide (a = 0)) none (br (b.tmod a != 0) (k false) (br (decide (a = 0)) none (br (decide (IntKind.i64.wrap (b.tdiv a) > 9)) (k false) (br (decide (c ≥ 1)) (br (decide (c ≤ 14)) (br (decide (d ≥ 1)) (k (decide (d ≤ 40))) (k false)) (k false)) (k false)))))))))) (br (decide (a < 1)) (k false) (br (decide (b < a)) (k false) (br (decide (b > 68)) (k false) (br (decide (a = 0)) none (br (b.tmod a != 0) (k false) (br (decide (a = 0)) none (br (decide (IntKind.i64.wrap (b.tdiv a) > 9)) (k false) (br (decide (c ≥ 1)) (br (decide (c ≤ 14)) (br (decide (d ≥ 1)) (k (decide (d ≤ 40))) (k false)) (k false)) (k false)))))))))) (br (decide (a < 1)) (k false) (br (decide (b < a)) (k false) (br (decide (b > 68)) (k false) (br (decide (a = 0)) none (br (b.tmod a != 0) (k false) (br (decide (a = 0)) none (br (decide (IntKind.i64.wrap (b.tdiv a) > 9)) (k false) (br (decide (c ≥ 1)) (br (decide (c ≤ 14)) (br (decide (d ≥ 1)) (k (decide (d ≤ 40))) (k false)) (k false)) (k false)))))))))
def yg {ρ : Type} := shut (ani (ρ := ρ))
theorem awf {ρ : Type} (b : Int) (c : Int) (d : Int) (e : Int) (f : Int) (a : Bool) (k : Bool → Option ρ) : yg b c d e f a k = ani b c d e f a k := by unfold yg; rw [bq]

def ak7 {ρ : Type} (d b a e f : Int) (c : Bool) (k : Int → Option ρ) : Option ρ := br (decide (a = 0)) none (k (IntKind.i64.wrap (b.tdiv a)))
def jl {ρ : Type} := shut (ak7 (ρ := ρ))
theorem at1 {ρ : Type} (b : Int) (c : Int) (d : Int) (e : Int) (f : Int) (a : Bool) (k : Int → Option ρ) : jl b c d e f a k = ak7 b c d e f a k := by unfold jl; rw [bq]

def alg {ρ : Type} (b c d e f : Int) (a : Bool) (k : Int → Option ρ) : Option ρ := yg b c d e f a fun g => br (!g) (k 0) (jl b c d e f a fun h => k (IntKind.i64.wrap (b * IntKind.i64.wrap (IntKind.i64.wrap (IntKind.i64.wrap (2 * b) + 3) + h))))
def qd {ρ : Type} := shut (alg (ρ := ρ))
theorem aul {ρ : Type} (b : Int) (c : Int) (d : Int) (e : Int) (f : Int) (a : Bool) (k : Int → Option ρ) : qd b c d e f a k = alg b c d e f a k := by unfold qd; rw [bq]

abbrev zc3 (ρ : Type) := (List (List Int)) → Int → Int → Int → Int → Int → Int → Int → Bool → Option ρ
def agt {ρ : Type} (h : List (List Int)) (i g a b c d e : Int) (f : Bool) (nx j : zc3 ρ) (k : Bool → Int → Int → Int → Int → Int → Bool → Option ρ) : Option ρ := br (decide (g < i)) (br (decide (0 ≤ g)) (br (decide (g < (↑h.length : Int))) (br ((↑(h.getD g.toNat []).length : Int) != a) (k false a b c d e f) (nx h i (IntKind.i64.wrap (g + 1)) a b c d e f)) none) none) (j h i g a b c d e f)
abbrev zt3 := (List (List Int)) × Int × Int × Int × Int × Int × Int × Int × Bool
abbrev zy3 := ((List (List Int)) × Int × Int × Int × Int × Int × Int × Int × Bool) ⊕ (Bool × Int × Int × Int × Int × Int × Bool)
def zu3 {ρ : Type} (f : zt3 → Option ρ) : zc3 ρ := fun h i j a b c d e g => f (h, i, j, a, b, c, d, e, g)
def zs3 {ρ : Type} : adk zt3 zy3 ρ := fun (g, h, i, a, b, c, d, e, f) next ex => agt g h i a b c d e f (zu3 next) (fun g h i a b c d e f => ex (.inl (g, h, i, a, b, c, d, e, f))) (fun j a b c d e f => ex (.inr (j, a, b, c, d, e, f)))
def zm3 {ρ : Type} := shut (lp (zs3 (ρ := ρ)))
theorem ze3 {ρ : Type} : zm3 (ρ := ρ) = lp zs3 := bq _
def zk3 {ρ : Type} (f : adj zt3 zy3 ρ) (h : List (List Int)) (i j a b c d e : Int) (g : Bool) (k : zc3 ρ) (l : Bool → Int → Int → Int → Int → Int → Bool → Option ρ) : Option ρ := f (h, i, j, a, b, c, d, e, g) (Sum.elim (fun (h, i, j, a, b, c, d, e, g) => k h i j a b c d e g) (fun x => l x.1 x.2.1 x.2.2.1 x.2.2.2.1 x.2.2.2.2.1 x.2.2.2.2.2.1 x.2.2.2.2.2.2))
def ami {ρ : Type} := zk3 (lp (zs3 (ρ := ρ)))
def aum {ρ : Type} := zk3 (zm3 (ρ := ρ))
theorem am4 {ρ : Type} : aum (ρ := ρ) = ami := congrArg zk3 ze3
def aho {ρ : Type} (b c d e f : Int) (a : Bool) (g : List (List Int)) (k : Bool → Option ρ) : Option ρ := aum g (↑g.length : Int) 0 b c d e f a (fun w y z i j l m n o => yg i j l m n o fun p => k p) fun h q r s t u v => k h
def tu {ρ : Type} := shut (aho (ρ := ρ))
theorem anp {ρ : Type} (b : Int) (c : Int) (d : Int) (e : Int) (f : Int) (a : Bool) (g : List (List Int)) (k : Bool → Option ρ) : tu b c d e f a g k = aho b c d e f a g k := by unfold tu; rw [bq]

def ad3 {ρ : Type} (a : Int) (k : (List Int) → Option ρ) : Option ρ := br (decide (a < 0)) none (br (decide (IntKind.i64.wrap (a - IntKind.i64.wrap (0 - (↑0 : Int))) > 0)) (br (decide (0 ≤ IntKind.i64.wrap (a - IntKind.i64.wrap (0 - (↑0 : Int))))) (br (decide ((IntKind.i64.wrap (a - IntKind.i64.wrap (0 - (↑0 : Int)))).toNat * 1 ≤ 140737488355328)) (k (List.take ((↑0 : Int) - (0 : Int)).toNat (List.replicate (IntKind.i64.wrap (a - IntKind.i64.wrap (0 - (↑0 : Int)))).toNat (0 : Int)))) none) none) (k []))
def o8 {ρ : Type} := shut (ad3 (ρ := ρ))
theorem ah8 {ρ : Type} (a : Int) (k : (List Int) → Option ρ) : o8 a k = ad3 a k := by unfold o8; rw [bq]

abbrev zc4 (ρ : Type) := (List (List Int)) → Int → (List (List Int)) → Int → Int → Option ρ
def ac5 {ρ : Type} (e : List (List Int)) (d : Int) (b : List (List Int)) (c a : Int) (nx f : zc4 ρ) : Option ρ := br (decide (a < c)) (br (decide (0 ≤ a)) (br (decide (a < (↑b.length : Int))) (br (decide (IntKind.i64.wrap (d + (↑(b.getD a.toNat []).length : Int)) < 0)) none (nx e (IntKind.i64.wrap (d + (↑(b.getD a.toNat []).length : Int))) b c (IntKind.i64.wrap (a + 1)))) none) none) (f e d b c a)
abbrev zt4 := (List (List Int)) × Int × (List (List Int)) × Int × Int
abbrev zy4 := zt4
def zu4 {ρ : Type} (f : zt4 → Option ρ) : zc4 ρ := fun c d e a b => f (c, d, e, a, b)
def zs4 {ρ : Type} : adk zt4 zy4 ρ := fun (c, d, e, a, b) next ex => ac5 c d e a b (zu4 next) (zu4 ex)
def zm4 {ρ : Type} := shut (lp (zs4 (ρ := ρ)))
theorem ze4 {ρ : Type} : zm4 (ρ := ρ) = lp zs4 := bq _
def zk4 {ρ : Type} (f : adj zt4 zy4 ρ) (c : List (List Int)) (d : Int) (e : List (List Int)) (a b : Int) (g : zc4 ρ) : Option ρ := f (c, d, e, a, b) (fun (c, d, e, a, b) => g c d e a b)
def agk {ρ : Type} := zk4 (lp (zs4 (ρ := ρ)))
def agv {ρ : Type} := zk4 (zm4 (ρ := ρ))
theorem aj8 {ρ : Type} : agv (ρ := ρ) = agk := congrArg zk4 ze4
abbrev zc5 (ρ : Type) := (List (List Int)) → Int → Int → (List Int) → Option ρ
def ab8 {ρ : Type} (b : List (List Int)) (c a : Int) (d : List Int) (nx e : zc5 ρ) : Option ρ := br (decide (a < c)) (br (decide (0 ≤ a)) (br (decide (a < (↑b.length : Int))) (br (decide ((d.length + (b.getD a.toNat []).length) * 1 ≤ 140737488355328)) (nx b c (IntKind.i64.wrap (a + 1)) (d ++ b.getD a.toNat [])) none) none) none) (e b c a d)
abbrev zt5 := (List (List Int)) × Int × Int × (List Int)
abbrev zy5 := zt5
def zu5 {ρ : Type} (f : zt5 → Option ρ) : zc5 ρ := fun a b c d => f (a, b, c, d)
def zs5 {ρ : Type} : adk zt5 zy5 ρ := fun (a, b, c, d) next ex => ab8 a b c d (zu5 next) (zu5 ex)
def zm5 {ρ : Type} := shut (lp (zs5 (ρ := ρ)))
theorem ze5 {ρ : Type} : zm5 (ρ := ρ) = lp zs5 := bq _
def zk5 {ρ : Type} (f : adj zt5 zy5 ρ) (a : List (List Int)) (b c : Int) (d : List Int) (e : zc5 ρ) : Option ρ := f (a, b, c, d) (fun (a, b, c, d) => e a b c d)
def afh {ρ : Type} := zk5 (lp (zs5 (ρ := ρ)))
def afl {ρ : Type} := zk5 (zm5 (ρ := ρ))
theorem ajl {ρ : Type} : afl (ρ := ρ) = afh := congrArg zk5 ze5
def ab2 {ρ : Type} (a : List (List Int)) (k : (List Int) → Option ρ) : Option ρ := agv a 0 a (↑a.length : Int) 0 fun b c f g h => o8 c fun d => afl b (↑b.length : Int) 0 d fun i j l e => k e
def jk {ρ : Type} := shut (ab2 (ρ := ρ))
theorem agp {ρ : Type} (a : List (List Int)) (k : (List Int) → Option ρ) : jk a k = ab2 a k := by unfold jk; rw [bq]

def akq {ρ : Type} (a : List (List Int)) (k : (List Int) → Option ρ) : Option ρ := jk a fun b => k b
def j6 {ρ : Type} := shut (akq (ρ := ρ))
theorem at7 {ρ : Type} (a : List (List Int)) (k : (List Int) → Option ρ) : j6 a k = akq a k := by unfold j6; rw [bq]

abbrev zc6 (ρ : Type) := Int → Int → Int → (List Int) → Option ρ
def atm {ρ : Type} (c b a : Int) (d : List Int) (nx e : zc6 ρ) : Option ρ := br (decide (a < b)) (br (decide (IntKind.i64.wrap (8 * a) < 0)) none (br (decide (0 ≤ a)) (br (decide (a < (↑d.length : Int))) (nx c b (IntKind.i64.wrap (a + 1)) (d.set a.toNat (IntKind.u8.wrap (c.fdiv (2 ^ min (IntKind.i64.wrap (8 * a)).toNat 64))))) none) none)) (e c b a d)
abbrev zt6 := Int × Int × Int × (List Int)
abbrev zy6 := zt6
def zu6 {ρ : Type} (f : zt6 → Option ρ) : zc6 ρ := fun c a b d => f (c, a, b, d)
def zs6 {ρ : Type} : adk zt6 zy6 ρ := fun (c, a, b, d) next ex => atm c a b d (zu6 next) (zu6 ex)
def zm6 {ρ : Type} := shut (lp (zs6 (ρ := ρ)))
theorem ze6 {ρ : Type} : zm6 (ρ := ρ) = lp zs6 := bq _
def zk6 {ρ : Type} (f : adj zt6 zy6 ρ) (c a b : Int) (d : List Int) (e : zc6 ρ) : Option ρ := f (c, a, b, d) (fun (c, a, b, d) => e c a b d)
def azm {ρ : Type} := zk6 (lp (zs6 (ρ := ρ)))
def ay4 {ρ : Type} := zk6 (zm6 (ρ := ρ))
theorem bcq {ρ : Type} : ay4 (ρ := ρ) = azm := congrArg zk6 ze6
def ap0 {ρ : Type} (b a : Int) (k : (List Int) → Option ρ) : Option ρ := br (decide (a < 0)) (k []) (br (decide (a > 65536)) (k []) (br (decide (0 ≤ a)) (br (decide (a ≤ a)) (br (decide (a * (↑1 : Int) ≤ (↑140737488355328 : Int))) (ay4 b (bif decide (8 < a) then 8 else a) 0 (List.replicate a.toNat (0 : Int)) fun d e f c => k c) none) none) none))
def af0 {ρ : Type} := shut (ap0 (ρ := ρ))
theorem bat {ρ : Type} (a : Int) (b : Int) (k : (List Int) → Option ρ) : af0 a b k = ap0 a b k := by unfold af0; rw [bq]

abbrev zc7 (ρ : Type) := Int → Int → (List Int) → Option ρ
def amw {ρ : Type} (a b : Int) (c : List Int) (nx d : zc7 ρ) : Option ρ := br (decide (a < b)) (br (decide (0 ≤ b)) (br (decide (b < (↑c.length : Int))) (br (decide (0 ≤ a)) (br (decide (a < (↑c.length : Int))) (br (decide (0 ≤ a)) (br (decide (a < (↑c.length : Int))) (br (decide (0 ≤ b)) (br (decide (b < (↑(c.set a.toNat (c.getD b.toNat 0)).length : Int))) (nx (IntKind.i64.wrap (a + 1)) (IntKind.i64.wrap (b - 1)) ((c.set a.toNat (c.getD b.toNat 0)).set b.toNat (c.getD a.toNat 0))) none) none) none) none) none) none) none) none) (d a b c)
abbrev zt7 := Int × Int × (List Int)
abbrev zy7 := zt7
def zu7 {ρ : Type} (f : zt7 → Option ρ) : zc7 ρ := fun a b c => f (a, b, c)
def zs7 {ρ : Type} : adk zt7 zy7 ρ := fun (a, b, c) next ex => amw a b c (zu7 next) (zu7 ex)
def zm7 {ρ : Type} := shut (lp (zs7 (ρ := ρ)))
theorem ze7 {ρ : Type} : zm7 (ρ := ρ) = lp zs7 := bq _
def zk7 {ρ : Type} (f : adj zt7 zy7 ρ) (a b : Int) (c : List Int) (d : zc7 ρ) : Option ρ := f (a, b, c) (fun (a, b, c) => d a b c)
def aus {ρ : Type} := zk7 (lp (zs7 (ρ := ρ)))
def auk {ρ : Type} := zk7 (zm7 (ρ := ρ))
theorem ayh {ρ : Type} : auk (ρ := ρ) = aus := congrArg zk7 ze7
def ao8 {ρ : Type} (b c : Int) (k : (List Int) → Option ρ) : Option ρ := af0 b c fun a => auk 0 (IntKind.i64.wrap ((↑a.length : Int) - 1)) a fun e f d => k d
def yc {ρ : Type} := shut (ao8 (ρ := ρ))
theorem azi {ρ : Type} (a : Int) (b : Int) (k : (List Int) → Option ρ) : yc a b k = ao8 a b k := by unfold yc; rw [bq]

def amr {ρ : Type} (b : List Int) (a c : Int) (k : (List Int) → Option ρ) : Option ρ := br (a == 0) (yc c 4 fun d => k ((List.take 4 d).append (List.drop (0 + min 4 d.length) b))) (br (a == 1) (yc c 12 fun e => k ((List.take 4 b).append (List.take 12 e ++ List.drop (4 + min 12 e.length) b))) (br (a == 2) (yc c 4 fun j => j6 [j, List.replicate 12 (0 : Int)] fun f => k ((List.take 16 b).append (List.take 16 f ++ List.drop (16 + min 16 f.length) b))) (br (a == 3) (br (a == 3) (br (decide (0 ≤ IntKind.i64.wrap (8 + IntKind.i64.wrap (4 * a)))) (br (decide (IntKind.i64.wrap (8 + IntKind.i64.wrap (4 * a)) ≤ (↑32 : Int))) (yc c 4 fun g => k ((List.take (IntKind.i64.wrap (8 + IntKind.i64.wrap (4 * a))).toNat b).append (List.take ((↑32 : Int) - IntKind.i64.wrap (8 + IntKind.i64.wrap (4 * a))).toNat g ++ List.drop ((IntKind.i64.wrap (8 + IntKind.i64.wrap (4 * a))).toNat + min ((↑32 : Int) - IntKind.i64.wrap (8 + IntKind.i64.wrap (4 * a))).toNat g.length) b))) none) none) (k b)) (br (a == 4) (br (a == 4) (br (decide (0 ≤ IntKind.i64.wrap (8 + IntKind.i64.wrap (4 * a)))) (br (decide (IntKind.i64.wrap (8 + IntKind.i64.wrap (4 * a)) ≤ (↑32 : Int))) (yc c 4 fun h => k ((List.take (IntKind.i64.wrap (8 + IntKind.i64.wrap (4 * a))).toNat b).append (List.take ((↑32 : Int) - IntKind.i64.wrap (8 + IntKind.i64.wrap (4 * a))).toNat h ++ List.drop ((IntKind.i64.wrap (8 + IntKind.i64.wrap (4 * a))).toNat + min ((↑32 : Int) - IntKind.i64.wrap (8 + IntKind.i64.wrap (4 * a))).toNat h.length) b))) none) none) (k b)) (br (a == 5) (br (decide (0 ≤ IntKind.i64.wrap (8 + IntKind.i64.wrap (4 * a)))) (br (decide (IntKind.i64.wrap (8 + IntKind.i64.wrap (4 * a)) ≤ (↑32 : Int))) (yc c 4 fun i => k ((List.take (IntKind.i64.wrap (8 + IntKind.i64.wrap (4 * a))).toNat b).append (List.take ((↑32 : Int) - IntKind.i64.wrap (8 + IntKind.i64.wrap (4 * a))).toNat i ++ List.drop ((IntKind.i64.wrap (8 + IntKind.i64.wrap (4 * a))).toNat + min ((↑32 : Int) - IntKind.i64.wrap (8 + IntKind.i64.wrap (4 * a))).toNat i.length) b))) none) none) (k b))))))
def iy {ρ : Type} := shut (amr (ρ := ρ))
theorem av2 {ρ : Type} (a : List Int) (b : Int) (c : Int) (k : (List Int) → Option ρ) : iy a b c k = amr a b c k := by unfold iy; rw [bq]

def aey {ρ : Type} (d e f g h : Int) (a : Bool) (c i b : List Int) (j : Int) (k : (List Int) → Option ρ) : Option ρ := iy b 2 0 fun l => iy l 3 j fun m => k m
def nk {ρ : Type} := shut (aey (ρ := ρ))
theorem akd {ρ : Type} (c : Int) (d : Int) (e : Int) (f : Int) (g : Int) (a : Bool) (b : List Int) (h : List Int) (i : List Int) (j : Int) (k : (List Int) → Option ρ) : nk c d e f g a b h i j k = aey c d e f g a b h i j k := by unfold nk; rw [bq]

def aiu {ρ : Type} (a : Int) (k : Int → Option ρ) : Option ρ := br (a == 4) (br (a == 4) (k 136) (br (a == 5) (k 72) (br (a == 6) (k 168) (k 0)))) (br (a == 7) (k 136) (br (a == 5) (k 72) (br (a == 6) (k 168) (k 0))))
def l8 {ρ : Type} := shut (aiu (ρ := ρ))
theorem aol {ρ : Type} (a : Int) (k : Int → Option ρ) : l8 a k = aiu a k := by unfold l8; rw [bq]

def aju {ρ : Type} (a : Int) (k : Int → (List Int) → Int → Bool → Int → Option ρ) : Option ρ := l8 a fun b => br (b == 0) (k 0 [0, 0, 0, 0, 0, 0, 0, 0, 0, 0, 0, 0, 0, 0, 0, 0, 0, 0, 0, 0, 0, 0, 0, 0, 0] 0 false 9) (k a [0, 0, 0, 0, 0, 0, 0, 0, 0, 0, 0, 0, 0, 0, 0, 0, 0, 0, 0, 0, 0, 0, 0, 0, 0] 0 false 0)
def aek {ρ : Type} := shut (aju (ρ := ρ))
theorem ash {ρ : Type} (a : Int) (k : Int → (List Int) → Int → Bool → Int → Option ρ) : aek a k = aju a k := by unfold aek; rw [bq]

def oq {ρ : Type} (b a : Int) (k : Int → Option ρ) : Option ρ := br (decide (IntKind.u64.wrap (64 - bits BinOp.and IntKind.u64 (IntKind.u64.wrap a) 63) < 0)) none (k (bits BinOp.or IntKind.u64 (IntKind.u64.wrap (b * 2 ^ min (bits BinOp.and IntKind.u64 (IntKind.u64.wrap a) 63).toNat 64)) (b.fdiv (2 ^ min (IntKind.u64.wrap (64 - bits BinOp.and IntKind.u64 (IntKind.u64.wrap a) 63)).toNat 64))))
def jg {ρ : Type} := shut (oq (ρ := ρ))
theorem rz {ρ : Type} (a : Int) (b : Int) (k : Int → Option ρ) : jg a b k = oq a b k := by unfold jg; rw [bq]

abbrev zc8 (ρ : Type) := Int → (List Int) → (List Int) → (List Int) → Option ρ
def ain {ρ : Type} (a : Int) (c b d : List Int) (nx e : zc8 ρ) : Option ρ := br (decide (a < 5)) (br (decide (0 ≤ a)) (br (decide (a < (↑25 : Int))) (br (decide (0 ≤ IntKind.i64.wrap (a + 5))) (br (decide (IntKind.i64.wrap (a + 5) < (↑25 : Int))) (br (decide (0 ≤ IntKind.i64.wrap (a + 10))) (br (decide (IntKind.i64.wrap (a + 10) < (↑25 : Int))) (br (decide (0 ≤ IntKind.i64.wrap (a + 15))) (br (decide (IntKind.i64.wrap (a + 15) < (↑25 : Int))) (br (decide (0 ≤ IntKind.i64.wrap (a + 20))) (br (decide (IntKind.i64.wrap (a + 20) < (↑25 : Int))) (br (decide (0 ≤ a)) (br (decide (a < (↑5 : Int))) (nx (IntKind.i64.wrap (a + 1)) c b (d.set a.toNat (bits BinOp.xor IntKind.u64 (bits BinOp.xor IntKind.u64 (bits BinOp.xor IntKind.u64 (bits BinOp.xor IntKind.u64 (b.getD a.toNat 0) (b.getD (IntKind.i64.wrap (a + 5)).toNat 0)) (b.getD (IntKind.i64.wrap (a + 10)).toNat 0)) (b.getD (IntKind.i64.wrap (a + 15)).toNat 0)) (b.getD (IntKind.i64.wrap (a + 20)).toNat 0)))) none) none) none) none) none) none) none) none) none) none) none) none) (e a c b d)
abbrev zt8 := Int × (List Int) × (List Int) × (List Int)
abbrev zy8 := zt8
def zu8 {ρ : Type} (f : zt8 → Option ρ) : zc8 ρ := fun d a b c => f (d, a, b, c)
def zs8 {ρ : Type} : adk zt8 zy8 ρ := fun (d, a, b, c) next ex => ain d a b c (zu8 next) (zu8 ex)
def zm8 {ρ : Type} := shut (lp (zs8 (ρ := ρ)))
theorem ze8 {ρ : Type} : zm8 (ρ := ρ) = lp zs8 := bq _
def zk8 {ρ : Type} (f : adj zt8 zy8 ρ) (d : Int) (a b c : List Int) (e : zc8 ρ) : Option ρ := f (d, a, b, c) (fun (d, a, b, c) => e d a b c)
def aif {ρ : Type} := zk8 (lp (zs8 (ρ := ρ)))
def aed {ρ : Type} := zk8 (zm8 (ρ := ρ))
theorem al8 {ρ : Type} : aed (ρ := ρ) = aif := congrArg zk8 ze8
abbrev zc9 (ρ : Type) := Int → Int → Int → Int → Int → (List Int) → (List Int) → (List Int) → (List Int) → Option ρ
def abn {ρ : Type} (i b h a g : Int) (d e f c : List Int) (nx j : zc9 ρ) : Option ρ := br (decide (a < 25)) (br (decide (0 ≤ IntKind.i64.wrap (b + a))) (br (decide (IntKind.i64.wrap (b + a) < (↑25 : Int))) (br (decide (0 ≤ IntKind.i64.wrap (b + a))) (br (decide (IntKind.i64.wrap (b + a) < (↑25 : Int))) (nx i b h (IntKind.i64.wrap (a + 5)) g d e f (c.set (IntKind.i64.wrap (b + a)).toNat (bits BinOp.xor IntKind.u64 (c.getD (IntKind.i64.wrap (b + a)).toNat 0) h))) none) none) none) none) (j i b h a g d e f c)
abbrev zt9 := Int × Int × Int × Int × Int × (List Int) × (List Int) × (List Int) × (List Int)
abbrev zy9 := zt9
def zu9 {ρ : Type} (f : zt9 → Option ρ) : zc9 ρ := fun g h i j e a b c d => f (g, h, i, j, e, a, b, c, d)
def zs9 {ρ : Type} : adk zt9 zy9 ρ := fun (f, g, h, i, e, a, b, c, d) next ex => abn f g h i e a b c d (zu9 next) (zu9 ex)
def zm9 {ρ : Type} := shut (lp (zs9 (ρ := ρ)))
theorem ze9 {ρ : Type} : zm9 (ρ := ρ) = lp zs9 := bq _
def zk9 {ρ : Type} (f : adj zt9 zy9 ρ) (g h i j e : Int) (a b c d : List Int) (k : zc9 ρ) : Option ρ := f (g, h, i, j, e, a, b, c, d) (fun (g, h, i, j, e, a, b, c, d) => k g h i j e a b c d)
def abt {ρ : Type} := zk9 (lp (zs9 (ρ := ρ)))
def ah2 {ρ : Type} := zk9 (zm9 (ρ := ρ))
theorem ab5 {ρ : Type} : ah2 (ρ := ρ) = abt := congrArg zk9 ze9
abbrev bwb (ρ : Type) := Int → Int → (List Int) → (List Int) → (List Int) → (List Int) → Option ρ
def ah9 {ρ : Type} (f a : Int) (c d e b : List Int) (nx g : bwb ρ) : Option ρ := br (decide (a < 5)) (br (decide (0 ≤ (IntKind.i64.wrap (a + 4)).tmod 5)) (br (decide ((IntKind.i64.wrap (a + 4)).tmod 5 < (↑5 : Int))) (br (decide (0 ≤ (IntKind.i64.wrap (a + 1)).tmod 5)) (br (decide ((IntKind.i64.wrap (a + 1)).tmod 5 < (↑5 : Int))) (jg (b.getD ((IntKind.i64.wrap (a + 1)).tmod 5).toNat 0) 1 fun h => ah2 f a (bits BinOp.xor IntKind.u64 (b.getD ((IntKind.i64.wrap (a + 4)).tmod 5).toNat 0) h) 0 a b e d c fun i o p q j k l m n => nx i (IntKind.i64.wrap (j + 1)) n m l k) none) none) none) none) (g f a c d e b)
abbrev bta := Int × Int × (List Int) × (List Int) × (List Int) × (List Int)
abbrev b5v := bta
def b6r {ρ : Type} (f : bta → Option ρ) : bwb ρ := fun g e a b c d => f (g, e, a, b, c, d)
def bxb {ρ : Type} : adk bta b5v ρ := fun (f, e, a, b, c, d) next ex => ah9 f e a b c d (b6r next) (b6r ex)
def b5j {ρ : Type} := shut (lp (bxb (ρ := ρ)))
theorem b8i {ρ : Type} : b5j (ρ := ρ) = lp bxb := bq _
def bzq {ρ : Type} (f : adj bta b5v ρ) (g e : Int) (a b c d : List Int) (h : bwb ρ) : Option ρ := f (g, e, a, b, c, d) (fun (g, e, a, b, c, d) => h g e a b c d)
def aio {ρ : Type} := bzq (lp (bxb (ρ := ρ)))
def aeh {ρ : Type} := bzq (b5j (ρ := ρ))
theorem ama {ρ : Type} : aeh (ρ := ρ) = aio := congrArg bzq b8i
abbrev b4u (ρ : Type) := Int → Int → (List Int) → Int → (List Int) → (List Int) → (List Int) → (List Int) → Option ρ
def ahh {ρ : Type} (g h : Int) (b : List Int) (a : Int) (d e f c : List Int) (nx i : b4u ρ) : Option ρ := br (decide (a < 24)) (br (decide (0 ≤ a)) (br (decide (a < (↑24 : Int))) (br (decide (0 ≤ a)) (br (decide (a < (↑24 : Int))) (jg h (by2.getD a.toNat 0) fun j => br (decide (0 ≤ b.getD a.toNat 0)) (br (decide (b.getD a.toNat 0 < (↑25 : Int))) (br (decide (0 ≤ b.getD a.toNat 0)) (br (decide (b.getD a.toNat 0 < (↑25 : Int))) (nx g (c.getD (b.getD a.toNat 0).toNat 0) b (IntKind.i64.wrap (a + 1)) d e f (c.set (b.getD a.toNat 0).toNat j)) none) none) none) none) none) none) none) none) (i g h b a d e f c)
abbrev bth := Int × Int × (List Int) × Int × (List Int) × (List Int) × (List Int) × (List Int)
abbrev b5s := bth
def b26 {ρ : Type} (f : bth → Option ρ) : b4u ρ := fun h i e g a b c d => f (h, i, e, g, a, b, c, d)
def bvg {ρ : Type} : adk bth b5s ρ := fun (g, h, e, f, a, b, c, d) next ex => ahh g h e f a b c d (b26 next) (b26 ex)
def b2p {ρ : Type} := shut (lp (bvg (ρ := ρ)))
theorem b9a {ρ : Type} : b2p (ρ := ρ) = lp bvg := bq _
def bze {ρ : Type} (f : adj bth b5s ρ) (h i : Int) (e : List Int) (g : Int) (a b c d : List Int) (j : b4u ρ) : Option ρ := f (h, i, e, g, a, b, c, d) (fun (h, i, e, g, a, b, c, d) => j h i e g a b c d)
def ahe {ρ : Type} := bze (lp (bvg (ρ := ρ)))
def ad1 {ρ : Type} := bze (b2p (ρ := ρ))
theorem alk {ρ : Type} : ad1 (ρ := ρ) = ahe := congrArg bze b9a
abbrev b0o (ρ : Type) := Int → Int → Int → (List Int) → (List Int) → (List Int) → (List Int) → (List Int) → Option ρ
def aa2 {ρ : Type} (h c a : Int) (d e f g b : List Int) (nx i : b0o ρ) : Option ρ := br (decide (a < 5)) (br (decide (0 ≤ a)) (br (decide (a < (↑5 : Int))) (br (decide (0 ≤ (IntKind.i64.wrap (a + 2)).tmod 5)) (br (decide ((IntKind.i64.wrap (a + 2)).tmod 5 < (↑5 : Int))) (br (decide (0 ≤ (IntKind.i64.wrap (a + 1)).tmod 5)) (br (decide ((IntKind.i64.wrap (a + 1)).tmod 5 < (↑5 : Int))) (br (decide (0 ≤ IntKind.i64.wrap (c + a))) (br (decide (IntKind.i64.wrap (c + a) < (↑25 : Int))) (nx h c (IntKind.i64.wrap (a + 1)) d e f (g.set (IntKind.i64.wrap (c + a)).toNat (bits BinOp.xor IntKind.u64 (b.getD a.toNat 0) (bits BinOp.andNot IntKind.u64 (b.getD ((IntKind.i64.wrap (a + 2)).tmod 5).toNat 0) (b.getD ((IntKind.i64.wrap (a + 1)).tmod 5).toNat 0)))) b) none) none) none) none) none) none) none) none) (i h c a d e f g b)
abbrev bvo := Int × Int × Int × (List Int) × (List Int) × (List Int) × (List Int) × (List Int)
abbrev b4x := bvo
def bvz {ρ : Type} (f : bvo → Option ρ) : b0o ρ := fun i g h a b c d e => f (i, g, h, a, b, c, d, e)
def zs12 {ρ : Type} : adk bvo b4x ρ := fun (h, f, g, a, b, c, d, e) next ex => aa2 h f g a b c d e (bvz next) (bvz ex)
def b0i {ρ : Type} := shut (lp (zs12 (ρ := ρ)))
theorem b8x {ρ : Type} : b0i (ρ := ρ) = lp zs12 := bq _
def bsl {ρ : Type} (f : adj bvo b4x ρ) (i g h : Int) (a b c d e : List Int) (j : b0o ρ) : Option ρ := f (i, g, h, a, b, c, d, e) (fun (i, g, h, a, b, c, d, e) => j i g h a b c d e)
def aa0 {ρ : Type} := bsl (lp (zs12 (ρ := ρ)))
def ahj {ρ : Type} := bsl (b0i (ρ := ρ))
theorem abm {ρ : Type} : ahj (ρ := ρ) = aa0 := congrArg bsl b8x
abbrev zc13 (ρ : Type) := Int → Int → (List Int) → (List Int) → (List Int) → (List Int) → Option ρ
def ahc {ρ : Type} (f a : Int) (b c d e : List Int) (nx g : bwb ρ) : Option ρ := br (decide (a < 25)) (br (decide (0 ≤ a)) (br (decide (a ≤ IntKind.i64.wrap (a + 5))) (br (decide (IntKind.i64.wrap (a + 5) ≤ (↑25 : Int))) (br (decide (5 ≤ (IntKind.i64.wrap (a + 5) - a).toNat)) (br (decide (a.toNat + 5 ≤ 25)) (ahj f a 0 e d c b (List.take 5 (List.drop a.toNat b)) fun h i n j k l m o => nx h (IntKind.i64.wrap (i + 5)) m l k j) none) none) none) none) none) (g f a b c d e)
abbrev btr := Int × Int × (List Int) × (List Int) × (List Int) × (List Int)
abbrev b7f := btr
def b0p {ρ : Type} (f : btr → Option ρ) : zc13 ρ := fun g e a b c d => f (g, e, a, b, c, d)
def btq {ρ : Type} : adk btr b7f ρ := fun (f, e, a, b, c, d) next ex => ahc f e a b c d (b0p next) (b0p ex)
def b6h {ρ : Type} := shut (lp (btq (ρ := ρ)))
theorem b9c {ρ : Type} : b6h (ρ := ρ) = lp btq := bq _
def bzc {ρ : Type} (f : adj btr b7f ρ) (g e : Int) (a b c d : List Int) (h : bwb ρ) : Option ρ := f (g, e, a, b, c, d) (fun (g, e, a, b, c, d) => h g e a b c d)
def ahg {ρ : Type} := bzc (lp (btq (ρ := ρ)))
def adx {ρ : Type} := bzc (b6h (ρ := ρ))
theorem ak4 {ρ : Type} : adx (ρ := ρ) = ahg := congrArg bzc b9c
abbrev b0d (ρ : Type) := (List Int) → Int → (List Int) → (List Int) → Option ρ
def afm {ρ : Type} (e : List Int) (a : Int) (b c : List Int) (nx o : b0d ρ) : Option ρ := br (decide (a < 24)) (br (decide (0 ≤ a)) (br (decide (a < (↑24 : Int))) (aed 0 c b [0, 0, 0, 0, 0] fun C p q f => aeh (e.getD a.toNat 0) 0 q p f f fun r F g s t u => ad1 r (g.getD 1 0) bso 0 u t s g fun h v w y i j k l => adx h 0 l k j i fun m z d n A B => nx e (IntKind.i64.wrap (a + 1)) (d.set 0 (bits BinOp.xor IntKind.u64 (d.getD 0 0) m)) n) none) none) (o e a b c)
abbrev bx3 := (List Int) × Int × (List Int) × (List Int)
abbrev b08 := bx3
def b60 {ρ : Type} (f : bx3 → Option ρ) : b0d ρ := fun c d a b => f (c, d, a, b)
def bvm {ρ : Type} : adk bx3 b08 ρ := fun (c, d, a, b) next ex => afm c d a b (b60 next) (b60 ex)
def b7x {ρ : Type} := shut (lp (bvm (ρ := ρ)))
theorem b80 {ρ : Type} : b7x (ρ := ρ) = lp bvm := bq _
def bza {ρ : Type} (f : adj bx3 b08 ρ) (c : List Int) (d : Int) (a b : List Int) (e : b0d ρ) : Option ρ := f (c, d, a, b) (fun (c, d, a, b) => e c d a b)
def aj5 {ρ : Type} := bza (lp (bvm (ρ := ρ)))
def akh {ρ : Type} := bza (b7x (ρ := ρ))
theorem aoc {ρ : Type} : akh (ρ := ρ) = aj5 := congrArg bza b80
def aex {ρ : Type} (a : List Int) (k : (List Int) → Option ρ) : Option ρ := akh bjs 0 a [0, 0, 0, 0, 0, 0, 0, 0, 0, 0, 0, 0, 0, 0, 0, 0, 0, 0, 0, 0, 0, 0, 0, 0, 0] fun c d b e => k b
def jd {ρ : Type} := shut (aex (ρ := ρ))
theorem aki {ρ : Type} (a : List Int) (k : (List Int) → Option ρ) : jd a k = aex a k := by unfold jd; rw [bq]

abbrev b3o (ρ : Type) := (List Int) → Int → Int → Int → Int → (List Int) → Int → Bool → Int → (List Int) → Int → Bool → Option ρ
def ag8 {ρ : Type} (k : List Int) (l j b d : Int) (c : List Int) (a : Int) (e : Bool) (f : Int) (g : List Int) (h : Int) (i : Bool) (nx m : b3o ρ) : Option ρ := br (decide (b < j)) (br (decide (0 ≤ b)) (br (decide (b < (↑k.length : Int))) (br (decide (0 ≤ IntKind.i64.wrap (a.tdiv 8))) (br (decide (IntKind.i64.wrap (a.tdiv 8) < (↑25 : Int))) (br (decide (IntKind.i64.wrap (8 * a.tmod 8) < 0)) none (br (decide (0 ≤ IntKind.i64.wrap (a.tdiv 8))) (br (decide (IntKind.i64.wrap (a.tdiv 8) < (↑25 : Int))) (br (IntKind.i64.wrap (a + 1) == l) (jd (c.set (IntKind.i64.wrap (a.tdiv 8)).toNat (bits BinOp.xor IntKind.u64 (c.getD (IntKind.i64.wrap (a.tdiv 8)).toNat 0) (IntKind.u64.wrap (IntKind.u64.wrap (k.getD b.toNat 0) * 2 ^ min (IntKind.i64.wrap (8 * a.tmod 8)).toNat 64)))) fun n => nx k l j (IntKind.i64.wrap (b + 1)) d n 0 e f g h i) (nx k l j (IntKind.i64.wrap (b + 1)) d (c.set (IntKind.i64.wrap (a.tdiv 8)).toNat (bits BinOp.xor IntKind.u64 (c.getD (IntKind.i64.wrap (a.tdiv 8)).toNat 0) (IntKind.u64.wrap (IntKind.u64.wrap (k.getD b.toNat 0) * 2 ^ min (IntKind.i64.wrap (8 * a.tmod 8)).toNat 64)))) (IntKind.i64.wrap (a + 1)) e f g h i)) none) none)) none) none) none) none) (m k l j b d c a e f g h i)
abbrev btg := (List Int) × Int × Int × Int × Int × (List Int) × Int × Bool × Int × (List Int) × Int × Bool
abbrev b6f := btg
def b1j {ρ : Type} (f : btg → Option ρ) : b3o ρ := fun l m j k a b c d e g h i => f (l, m, j, k, a, b, c, d, e, g, h, i)
def bya {ρ : Type} : adk btg b6f ρ := fun (k, l, i, j, a, b, c, d, e, f, g, h) next ex => ag8 k l i j a b c d e f g h (b1j next) (b1j ex)
def b2c {ρ : Type} := shut (lp (bya (ρ := ρ)))
theorem b8u {ρ : Type} : b2c (ρ := ρ) = lp bya := bq _
def bzm {ρ : Type} (f : adj btg b6f ρ) (l : List Int) (m j k a : Int) (b : List Int) (c : Int) (d : Bool) (e : Int) (g : List Int) (h : Int) (i : Bool) (n : b3o ρ) : Option ρ := f (l, m, j, k, a, b, c, d, e, g, h, i) (fun (l, m, j, k, a, b, c, d, e, g, h, i) => n l m j k a b c d e g h i)
def al4 {ρ : Type} := bzm (lp (bya (ρ := ρ)))
def alu {ρ : Type} := bzm (b2c (ρ := ρ))
theorem aqb {ρ : Type} : alu (ρ := ρ) = al4 := congrArg bzm b8u
def afn {ρ : Type} (a : Int) (b : List Int) (d : Int) (c : Bool) (e : List Int) (k : Int → (List Int) → Int → Bool → Option ρ) : Option ρ := br c (k a b d c) (l8 a fun f => alu e f (↑e.length : Int) 0 a b d c 0 [0, 0, 0, 0, 0, 0, 0, 0, 0, 0, 0, 0, 0, 0, 0, 0, 0, 0, 0, 0, 0, 0, 0, 0, 0] 0 false fun o p q r g h i j s l m n => k g h i j)
def o7 {ρ : Type} := shut (afn (ρ := ρ))
theorem al2 {ρ : Type} (b : Int) (a : List Int) (d : Int) (c : Bool) (e : List Int) (k : Int → (List Int) → Int → Bool → Option ρ) : o7 b a d c e k = afn b a d c e k := by unfold o7; rw [bq]

def af2 {ρ : Type} (c : Int) (b : List Int) (a : Int) (g : Bool) (k : Int → (List Int) → Int → Bool → Option ρ) : Option ρ := br (c == 4) (br (decide (0 ≤ IntKind.i64.wrap (a.tdiv 8))) (br (decide (IntKind.i64.wrap (a.tdiv 8) < (↑25 : Int))) (br (decide (IntKind.i64.wrap (8 * a.tmod 8) < 0)) none (br (decide (0 ≤ IntKind.i64.wrap (a.tdiv 8))) (br (decide (IntKind.i64.wrap (a.tdiv 8) < (↑25 : Int))) (l8 c fun d => br (decide (0 ≤ IntKind.i64.wrap ((IntKind.i64.wrap (d - 1)).tdiv 8))) (br (decide (IntKind.i64.wrap ((IntKind.i64.wrap (d - 1)).tdiv 8) < (↑25 : Int))) (br (decide (IntKind.i64.wrap (8 * (IntKind.i64.wrap (d - 1)).tmod 8) < 0)) none (br (decide (0 ≤ IntKind.i64.wrap ((IntKind.i64.wrap (d - 1)).tdiv 8))) (br (decide (IntKind.i64.wrap ((IntKind.i64.wrap (d - 1)).tdiv 8) < (↑25 : Int))) (jd ((b.set (IntKind.i64.wrap (a.tdiv 8)).toNat (bits BinOp.xor IntKind.u64 (b.getD (IntKind.i64.wrap (a.tdiv 8)).toNat 0) (IntKind.u64.wrap (IntKind.u64.wrap 6 * 2 ^ min (IntKind.i64.wrap (8 * a.tmod 8)).toNat 64)))).set (IntKind.i64.wrap ((IntKind.i64.wrap (d - 1)).tdiv 8)).toNat (bits BinOp.xor IntKind.u64 ((b.set (IntKind.i64.wrap (a.tdiv 8)).toNat (bits BinOp.xor IntKind.u64 (b.getD (IntKind.i64.wrap (a.tdiv 8)).toNat 0) (IntKind.u64.wrap (IntKind.u64.wrap 6 * 2 ^ min (IntKind.i64.wrap (8 * a.tmod 8)).toNat 64)))).getD (IntKind.i64.wrap ((IntKind.i64.wrap (d - 1)).tdiv 8)).toNat 0) (IntKind.u64.wrap (IntKind.u64.wrap 128 * 2 ^ min (IntKind.i64.wrap (8 * (IntKind.i64.wrap (d - 1)).tmod 8)).toNat 64)))) fun h => k c h 0 true) none) none)) none) none) none) none)) none) none) (br (c == 5) (br (decide (0 ≤ IntKind.i64.wrap (a.tdiv 8))) (br (decide (IntKind.i64.wrap (a.tdiv 8) < (↑25 : Int))) (br (decide (IntKind.i64.wrap (8 * a.tmod 8) < 0)) none (br (decide (0 ≤ IntKind.i64.wrap (a.tdiv 8))) (br (decide (IntKind.i64.wrap (a.tdiv 8) < (↑25 : Int))) (l8 c fun e => br (decide (0 ≤ IntKind.i64.wrap ((IntKind.i64.wrap (e - 1)).tdiv 8))) (br (decide (IntKind.i64.wrap ((IntKind.i64.wrap (e - 1)).tdiv 8) < (↑25 : Int))) (br (decide (IntKind.i64.wrap (8 * (IntKind.i64.wrap (e - 1)).tmod 8) < 0)) none (br (decide (0 ≤ IntKind.i64.wrap ((IntKind.i64.wrap (e - 1)).tdiv 8))) (br (decide (IntKind.i64.wrap ((IntKind.i64.wrap (e - 1)).tdiv 8) < (↑25 : Int))) (jd ((b.set (IntKind.i64.wrap (a.tdiv 8)).toNat (bits BinOp.xor IntKind.u64 (b.getD (IntKind.i64.wrap (a.tdiv 8)).toNat 0) (IntKind.u64.wrap (IntKind.u64.wrap 6 * 2 ^ min (IntKind.i64.wrap (8 * a.tmod 8)).toNat 64)))).set (IntKind.i64.wrap ((IntKind.i64.wrap (e - 1)).tdiv 8)).toNat (bits BinOp.xor IntKind.u64 ((b.set (IntKind.i64.wrap (a.tdiv 8)).toNat (bits BinOp.xor IntKind.u64 (b.getD (IntKind.i64.wrap (a.tdiv 8)).toNat 0) (IntKind.u64.wrap (IntKind.u64.wrap 6 * 2 ^ min (IntKind.i64.wrap (8 * a.tmod 8)).toNat 64)))).getD (IntKind.i64.wrap ((IntKind.i64.wrap (e - 1)).tdiv 8)).toNat 0) (IntKind.u64.wrap (IntKind.u64.wrap 128 * 2 ^ min (IntKind.i64.wrap (8 * (IntKind.i64.wrap (e - 1)).tmod 8)).toNat 64)))) fun i => k c i 0 true) none) none)) none) none) none) none)) none) none) (br (decide (0 ≤ IntKind.i64.wrap (a.tdiv 8))) (br (decide (IntKind.i64.wrap (a.tdiv 8) < (↑25 : Int))) (br (decide (IntKind.i64.wrap (8 * a.tmod 8) < 0)) none (br (decide (0 ≤ IntKind.i64.wrap (a.tdiv 8))) (br (decide (IntKind.i64.wrap (a.tdiv 8) < (↑25 : Int))) (l8 c fun f => br (decide (0 ≤ IntKind.i64.wrap ((IntKind.i64.wrap (f - 1)).tdiv 8))) (br (decide (IntKind.i64.wrap ((IntKind.i64.wrap (f - 1)).tdiv 8) < (↑25 : Int))) (br (decide (IntKind.i64.wrap (8 * (IntKind.i64.wrap (f - 1)).tmod 8) < 0)) none (br (decide (0 ≤ IntKind.i64.wrap ((IntKind.i64.wrap (f - 1)).tdiv 8))) (br (decide (IntKind.i64.wrap ((IntKind.i64.wrap (f - 1)).tdiv 8) < (↑25 : Int))) (jd ((b.set (IntKind.i64.wrap (a.tdiv 8)).toNat (bits BinOp.xor IntKind.u64 (b.getD (IntKind.i64.wrap (a.tdiv 8)).toNat 0) (IntKind.u64.wrap (IntKind.u64.wrap 31 * 2 ^ min (IntKind.i64.wrap (8 * a.tmod 8)).toNat 64)))).set (IntKind.i64.wrap ((IntKind.i64.wrap (f - 1)).tdiv 8)).toNat (bits BinOp.xor IntKind.u64 ((b.set (IntKind.i64.wrap (a.tdiv 8)).toNat (bits BinOp.xor IntKind.u64 (b.getD (IntKind.i64.wrap (a.tdiv 8)).toNat 0) (IntKind.u64.wrap (IntKind.u64.wrap 31 * 2 ^ min (IntKind.i64.wrap (8 * a.tmod 8)).toNat 64)))).getD (IntKind.i64.wrap ((IntKind.i64.wrap (f - 1)).tdiv 8)).toNat 0) (IntKind.u64.wrap (IntKind.u64.wrap 128 * 2 ^ min (IntKind.i64.wrap (8 * (IntKind.i64.wrap (f - 1)).tmod 8)).toNat 64)))) fun j => k c j 0 true) none) none)) none) none) none) none)) none) none))
def u7 {ρ : Type} := shut (af2 (ρ := ρ))
theorem aly {ρ : Type} (b : Int) (a : List Int) (d : Int) (c : Bool) (k : Int → (List Int) → Int → Bool → Option ρ) : u7 b a d c k = af2 b a d c k := by unfold u7; rw [bq]

abbrev b5u (ρ : Type) := Int → Int → Int → (List Int) → Int → Bool → Int → (List Int) → Int → Bool → (List Int) → Option ρ
def af4 {ρ : Type} (j b c : Int) (d : List Int) (a : Int) (e : Bool) (f : Int) (g : List Int) (h : Int) (i : Bool) (k : List Int) (nx m : b5u ρ) : Option ρ := br (decide (b < j)) (l8 c fun n => br (a == n) (jd d fun l => br (decide (0 ≤ b)) (br (decide (b < (↑k.length : Int))) (nx j (IntKind.i64.wrap (b + 1)) c l (IntKind.i64.wrap (0 + 1)) e f g h i (k.set b.toNat (IntKind.u8.wrap ((l.getD 0 0).fdiv (2 ^ 0))))) none) none) (br (decide (0 ≤ IntKind.i64.wrap (a.tdiv 8))) (br (decide (IntKind.i64.wrap (a.tdiv 8) < (↑25 : Int))) (br (decide (IntKind.i64.wrap (8 * a.tmod 8) < 0)) none (br (decide (0 ≤ b)) (br (decide (b < (↑k.length : Int))) (nx j (IntKind.i64.wrap (b + 1)) c d (IntKind.i64.wrap (a + 1)) e f g h i (k.set b.toNat (IntKind.u8.wrap ((d.getD (IntKind.i64.wrap (a.tdiv 8)).toNat 0).fdiv (2 ^ min (IntKind.i64.wrap (8 * a.tmod 8)).toNat 64))))) none) none)) none) none)) (m j b c d a e f g h i k)
abbrev bu6 := Int × Int × Int × (List Int) × Int × Bool × Int × (List Int) × Int × Bool × (List Int)
abbrev b7z := bu6
def b2m {ρ : Type} (f : bu6 → Option ρ) : b5u ρ := fun j k a b c d e g h i l => f (j, k, a, b, c, d, e, g, h, i, l)
def bv5 {ρ : Type} : adk bu6 b7z ρ := fun (i, j, a, b, c, d, e, f, g, h, k) next ex => af4 i j a b c d e f g h k (b2m next) (b2m ex)
def b2s {ρ : Type} := shut (lp (bv5 (ρ := ρ)))
theorem b8k {ρ : Type} : b2s (ρ := ρ) = lp bv5 := bq _
def by3 {ρ : Type} (f : adj bu6 b7z ρ) (j k a : Int) (b : List Int) (c : Int) (d : Bool) (e : Int) (g : List Int) (h : Int) (i : Bool) (l : List Int) (m : b5u ρ) : Option ρ := f (j, k, a, b, c, d, e, g, h, i, l) (fun (j, k, a, b, c, d, e, g, h, i, l) => m j k a b c d e g h i l)
def aj7 {ρ : Type} := by3 (lp (bv5 (ρ := ρ)))
def adp {ρ : Type} := by3 (b2s (ρ := ρ))
theorem aog {ρ : Type} : adp (ρ := ρ) = aj7 := congrArg by3 b8k
def afc {ρ : Type} (c : Int) (a : List Int) (e : Int) (b : Bool) (d : Int) (k : Int → (List Int) → Int → Bool → (List Int) → Option ρ) : Option ρ := br (decide (d < 0)) (k c a e b []) (br (!b) (u7 c a e b fun m n o p => br (decide (0 ≤ d)) (br (decide (d ≤ d)) (br (decide (d * (↑1 : Int) ≤ (↑140737488355328 : Int))) (adp (↑(List.replicate d.toNat (0 : Int)).length : Int) 0 m n o p 0 [0, 0, 0, 0, 0, 0, 0, 0, 0, 0, 0, 0, 0, 0, 0, 0, 0, 0, 0, 0, 0, 0, 0, 0, 0] 0 false (List.replicate d.toNat (0 : Int)) fun H I q r s t u v w y f => k q r s t f) none) none) none) (br (decide (0 ≤ d)) (br (decide (d ≤ d)) (br (decide (d * (↑1 : Int) ≤ (↑140737488355328 : Int))) (adp (↑(List.replicate d.toNat (0 : Int)).length : Int) 0 c a e b 0 [0, 0, 0, 0, 0, 0, 0, 0, 0, 0, 0, 0, 0, 0, 0, 0, 0, 0, 0, 0, 0, 0, 0, 0, 0] 0 false (List.replicate d.toNat (0 : Int)) fun z A g h i j B C F G l => k g h i j l) none) none) none))
def qy {ρ : Type} := shut (afc (ρ := ρ))
theorem aj3 {ρ : Type} (b : Int) (a : List Int) (d : Int) (c : Bool) (e : Int) (k : Int → (List Int) → Int → Bool → (List Int) → Option ρ) : qy b a d c e k = afc b a d c e k := by unfold qy; rw [bq]

def ae2 {ρ : Type} (e f : List Int) (b : Int) (a : List Int) (d : Int) (c : Bool) (g : Int) (k : (List Int) → Option ρ) : Option ρ := j6 [List.take 32 (List.drop 0 e), f] fun h => o7 b a d c h fun i j l m => qy i j l m g fun o p q r n => k n
def je {ρ : Type} := shut (ae2 (ρ := ρ))
theorem akc {ρ : Type} (e : List Int) (f : List Int) (b : Int) (a : List Int) (d : Int) (c : Bool) (g : Int) (k : (List Int) → Option ρ) : je e f b a d c g k = ae2 e f b a d c g k := by unfold je; rw [bq]

def ah3 {ρ : Type} (a : Int) (b : List Int) (k : Int → (List Int) → Int → Bool → Int → Option ρ) : Option ρ := aek 7 fun c d e f l => o7 c d e f b fun g h i j => k g h i j a
def acj {ρ : Type} := shut (ah3 (ρ := ρ))
theorem ao4 {ρ : Type} (a : Int) (b : List Int) (k : Int → (List Int) → Int → Bool → Int → Option ρ) : acj a b k = ah3 a b k := by unfold acj; rw [bq]

abbrev b53 (ρ : Type) := Int → (List Int) → Int → Int → Option ρ
def ao6 {ρ : Type} (d : Int) (b : List Int) (c a : Int) (nx e : b53 ρ) : Option ρ := br (decide (a < c)) (br (decide (0 ≤ a)) (br (decide (a < (↑b.length : Int))) (nx (bits BinOp.or IntKind.u64 (IntKind.u64.wrap (d * 2 ^ 8)) (IntKind.u64.wrap (b.getD a.toNat 0))) b c (IntKind.i64.wrap (a + 1))) none) none) (e d b c a)
abbrev bt2 := Int × (List Int) × Int × Int
abbrev b4t := bt2
def b66 {ρ : Type} (f : bt2 → Option ρ) : b53 ρ := fun a b c d => f (a, b, c, d)
def bs7 {ρ : Type} : adk bt2 b4t ρ := fun (a, b, c, d) next ex => ao6 a b c d (b66 next) (b66 ex)
def b75 {ρ : Type} := shut (lp (bs7 (ρ := ρ)))
theorem b9t {ρ : Type} : b75 (ρ := ρ) = lp bs7 := bq _
def byo {ρ : Type} (f : adj bt2 b4t ρ) (a : Int) (b : List Int) (c d : Int) (e : b53 ρ) : Option ρ := f (a, b, c, d) (fun (a, b, c, d) => e a b c d)
def aww {ρ : Type} := byo (lp (bs7 (ρ := ρ)))
def awy {ρ : Type} := byo (b75 (ρ := ρ))
theorem ay0 {ρ : Type} : awy (ρ := ρ) = aww := congrArg byo b9t
def amh {ρ : Type} (a : List Int) (k : Int → Option ρ) : Option ρ := awy 0 a (↑a.length : Int) 0 fun b c d e => k b
def yx {ρ : Type} := shut (amh (ρ := ρ))
theorem awe {ρ : Type} (a : List Int) (k : Int → Option ρ) : yx a k = amh a k := by unfold yx; rw [bq]

def air {ρ : Type} (a : Int) (k : Int → Option ρ) : Option ρ := br (decide (0 ≤ a)) (br (decide (a < (↑64 : Int))) (k (roots256.getD a.toNat 0)) none) none
def ow {ρ : Type} := shut (air (ρ := ρ))
theorem aos {ρ : Type} (a : Int) (k : Int → Option ρ) : ow a k = air a k := by unfold ow; rw [bq]

def yh {ρ : Type} (a g : Int) (b c d e : List Int) (h f : Int) (k : Int → Option ρ) : Option ρ := br (decide (f < 0)) none (br (decide (IntKind.i64.wrap (a - f) < 0)) none (k (bits BinOp.or IntKind.u32 (h.fdiv (2 ^ min f.toNat 32)) (IntKind.u32.wrap (h * 2 ^ min (IntKind.i64.wrap (a - f)).toNat 32)))))
def dn {ρ : Type} := shut (yh (ρ := ρ))
theorem acd {ρ : Type} (f : Int) (e : Int) (a : List Int) (b : List Int) (c : List Int) (d : List Int) (g : Int) (h : Int) (k : Int → Option ρ) : dn f e a b c d g h k = yh f e a b c d g h k := by unfold dn; rw [bq]

def wm {ρ : Type} (f e : Int) (a b c d : List Int) (g h : Int) (k : Int → Option ρ) : Option ρ := br (decide (h = (↑0 : Int))) (dn f e a b c d g (a.getD 0 0) fun l => dn f e a b c d g (a.getD 1 0) fun m => dn f e a b c d g (a.getD 2 0) fun n => k (bits BinOp.xor IntKind.u32 (bits BinOp.xor IntKind.u32 l m) n)) (br (decide (h = (↑1 : Int))) (dn f e a b c d g (b.getD 0 0) fun o => dn f e a b c d g (b.getD 1 0) fun p => dn f e a b c d g (b.getD 2 0) fun q => k (bits BinOp.xor IntKind.u32 (bits BinOp.xor IntKind.u32 o p) q)) (br (decide (h = (↑2 : Int))) (dn f e a b c d g (c.getD 0 0) fun r => dn f e a b c d g (c.getD 1 0) fun s => dn f e a b c d g (c.getD 2 0) fun t => k (bits BinOp.xor IntKind.u32 (bits BinOp.xor IntKind.u32 r s) t)) (br (decide (h = (↑3 : Int))) (dn f e a b c d g (d.getD 0 0) fun u => dn f e a b c d g (d.getD 1 0) fun i => dn f e a b c d g (d.getD 2 0) fun j => k (bits BinOp.xor IntKind.u32 (bits BinOp.xor IntKind.u32 u i) j)) none)))
def jr {ρ : Type} := shut (wm (ρ := ρ))
theorem aaw {ρ : Type} (f : Int) (e : Int) (a : List Int) (b : List Int) (c : List Int) (d : List Int) (g : Int) (h : Int) (k : Int → Option ρ) : jr f e a b c d g h k = wm f e a b c d g h k := by unfold jr; rw [bq]

def xq {ρ : Type} (f e : Int) (a b c d : List Int) (g h : Int) (k : Int → Option ρ) : Option ρ := br (decide (h = (↑0 : Int))) (dn f e a b c d g (a.getD 0 (0 : Int)) fun i => dn f e a b c d g (a.getD 1 (0 : Int)) fun j => br (decide (a.getD 2 (0 : Int) < (0 : Int))) none (k (bits BinOp.xor IntKind.u32 (bits BinOp.xor IntKind.u32 i j) (g.fdiv ((2 : Int) ^ min (a.getD 2 (0 : Int)).toNat 32))))) (br (decide (h = (↑1 : Int))) (dn f e a b c d g (b.getD 0 (0 : Int)) fun l => dn f e a b c d g (b.getD 1 (0 : Int)) fun m => br (decide (b.getD 2 (0 : Int) < (0 : Int))) none (k (bits BinOp.xor IntKind.u32 (bits BinOp.xor IntKind.u32 l m) (g.fdiv ((2 : Int) ^ min (b.getD 2 (0 : Int)).toNat 32))))) (br (decide (h = (↑2 : Int))) (dn f e a b c d g (c.getD 0 (0 : Int)) fun n => dn f e a b c d g (c.getD 1 (0 : Int)) fun o => br (decide (c.getD 2 (0 : Int) < (0 : Int))) none (k (bits BinOp.xor IntKind.u32 (bits BinOp.xor IntKind.u32 n o) (g.fdiv ((2 : Int) ^ min (c.getD 2 (0 : Int)).toNat 32))))) (br (decide (h = (↑3 : Int))) (dn f e a b c d g (d.getD 0 (0 : Int)) fun p => dn f e a b c d g (d.getD 1 (0 : Int)) fun q => br (decide (d.getD 2 (0 : Int) < (0 : Int))) none (k (bits BinOp.xor IntKind.u32 (bits BinOp.xor IntKind.u32 p q) (g.fdiv ((2 : Int) ^ min (d.getD 2 (0 : Int)).toNat 32))))) none)))
def kg {ρ : Type} := shut (xq (ρ := ρ))
theorem aa5 {ρ : Type} (f : Int) (e : Int) (a : List Int) (b : List Int) (c : List Int) (d : List Int) (g : Int) (h : Int) (k : Int → Option ρ) : kg f e a b c d g h k = xq f e a b c d g h k := by unfold kg; rw [bq]

abbrev b79 (ρ : Type) := (List Int) → Int → Int → Int → Int → (List Int) → (List Int) → (List Int) → (List Int) → (List Int) → (List Int) → (List Int) → Option ρ
def aam {ρ : Type} (l : List Int) (b a c d : Int) (e f g h i j k : List Int) (nx m : b79 ρ) : Option ρ := br (decide (a < 16)) (br (decide (0 ≤ IntKind.i64.wrap (a * b))) (br (decide (IntKind.i64.wrap (a * b) ≤ IntKind.i64.wrap (IntKind.i64.wrap (a + 1) * b))) (br (decide (IntKind.i64.wrap (IntKind.i64.wrap (a + 1) * b) ≤ (↑l.length : Int))) (yx (List.drop (IntKind.i64.wrap (a * b)).toNat (List.take (IntKind.i64.wrap (IntKind.i64.wrap (a + 1) * b)).toNat l)) fun n => br (decide (0 ≤ a)) (br (decide (a < (↑16 : Int))) (nx l b (IntKind.i64.wrap (a + 1)) c d e f g h i j (k.set a.toNat (IntKind.u32.wrap n))) none) none) none) none) none) (m l b a c d e f g h i j k)
abbrev bt9 := (List Int) × Int × Int × Int × Int × (List Int) × (List Int) × (List Int) × (List Int) × (List Int) × (List Int) × (List Int)
abbrev b21 := bt9
def b45 {ρ : Type} (f : bt9 → Option ρ) : b79 ρ := fun l m k a b c d e g h i j => f (l, m, k, a, b, c, d, e, g, h, i, j)
def btp {ρ : Type} : adk bt9 b21 ρ := fun (k, l, j, a, b, c, d, e, f, g, h, i) next ex => aam k l j a b c d e f g h i (b45 next) (b45 ex)
def b6y {ρ : Type} := shut (lp (btp (ρ := ρ)))
theorem b97 {ρ : Type} : b6y (ρ := ρ) = lp btp := bq _
def by0 {ρ : Type} (f : adj bt9 b21 ρ) (l : List Int) (m k a b : Int) (c d e g h i j : List Int) (n : b79 ρ) : Option ρ := f (l, m, k, a, b, c, d, e, g, h, i, j) (fun (l, m, k, a, b, c, d, e, g, h, i, j) => n l m k a b c d e g h i j)
def adw {ρ : Type} := by0 (lp (btp (ρ := ρ)))
def aal {ρ : Type} := by0 (b6y (ρ := ρ))
theorem ag3 {ρ : Type} : aal (ρ := ρ) = adw := congrArg by0 b97
abbrev b4q (ρ : Type) := Int → Int → (List Int) → (List Int) → (List Int) → Int → Int → (List Int) → (List Int) → (List Int) → (List Int) → (List Int) → Option ρ
def zq {ρ : Type} (j b : Int) (c k l : List Int) (d e : Int) (f g h i a : List Int) (nx o : b4q ρ) : Option ρ := br (decide (b < j)) (br (decide (0 ≤ b.tmod 16)) (br (decide (b.tmod 16 < (↑16 : Int))) (jr d e f g h i (a.getD 4 0) 3 fun m => ow b fun n => jr d e f g h i (a.getD 0 0) 2 fun p => br (decide (0 ≤ (IntKind.i64.wrap (b + 1)).tmod 16)) (br (decide ((IntKind.i64.wrap (b + 1)).tmod 16 < (↑16 : Int))) (kg d e f g h i (c.getD ((IntKind.i64.wrap (b + 1)).tmod 16).toNat 0) 0 fun q => br (decide (0 ≤ (IntKind.i64.wrap (b + 9)).tmod 16)) (br (decide ((IntKind.i64.wrap (b + 9)).tmod 16 < (↑16 : Int))) (br (decide (0 ≤ (IntKind.i64.wrap (b + 14)).tmod 16)) (br (decide ((IntKind.i64.wrap (b + 14)).tmod 16 < (↑16 : Int))) (kg d e f g h i (c.getD ((IntKind.i64.wrap (b + 14)).tmod 16).toNat 0) 1 fun r => br (decide (0 ≤ b.tmod 16)) (br (decide (b.tmod 16 < (↑16 : Int))) (nx j (IntKind.i64.wrap (b + 1)) (c.set (b.tmod 16).toNat (IntKind.u32.wrap (IntKind.u32.wrap (IntKind.u32.wrap (c.getD (b.tmod 16).toNat 0 + q) + c.getD ((IntKind.i64.wrap (b + 9)).tmod 16).toNat 0) + r))) k l d e f g h i ((((List.take 1 a).append (List.take 7 (List.take 7 (List.drop 0 a)) ++ List.drop (1 + min 7 (List.take 7 (List.drop 0 a)).length) a)).set 4 (IntKind.u32.wrap (((List.take 1 a).append (List.take 7 (List.take 7 (List.drop 0 a)) ++ List.drop (1 + min 7 (List.take 7 (List.drop 0 a)).length) a)).getD 4 0 + IntKind.u32.wrap (IntKind.u32.wrap (IntKind.u32.wrap (IntKind.u32.wrap (a.getD 7 0 + m) + bits BinOp.xor IntKind.u32 (a.getD 6 0) (bits BinOp.and IntKind.u32 (a.getD 4 0) (bits BinOp.xor IntKind.u32 (a.getD 5 0) (a.getD 6 0)))) + n) + c.getD (b.tmod 16).toNat 0)))).set 0 (IntKind.u32.wrap (IntKind.u32.wrap (IntKind.u32.wrap (IntKind.u32.wrap (IntKind.u32.wrap (a.getD 7 0 + m) + bits BinOp.xor IntKind.u32 (a.getD 6 0) (bits BinOp.and IntKind.u32 (a.getD 4 0) (bits BinOp.xor IntKind.u32 (a.getD 5 0) (a.getD 6 0)))) + n) + c.getD (b.tmod 16).toNat 0) + IntKind.u32.wrap (p + bits BinOp.or IntKind.u32 (bits BinOp.and IntKind.u32 (a.getD 0 0) (a.getD 1 0)) (bits BinOp.and IntKind.u32 (a.getD 2 0) (bits BinOp.or IntKind.u32 (a.getD 0 0) (a.getD 1 0)))))))) none) none) none) none) none) none) none) none) none) none) (o j b c k l d e f g h i a)
abbrev bto := Int × Int × (List Int) × (List Int) × (List Int) × Int × Int × (List Int) × (List Int) × (List Int) × (List Int) × (List Int)
abbrev b0r := bto
def b41 {ρ : Type} (f : bto → Option ρ) : b4q ρ := fun l m a b c d e g h i j k => f (l, m, a, b, c, d, e, g, h, i, j, k)
def bu5 {ρ : Type} : adk bto b0r ρ := fun (k, l, a, b, c, d, e, f, g, h, i, j) next ex => zq k l a b c d e f g h i j (b41 next) (b41 ex)
def b7v {ρ : Type} := shut (lp (bu5 (ρ := ρ)))
theorem b9u {ρ : Type} : b7v (ρ := ρ) = lp bu5 := bq _
def b0c {ρ : Type} (f : adj bto b0r ρ) (l m : Int) (a b c : List Int) (d e : Int) (g h i j k : List Int) (n : b4q ρ) : Option ρ := f (l, m, a, b, c, d, e, g, h, i, j, k) (fun (l, m, a, b, c, d, e, g, h, i, j, k) => n l m a b c d e g h i j k)
def aci {ρ : Type} := b0c (lp (bu5 (ρ := ρ)))
def um {ρ : Type} := b0c (b7v (ρ := ρ))
theorem agq {ρ : Type} : um (ρ := ρ) = aci := congrArg b0c b9u
abbrev b6s (ρ : Type) := Int → (List Int) → (List Int) → (List Int) → Option ρ
def aah {ρ : Type} (a : Int) (b d c : List Int) (nx e : b6s ρ) : Option ρ := br (decide (a < 8)) (br (decide (0 ≤ a)) (br (decide (a < (↑8 : Int))) (br (decide (0 ≤ a)) (br (decide (a < (↑8 : Int))) (br (decide (0 ≤ a)) (br (decide (a < (↑8 : Int))) (nx (IntKind.i64.wrap (a + 1)) b d (c.set a.toNat (IntKind.u32.wrap (c.getD a.toNat 0 + b.getD a.toNat 0)))) none) none) none) none) none) none) (e a b d c)
abbrev bvb := Int × (List Int) × (List Int) × (List Int)
abbrev b42 := bvb
def b3j {ρ : Type} (f : bvb → Option ρ) : b6s ρ := fun a b c d => f (a, b, c, d)
def bv3 {ρ : Type} : adk bvb b42 ρ := fun (a, b, c, d) next ex => aah a b c d (b3j next) (b3j ex)
def b2e {ρ : Type} := shut (lp (bv3 (ρ := ρ)))
theorem b8w {ρ : Type} : b2e (ρ := ρ) = lp bv3 := bq _
def b0a {ρ : Type} (f : adj bvb b42 ρ) (a : Int) (b c d : List Int) (e : b6s ρ) : Option ρ := f (a, b, c, d) (fun (a, b, c, d) => e a b c d)
def ac1 {ρ : Type} := b0a (lp (bv3 (ρ := ρ)))
def vv {ρ : Type} := b0a (b2e (ρ := ρ))
theorem agi {ρ : Type} : vv (ρ := ρ) = ac1 := congrArg b0a b8w
def aag {ρ : Type} (a f : Int) (b c d e p q : List Int) (k : (List Int) → Option ρ) : Option ρ := aal q (IntKind.i64.wrap (a.tdiv 8)) 0 a f b c d e p [0, 0, 0, 0, 0, 0, 0, 0] [0, 0, 0, 0, 0, 0, 0, 0, 0, 0, 0, 0, 0, 0, 0, 0] fun N O Q r g s t u v h i j => um g 0 j i h r g s t u v h fun w y z l m A B C F G H n => vv 0 m l n fun I J M o => k o
def l6 {ρ : Type} := shut (aag (ρ := ρ))
theorem adv {ρ : Type} (f : Int) (e : Int) (a : List Int) (b : List Int) (c : List Int) (d : List Int) (g : List Int) (h : List Int) (k : (List Int) → Option ρ) : l6 f e a b c d g h k = aag f e a b c d g h k := by unfold l6; rw [bq]

abbrev b4h (ρ : Type) := (List Int) → (List Int) → Int → Int → Int → (List Int) → (List Int) → (List Int) → (List Int) → (List Int) → (List Int) → (List Int) → Option ρ
def acn {ρ : Type} (l b : List Int) (a c d : Int) (e f g h i j k : List Int) (nx m : b4h ρ) : Option ρ := br (decide (a < 8)) (br (decide (0 ≤ a)) (br (decide (a < (↑8 : Int))) (br (decide (0 ≤ a)) (br (decide (a < (↑8 : Int))) (nx l b (IntKind.i64.wrap (a + 1)) c d e f g h i j (k.set a.toNat (IntKind.u32.wrap (b.getD a.toNat 0)))) none) none) none) none) (m l b a c d e f g h i j k)
abbrev bts := (List Int) × (List Int) × Int × Int × Int × (List Int) × (List Int) × (List Int) × (List Int) × (List Int) × (List Int) × (List Int)
abbrev b3u := bts
def b33 {ρ : Type} (f : bts → Option ρ) : b4h ρ := fun m k l a b c d e g h i j => f (m, k, l, a, b, c, d, e, g, h, i, j)
def bve {ρ : Type} : adk bts b3u ρ := fun (l, j, k, a, b, c, d, e, f, g, h, i) next ex => acn l j k a b c d e f g h i (b33 next) (b33 ex)
def b1i {ρ : Type} := shut (lp (bve (ρ := ρ)))
theorem b8m {ρ : Type} : b1i (ρ := ρ) = lp bve := bq _
def bzu {ρ : Type} (f : adj bts b3u ρ) (m k : List Int) (l a b : Int) (c d e g h i j : List Int) (n : b4h ρ) : Option ρ := f (m, k, l, a, b, c, d, e, g, h, i, j) (fun (m, k, l, a, b, c, d, e, g, h, i, j) => n m k l a b c d e g h i j)
def agn {ρ : Type} := bzu (lp (bve (ρ := ρ)))
def ac6 {ρ : Type} := bzu (b1i (ρ := ρ))
theorem akn {ρ : Type} : ac6 (ρ := ρ) = agn := congrArg bzu b8m
abbrev b7a (ρ : Type) := (List Int) → Int → (List Int) → (List Int) → (List Int) → Int → Int → (List Int) → (List Int) → (List Int) → (List Int) → Option ρ
def ada {ρ : Type} (b : List Int) (a : Int) (i j k : List Int) (c d : Int) (e f g h : List Int) (nx l : b7a ρ) : Option ρ := br (decide ((↑b.length : Int) ≥ a)) (br (decide (0 ≤ a)) (br (decide (a ≤ (↑b.length : Int))) (l6 c d e f g h i (List.drop 0 (List.take a.toNat b)) fun m => br (decide (0 ≤ a)) (br (decide (a ≤ (↑b.length : Int))) (br (decide ((↑b.length : Int) ≤ (↑b.length : Int))) (nx (List.drop a.toNat (List.take (↑b.length : Int).toNat b)) a m j k c d e f g h) none) none) none) none) none) (l b a i j k c d e f g h)
abbrev bur := (List Int) × Int × (List Int) × (List Int) × (List Int) × Int × Int × (List Int) × (List Int) × (List Int) × (List Int)
abbrev b37 := bur
def b0m {ρ : Type} (f : bur → Option ρ) : b7a ρ := fun l k a b c d e g h i j => f (l, k, a, b, c, d, e, g, h, i, j)
def bxz {ρ : Type} : adk bur b37 ρ := fun (k, j, a, b, c, d, e, f, g, h, i) next ex => ada k j a b c d e f g h i (b0m next) (b0m ex)
def b0s {ρ : Type} := shut (lp (bxz (ρ := ρ)))
theorem b8j {ρ : Type} : b0s (ρ := ρ) = lp bxz := bq _
def bz1 {ρ : Type} (f : adj bur b37 ρ) (l : List Int) (k : Int) (a b c : List Int) (d e : Int) (g h i j : List Int) (m : b7a ρ) : Option ρ := f (l, k, a, b, c, d, e, g, h, i, j) (fun (l, k, a, b, c, d, e, g, h, i, j) => m l k a b c d e g h i j)
def agr {ρ : Type} := bz1 (lp (bxz (ρ := ρ)))
def acz {ρ : Type} := bz1 (b0s (ρ := ρ))
theorem akg {ρ : Type} : acz (ρ := ρ) = agr := congrArg bz1 b8j
abbrev b6z (ρ : Type) := (List Int) → (List Int) → Int → (List Int) → (List Int) → Option ρ
def ab4 {ρ : Type} (e b : List Int) (a : Int) (c d : List Int) (nx f : b6z ρ) : Option ρ := br (decide (a < 8)) (br (decide (0 ≤ a)) (br (decide (a < (↑8 : Int))) (br (decide (0 ≤ a)) (br (decide (a < (↑8 : Int))) (nx e b (IntKind.i64.wrap (a + 1)) (c.set a.toNat (IntKind.u64.wrap (b.getD a.toNat 0))) d) none) none) none) none) (f e b a c d)
abbrev bwj := (List Int) × (List Int) × Int × (List Int) × (List Int)
abbrev b58 := bwj
def b69 {ρ : Type} (f : bwj → Option ρ) : b6z ρ := fun e c d a b => f (e, c, d, a, b)
def bxv {ρ : Type} : adk bwj b58 ρ := fun (e, c, d, a, b) next ex => ab4 e c d a b (b69 next) (b69 ex)
def b3x {ρ : Type} := shut (lp (bxv (ρ := ρ)))
theorem b87 {ρ : Type} : b3x (ρ := ρ) = lp bxv := bq _
def bzh {ρ : Type} (f : adj bwj b58 ρ) (e c : List Int) (d : Int) (a b : List Int) (g : b6z ρ) : Option ρ := f (e, c, d, a, b) (fun (e, c, d, a, b) => g e c d a b)
def afk {ρ : Type} := bzh (lp (bxv (ρ := ρ)))
def ab0 {ρ : Type} := bzh (b3x (ρ := ρ))
theorem ajj {ρ : Type} : ab0 (ρ := ρ) = afk := congrArg bzh b87
def ab1 {ρ : Type} (f e : Int) (a b c d g r : List Int) (k : (List Int) → (List Int) → Option ρ) : Option ρ := ac6 r g 0 f e a b c d g [0, 0, 0, 0, 0, 0, 0, 0] [0, 0, 0, 0, 0, 0, 0, 0] fun s O Q h t u v w y z i j => acz s (IntKind.i64.wrap (h * 2)) j i z h t u v w y fun l A m n o B C F G H I => ab0 l m 0 o n fun p J M q N => k q p
def qb {ρ : Type} := shut (ab1 (ρ := ρ))
theorem agy {ρ : Type} (f : Int) (e : Int) (a : List Int) (b : List Int) (c : List Int) (d : List Int) (g : List Int) (h : List Int) (k : (List Int) → (List Int) → Option ρ) : qb f e a b c d g h k = ab1 f e a b c d g h k := by unfold qb; rw [bq]

def aru {ρ : Type} (k : Int → Int → (List Int) → (List Int) → (List Int) → (List Int) → Option ρ) : Option ρ := k 32 64 [7, 18, 3] [17, 19, 10] [2, 13, 22] [6, 11, 25]
def acw {ρ : Type} := shut (aru (ρ := ρ))
theorem au1 {ρ : Type}  (k : Int → Int → (List Int) → (List Int) → (List Int) → (List Int) → Option ρ) : acw  k = aru  k := by unfold acw; rw [bq]

def aiz {ρ : Type} (a : Int) (k : Int → Option ρ) : Option ρ := br (decide (0 ≤ a)) (br (decide (a < (↑80 : Int))) (k (roots512.getD a.toNat 0)) none) none
def ou {ρ : Type} := shut (aiz (ρ := ρ))
theorem aor {ρ : Type} (a : Int) (k : Int → Option ρ) : ou a k = aiz a k := by unfold ou; rw [bq]

def yj {ρ : Type} (a g : Int) (b c d e : List Int) (h f : Int) (k : Int → Option ρ) : Option ρ := br (decide (f < 0)) none (br (decide (IntKind.i64.wrap (a - f) < 0)) none (k (bits BinOp.or IntKind.u64 (h.fdiv (2 ^ min f.toNat 64)) (IntKind.u64.wrap (h * 2 ^ min (IntKind.i64.wrap (a - f)).toNat 64)))))
def dh {ρ : Type} := shut (yj (ρ := ρ))
theorem ab9 {ρ : Type} (f : Int) (e : Int) (a : List Int) (b : List Int) (c : List Int) (d : List Int) (g : Int) (h : Int) (k : Int → Option ρ) : dh f e a b c d g h k = yj f e a b c d g h k := by unfold dh; rw [bq]

def wh {ρ : Type} (f e : Int) (a b c d : List Int) (g h : Int) (k : Int → Option ρ) : Option ρ := br (decide (h = (↑0 : Int))) (dh f e a b c d g (a.getD 0 0) fun l => dh f e a b c d g (a.getD 1 0) fun m => dh f e a b c d g (a.getD 2 0) fun n => k (bits BinOp.xor IntKind.u64 (bits BinOp.xor IntKind.u64 l m) n)) (br (decide (h = (↑1 : Int))) (dh f e a b c d g (b.getD 0 0) fun o => dh f e a b c d g (b.getD 1 0) fun p => dh f e a b c d g (b.getD 2 0) fun q => k (bits BinOp.xor IntKind.u64 (bits BinOp.xor IntKind.u64 o p) q)) (br (decide (h = (↑2 : Int))) (dh f e a b c d g (c.getD 0 0) fun r => dh f e a b c d g (c.getD 1 0) fun s => dh f e a b c d g (c.getD 2 0) fun t => k (bits BinOp.xor IntKind.u64 (bits BinOp.xor IntKind.u64 r s) t)) (br (decide (h = (↑3 : Int))) (dh f e a b c d g (d.getD 0 0) fun u => dh f e a b c d g (d.getD 1 0) fun i => dh f e a b c d g (d.getD 2 0) fun j => k (bits BinOp.xor IntKind.u64 (bits BinOp.xor IntKind.u64 u i) j)) none)))
def jo {ρ : Type} := shut (wh (ρ := ρ))
theorem aax {ρ : Type} (f : Int) (e : Int) (a : List Int) (b : List Int) (c : List Int) (d : List Int) (g : Int) (h : Int) (k : Int → Option ρ) : jo f e a b c d g h k = wh f e a b c d g h k := by unfold jo; rw [bq]

def xu {ρ : Type} (f e : Int) (a b c d : List Int) (g h : Int) (k : Int → Option ρ) : Option ρ := br (decide (h = (↑0 : Int))) (dh f e a b c d g (a.getD 0 (0 : Int)) fun i => dh f e a b c d g (a.getD 1 (0 : Int)) fun j => br (decide (a.getD 2 (0 : Int) < (0 : Int))) none (k (bits BinOp.xor IntKind.u64 (bits BinOp.xor IntKind.u64 i j) (g.fdiv ((2 : Int) ^ min (a.getD 2 (0 : Int)).toNat 64))))) (br (decide (h = (↑1 : Int))) (dh f e a b c d g (b.getD 0 (0 : Int)) fun l => dh f e a b c d g (b.getD 1 (0 : Int)) fun m => br (decide (b.getD 2 (0 : Int) < (0 : Int))) none (k (bits BinOp.xor IntKind.u64 (bits BinOp.xor IntKind.u64 l m) (g.fdiv ((2 : Int) ^ min (b.getD 2 (0 : Int)).toNat 64))))) (br (decide (h = (↑2 : Int))) (dh f e a b c d g (c.getD 0 (0 : Int)) fun n => dh f e a b c d g (c.getD 1 (0 : Int)) fun o => br (decide (c.getD 2 (0 : Int) < (0 : Int))) none (k (bits BinOp.xor IntKind.u64 (bits BinOp.xor IntKind.u64 n o) (g.fdiv ((2 : Int) ^ min (c.getD 2 (0 : Int)).toNat 64))))) (br (decide (h = (↑3 : Int))) (dh f e a b c d g (d.getD 0 (0 : Int)) fun p => dh f e a b c d g (d.getD 1 (0 : Int)) fun q => br (decide (d.getD 2 (0 : Int) < (0 : Int))) none (k (bits BinOp.xor IntKind.u64 (bits BinOp.xor IntKind.u64 p q) (g.fdiv ((2 : Int) ^ min (d.getD 2 (0 : Int)).toNat 64))))) none)))
def ko {ρ : Type} := shut (xu (ρ := ρ))
theorem aa9 {ρ : Type} (f : Int) (e : Int) (a : List Int) (b : List Int) (c : List Int) (d : List Int) (g : Int) (h : Int) (k : Int → Option ρ) : ko f e a b c d g h k = xu f e a b c d g h k := by unfold ko; rw [bq]

abbrev b3s (ρ : Type) := (List Int) → Int → Int → Int → Int → (List Int) → (List Int) → (List Int) → (List Int) → (List Int) → (List Int) → (List Int) → Option ρ
def aan {ρ : Type} (l : List Int) (b a c d : Int) (e f g h i j k : List Int) (nx m : b3s ρ) : Option ρ := br (decide (a < 16)) (br (decide (0 ≤ IntKind.i64.wrap (a * b))) (br (decide (IntKind.i64.wrap (a * b) ≤ IntKind.i64.wrap (IntKind.i64.wrap (a + 1) * b))) (br (decide (IntKind.i64.wrap (IntKind.i64.wrap (a + 1) * b) ≤ (↑l.length : Int))) (yx (List.drop (IntKind.i64.wrap (a * b)).toNat (List.take (IntKind.i64.wrap (IntKind.i64.wrap (a + 1) * b)).toNat l)) fun n => br (decide (0 ≤ a)) (br (decide (a < (↑16 : Int))) (nx l b (IntKind.i64.wrap (a + 1)) c d e f g h i j (k.set a.toNat n)) none) none) none) none) none) (m l b a c d e f g h i j k)
abbrev byg := (List Int) × Int × Int × Int × Int × (List Int) × (List Int) × (List Int) × (List Int) × (List Int) × (List Int) × (List Int)
abbrev b67 := byg
def b4v {ρ : Type} (f : byg → Option ρ) : b3s ρ := fun l m k a b c d e g h i j => f (l, m, k, a, b, c, d, e, g, h, i, j)
def bvp {ρ : Type} : adk byg b67 ρ := fun (k, l, j, a, b, c, d, e, f, g, h, i) next ex => aan k l j a b c d e f g h i (b4v next) (b4v ex)
def b50 {ρ : Type} := shut (lp (bvp (ρ := ρ)))
theorem b92 {ρ : Type} : b50 (ρ := ρ) = lp bvp := bq _
def bzt {ρ : Type} (f : adj byg b67 ρ) (l : List Int) (m k a b : Int) (c d e g h i j : List Int) (n : b3s ρ) : Option ρ := f (l, m, k, a, b, c, d, e, g, h, i, j) (fun (l, m, k, a, b, c, d, e, g, h, i, j) => n l m k a b c d e g h i j)
def adt {ρ : Type} := bzt (lp (bvp (ρ := ρ)))
def aao {ρ : Type} := bzt (b50 (ρ := ρ))
theorem aha {ρ : Type} : aao (ρ := ρ) = adt := congrArg bzt b92
abbrev b6m (ρ : Type) := Int → Int → (List Int) → (List Int) → (List Int) → Int → Int → (List Int) → (List Int) → (List Int) → (List Int) → (List Int) → Option ρ
def zx {ρ : Type} (j b : Int) (c k l : List Int) (d e : Int) (f g h i a : List Int) (nx o : b6m ρ) : Option ρ := br (decide (b < j)) (br (decide (0 ≤ b.tmod 16)) (br (decide (b.tmod 16 < (↑16 : Int))) (jo d e f g h i (a.getD 4 0) 3 fun m => ou b fun n => jo d e f g h i (a.getD 0 0) 2 fun p => br (decide (0 ≤ (IntKind.i64.wrap (b + 1)).tmod 16)) (br (decide ((IntKind.i64.wrap (b + 1)).tmod 16 < (↑16 : Int))) (ko d e f g h i (c.getD ((IntKind.i64.wrap (b + 1)).tmod 16).toNat 0) 0 fun q => br (decide (0 ≤ (IntKind.i64.wrap (b + 9)).tmod 16)) (br (decide ((IntKind.i64.wrap (b + 9)).tmod 16 < (↑16 : Int))) (br (decide (0 ≤ (IntKind.i64.wrap (b + 14)).tmod 16)) (br (decide ((IntKind.i64.wrap (b + 14)).tmod 16 < (↑16 : Int))) (ko d e f g h i (c.getD ((IntKind.i64.wrap (b + 14)).tmod 16).toNat 0) 1 fun r => br (decide (0 ≤ b.tmod 16)) (br (decide (b.tmod 16 < (↑16 : Int))) (nx j (IntKind.i64.wrap (b + 1)) (c.set (b.tmod 16).toNat (IntKind.u64.wrap (IntKind.u64.wrap (IntKind.u64.wrap (c.getD (b.tmod 16).toNat 0 + q) + c.getD ((IntKind.i64.wrap (b + 9)).tmod 16).toNat 0) + r))) k l d e f g h i ((((List.take 1 a).append (List.take 7 (List.take 7 (List.drop 0 a)) ++ List.drop (1 + min 7 (List.take 7 (List.drop 0 a)).length) a)).set 4 (IntKind.u64.wrap (((List.take 1 a).append (List.take 7 (List.take 7 (List.drop 0 a)) ++ List.drop (1 + min 7 (List.take 7 (List.drop 0 a)).length) a)).getD 4 0 + IntKind.u64.wrap (IntKind.u64.wrap (IntKind.u64.wrap (IntKind.u64.wrap (a.getD 7 0 + m) + bits BinOp.xor IntKind.u64 (a.getD 6 0) (bits BinOp.and IntKind.u64 (a.getD 4 0) (bits BinOp.xor IntKind.u64 (a.getD 5 0) (a.getD 6 0)))) + n) + c.getD (b.tmod 16).toNat 0)))).set 0 (IntKind.u64.wrap (IntKind.u64.wrap (IntKind.u64.wrap (IntKind.u64.wrap (IntKind.u64.wrap (a.getD 7 0 + m) + bits BinOp.xor IntKind.u64 (a.getD 6 0) (bits BinOp.and IntKind.u64 (a.getD 4 0) (bits BinOp.xor IntKind.u64 (a.getD 5 0) (a.getD 6 0)))) + n) + c.getD (b.tmod 16).toNat 0) + IntKind.u64.wrap (p + bits BinOp.or IntKind.u64 (bits BinOp.and IntKind.u64 (a.getD 0 0) (a.getD 1 0)) (bits BinOp.and IntKind.u64 (a.getD 2 0) (bits BinOp.or IntKind.u64 (a.getD 0 0) (a.getD 1 0)))))))) none) none) none) none) none) none) none) none) none) none) (o j b c k l d e f g h i a)
abbrev bxo := Int × Int × (List Int) × (List Int) × (List Int) × Int × Int × (List Int) × (List Int) × (List Int) × (List Int) × (List Int)
abbrev b7s := bxo
def b1b {ρ : Type} (f : bxo → Option ρ) : b6m ρ := fun l m a b c d e g h i j k => f (l, m, a, b, c, d, e, g, h, i, j, k)
def bt7 {ρ : Type} : adk bxo b7s ρ := fun (k, l, a, b, c, d, e, f, g, h, i, j) next ex => zx k l a b c d e f g h i j (b1b next) (b1b ex)
def b6d {ρ : Type} := shut (lp (bt7 (ρ := ρ)))
theorem b8n {ρ : Type} : b6d (ρ := ρ) = lp bt7 := bq _
def bzv {ρ : Type} (f : adj bxo b7s ρ) (l m : Int) (a b c : List Int) (d e : Int) (g h i j k : List Int) (n : b6m ρ) : Option ρ := f (l, m, a, b, c, d, e, g, h, i, j, k) (fun (l, m, a, b, c, d, e, g, h, i, j, k) => n l m a b c d e g h i j k)
def ac0 {ρ : Type} := bzv (lp (bt7 (ρ := ρ)))
def vk {ρ : Type} := bzv (b6d (ρ := ρ))
theorem agl {ρ : Type} : vk (ρ := ρ) = ac0 := congrArg bzv b8n
abbrev b5g (ρ : Type) := Int → (List Int) → (List Int) → (List Int) → Option ρ
def aak {ρ : Type} (a : Int) (b d c : List Int) (nx e : b5g ρ) : Option ρ := br (decide (a < 8)) (br (decide (0 ≤ a)) (br (decide (a < (↑8 : Int))) (br (decide (0 ≤ a)) (br (decide (a < (↑8 : Int))) (br (decide (0 ≤ a)) (br (decide (a < (↑8 : Int))) (nx (IntKind.i64.wrap (a + 1)) b d (c.set a.toNat (IntKind.u64.wrap (c.getD a.toNat 0 + b.getD a.toNat 0)))) none) none) none) none) none) none) (e a b d c)
abbrev byk := Int × (List Int) × (List Int) × (List Int)
abbrev b2h := byk
def b3l {ρ : Type} (f : byk → Option ρ) : b5g ρ := fun a b c d => f (a, b, c, d)
def bx5 {ρ : Type} : adk byk b2h ρ := fun (a, b, c, d) next ex => aak a b c d (b3l next) (b3l ex)
def b07 {ρ : Type} := shut (lp (bx5 (ρ := ρ)))
theorem b96 {ρ : Type} : b07 (ρ := ρ) = lp bx5 := bq _
def byt {ρ : Type} (f : adj byk b2h ρ) (a : Int) (b c d : List Int) (e : b5g ρ) : Option ρ := f (a, b, c, d) (fun (a, b, c, d) => e a b c d)
def ach {ρ : Type} := byt (lp (bx5 (ρ := ρ)))
def vg {ρ : Type} := byt (b07 (ρ := ρ))
theorem ags {ρ : Type} : vg (ρ := ρ) = ach := congrArg byt b96
def aad {ρ : Type} (a f : Int) (b c d e p q : List Int) (k : (List Int) → Option ρ) : Option ρ := aao q (IntKind.i64.wrap (a.tdiv 8)) 0 a f b c d e p [0, 0, 0, 0, 0, 0, 0, 0] [0, 0, 0, 0, 0, 0, 0, 0, 0, 0, 0, 0, 0, 0, 0, 0] fun N O Q r g s t u v h i j => vk g 0 j i h r g s t u v h fun w y z l m A B C F G H n => vg 0 m l n fun I J M o => k o
def l9 {ρ : Type} := shut (aad (ρ := ρ))
theorem adu {ρ : Type} (f : Int) (e : Int) (a : List Int) (b : List Int) (c : List Int) (d : List Int) (g : List Int) (h : List Int) (k : (List Int) → Option ρ) : l9 f e a b c d g h k = aad f e a b c d g h k := by unfold l9; rw [bq]

abbrev b3g (ρ : Type) := (List Int) → (List Int) → Int → Int → Int → (List Int) → (List Int) → (List Int) → (List Int) → (List Int) → (List Int) → (List Int) → Option ρ
def ac2 {ρ : Type} (l b : List Int) (a c d : Int) (e f g h i j k : List Int) (nx m : b3g ρ) : Option ρ := br (decide (a < 8)) (br (decide (0 ≤ a)) (br (decide (a < (↑8 : Int))) (br (decide (0 ≤ a)) (br (decide (a < (↑8 : Int))) (nx l b (IntKind.i64.wrap (a + 1)) c d e f g h i j (k.set a.toNat (b.getD a.toNat 0))) none) none) none) none) (m l b a c d e f g h i j k)
abbrev bu9 := (List Int) × (List Int) × Int × Int × Int × (List Int) × (List Int) × (List Int) × (List Int) × (List Int) × (List Int) × (List Int)
abbrev b4z := bu9
def b40 {ρ : Type} (f : bu9 → Option ρ) : b3g ρ := fun m k l a b c d e g h i j => f (m, k, l, a, b, c, d, e, g, h, i, j)
def bym {ρ : Type} : adk bu9 b4z ρ := fun (l, j, k, a, b, c, d, e, f, g, h, i) next ex => ac2 l j k a b c d e f g h i (b40 next) (b40 ex)
def b2i {ρ : Type} := shut (lp (bym (ρ := ρ)))
theorem b8v {ρ : Type} : b2i (ρ := ρ) = lp bym := bq _
def byr {ρ : Type} (f : adj bu9 b4z ρ) (m k : List Int) (l a b : Int) (c d e g h i j : List Int) (n : b3g ρ) : Option ρ := f (m, k, l, a, b, c, d, e, g, h, i, j) (fun (m, k, l, a, b, c, d, e, g, h, i, j) => n m k l a b c d e g h i j)
def agz {ρ : Type} := byr (lp (bym (ρ := ρ)))
def ac3 {ρ : Type} := byr (b2i (ρ := ρ))
theorem akp {ρ : Type} : ac3 (ρ := ρ) = agz := congrArg byr b8v
abbrev b1v (ρ : Type) := (List Int) → Int → (List Int) → (List Int) → (List Int) → Int → Int → (List Int) → (List Int) → (List Int) → (List Int) → Option ρ
def acu {ρ : Type} (b : List Int) (a : Int) (i j k : List Int) (c d : Int) (e f g h : List Int) (nx l : b1v ρ) : Option ρ := br (decide ((↑b.length : Int) ≥ a)) (br (decide (0 ≤ a)) (br (decide (a ≤ (↑b.length : Int))) (l9 c d e f g h i (List.drop 0 (List.take a.toNat b)) fun m => br (decide (0 ≤ a)) (br (decide (a ≤ (↑b.length : Int))) (br (decide ((↑b.length : Int) ≤ (↑b.length : Int))) (nx (List.drop a.toNat (List.take (↑b.length : Int).toNat b)) a m j k c d e f g h) none) none) none) none) none) (l b a i j k c d e f g h)
abbrev bwu := (List Int) × Int × (List Int) × (List Int) × (List Int) × Int × Int × (List Int) × (List Int) × (List Int) × (List Int)
abbrev b1s := bwu
def b73 {ρ : Type} (f : bwu → Option ρ) : b1v ρ := fun l k a b c d e g h i j => f (l, k, a, b, c, d, e, g, h, i, j)
def bud {ρ : Type} : adk bwu b1s ρ := fun (k, j, a, b, c, d, e, f, g, h, i) next ex => acu k j a b c d e f g h i (b73 next) (b73 ex)
def b6g {ρ : Type} := shut (lp (bud (ρ := ρ)))
theorem b8s {ρ : Type} : b6g (ρ := ρ) = lp bud := bq _
def bzr {ρ : Type} (f : adj bwu b1s ρ) (l : List Int) (k : Int) (a b c : List Int) (d e : Int) (g h i j : List Int) (m : b1v ρ) : Option ρ := f (l, k, a, b, c, d, e, g, h, i, j) (fun (l, k, a, b, c, d, e, g, h, i, j) => m l k a b c d e g h i j)
def agj {ρ : Type} := bzr (lp (bud (ρ := ρ)))
def ade {ρ : Type} := bzr (b6g (ρ := ρ))
theorem aj9 {ρ : Type} : ade (ρ := ρ) = agj := congrArg bzr b8s
abbrev b3i (ρ : Type) := (List Int) → (List Int) → Int → (List Int) → (List Int) → Option ρ
def ab6 {ρ : Type} (e b : List Int) (a : Int) (c d : List Int) (nx f : b3i ρ) : Option ρ := br (decide (a < 8)) (br (decide (0 ≤ a)) (br (decide (a < (↑8 : Int))) (br (decide (0 ≤ a)) (br (decide (a < (↑8 : Int))) (nx e b (IntKind.i64.wrap (a + 1)) (c.set a.toNat (b.getD a.toNat 0)) d) none) none) none) none) (f e b a c d)
abbrev bwn := (List Int) × (List Int) × Int × (List Int) × (List Int)
abbrev b3r := bwn
def b25 {ρ : Type} (f : bwn → Option ρ) : b3i ρ := fun e c d a b => f (e, c, d, a, b)
def bt0 {ρ : Type} : adk bwn b3r ρ := fun (e, c, d, a, b) next ex => ab6 e c d a b (b25 next) (b25 ex)
def b7b {ρ : Type} := shut (lp (bt0 (ρ := ρ)))
theorem b9j {ρ : Type} : b7b (ρ := ρ) = lp bt0 := bq _
def by4 {ρ : Type} (f : adj bwn b3r ρ) (e c : List Int) (d : Int) (a b : List Int) (g : b3i ρ) : Option ρ := f (e, c, d, a, b) (fun (e, c, d, a, b) => g e c d a b)
def afj {ρ : Type} := by4 (lp (bt0 (ρ := ρ)))
def ab7 {ρ : Type} := by4 (b7b (ρ := ρ))
theorem ajf {ρ : Type} : ab7 (ρ := ρ) = afj := congrArg by4 b9j
def ab3 {ρ : Type} (f e : Int) (a b c d g r : List Int) (k : (List Int) → (List Int) → Option ρ) : Option ρ := ac3 r g 0 f e a b c d g [0, 0, 0, 0, 0, 0, 0, 0] [0, 0, 0, 0, 0, 0, 0, 0] fun s O Q h t u v w y z i j => ade s (IntKind.i64.wrap (h * 2)) j i z h t u v w y fun l A m n o B C F G H I => ab7 l m 0 o n fun p J M q N => k q p
def qc {ρ : Type} := shut (ab3 (ρ := ρ))
theorem agm {ρ : Type} (f : Int) (e : Int) (a : List Int) (b : List Int) (c : List Int) (d : List Int) (g : List Int) (h : List Int) (k : (List Int) → (List Int) → Option ρ) : qc f e a b c d g h k = ab3 f e a b c d g h k := by unfold qc; rw [bq]

def aqy {ρ : Type} (k : Int → Int → (List Int) → (List Int) → (List Int) → (List Int) → Option ρ) : Option ρ := k 64 80 [1, 8, 7] [19, 61, 6] [28, 34, 39] [14, 18, 41]
def acy {ρ : Type} := shut (aqy (ρ := ρ))
theorem at5 {ρ : Type}  (k : Int → Int → (List Int) → (List Int) → (List Int) → (List Int) → Option ρ) : acy  k = aqy  k := by unfold acy; rw [bq]

def pq {ρ : Type} (a : List Int) (k : (List Int) → Option ρ) : Option ρ := br (decide (a.length * 1 ≤ 140737488355328)) (k a) none

def aps {ρ : Type} (a : Int) (b d : List Int) (c : Int) (e : List Int) (k : Int → (List Int) → (List Int) → Int → Option ρ) : Option ρ := jk [d, e] fun f => br (a == 1) (acw fun q r s t u v => qb q r s t u v b f fun w y => pq y fun z => k a w z (IntKind.u64.wrap (c + IntKind.u64.wrap (↑e.length : Int)))) (acy fun g h i j l m => qc g h i j l m b f fun n o => pq o fun p => k a n p (IntKind.u64.wrap (c + IntKind.u64.wrap (↑e.length : Int))))
def aac {ρ : Type} := shut (aps (ρ := ρ))
theorem azk {ρ : Type} (b : Int) (a : List Int) (c : List Int) (d : Int) (e : List Int) (k : Int → (List Int) → (List Int) → Int → Option ρ) : aac b a c d e k = aps b a c d e k := by unfold aac; rw [bq]

def arf {ρ : Type} (a : Int) (k : (List Int) → Bool → Option ρ) : Option ρ := br (a == 1) (k [1779033703, 3144134277, 1013904242, 2773480762, 1359893119, 2600822924, 528734635, 1541459225] true) (br (a == 2) (k [14680500436340154072, 7105036623409894663, 10473403895298186519, 1526699215303891257, 7436329637833083697, 10282925794625328401, 15784041429090275239, 5167115440072839076] true) (br (a == 3) (k [7640891576956012808, 13503953896175478587, 4354685564936845355, 11912009170470909681, 5840696475078001361, 11170449401992604703, 2270897969802886507, 6620516959819538809] true) (k [0, 0, 0, 0, 0, 0, 0, 0] false)))
def afa {ρ : Type} := shut (arf (ρ := ρ))
theorem au5 {ρ : Type} (a : Int) (k : (List Int) → Bool → Option ρ) : afa a k = arf a k := by unfold afa; rw [bq]

def apk {ρ : Type} (a : Int) (k : Int → (List Int) → (List Int) → Int → Int → Option ρ) : Option ρ := afa a fun b c => br (!c) (k 0 [0, 0, 0, 0, 0, 0, 0, 0] [] 0 9) (k a b [] 0 0)
def ai0 {ρ : Type} := shut (apk (ρ := ρ))
theorem azx {ρ : Type} (a : Int) (k : Int → (List Int) → (List Int) → Int → Int → Option ρ) : ai0 a k = apk a k := by unfold ai0; rw [bq]

def ail {ρ : Type} (d b : Int) (a : List Int) (k : Int → (List Int) → (List Int) → Int → Option ρ) : Option ρ := ai0 d fun e f g h n => j6 [a] fun c => br (decide (0 ≤ IntKind.i64.wrap (b - (↑a.length : Int)))) (br (decide ((c.length + (IntKind.i64.wrap (b - (↑a.length : Int))).toNat) * 1 ≤ 140737488355328)) (aac e f g h (c ++ List.replicate (IntKind.i64.wrap (b - (↑a.length : Int))).toNat (0 : Int)) fun i j l m => k i j l m) none) none
def xg {ρ : Type} := shut (ail (ρ := ρ))
theorem aow {ρ : Type} (a : Int) (b : Int) (c : List Int) (k : Int → (List Int) → (List Int) → Int → Option ρ) : xg a b c k = ail a b c k := by unfold xg; rw [bq]

def afp {ρ : Type} (a : Int) (k : Int → Option ρ) : Option ρ := br (a == 1) (k 64) (k 128)
def uo {ρ : Type} := shut (afp (ρ := ρ))
theorem al5 {ρ : Type} (a : Int) (k : Int → Option ρ) : uo a k = afp a k := by unfold uo; rw [bq]

abbrev b1e (ρ : Type) := Int → (List Int) → Int → (List Int) → Int → (List Int) → Int → (List Int) → Option ρ
def apb {ρ : Type} (g : Int) (b : List Int) (a : Int) (c : List Int) (d : Int) (e : List Int) (f : Int) (h : List Int) (nx j : b1e ρ) : Option ρ := br (decide (a < 8)) (br (decide (0 ≤ a)) (br (decide (a < (↑8 : Int))) (yc (b.getD a.toNat 0) (IntKind.i64.wrap (g.tdiv 16)) fun i => br (decide ((c.length + i.length) * 1 ≤ 140737488355328)) (nx g b (IntKind.i64.wrap (a + 1)) (c ++ i) d e f h) none) none) none) (j g b a c d e f h)
abbrev bwl := Int × (List Int) × Int × (List Int) × Int × (List Int) × Int × (List Int)
abbrev b39 := bwl
def b1x {ρ : Type} (f : bwl → Option ρ) : b1e ρ := fun h d e g a b c i => f (h, d, e, g, a, b, c, i)
def bye {ρ : Type} : adk bwl b39 ρ := fun (g, d, e, f, a, b, c, h) next ex => apb g d e f a b c h (b1x next) (b1x ex)
def b3m {ρ : Type} := shut (lp (bye (ρ := ρ)))
theorem b99 {ρ : Type} : b3m (ρ := ρ) = lp bye := bq _
def bzl {ρ : Type} (f : adj bwl b39 ρ) (h : Int) (d : List Int) (e : Int) (g : List Int) (a : Int) (b : List Int) (c : Int) (i : List Int) (j : b1e ρ) : Option ρ := f (h, d, e, g, a, b, c, i) (fun (h, d, e, g, a, b, c, i) => j h d e g a b c i)
def avx {ρ : Type} := bzl (lp (bye (ρ := ρ)))
def apt {ρ : Type} := bzl (b3m (ρ := ρ))
theorem ayq {ρ : Type} : apt (ρ := ρ) = avx := congrArg bzl b99
def ape {ρ : Type} (c : Int) (e a : List Int) (d : Int) (k : (List Int) → Option ρ) : Option ρ := uo c fun b => br (decide (1 ≤ b)) (br (decide (b * (↑1 : Int) ≤ (↑140737488355328 : Int))) (br (decide (b = 0)) none (br (decide (0 ≤ IntKind.i64.wrap (IntKind.i64.wrap ((IntKind.i64.wrap (IntKind.i64.wrap (IntKind.i64.wrap (IntKind.i64.wrap (2 * b) - 1) - IntKind.i64.wrap (b.tdiv 8)) - (↑a.length : Int))).tmod b + IntKind.i64.wrap (b.tdiv 8)) - 8))) (br (decide ((1 + (IntKind.i64.wrap (IntKind.i64.wrap ((IntKind.i64.wrap (IntKind.i64.wrap (IntKind.i64.wrap (IntKind.i64.wrap (2 * b) - 1) - IntKind.i64.wrap (b.tdiv 8)) - (↑a.length : Int))).tmod b + IntKind.i64.wrap (b.tdiv 8)) - 8)).toNat) * 1 ≤ 140737488355328)) (yc (IntKind.u64.wrap (d * 2 ^ 3)) 8 fun g => br (decide ((((List.replicate (IntKind.i64.wrap (IntKind.i64.wrap ((IntKind.i64.wrap (IntKind.i64.wrap (IntKind.i64.wrap (IntKind.i64.wrap (2 * b) - 1) - IntKind.i64.wrap (b.tdiv 8)) - (↑a.length : Int))).tmod b + IntKind.i64.wrap (b.tdiv 8)) - 8)).toNat (0 : Int)).length.add 0).succ + g.length) * 1 ≤ 140737488355328)) (aac c e a d ((List.replicate 1 (0 : Int)).set 0 128 ++ List.replicate (IntKind.i64.wrap (IntKind.i64.wrap ((IntKind.i64.wrap (IntKind.i64.wrap (IntKind.i64.wrap (IntKind.i64.wrap (2 * b) - 1) - IntKind.i64.wrap (b.tdiv 8)) - (↑a.length : Int))).tmod b + IntKind.i64.wrap (b.tdiv 8)) - 8)).toNat (0 : Int) ++ g) fun j h l m => apt b h 0 [] j h m l fun q r s f i n o p => br (i == 2) (br (decide (48 ≤ (↑f.length : Int))) (k (List.take ((48 : Int) - (0 : Int)).toNat f)) none) (k f)) none) none) none)) none) none
def afe {ρ : Type} := shut (ape (ρ := ρ))
theorem azz {ρ : Type} (b : Int) (a : List Int) (c : List Int) (d : Int) (k : (List Int) → Option ρ) : afe b a c d k = ape b a c d k := by unfold afe; rw [bq]

def ajs {ρ : Type} (a : List Int) (k : (List Int) → Option ρ) : Option ρ := j6 [List.take 1 (List.drop 3 a), List.take 8 (List.drop 8 a), List.take 13 (List.drop 19 a)] fun b => k b
def w9 {ρ : Type} := shut (ajs (ρ := ρ))
theorem ar0 {ρ : Type} (a : List Int) (k : (List Int) → Option ρ) : w9 a k = ajs a k := by unfold w9; rw [bq]

def ae6 {ρ : Type} (n j : List Int) (c : Int) (a d : List Int) (e b g : Int) (f h : List Int) (i : Int) (k : (List Int) → Option ρ) : Option ρ := br (decide (b > 16)) (br (decide ((↑j.length : Int) > b)) (w9 n fun z => j6 [z, j] fun A => aac g f h i A fun B C F G => afe B C F G fun o => br (decide (0 ≤ b)) (br (decide (b ≤ (↑o.length : Int))) (k (List.take (b - 0).toNat (List.drop 0 o))) none) none) (w9 n fun H => j6 [H, j] fun I => aac c a d e I fun J p q r => afe J p q r fun l => br (decide (0 ≤ b)) (br (decide (b ≤ (↑l.length : Int))) (k (List.take (b - 0).toNat (List.drop 0 l))) none) none)) (w9 n fun s => j6 [s, j] fun t => aac c a d e t fun u v w y => afe u v w y fun m => br (decide (0 ≤ b)) (br (decide (b ≤ (↑m.length : Int))) (k (List.take (b - 0).toNat (List.drop 0 m))) none) none)
def jc {ρ : Type} := shut (ae6 (ρ := ρ))
theorem aj6 {ρ : Type} (i : List Int) (j : List Int) (c : Int) (a : List Int) (d : List Int) (e : Int) (l : Int) (f : Int) (b : List Int) (g : List Int) (h : Int) (k : (List Int) → Option ρ) : jc i j c a d e l f b g h k = ae6 i j c a d e l f b g h k := by unfold jc; rw [bq]

def aib {ρ : Type} (b : Int) (a : List Int) (k : Int → (List Int) → (List Int) → Int → Int → Int → (List Int) → (List Int) → Int → Option ρ) : Option ρ := xg 1 64 a fun c d e f => xg 3 128 a fun g h i j => k c d e f b g h i j
def ac8 {ρ : Type} := shut (aib (ρ := ρ))
theorem ao1 {ρ : Type} (a : Int) (b : List Int) (k : Int → (List Int) → (List Int) → Int → Int → Int → (List Int) → (List Int) → Int → Option ρ) : ac8 a b k = aib a b k := by unfold ac8; rw [bq]

def aga {ρ : Type} (b c d e f : Int) (a : Bool) (g : List Int) (k : Int → Int → Int → Int → Int → Bool → Nat → Int → (List Int) → Int → Bool → Int → Int → (List Int) → (List Int) → Int → Int → Int → (List Int) → (List Int) → Int → Bool → Option ρ) : Option ρ := yg b c d e f a fun n => br (!n) (k 0 0 0 0 0 false 0 0 [] 0 false 0 0 [] [] 0 0 0 [] [] 0 false) (br ((↑g.length : Int) != b) (k 0 0 0 0 0 false 0 0 [] 0 false 0 0 [] [] 0 0 0 [] [] 0 false) (br a (acj b g fun o p q r s => k b c d e f a 1 o p q r s 0 [] [] 0 0 0 [] [] 0 true) (ac8 b g fun t u v w h i j l m => k b c d e f a 2 0 [] 0 false 0 t u v w h i j l m true)))
def qp {ρ : Type} := shut (aga (ρ := ρ))
theorem akw {ρ : Type} (b : Int) (c : Int) (d : Int) (e : Int) (f : Int) (a : Bool) (g : List Int) (k : Int → Int → Int → Int → Int → Bool → Nat → Int → (List Int) → Int → Bool → Int → Int → (List Int) → (List Int) → Int → Int → Int → (List Int) → (List Int) → Int → Bool → Option ρ) : qp b c d e f a g k = aga b c d e f a g k := by unfold qp; rw [bq]

def ane {ρ : Type} (b c d e f : Int) (a : Bool) (z g h : List Int) (k : (List Int) → Option ρ) : Option ρ := qp b c d e f a z fun F G H I J M i A B C j l m n o p q r s t u v => br (!v) (k []) (br (decide (i = 1)) (je g h A B C j l fun w => k w) (br (decide (i = 2)) (jc g h m n o p q r s t u fun y => k y) none))
def aeu {ρ : Type} := shut (ane (ρ := ρ))
theorem aya {ρ : Type} (b : Int) (c : Int) (d : Int) (e : Int) (f : Int) (a : Bool) (g : List Int) (h : List Int) (i : List Int) (k : (List Int) → Option ρ) : aeu b c d e f a g h i k = ane b c d e f a g h i k := by unfold aeu; rw [bq]

def ae4 {ρ : Type} (b c d e f : Int) (a : Bool) (i g h : List Int) (j l : Int) (m n : List Int) (k : (List Int) → Option ρ) : Option ρ := iy h 2 2 fun o => iy o 4 (IntKind.u64.wrap j) fun p => iy p 5 l fun q => j6 [m, n] fun r => aeu b c d e f a g q r fun s => k s
def pz {ρ : Type} := shut (ae4 (ρ := ρ))
theorem aj1 {ρ : Type} (c : Int) (d : Int) (e : Int) (f : Int) (g : Int) (a : Bool) (b : List Int) (h : List Int) (i : List Int) (j : Int) (l : Int) (m : List Int) (n : List Int) (k : (List Int) → Option ρ) : pz c d e f g a b h i j l m n k = ae4 c d e f g a b h i j l m n k := by unfold pz; rw [bq]

abbrev b1w (ρ : Type) := (List Int) → Int → Int → Int → Int → Int → Int → Int → Bool → Nat → Int → (List Int) → Int → Bool → Int → Int → (List Int) → (List Int) → Int → Int → Int → (List Int) → (List Int) → Int → (List Int) → Option ρ
def ady {ρ : Type} (z : List Int) (y q r s t u v : Int) (w : Bool) (o : Nat) (a : Int) (b : List Int) (c : Int) (d : Bool) (e f : Int) (g h : List Int) (i j k : Int) (l m : List Int) (n : Int) (p : List Int) (nx B : b1w ρ) : Option ρ := br (decide (q < y)) (iy p 5 (IntKind.u64.wrap q) fun A => br (decide (o = 1)) (je A z a b c d e fun C => nx C y (IntKind.u32.wrap (q + 1)) r s t u v w o a b c d e f g h i j k l m n p) (br (decide (o = 2)) (jc A z f g h i j k l m n fun F => nx F y (IntKind.u32.wrap (q + 1)) r s t u v w o a b c d e f g h i j k l m n p) none)) (B z y q r s t u v w o a b c d e f g h i j k l m n p)
abbrev bx6 := (List Int) × Int × Int × Int × Int × Int × Int × Int × Bool × Nat × Int × (List Int) × Int × Bool × Int × Int × (List Int) × (List Int) × Int × Int × Int × (List Int) × (List Int) × Int × (List Int)
abbrev b5a := bx6
def b0k {ρ : Type} (f : bx6 → Option ρ) : b1w ρ := fun z A y p q r s t u v a b c d e g h i j k l m n o w => f (z, A, y, p, q, r, s, t, u, v, a, b, c, d, e, g, h, i, j, k, l, m, n, o, w)
def bsy {ρ : Type} : adk bx6 b5a ρ := fun (y, z, w, o, p, q, r, s, t, u, a, b, c, d, e, f, g, h, i, j, k, l, m, n, v) next ex => ady y z w o p q r s t u a b c d e f g h i j k l m n v (b0k next) (b0k ex)
def b5e {ρ : Type} := shut (lp (bsy (ρ := ρ)))
theorem b8e {ρ : Type} : b5e (ρ := ρ) = lp bsy := bq _
def bz9 {ρ : Type} (f : adj bx6 b5a ρ) (z : List Int) (A y p q r s t : Int) (u : Bool) (v : Nat) (a : Int) (b : List Int) (c : Int) (d : Bool) (e g : Int) (h i : List Int) (j k l : Int) (m n : List Int) (o : Int) (w : List Int) (B : b1w ρ) : Option ρ := f (z, A, y, p, q, r, s, t, u, v, a, b, c, d, e, g, h, i, j, k, l, m, n, o, w) (fun (z, A, y, p, q, r, s, t, u, v, a, b, c, d, e, g, h, i, j, k, l, m, n, o, w) => B z A y p q r s t u v a b c d e g h i j k l m n o w)
def ahf {ρ : Type} := bz9 (lp (bsy (ρ := ρ)))
def ahd {ρ : Type} := bz9 (b5e (ρ := ρ))
theorem ak0 {ρ : Type} : ahd (ρ := ρ) = ahf := congrArg bz9 b8e
def ac7 {ρ : Type} (q r s t u : Int) (m : Bool) (v : Nat) (d : Int) (a : List Int) (n : Int) (l : Bool) (o e : Int) (b f : List Int) (g p h : Int) (c i : List Int) (j : Int) (w y : List Int) (z A : Int) (k : (List Int) → Option ρ) : Option ρ := ahd y A z q r s t u m v d a n l o e b f g p h c i j w fun B q1 q2 q3 q4 q5 q6 q7 q8 q9 C F G H I J M N O Q U W Z aa ab => k B
def jy {ρ : Type} := shut (ac7 (ρ := ρ))
theorem ahb {ρ : Type} (q : Int) (r : Int) (s : Int) (t : Int) (u : Int) (m : Bool) (v : Nat) (d : Int) (a : List Int) (n : Int) (l : Bool) (o : Int) (e : Int) (b : List Int) (f : List Int) (g : Int) (p : Int) (h : Int) (c : List Int) (i : List Int) (j : Int) (w : List Int) (y : List Int) (z : Int) (A : Int) (k : (List Int) → Option ρ) : jy q r s t u m v d a n l o e b f g p h c i j w y z A k = ac7 q r s t u m v d a n l o e b f g p h c i j w y z A k := by unfold jy; rw [bq]

def aix {ρ : Type} (b : List Int) (a : Int) (k : Int → Option ρ) : Option ρ := br (decide (0 ≤ IntKind.i64.wrap (8 + IntKind.i64.wrap (4 * a)))) (br (decide (IntKind.i64.wrap (8 + IntKind.i64.wrap (4 * a)) ≤ IntKind.i64.wrap (12 + IntKind.i64.wrap (4 * a)))) (br (decide (IntKind.i64.wrap (12 + IntKind.i64.wrap (4 * a)) ≤ (↑32 : Int))) (yx (List.take (IntKind.i64.wrap (12 + IntKind.i64.wrap (4 * a)) - IntKind.i64.wrap (8 + IntKind.i64.wrap (4 * a))).toNat (List.drop (IntKind.i64.wrap (8 + IntKind.i64.wrap (4 * a))).toNat b)) fun c => k c) none) none) none
def tq {ρ : Type} := shut (aix (ρ := ρ))
theorem aon {ρ : Type} (a : List Int) (b : Int) (k : Int → Option ρ) : tq a b k = aix a b k := by unfold tq; rw [bq]

def aco {ρ : Type} (r s t u v : Int) (q : Bool) (n : Nat) (d : Int) (a : List Int) (m : Int) (l : Bool) (o e : Int) (b f : List Int) (g p h : Int) (c i : List Int) (j : Int) (w y : List Int) (A : Int) (k : (List Int) → Option ρ) : Option ρ := iy y 2 5 fun B => tq y 3 fun C => iy B 3 C fun F => iy F 4 (IntKind.u64.wrap A) fun z => br (decide (n = 1)) (je z w d a m l o fun G => k G) (br (decide (n = 2)) (jc z w e b f g p h c i j fun H => k H) none)
def mq {ρ : Type} := shut (aco (ρ := ρ))
theorem ahk {ρ : Type} (q : Int) (r : Int) (s : Int) (t : Int) (u : Int) (m : Bool) (v : Nat) (d : Int) (a : List Int) (n : Int) (l : Bool) (o : Int) (e : Int) (b : List Int) (f : List Int) (g : Int) (p : Int) (h : Int) (c : List Int) (i : List Int) (j : Int) (w : List Int) (y : List Int) (z : Int) (k : (List Int) → Option ρ) : mq q r s t u m v d a n l o e b f g p h c i j w y z k = aco q r s t u m v d a n l o e b f g p h c i j w y z k := by unfold mq; rw [bq]

def acr {ρ : Type} (a r s t u : Int) (n : Bool) (v : Nat) (e : Int) (b : List Int) (o : Int) (m : Bool) (p f : Int) (c g : List Int) (h q i : Int) (d j : List Int) (l : Int) (k : Int → Option ρ) : Option ρ := k (IntKind.i64.wrap (IntKind.i64.wrap (2 * a) + 3))
def ng {ρ : Type} := shut (acr (ρ := ρ))
theorem ahi {ρ : Type} (q : Int) (r : Int) (s : Int) (t : Int) (u : Int) (m : Bool) (v : Nat) (d : Int) (a : List Int) (n : Int) (l : Bool) (o : Int) (e : Int) (b : List Int) (f : List Int) (g : Int) (p : Int) (h : Int) (c : List Int) (i : List Int) (j : Int) (k : Int → Option ρ) : ng q r s t u m v d a n l o e b f g p h c i j k = acr q r s t u m v d a n l o e b f g p h c i j k := by unfold ng; rw [bq]

def aea {ρ : Type} (r s t u v : Int) (q : Bool) (n : Nat) (d : Int) (a : List Int) (m : Int) (l : Bool) (o e : Int) (b f : List Int) (g p h : Int) (c i : List Int) (j : Int) (w y : List Int) (k : (List Int) → Option ρ) : Option ρ := iy y 2 1 fun A => tq y 3 fun B => iy A 3 B fun z => br (decide (n = 1)) (je z w d a m l o fun C => k C) (br (decide (n = 2)) (jc z w e b f g p h c i j fun F => k F) none)
def o9 {ρ : Type} := shut (aea (ρ := ρ))
theorem ai9 {ρ : Type} (q : Int) (r : Int) (s : Int) (t : Int) (u : Int) (m : Bool) (v : Nat) (d : Int) (a : List Int) (n : Int) (l : Bool) (o : Int) (e : Int) (b : List Int) (f : List Int) (g : Int) (p : Int) (h : Int) (c : List Int) (i : List Int) (j : Int) (w : List Int) (y : List Int) (k : (List Int) → Option ρ) : o9 q r s t u m v d a n l o e b f g p h c i j w y k = aea q r s t u m v d a n l o e b f g p h c i j w y k := by unfold o9; rw [bq]

abbrev b5y (ρ : Type) := (List Int) → Int → Int → (List Int) → (List Int) → Int → Int → Int → Int → Int → Bool → Nat → Int → (List Int) → Int → Bool → Int → Int → (List Int) → (List Int) → Int → Int → Int → (List Int) → (List Int) → Int → Option ρ
def ajc {ρ : Type} (A : List Int) (y w : Int) (z o : List Int) (p q r s t : Int) (u : Bool) (v : Nat) (a : Int) (b : List Int) (c : Int) (d : Bool) (e f : Int) (g h : List Int) (i j k : Int) (l m : List Int) (n : Int) (nx C : b5y ρ) : Option ρ := br (decide (w < y)) (iy o 4 (IntKind.u64.wrap w) fun F => mq p q r s t u v a b c d e f g h i j k l m n A o w fun G => jy p q r s t u v a b c d e f g h i j k l m n F G 0 15 fun B => br (decide ((z.length + B.length) * 1 ≤ 140737488355328)) (nx A y (IntKind.i64.wrap (w + 1)) (z ++ B) o p q r s t u v a b c d e f g h i j k l m n) none) (C A y w z o p q r s t u v a b c d e f g h i j k l m n)
abbrev bwt := (List Int) × Int × Int × (List Int) × (List Int) × Int × Int × Int × Int × Int × Bool × Nat × Int × (List Int) × Int × Bool × Int × Int × (List Int) × (List Int) × Int × Int × Int × (List Int) × (List Int) × Int
abbrev b2v := bwt
def b44 {ρ : Type} (f : bwt → Option ρ) : b5y ρ := fun B y z A p q r s t u v w a b c d e g h i j k l m n o => f (B, y, z, A, p, q, r, s, t, u, v, w, a, b, c, d, e, g, h, i, j, k, l, m, n, o)
def bxi {ρ : Type} : adk bwt b2v ρ := fun (A, w, y, z, o, p, q, r, s, t, u, v, a, b, c, d, e, f, g, h, i, j, k, l, m, n) next ex => ajc A w y z o p q r s t u v a b c d e f g h i j k l m n (b44 next) (b44 ex)
def b1m {ρ : Type} := shut (lp (bxi (ρ := ρ)))
theorem b81 {ρ : Type} : b1m (ρ := ρ) = lp bxi := bq _
def byw {ρ : Type} (f : adj bwt b2v ρ) (B : List Int) (y z : Int) (A p : List Int) (q r s t u : Int) (v : Bool) (w : Nat) (a : Int) (b : List Int) (c : Int) (d : Bool) (e g : Int) (h i : List Int) (j k l : Int) (m n : List Int) (o : Int) (C : b5y ρ) : Option ρ := f (B, y, z, A, p, q, r, s, t, u, v, w, a, b, c, d, e, g, h, i, j, k, l, m, n, o) (fun (B, y, z, A, p, q, r, s, t, u, v, w, a, b, c, d, e, g, h, i, j, k, l, m, n, o) => C B y z A p q r s t u v w a b c d e g h i j k l m n o)
def aoy {ρ : Type} := byw (lp (bxi (ρ := ρ)))
def ao5 {ρ : Type} := byw (b1m (ρ := ρ))
theorem atd {ρ : Type} : ao5 (ρ := ρ) = aoy := congrArg byw b81
def aiq {ρ : Type} (b o p q r : Int) (a : Bool) (s a2 a3 : List Int) (k : (List Int) → Option ρ) : Option ρ := qp b o p q r a a2 fun t u v w y z A B C F c d e f g h i j l m n G => br (!G) (k []) (br ((↑s.length : Int) != b) (k []) (ng t u v w y z A B C F c d e f g h i j l m n fun H => ao5 s H 0 [] a3 t u v w y z A B C F c d e f g h i j l m n fun ap aq ar I J M N O Q U W Z aa ab ac ad ae af ag ah ai aj ak al am an => o9 M N O Q U W Z aa ab ac ad ae af ag ah ai aj ak al am an I J fun ao => k ao))
def zn {ρ : Type} := shut (aiq (ρ := ρ))
theorem aoj {ρ : Type} (b : Int) (c : Int) (d : Int) (e : Int) (f : Int) (a : Bool) (g : List Int) (h : List Int) (i : List Int) (k : (List Int) → Option ρ) : zn b c d e f a g h i k = aiq b c d e f a g h i k := by unfold zn; rw [bq]

def acf {ρ : Type} (rc : Int → Int → Int → Int → Int → Bool → (List Int) → (List Int) → (List Int) → Int → Int → ((List Int) → Option ρ) → Option ρ) (c d e f g : Int) (a : Bool) (b h i : List Int) (j l : Int) (k : (List Int) → Option ρ) : Option ρ := br (j == 0) (nk c d e f g a b h i l fun m => zn c d e f g a b h m fun n => k n) (rc c d e f g a b h i (IntKind.i64.wrap (j - 1)) (IntKind.u64.wrap (2 * l)) fun o => rc c d e f g a b h i (IntKind.i64.wrap (j - 1)) (IntKind.u64.wrap (IntKind.u64.wrap (2 * l) + 1)) fun p => pz c d e f g a b h i j l o p fun q => k q)
def oo {ρ : Type} (n : Nat) : Int → Int → Int → Int → Int → Bool → (List Int) → (List Int) → (List Int) → Int → Int → ((List Int) → Option ρ) → Option ρ := Nat.rec (fun _ _ _ _ _ _ _ _ _ _ _ _ => none) (fun _ rc => shut (acf (ρ := ρ) rc)) n
theorem af5 {ρ : Type} (n : Nat) : oo (ρ := ρ) (n + 1) = acf (oo n) := bq _

end P
end
