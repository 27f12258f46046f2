/-
  LmsGrows, part 12: an interpreter of my own over abstract values, the pure functions, the walks and the plain law.
-/

import Derived.Test.YtmipokjdajiimaaGreatDoorLmsGrowsH
import Derived.Test.YtmipokjdajiimaaGreatDoorLmsGrowsK
import Derived.Test.YtmipokjdajiimaaGreatDoorLmsGrowsI

noncomputable section
open Go Go.Abs
set_option linter.unusedVariables false
namespace P

abbrev buz (ρ : Type) := (List Int) → Int → Int → Int → Int → Int → (List Int) → Option ρ
def aik {ρ : Type} (d : List Int) (b e c f a : Int) (g : List Int) (nx h : buz ρ) : Option ρ := br (decide (a < b)) (br (decide (0 ≤ IntKind.i64.wrap ((IntKind.i64.wrap (IntKind.i64.wrap (c * b) + a)).tdiv 8))) (br (decide (IntKind.i64.wrap ((IntKind.i64.wrap (IntKind.i64.wrap (c * b) + a)).tdiv 8) < (↑d.length : Int))) (br (decide (IntKind.i64.wrap (7 - (IntKind.i64.wrap (IntKind.i64.wrap (c * b) + a)).tmod 8) < 0)) none (nx d b e c (IntKind.u32.wrap (IntKind.u32.wrap (f * 2) + IntKind.u32.wrap (bits BinOp.and IntKind.u8 ((d.getD (IntKind.i64.wrap ((IntKind.i64.wrap (IntKind.i64.wrap (c * b) + a)).tdiv 8)).toNat 0).fdiv (2 ^ min (IntKind.i64.wrap (7 - (IntKind.i64.wrap (IntKind.i64.wrap (c * b) + a)).tmod 8)).toNat 8)) 1))) (IntKind.i64.wrap (a + 1)) g)) none) none) (h d b e c f a g)
abbrev brt := (List Int) × Int × Int × Int × Int × Int × (List Int)
abbrev bu2 := brt
def bt4 {ρ : Type} (f : brt → Option ρ) : buz ρ := fun b c d e g a h => f (b, c, d, e, g, a, h)
def brl {ρ : Type} : afi brt bu2 ρ := fun (b, c, d, e, f, a, g) next ex => aik b c d e f a g (bt4 next) (bt4 ex)
def bxl {ρ : Type} := shut (lp (brl (ρ := ρ)))
theorem by7 {ρ : Type} : bxl (ρ := ρ) = lp brl := ay _
def bs0 {ρ : Type} (f : afj brt bu2 ρ) (b : List Int) (c d e g a : Int) (h : List Int) (i : buz ρ) : Option ρ := f (b, c, d, e, g, a, h) (fun (b, c, d, e, g, a, h) => i b c d e g a h)
def an4 {ρ : Type} := bs0 (lp (brl (ρ := ρ)))
def ane {ρ : Type} := bs0 (bxl (ρ := ρ))
theorem aq1 {ρ : Type} : ane (ρ := ρ) = an4 := congrArg bs0 by7
abbrev bt5 (ρ : Type) := (List Int) → Int → Int → Int → (List Int) → Option ρ
def aij {ρ : Type} (c : List Int) (d a b : Int) (e : List Int) (nx g : bt5 ρ) : Option ρ := br (decide (b < a)) (ane c d a b 0 0 e fun h i j k l m f => br (decide ((f.length + 1) * 4 ≤ 140737488355328)) (nx h i j (IntKind.i64.wrap (k + 1)) (f ++ [l])) none) (g c d a b e)
abbrev bqj := (List Int) × Int × Int × Int × (List Int)
abbrev bwk := bqj
def bxu {ρ : Type} (f : bqj → Option ρ) : bt5 ρ := fun a b c d e => f (a, b, c, d, e)
def bsa {ρ : Type} : afi bqj bwk ρ := fun (a, b, c, d, e) next ex => aij a b c d e (bxu next) (bxu ex)
def bvr {ρ : Type} := shut (lp (bsa (ρ := ρ)))
theorem bzc {ρ : Type} : bvr (ρ := ρ) = lp bsa := ay _
def bsx {ρ : Type} (f : afj bqj bwk ρ) (a : List Int) (b c d : Int) (e : List Int) (g : bt5 ρ) : Option ρ := f (a, b, c, d, e) (fun (a, b, c, d, e) => g a b c d e)
def an0 {ρ : Type} := bsx (lp (bsa (ρ := ρ)))
def anm {ρ : Type} := bsx (bvr (ρ := ρ))
theorem aq9 {ρ : Type} : anm (ρ := ρ) = an0 := congrArg bsx bzc
def ahe {ρ : Type} (a : List Int) (b c : Int) (k : (List Int) → Option ρ) : Option ρ := acs a b c fun d => br (!d) (k []) (anm a b c 0 [] fun f g h i e => k e)
def u6 {ρ : Type} := shut (ahe (ρ := ρ))
theorem amv {ρ : Type} (a : List Int) (b : Int) (c : Int) (k : (List Int) → Option ρ) : u6 a b c k = ahe a b c k := by unfold u6; rw [ay]

abbrev bwy (ρ : Type) := Int → (List Int) → Int → Int → Int → Int → (List Int) → Option ρ
def aiu {ρ : Type} (c : Int) (e : List Int) (f g d a : Int) (b : List Int) (nx h : bwy ρ) : Option ρ := br (decide (a < (↑b.length : Int))) (br (decide (c < 0)) none (br (decide (0 ≤ a)) (br (decide (a < (↑b.length : Int))) (nx c e f g (IntKind.u64.wrap (IntKind.u64.wrap (d + IntKind.u64.wrap (IntKind.u64.wrap (1 * 2 ^ min c.toNat 64) - 1)) - IntKind.u64.wrap (b.getD a.toNat 0))) (IntKind.i64.wrap (a + 1)) b) none) none)) (h c e f g d a b)
abbrev bp0 := Int × (List Int) × Int × Int × Int × Int × (List Int)
abbrev bwx := bp0
def bxh {ρ : Type} (f : bp0 → Option ρ) : bwy ρ := fun c d e g a b h => f (c, d, e, g, a, b, h)
def bqz {ρ : Type} : afi bp0 bwx ρ := fun (c, d, e, f, a, b, g) next ex => aiu c d e f a b g (bxh next) (bxh ex)
def bvh {ρ : Type} := shut (lp (bqz (ρ := ρ)))
theorem bzi {ρ : Type} : bvh (ρ := ρ) = lp bqz := ay _
def btb {ρ : Type} (f : afj bp0 bwx ρ) (c : Int) (d : List Int) (e g a b : Int) (h : List Int) (i : bwy ρ) : Option ρ := f (c, d, e, g, a, b, h) (fun (c, d, e, g, a, b, h) => i c d e g a b h)
def anq {ρ : Type} := btb (lp (bqz (ρ := ρ)))
def am4 {ρ : Type} := btb (bvh (ρ := ρ))
theorem ari {ρ : Type} : am4 (ρ := ρ) = anq := congrArg btb bzi
def ag7 {ρ : Type} (a : Int) (b : List Int) (k : (List Int) → Int → Option ρ) : Option ρ := og a fun c h p => br (c == 0) (k [] 9) (br ((↑b.length : Int) != 32) (k [] 14) (br (decide (a = 0)) none (u6 b a (IntKind.i64.wrap (Int.tdiv 256 a)) fun i => am4 a b c h 0 0 i fun j l m d n q o => br (decide (d < 0)) none (jd (IntKind.u64.wrap (n * 2 ^ min d.toNat 64)) 2 fun e => kg [l, e] fun f => u6 f j m fun g => k g 0))))
def abq {ρ : Type} := shut (ag7 (ρ := ρ))
theorem an2 {ρ : Type} (a : Int) (b : List Int) (k : (List Int) → Int → Option ρ) : abq a b k = ag7 a b k := by unfold abq; rw [ay]

def ahk {ρ : Type} (a : List Int) (b : Int) (c d : List Int) (k : (List Int) → Option ρ) : Option ρ := jd (IntKind.u64.wrap b) 4 fun e => jd 33153 2 fun f => aew [a, e, f, c, d] fun g => k g
def abt {ρ : Type} := shut (ahk (ρ := ρ))
theorem ang {ρ : Type} (a : List Int) (b : Int) (c : List Int) (d : List Int) (k : (List Int) → Option ρ) : abt a b c d k = ahk a b c d k := by unfold abt; rw [ay]

abbrev bur (ρ : Type) := (List Int) → Int → (List Int) → Int → (List (List Int)) → (List Int) → Option ρ
def amr {ρ : Type} (d : List Int) (e : Int) (f : List Int) (a : Int) (b : List (List Int)) (c : List Int) (nx g : bur ρ) : Option ρ := br (decide (a < (↑c.length : Int))) (br (decide (0 ≤ a)) (br (decide (a < (↑c.length : Int))) (abv d e a f fun h => aai d e a 0 (IntKind.i64.wrap (c.getD a.toNat 0)) h fun i => br (decide ((b.length + 1) * 24 ≤ 140737488355328)) (nx d e f (IntKind.i64.wrap (a + 1)) (b ++ [i]) c) none) none) none) (g d e f a b c)
abbrev bsl := (List Int) × Int × (List Int) × Int × (List (List Int)) × (List Int)
abbrev bxp := bsl
def bt1 {ρ : Type} (f : bsl → Option ρ) : bur ρ := fun c d e a b g => f (c, d, e, a, b, g)
def br1 {ρ : Type} : afi bsl bxp ρ := fun (c, d, e, a, b, f) next ex => amr c d e a b f (bt1 next) (bt1 ex)
def bw3 {ρ : Type} := shut (lp (br1 (ρ := ρ)))
theorem by4 {ρ : Type} : bw3 (ρ := ρ) = lp br1 := ay _
def bti {ρ : Type} (f : afj bsl bxp ρ) (c : List Int) (d : Int) (e : List Int) (a : Int) (b : List (List Int)) (g : List Int) (h : bur ρ) : Option ρ := f (c, d, e, a, b, g) (fun (c, d, e, a, b, g) => h c d e a b g)
def asq {ρ : Type} := bti (lp (br1 (ρ := ρ)))
def aue {ρ : Type} := bti (bw3 (ρ := ρ))
theorem au6 {ρ : Type} : aue (ρ := ρ) = asq := congrArg bti by4
def aje {ρ : Type} (b : Int) (a : List Int) (c : Int) (d i : List Int) (k : (List Int) → Int → Option ρ) : Option ρ := aaf b a d fun e => br (e != 0) (k [] e) (og b fun s t j => abv a c 65533 d fun f => abt a c f i fun l => abq b l fun m u => jd j 4 fun n => aue a c d 0 [n, f] m fun v o p q g r => kg g fun h => k h 0)
def afc {ρ : Type} := shut (aje (ρ := ρ))
theorem atb {ρ : Type} (a : Int) (b : List Int) (c : Int) (d : List Int) (e : List Int) (k : (List Int) → Int → Option ρ) : afc a b c d e k = aje a b c d e k := by unfold afc; rw [ay]

abbrev byc (ρ : Type) := Int → (List (List Int)) → (List (List Int)) → Option ρ
def aki {ρ : Type} (a : Int) (b c : List (List Int)) (nx d : byc ρ) : Option ρ := br (decide (a > 1)) (br (decide (0 ≤ bits BinOp.xor IntKind.i64 a 1)) (br (decide (bits BinOp.xor IntKind.i64 a 1 < (↑c.length : Int))) (br (decide ((b.length + 1) * 24 ≤ 140737488355328)) (nx (IntKind.i64.wrap (a.tdiv 2)) (b ++ [c.getD (bits BinOp.xor IntKind.i64 a 1).toNat []]) c) none) none) none) (d a b c)
abbrev brh := Int × (List (List Int)) × (List (List Int))
abbrev bv4 := brh
def bt0 {ρ : Type} (f : brh → Option ρ) : byc ρ := fun a b c => f (a, b, c)
def bqq {ρ : Type} : afi brh bv4 ρ := fun (a, b, c) next ex => aki a b c (bt0 next) (bt0 ex)
def by1 {ρ : Type} := shut (lp (bqq (ρ := ρ)))
theorem b0e {ρ : Type} : by1 (ρ := ρ) = lp bqq := ay _
def bso {ρ : Type} (f : afj brh bv4 ρ) (a : Int) (b c : List (List Int)) (d : byc ρ) : Option ρ := f (a, b, c) (fun (a, b, c) => d a b c)
def aqg {ρ : Type} := bso (lp (bqq (ρ := ρ)))
def aqe {ρ : Type} := bso (by1 (ρ := ρ))
theorem at6 {ρ : Type} : aqe (ρ := ρ) = aqg := congrArg bso b0e
def aef {ρ : Type} (a b : Int) (d e : List Int) (c : Int) (h : List Int) (k : (List Int) → Int → Option ρ) : Option ρ := uj a b d e fun f => br (f != 0) (k [] f) (br (decide (a < 0)) none (br (decide (IntKind.u64.wrap c ≥ IntKind.u64.wrap (1 * 2 ^ min a.toNat 64))) (k [] 13) (afc b d c e h fun i p => jd (IntKind.u64.wrap c) 4 fun j => sw a fun l => jd l 4 fun m => aae a b d e fun n => br (decide (a < 0)) none (aqe (IntKind.i64.wrap (IntKind.i64.wrap (1 * 2 ^ min a.toNat 64) + IntKind.i64.wrap c)) [j, i, m] n fun q o r => kg o fun g => k g 0))))
def ac5 {ρ : Type} := shut (aef (ρ := ρ))
theorem aie {ρ : Type} (a : Int) (b : Int) (c : List Int) (d : List Int) (e : Int) (f : List Int) (k : (List Int) → Int → Option ρ) : ac5 a b c d e f k = aef a b c d e f k := by unfold ac5; rw [ay]

def agz {ρ : Type} (a b : Int) (k : Int → Option ρ) : Option ρ := yx a b fun c => br (!c) (k 0) (y9 b fun d => k (IntKind.i64.wrap (IntKind.i64.wrap (8 + IntKind.i64.wrap (32 * a)) + d)))
def ae7 {ρ : Type} := shut (agz (ρ := ρ))
theorem amj {ρ : Type} (a : Int) (b : Int) (k : Int → Option ρ) : ae7 a b k = agz a b k := by unfold ae7; rw [ay]

def ae2 {ρ : Type} (a b : Int) (c d : List Int) (f : Int) (e : List Int) (k : Bool → Option ρ) : Option ρ := adi a b fun q => br (!q) (um fun r => k r) (aes [c, d, e] fun s => br (!s) (um fun t => k t) (aak a b c d fun u v => aam a b c d fun w y => acw a b c d f e fun z A => ac5 a b c d f e fun g h => wm a b fun i => yx a b fun j => br (i == j) (ze a b fun l => ae7 a b fun m => br (l == m) (z8 u w fun n => br n (br (v == y) (z8 z g fun o => br o (br (A == h) (um fun p => k p) (k false)) (k false)) (k false)) (k false)) (k false)) (k false)))
def yt {ρ : Type} := shut (ae2 (ρ := ρ))
theorem akh {ρ : Type} (a : Int) (b : Int) (c : List Int) (d : List Int) (e : Int) (f : List Int) (k : Bool → Option ρ) : yt a b c d e f k = ae2 a b c d e f k := by unfold yt; rw [ay]











































































end P
end
