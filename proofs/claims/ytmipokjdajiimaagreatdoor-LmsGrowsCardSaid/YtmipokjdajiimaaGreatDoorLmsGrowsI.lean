/-
  LmsGrows, part 9: an interpreter of my own over abstract values, the pure functions, the walks and the plain law.
-/

import Derived.Test.YtmipokjdajiimaaGreatDoorLmsGrowsH

noncomputable section
open Go Go.Abs
set_option linter.unusedVariables false
namespace P

abbrev zc1 (ρ : Type) := (List Int) → (List Int) → Int → Option ρ
def amk {ρ : Type} (b c : List Int) (a : Int) (nx d : zc1 ρ) (e : Bool → Option ρ) : Option ρ := br (decide (a < (↑b.length : Int))) (br (decide (0 ≤ a)) (br (decide (a < (↑b.length : Int))) (br (decide (0 ≤ a)) (br (decide (a < (↑c.length : Int))) (br (b.getD a.toNat 0 != c.getD a.toNat 0) (e false) (nx b c (IntKind.i64.wrap (a + 1)))) none) none) none) none) (d b c a)
abbrev zt1 := (List Int) × (List Int) × Int
abbrev zy1 := ((List Int) × (List Int) × Int) ⊕ (Bool)
def zu1 {ρ : Type} (f : zt1 → Option ρ) : zc1 ρ := fun a b c => f (a, b, c)
def zs1 {ρ : Type} : afi zt1 zy1 ρ := fun (a, b, c) next ex => amk a b c (zu1 next) (fun a b c => ex (.inl (a, b, c))) (fun d => ex (.inr d))
def zm1 {ρ : Type} := shut (lp (zs1 (ρ := ρ)))
theorem ze1 {ρ : Type} : zm1 (ρ := ρ) = lp zs1 := ay _
def zk1 {ρ : Type} (f : afj zt1 zy1 ρ) (a b : List Int) (c : Int) (d : zc1 ρ) (e : Bool → Option ρ) : Option ρ := f (a, b, c) (Sum.elim (fun (a, b, c) => d a b c) (fun x => e x))
def asl {ρ : Type} := zk1 (lp (zs1 (ρ := ρ)))
def ar1 {ρ : Type} := zk1 (zm1 (ρ := ρ))
theorem au8 {ρ : Type} : ar1 (ρ := ρ) = asl := congrArg zk1 ze1
def aj9 {ρ : Type} (a b : List Int) (k : Bool → Option ρ) : Option ρ := br ((↑a.length : Int) != (↑b.length : Int)) (k false) (ar1 a b 0 (fun d e f => k true) fun c => k c)
def z8 {ρ : Type} := shut (aj9 (ρ := ρ))
theorem asj {ρ : Type} (a : List Int) (b : List Int) (k : Bool → Option ρ) : z8 a b k = aj9 a b k := by unfold z8; rw [ay]

def agx {ρ : Type} (a : Int) (k : Int → Option ρ) : Option ρ := br (decide (a ≥ (1 : Int))) (br (decide (a ≤ (4 : Int))) (k (IntKind.u64.wrap ((3758096384 : Int) + IntKind.u64.wrap a))) (br (decide (a ≥ (5 : Int))) (br (decide (a ≤ (25 : Int))) (br (a.tmod (5 : Int) == (0 : Int)) (k (IntKind.u64.wrap (IntKind.i64.wrap ((4 : Int) + IntKind.i64.wrap (a.tdiv (5 : Int)))))) (k (0 : Int))) (k (0 : Int))) (k (0 : Int)))) (br (decide (a ≥ (5 : Int))) (br (decide (a ≤ (25 : Int))) (br (a.tmod (5 : Int) == (0 : Int)) (k (IntKind.u64.wrap (IntKind.i64.wrap ((4 : Int) + IntKind.i64.wrap (a.tdiv (5 : Int)))))) (k (0 : Int))) (k (0 : Int))) (k (0 : Int)))
def sw {ρ : Type} := shut (agx (ρ := ρ))
theorem amd {ρ : Type} (a : Int) (k : Int → Option ρ) : sw a k = agx a k := by unfold sw; rw [ay]

def akn {ρ : Type} (a : Int) (k : Int → Int → Int → Option ρ) : Option ρ := br (a == 1) (k 265 7 1) (br (a == 2) (k 133 6 2) (br (a == 4) (k 67 4 3) (br (a == 8) (k 34 0 4) (k 0 0 0))))
def og {ρ : Type} := shut (akn (ρ := ρ))
theorem ace {ρ : Type} (a : Int) (k : Int → Int → Int → Option ρ) : og a k = akn a k := by unfold og; rw [ay]

def agr {ρ : Type} (b : Int) (k : Int → Option ρ) : Option ρ := og b fun a c d => br (a == 0) (k 0) (k (IntKind.i64.wrap (36 + IntKind.i64.wrap (32 * a))))
def y9 {ρ : Type} := shut (agr (ρ := ρ))
theorem aml {ρ : Type} (a : Int) (k : Int → Option ρ) : y9 a k = agr a k := by unfold y9; rw [ay]

def amg {ρ : Type} (a b : Int) (k : Bool → Option ρ) : Option ρ := sw a fun c => br (c != 0) (y9 b fun d => k (d != 0)) (k false)
def yx {ρ : Type} := shut (amg (ρ := ρ))
theorem awp {ρ : Type} (a : Int) (b : Int) (k : Bool → Option ρ) : yx a b k = amg a b k := by unfold yx; rw [ay]

def ac9 {ρ : Type} (a b : Int) (k : Bool → Option ρ) : Option ρ := br (decide (a ≤ 2)) (br (b != 8) (k true) (br (decide (a > 10)) (k true) (yx a b fun c => k !c))) (br (decide (a > 10)) (k true) (yx a b fun d => k !d))
def adi {ρ : Type} := shut (ac9 (ρ := ρ))
theorem agk {ρ : Type} (a : Int) (b : Int) (k : Bool → Option ρ) : adi a b k = ac9 a b k := by unfold adi; rw [ay]

abbrev zc2 (ρ : Type) := (List (List Int)) → Int → Int → Option ρ
def akp {ρ : Type} (b : List (List Int)) (c a : Int) (nx d : zc2 ρ) (e : Bool → Option ρ) : Option ρ := br (decide (a < c)) (br (decide (0 ≤ a)) (br (decide (a < (↑b.length : Int))) (br (decide ((↑(b.getD a.toNat []).length : Int) > 300)) (e false) (nx b c (IntKind.i64.wrap (a + 1)))) none) none) (d b c a)
abbrev zt2 := (List (List Int)) × Int × Int
abbrev zy2 := ((List (List Int)) × Int × Int) ⊕ (Bool)
def zu2 {ρ : Type} (f : zt2 → Option ρ) : zc2 ρ := fun a b c => f (a, b, c)
def zs2 {ρ : Type} : afi zt2 zy2 ρ := fun (a, b, c) next ex => akp a b c (zu2 next) (fun a b c => ex (.inl (a, b, c))) (fun d => ex (.inr d))
def zm2 {ρ : Type} := shut (lp (zs2 (ρ := ρ)))
theorem ze2 {ρ : Type} : zm2 (ρ := ρ) = lp zs2 := ay _
def zk2 {ρ : Type} (f : afj zt2 zy2 ρ) (a : List (List Int)) (b c : Int) (d : zc2 ρ) (e : Bool → Option ρ) : Option ρ := f (a, b, c) (Sum.elim (fun (a, b, c) => d a b c) (fun x => e x))
def avo {ρ : Type} := zk2 (lp (zs2 (ρ := ρ)))
def awv {ρ : Type} := zk2 (zm2 (ρ := ρ))
theorem ayt {ρ : Type} : awv (ρ := ρ) = avo := congrArg zk2 ze2
def amn {ρ : Type} (a : List (List Int)) (k : Bool → Option ρ) : Option ρ := awv a (↑a.length : Int) 0 (fun c d e => k true) fun b => k b
def aes {ρ : Type} := shut (amn (ρ := ρ))
theorem avq {ρ : Type} (a : List (List Int)) (k : Bool → Option ρ) : aes a k = amn a k := by unfold aes; rw [ay]

def agv {ρ : Type} (a : Int) (k : Int → Option ρ) : Option ρ := br (a == 1) (br (a == 1) (k (IntKind.u64.wrap (3758096384 + IntKind.u64.wrap a))) (br (a == 5) (br (a == 5) (k (IntKind.u64.wrap (IntKind.u64.wrap ((IntKind.u64.wrap a).tdiv 5) + 4))) (k 0)) (br (a == 10) (br (a == 10) (k (IntKind.u64.wrap (IntKind.u64.wrap ((IntKind.u64.wrap a).tdiv 5) + 4))) (k 0)) (br (a == 15) (br (a == 15) (k (IntKind.u64.wrap (IntKind.u64.wrap ((IntKind.u64.wrap a).tdiv 5) + 4))) (k 0)) (br (a == 20) (br (a == 20) (k (IntKind.u64.wrap (IntKind.u64.wrap ((IntKind.u64.wrap a).tdiv 5) + 4))) (k 0)) (br (a == 25) (k (IntKind.u64.wrap (IntKind.u64.wrap ((IntKind.u64.wrap a).tdiv 5) + 4))) (k 0))))))) (br (a == 2) (br (a == 2) (k (IntKind.u64.wrap (3758096384 + IntKind.u64.wrap a))) (br (a == 5) (br (a == 5) (k (IntKind.u64.wrap (IntKind.u64.wrap ((IntKind.u64.wrap a).tdiv 5) + 4))) (k 0)) (br (a == 10) (br (a == 10) (k (IntKind.u64.wrap (IntKind.u64.wrap ((IntKind.u64.wrap a).tdiv 5) + 4))) (k 0)) (br (a == 15) (br (a == 15) (k (IntKind.u64.wrap (IntKind.u64.wrap ((IntKind.u64.wrap a).tdiv 5) + 4))) (k 0)) (br (a == 20) (br (a == 20) (k (IntKind.u64.wrap (IntKind.u64.wrap ((IntKind.u64.wrap a).tdiv 5) + 4))) (k 0)) (br (a == 25) (k (IntKind.u64.wrap (IntKind.u64.wrap ((IntKind.u64.wrap a).tdiv 5) + 4))) (k 0))))))) (br (a == 3) (br (a == 3) (k (IntKind.u64.wrap (3758096384 + IntKind.u64.wrap a))) (br (a == 5) (br (a == 5) (k (IntKind.u64.wrap (IntKind.u64.wrap ((IntKind.u64.wrap a).tdiv 5) + 4))) (k 0)) (br (a == 10) (br (a == 10) (k (IntKind.u64.wrap (IntKind.u64.wrap ((IntKind.u64.wrap a).tdiv 5) + 4))) (k 0)) (br (a == 15) (br (a == 15) (k (IntKind.u64.wrap (IntKind.u64.wrap ((IntKind.u64.wrap a).tdiv 5) + 4))) (k 0)) (br (a == 20) (br (a == 20) (k (IntKind.u64.wrap (IntKind.u64.wrap ((IntKind.u64.wrap a).tdiv 5) + 4))) (k 0)) (br (a == 25) (k (IntKind.u64.wrap (IntKind.u64.wrap ((IntKind.u64.wrap a).tdiv 5) + 4))) (k 0))))))) (br (a == 4) (k (IntKind.u64.wrap (3758096384 + IntKind.u64.wrap a))) (br (a == 5) (br (a == 5) (k (IntKind.u64.wrap (IntKind.u64.wrap ((IntKind.u64.wrap a).tdiv 5) + 4))) (k 0)) (br (a == 10) (br (a == 10) (k (IntKind.u64.wrap (IntKind.u64.wrap ((IntKind.u64.wrap a).tdiv 5) + 4))) (k 0)) (br (a == 15) (br (a == 15) (k (IntKind.u64.wrap (IntKind.u64.wrap ((IntKind.u64.wrap a).tdiv 5) + 4))) (k 0)) (br (a == 20) (br (a == 20) (k (IntKind.u64.wrap (IntKind.u64.wrap ((IntKind.u64.wrap a).tdiv 5) + 4))) (k 0)) (br (a == 25) (k (IntKind.u64.wrap (IntKind.u64.wrap ((IntKind.u64.wrap a).tdiv 5) + 4))) (k 0)))))))))
def nu {ρ : Type} := shut (agv (ρ := ρ))
theorem alx {ρ : Type} (a : Int) (k : Int → Option ρ) : nu a k = agv a k := by unfold nu; rw [ay]

def ab7 {ρ : Type} (a : Int) (k : Int → Option ρ) : Option ρ := br (a == 1) (k 1) (br (a == 2) (k 2) (br (a == 4) (k 3) (br (a == 8) (k 4) (k 0))))
def o8 {ρ : Type} := shut (ab7 (ρ := ρ))
theorem afo {ρ : Type} (a : Int) (k : Int → Option ρ) : o8 a k = ab7 a k := by unfold o8; rw [ay]

def adx {ρ : Type} (a b : Int) (k : Bool → Option ρ) : Option ρ := nu a fun c => br (c != 0) (o8 b fun d => k (d != 0)) (k false)
def wm {ρ : Type} := shut (adx (ρ := ρ))
theorem ahw {ρ : Type} (a : Int) (b : Int) (k : Bool → Option ρ) : wm a b k = adx a b k := by unfold wm; rw [ay]

def ajn {ρ : Type} (a : Int) (k : Int → Int → Int → Bool → Option ρ) : Option ρ := br (a == 1) (k 265 7 1 true) (br (a == 2) (k 133 6 2 true) (br (a == 4) (k 67 4 3 true) (br (a == 8) (k 34 0 4 true) (k 0 0 0 false))))
def mg {ρ : Type} := shut (ajn (ρ := ρ))
theorem aal {ρ : Type} (a : Int) (k : Int → Int → Int → Bool → Option ρ) : mg a k = ajn a k := by unfold mg; rw [ay]

def ag6 {ρ : Type} (a : Int) (k : Int → Option ρ) : Option ρ := mg a fun b d e c => br (!c) (k 0) (k (IntKind.i64.wrap (36 + IntKind.i64.wrap (32 * b))))
def jv {ρ : Type} := shut (ag6 (ρ := ρ))
theorem an8 {ρ : Type} (a : Int) (k : Int → Option ρ) : jv a k = ag6 a k := by unfold jv; rw [ay]

def ag2 {ρ : Type} (a b : Int) (k : Int → Option ρ) : Option ρ := wm a b fun c => br (!c) (k 0) (jv b fun d => k (IntKind.i64.wrap (IntKind.i64.wrap (IntKind.i64.wrap (4 + d) + 4) + IntKind.i64.wrap (32 * a))))
def ze {ρ : Type} := shut (ag2 (ρ := ρ))
theorem amh {ρ : Type} (a : Int) (b : Int) (k : Int → Option ρ) : ze a b k = ag2 a b k := by unfold ze; rw [ay]

def ab4 {ρ : Type} (a : Int) (k : (List Int) → Option ρ) : Option ρ := br (decide (a < 0)) none (br (decide (IntKind.i64.wrap (a - IntKind.i64.wrap (0 - (↑0 : Int))) > 0)) (br (decide (0 ≤ IntKind.i64.wrap (a - IntKind.i64.wrap (0 - (↑0 : Int))))) (br (decide ((IntKind.i64.wrap (a - IntKind.i64.wrap (0 - (↑0 : Int)))).toNat * 1 ≤ 140737488355328)) (k (List.take ((↑0 : Int) - (0 : Int)).toNat (List.replicate (IntKind.i64.wrap (a - IntKind.i64.wrap (0 - (↑0 : Int)))).toNat (0 : Int)))) none) none) (k []))
def mq {ρ : Type} := shut (ab4 (ρ := ρ))
theorem afn {ρ : Type} (a : Int) (k : (List Int) → Option ρ) : mq a k = ab4 a k := by unfold mq; rw [ay]

abbrev zc3 (ρ : Type) := (List (List Int)) → Int → (List (List Int)) → Int → Int → Option ρ
def aaz {ρ : Type} (e : List (List Int)) (d : Int) (b : List (List Int)) (c a : Int) (nx f : zc3 ρ) : Option ρ := br (decide (a < c)) (br (decide (0 ≤ a)) (br (decide (a < (↑b.length : Int))) (br (decide (IntKind.i64.wrap (d + (↑(b.getD a.toNat []).length : Int)) < 0)) none (nx e (IntKind.i64.wrap (d + (↑(b.getD a.toNat []).length : Int))) b c (IntKind.i64.wrap (a + 1)))) none) none) (f e d b c a)
abbrev zt3 := (List (List Int)) × Int × (List (List Int)) × Int × Int
abbrev zy3 := zt3
def zu3 {ρ : Type} (f : zt3 → Option ρ) : zc3 ρ := fun c d e a b => f (c, d, e, a, b)
def zs3 {ρ : Type} : afi zt3 zy3 ρ := fun (c, d, e, a, b) next ex => aaz c d e a b (zu3 next) (zu3 ex)
def zm3 {ρ : Type} := shut (lp (zs3 (ρ := ρ)))
theorem ze3 {ρ : Type} : zm3 (ρ := ρ) = lp zs3 := ay _
def zk3 {ρ : Type} (f : afj zt3 zy3 ρ) (c : List (List Int)) (d : Int) (e : List (List Int)) (a b : Int) (g : zc3 ρ) : Option ρ := f (c, d, e, a, b) (fun (c, d, e, a, b) => g c d e a b)
def aen {ρ : Type} := zk3 (lp (zs3 (ρ := ρ)))
def aec {ρ : Type} := zk3 (zm3 (ρ := ρ))
theorem ahu {ρ : Type} : aec (ρ := ρ) = aen := congrArg zk3 ze3
abbrev zc4 (ρ : Type) := (List (List Int)) → Int → Int → (List Int) → Option ρ
def aas {ρ : Type} (b : List (List Int)) (c a : Int) (d : List Int) (nx e : zc4 ρ) : Option ρ := br (decide (a < c)) (br (decide (0 ≤ a)) (br (decide (a < (↑b.length : Int))) (br (decide ((d.length + (b.getD a.toNat []).length) * 1 ≤ 140737488355328)) (nx b c (IntKind.i64.wrap (a + 1)) (d ++ b.getD a.toNat [])) none) none) none) (e b c a d)
abbrev zt4 := (List (List Int)) × Int × Int × (List Int)
abbrev zy4 := zt4
def zu4 {ρ : Type} (f : zt4 → Option ρ) : zc4 ρ := fun a b c d => f (a, b, c, d)
def zs4 {ρ : Type} : afi zt4 zy4 ρ := fun (a, b, c, d) next ex => aas a b c d (zu4 next) (zu4 ex)
def zm4 {ρ : Type} := shut (lp (zs4 (ρ := ρ)))
theorem ze4 {ρ : Type} : zm4 (ρ := ρ) = lp zs4 := ay _
def zk4 {ρ : Type} (f : afj zt4 zy4 ρ) (a : List (List Int)) (b c : Int) (d : List Int) (e : zc4 ρ) : Option ρ := f (a, b, c, d) (fun (a, b, c, d) => e a b c d)
def ado {ρ : Type} := zk4 (lp (zs4 (ρ := ρ)))
def adk {ρ : Type} := zk4 (zm4 (ρ := ρ))
theorem ahj {ρ : Type} : adk (ρ := ρ) = ado := congrArg zk4 ze4
def aar {ρ : Type} (a : List (List Int)) (k : (List Int) → Option ρ) : Option ρ := aec a 0 a (↑a.length : Int) 0 fun b c f g h => mq c fun d => adk b (↑b.length : Int) 0 d fun i j l e => k e
def ig {ρ : Type} := shut (aar (ρ := ρ))
theorem aea {ρ : Type} (a : List (List Int)) (k : (List Int) → Option ρ) : ig a k = aar a k := by unfold ig; rw [ay]

def ait {ρ : Type} (a : List (List Int)) (k : (List Int) → Option ρ) : Option ρ := ig a fun b => k b
def fu {ρ : Type} := shut (ait (ρ := ρ))
theorem ap0 {ρ : Type} (a : List (List Int)) (k : (List Int) → Option ρ) : fu a k = ait a k := by unfold fu; rw [ay]

abbrev zc5 (ρ : Type) := Int → Int → Int → (List Int) → Option ρ
def ao4 {ρ : Type} (c b a : Int) (d : List Int) (nx e : zc5 ρ) : Option ρ := br (decide (a < b)) (br (decide (IntKind.i64.wrap (8 * a) < 0)) none (br (decide (0 ≤ a)) (br (decide (a < (↑d.length : Int))) (nx c b (IntKind.i64.wrap (a + 1)) (d.set a.toNat (IntKind.u8.wrap (c.fdiv (2 ^ min (IntKind.i64.wrap (8 * a)).toNat 64))))) none) none)) (e c b a d)
abbrev zt5 := Int × Int × Int × (List Int)
abbrev zy5 := zt5
def zu5 {ρ : Type} (f : zt5 → Option ρ) : zc5 ρ := fun c a b d => f (c, a, b, d)
def zs5 {ρ : Type} : afi zt5 zy5 ρ := fun (c, a, b, d) next ex => ao4 c a b d (zu5 next) (zu5 ex)
def zm5 {ρ : Type} := shut (lp (zs5 (ρ := ρ)))
theorem ze5 {ρ : Type} : zm5 (ρ := ρ) = lp zs5 := ay _
def zk5 {ρ : Type} (f : afj zt5 zy5 ρ) (c a b : Int) (d : List Int) (e : zc5 ρ) : Option ρ := f (c, a, b, d) (fun (c, a, b, d) => e c a b d)
def awy {ρ : Type} := zk5 (lp (zs5 (ρ := ρ)))
def avf {ρ : Type} := zk5 (zm5 (ρ := ρ))
theorem axb {ρ : Type} : avf (ρ := ρ) = awy := congrArg zk5 ze5
def amb {ρ : Type} (b a : Int) (k : (List Int) → Option ρ) : Option ρ := br (decide (a < 0)) (k []) (br (decide (a > 65536)) (k []) (br (decide (0 ≤ a)) (br (decide (a ≤ a)) (br (decide (a * (↑1 : Int) ≤ (↑140737488355328 : Int))) (avf b (bif decide (8 < a) then 8 else a) 0 (List.replicate a.toNat (0 : Int)) fun d e f c => k c) none) none) none))
def ad3 {ρ : Type} := shut (amb (ρ := ρ))
theorem awn {ρ : Type} (a : Int) (b : Int) (k : (List Int) → Option ρ) : ad3 a b k = amb a b k := by unfold ad3; rw [ay]

abbrev zc6 (ρ : Type) := Int → Int → (List Int) → Option ρ
def aj0 {ρ : Type} (a b : Int) (c : List Int) (nx d : zc6 ρ) : Option ρ := br (decide (a < b)) (br (decide (0 ≤ b)) (br (decide (b < (↑c.length : Int))) (br (decide (0 ≤ a)) (br (decide (a < (↑c.length : Int))) (br (decide (0 ≤ a)) (br (decide (a < (↑c.length : Int))) (br (decide (0 ≤ b)) (br (decide (b < (↑(c.set a.toNat (c.getD b.toNat 0)).length : Int))) (nx (IntKind.i64.wrap (a + 1)) (IntKind.i64.wrap (b - 1)) ((c.set a.toNat (c.getD b.toNat 0)).set b.toNat (c.getD a.toNat 0))) none) none) none) none) none) none) none) none) (d a b c)
abbrev zt6 := Int × Int × (List Int)
abbrev zy6 := zt6
def zu6 {ρ : Type} (f : zt6 → Option ρ) : zc6 ρ := fun a b c => f (a, b, c)
def zs6 {ρ : Type} : afi zt6 zy6 ρ := fun (a, b, c) next ex => aj0 a b c (zu6 next) (zu6 ex)
def zm6 {ρ : Type} := shut (lp (zs6 (ρ := ρ)))
theorem ze6 {ρ : Type} : zm6 (ρ := ρ) = lp zs6 := ay _
def zk6 {ρ : Type} (f : afj zt6 zy6 ρ) (a b : Int) (c : List Int) (d : zc6 ρ) : Option ρ := f (a, b, c) (fun (a, b, c) => d a b c)
def ap3 {ρ : Type} := zk6 (lp (zs6 (ρ := ρ)))
def aqc {ρ : Type} := zk6 (zm6 (ρ := ρ))
theorem aub {ρ : Type} : aqc (ρ := ρ) = ap3 := congrArg zk6 ze6
def alh {ρ : Type} (b c : Int) (k : (List Int) → Option ρ) : Option ρ := ad3 b c fun a => aqc 0 (IntKind.i64.wrap ((↑a.length : Int) - 1)) a fun e f d => k d
def jl {ρ : Type} := shut (alh (ρ := ρ))
theorem avx {ρ : Type} (a : Int) (b : Int) (k : (List Int) → Option ρ) : jl a b k = alh a b k := by unfold jl; rw [ay]

def ajz {ρ : Type} (a b : Int) (k : (List Int) → Option ρ) : Option ρ := nu a fun c => jl c 4 fun d => o8 b fun e => jl e 4 fun f => fu [d, f] fun g => k g
def ab8 {ρ : Type} := shut (ajz (ρ := ρ))
theorem asg {ρ : Type} (a : Int) (b : Int) (k : (List Int) → Option ρ) : ab8 a b k = ajz a b k := by unfold ab8; rw [ay]

abbrev zc7 (ρ : Type) := Int → (List Int) → Int → Int → Option ρ
def al8 {ρ : Type} (d : Int) (b : List Int) (c a : Int) (nx e : zc7 ρ) : Option ρ := br (decide (a < c)) (br (decide (0 ≤ a)) (br (decide (a < (↑b.length : Int))) (nx (bits BinOp.or IntKind.u64 (IntKind.u64.wrap (d * 2 ^ 8)) (IntKind.u64.wrap (b.getD a.toNat 0))) b c (IntKind.i64.wrap (a + 1))) none) none) (e d b c a)
abbrev zt7 := Int × (List Int) × Int × Int
abbrev zy7 := zt7
def zu7 {ρ : Type} (f : zt7 → Option ρ) : zc7 ρ := fun a b c d => f (a, b, c, d)
def zs7 {ρ : Type} : afi zt7 zy7 ρ := fun (a, b, c, d) next ex => al8 a b c d (zu7 next) (zu7 ex)
def zm7 {ρ : Type} := shut (lp (zs7 (ρ := ρ)))
theorem ze7 {ρ : Type} : zm7 (ρ := ρ) = lp zs7 := ay _
def zk7 {ρ : Type} (f : afj zt7 zy7 ρ) (a : Int) (b : List Int) (c d : Int) (e : zc7 ρ) : Option ρ := f (a, b, c, d) (fun (a, b, c, d) => e a b c d)
def aty {ρ : Type} := zk7 (lp (zs7 (ρ := ρ)))
def as7 {ρ : Type} := zk7 (zm7 (ρ := ρ))
theorem auy {ρ : Type} : as7 (ρ := ρ) = aty := congrArg zk7 ze7
def ajo {ρ : Type} (a : List Int) (k : Int → Option ρ) : Option ρ := as7 0 a (↑a.length : Int) 0 fun b c d e => k b
def jy {ρ : Type} := shut (ajo (ρ := ρ))
theorem as0 {ρ : Type} (a : List Int) (k : Int → Option ρ) : jy a k = ajo a k := by unfold jy; rw [ay]

def ahh {ρ : Type} (a : Int) (k : Int → Option ρ) : Option ρ := br (decide (a > 3758096384)) (br (decide (a ≤ 3758096388)) (k (IntKind.i64.wrap (IntKind.u64.wrap (a - 3758096384)))) (br (decide (a ≥ 5)) (br (decide (a ≤ 9)) (k (IntKind.i64.wrap (5 * IntKind.i64.wrap (IntKind.u64.wrap (a - 4))))) (k 0)) (k 0))) (br (decide (a ≥ 5)) (br (decide (a ≤ 9)) (k (IntKind.i64.wrap (5 * IntKind.i64.wrap (IntKind.u64.wrap (a - 4))))) (k 0)) (k 0))
def tq {ρ : Type} := shut (ahh (ρ := ρ))
theorem ank {ρ : Type} (a : Int) (k : Int → Option ρ) : tq a k = ahh a k := by unfold tq; rw [ay]

def aiy {ρ : Type} (a : Int) (k : Int → Option ρ) : Option ρ := br (decide (a < 1)) (k 0) (br (decide (a > 4)) (k 0) (br (decide (IntKind.u64.wrap (a - 1) < 0)) none (k (IntKind.i64.wrap (1 * 2 ^ min (IntKind.u64.wrap (a - 1)).toNat 64)))))
def yh {ρ : Type} := shut (aiy (ρ := ρ))
theorem apy {ρ : Type} (a : Int) (k : Int → Option ρ) : yh a k = aiy a k := by unfold yh; rw [ay]

def ama {ρ : Type} (a : List Int) (k : (List Int) → Int → Int → (List Int) → Int → Option ρ) : Option ρ := br (decide ((↑a.length : Int) < 8)) (k [] 0 0 [] 1) (br (decide (8 ≤ (↑a.length : Int))) (jy (List.drop 4 (List.take (Int.toNat 8) a)) fun f => yh f fun d => br (d == 0) (k [] 0 0 [] 9) (jv d fun b => br (decide ((↑a.length : Int) < IntKind.i64.wrap (IntKind.i64.wrap (4 + b) + 4))) (k [] 0 0 [] 1) (br (decide (0 ≤ IntKind.i64.wrap (4 + b))) (br (decide (IntKind.i64.wrap (4 + b) ≤ IntKind.i64.wrap (IntKind.i64.wrap (4 + b) + 4))) (br (decide (IntKind.i64.wrap (IntKind.i64.wrap (4 + b) + 4) ≤ (↑a.length : Int))) (jy (List.drop (IntKind.i64.wrap (4 + b)).toNat (List.take (IntKind.i64.wrap (IntKind.i64.wrap (4 + b) + 4)).toNat a)) fun g => tq g fun e => br (e == 0) (k [] 0 0 [] 9) (ze e d fun c => br (decide ((↑a.length : Int) < c)) (k [] 0 0 [] 1) (br (decide (0 ≤ c)) (br (decide (c ≤ (↑a.length : Int))) (fu [List.drop 0 (List.take c.toNat a)] fun h => br (decide (0 ≤ c)) (br (decide (c ≤ (↑a.length : Int))) (br (decide ((↑a.length : Int) ≤ (↑a.length : Int))) (fu [List.drop c.toNat (List.take (↑a.length : Int).toNat a)] fun i => k h e d i 0) none) none) none) none) none))) none) none) none))) none)
def ahb {ρ : Type} := shut (ama (ρ := ρ))
theorem awx {ρ : Type} (a : List Int) (k : (List Int) → Int → Int → (List Int) → Int → Option ρ) : ahb a k = ama a k := by unfold ahb; rw [ay]

abbrev zc8 (ρ : Type) := (List Int) → (List Int) → Int → Int → Int → Option ρ
def akk {ρ : Type} (c d : List Int) (e b a : Int) (nx f : zc8 ρ) : Option ρ := br (decide (a < b)) (br (decide (0 ≤ a)) (br (decide (a < (↑c.length : Int))) (br (decide (0 ≤ a)) (br (decide (a < (↑d.length : Int))) (nx c d (bits BinOp.or IntKind.u8 e (bits BinOp.xor IntKind.u8 (c.getD a.toNat 0) (d.getD a.toNat 0))) b (IntKind.i64.wrap (a + 1))) none) none) none) none) (f c d e b a)
abbrev zt8 := (List Int) × (List Int) × Int × Int × Int
abbrev zy8 := zt8
def zu8 {ρ : Type} (f : zt8 → Option ρ) : zc8 ρ := fun c d e a b => f (c, d, e, a, b)
def zs8 {ρ : Type} : afi zt8 zy8 ρ := fun (c, d, e, a, b) next ex => akk c d e a b (zu8 next) (zu8 ex)
def zm8 {ρ : Type} := shut (lp (zs8 (ρ := ρ)))
theorem ze8 {ρ : Type} : zm8 (ρ := ρ) = lp zs8 := ay _
def zk8 {ρ : Type} (f : afj zt8 zy8 ρ) (c d : List Int) (e a b : Int) (g : zc8 ρ) : Option ρ := f (c, d, e, a, b) (fun (c, d, e, a, b) => g c d e a b)
def ap6 {ρ : Type} := zk8 (lp (zs8 (ρ := ρ)))
def aqd {ρ : Type} := zk8 (zm8 (ρ := ρ))
theorem atg {ρ : Type} : aqd (ρ := ρ) = ap6 := congrArg zk8 ze8
def air {ρ : Type} (a b : List Int) (k : Bool → Option ρ) : Option ρ := br ((↑a.length : Int) != (↑b.length : Int)) (k false) (aqd a b 0 (↑a.length : Int) 0 fun d e c f g => k (c == 0))
def aa7 {ρ : Type} := shut (air (ρ := ρ))
theorem aqf {ρ : Type} (a : List Int) (b : List Int) (k : Bool → Option ρ) : aa7 a b k = air a b k := by unfold aa7; rw [ay]

def aof {ρ : Type} (a : Int) (k : (List Int) → Bool → Option ρ) : Option ρ := br (a == 1) (k [1779033703, 3144134277, 1013904242, 2773480762, 1359893119, 2600822924, 528734635, 1541459225] true) (br (a == 2) (k [14680500436340154072, 7105036623409894663, 10473403895298186519, 1526699215303891257, 7436329637833083697, 10282925794625328401, 15784041429090275239, 5167115440072839076] true) (br (a == 3) (k [7640891576956012808, 13503953896175478587, 4354685564936845355, 11912009170470909681, 5840696475078001361, 11170449401992604703, 2270897969802886507, 6620516959819538809] true) (k [0, 0, 0, 0, 0, 0, 0, 0] false)))
def ac3 {ρ : Type} := shut (aof (ρ := ρ))
theorem ap2 {ρ : Type} (a : Int) (k : (List Int) → Bool → Option ρ) : ac3 a k = aof a k := by unfold ac3; rw [ay]

def amc {ρ : Type} (a : Int) (k : Int → (List Int) → (List Int) → Int → Int → Option ρ) : Option ρ := ac3 a fun b c => br (!c) (k 0 [0, 0, 0, 0, 0, 0, 0, 0] [] 0 9) (k a b [] 0 0)
def acd {ρ : Type} := shut (amc (ρ := ρ))
theorem awz {ρ : Type} (a : Int) (k : Int → (List Int) → (List Int) → Int → Int → Option ρ) : acd a k = amc a k := by unfold acd; rw [ay]

end P
end
