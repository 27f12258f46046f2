/-
  LmsRight, part 9: an interpreter of my own over abstract values, the pure functions, the walks and the plain law.
-/

import Derived.Test.YtmipokjdajiimaaDoorLmsRightH

noncomputable section
open Go Go.Abs
set_option linter.unusedVariables false
namespace P

abbrev zc1 (ρ : Type) := (List (List Int)) → Int → Int → Option ρ
def ahr {ρ : Type} (b : List (List Int)) (c a : Int) (nx d : zc1 ρ) (e : Bool → Option ρ) : Option ρ := br (decide (a < c)) (br (decide (0 ≤ a)) (br (decide (a < (↑b.length : Int))) (br (decide ((↑(b.getD a.toNat []).length : Int) > 300)) (e false) (nx b c (IntKind.i64.wrap (a + 1)))) none) none) (d b c a)
abbrev zt1 := (List (List Int)) × Int × Int
abbrev zy1 := ((List (List Int)) × Int × Int) ⊕ (Bool)
def zu1 {ρ : Type} (f : zt1 → Option ρ) : zc1 ρ := fun a b c => f (a, b, c)
def zs1 {ρ : Type} : ai8 zt1 zy1 ρ := fun (a, b, c) next ex => ahr a b c (zu1 next) (fun a b c => ex (.inl (a, b, c))) (fun d => ex (.inr d))
def zm1 {ρ : Type} := shut (lp (zs1 (ρ := ρ)))
theorem ze1 {ρ : Type} : zm1 (ρ := ρ) = lp zs1 := bq _
def zk1 {ρ : Type} (f : ai9 zt1 zy1 ρ) (a : List (List Int)) (b c : Int) (d : zc1 ρ) (e : Bool → Option ρ) : Option ρ := f (a, b, c) (Sum.elim (fun (a, b, c) => d a b c) (fun x => e x))
def aqo {ρ : Type} := zk1 (lp (zs1 (ρ := ρ)))
def apw {ρ : Type} := zk1 (zm1 (ρ := ρ))
theorem aru {ρ : Type} : apw (ρ := ρ) = aqo := congrArg zk1 ze1
def aic {ρ : Type} (a : List (List Int)) (k : Bool → Option ρ) : Option ρ := apw a (↑a.length : Int) 0 (fun c d e => k true) fun b => k b
def adq {ρ : Type} := shut (aic (ρ := ρ))
theorem apv {ρ : Type} (a : List (List Int)) (k : Bool → Option ρ) : adq a k = aic a k := by unfold adq; rw [bq]

def aez {ρ : Type} (a : Int) (k : Int → Option ρ) : Option ρ := br (a == 1) (br (a == 1) (k (IntKind.u64.wrap (3758096384 + IntKind.u64.wrap a))) (br (a == 5) (br (a == 5) (k (IntKind.u64.wrap (IntKind.u64.wrap ((IntKind.u64.wrap a).tdiv 5) + 4))) (k 0)) (br (a == 10) (br (a == 10) (k (IntKind.u64.wrap (IntKind.u64.wrap ((IntKind.u64.wrap a).tdiv 5) + 4))) (k 0)) (br (a == 15) (br (a == 15) (k (IntKind.u64.wrap (IntKind.u64.wrap ((IntKind.u64.wrap a).tdiv 5) + 4))) (k 0)) (br (a == 20) (br (a == 20) (k (IntKind.u64.wrap (IntKind.u64.wrap ((IntKind.u64.wrap a).tdiv 5) + 4))) (k 0)) (br (a == 25) (k (IntKind.u64.wrap (IntKind.u64.wrap ((IntKind.u64.wrap a).tdiv 5) + 4))) (k 0))))))) (br (a == 2) (br (a == 2) (k (IntKind.u64.wrap (3758096384 + IntKind.u64.wrap a))) (br (a == 5) (br (a == 5) (k (IntKind.u64.wrap (IntKind.u64.wrap ((IntKind.u64.wrap a).tdiv 5) + 4))) (k 0)) (br (a == 10) (br (a == 10) (k (IntKind.u64.wrap (IntKind.u64.wrap ((IntKind.u64.wrap a).tdiv 5) + 4))) (k 0)) (br (a == 15) (br (a == 15) (k (IntKind.u64.wrap (IntKind.u64.wrap ((IntKind.u64.wrap a).tdiv 5) + 4))) (k 0)) (br (a == 20) (br (a == 20) (k (IntKind.u64.wrap (IntKind.u64.wrap ((IntKind.u64.wrap a).tdiv 5) + 4))) (k 0)) (br (a == 25) (k (IntKind.u64.wrap (IntKind.u64.wrap ((IntKind.u64.wrap a).tdiv 5) + 4))) (k 0))))))) (br (a == 3) (br (a == 3) (k (IntKind.u64.wrap (3758096384 + IntKind.u64.wrap a))) (br (a == 5) (br (a == 5) (k (IntKind.u64.wrap (IntKind.u64.wrap ((IntKind.u64.wrap a).tdiv 5) + 4))) (k 0)) (br (a == 10) (br (a == 10) (k (IntKind.u64.wrap (IntKind.u64.wrap ((IntKind.u64.wrap a).tdiv 5) + 4))) (k 0)) (br (a == 15) (br (a == 15) (k (IntKind.u64.wrap (IntKind.u64.wrap ((IntKind.u64.wrap a).tdiv 5) + 4))) (k 0)) (br (a == 20) (br (a == 20) (k (IntKind.u64.wrap (IntKind.u64.wrap ((IntKind.u64.wrap a).tdiv 5) + 4))) (k 0)) (br (a == 25) (k (IntKind.u64.wrap (IntKind.u64.wrap ((IntKind.u64.wrap a).tdiv 5) + 4))) (k 0))))))) (br (a == 4) (k (IntKind.u64.wrap (3758096384 + IntKind.u64.wrap a))) (br (a == 5) (br (a == 5) (k (IntKind.u64.wrap (IntKind.u64.wrap ((IntKind.u64.wrap a).tdiv 5) + 4))) (k 0)) (br (a == 10) (br (a == 10) (k (IntKind.u64.wrap (IntKind.u64.wrap ((IntKind.u64.wrap a).tdiv 5) + 4))) (k 0)) (br (a == 15) (br (a == 15) (k (IntKind.u64.wrap (IntKind.u64.wrap ((IntKind.u64.wrap a).tdiv 5) + 4))) (k 0)) (br (a == 20) (br (a == 20) (k (IntKind.u64.wrap (IntKind.u64.wrap ((IntKind.u64.wrap a).tdiv 5) + 4))) (k 0)) (br (a == 25) (k (IntKind.u64.wrap (IntKind.u64.wrap ((IntKind.u64.wrap a).tdiv 5) + 4))) (k 0)))))))))
def mg {ρ : Type} := shut (aez (ρ := ρ))
theorem aij {ρ : Type} (a : Int) (k : Int → Option ρ) : mg a k = aez a k := by unfold mg; rw [bq]

def abf {ρ : Type} (a : Int) (k : Int → Option ρ) : Option ρ := br (a == 1) (k 1) (br (a == 2) (k 2) (br (a == 4) (k 3) (br (a == 8) (k 4) (k 0))))
def om {ρ : Type} := shut (abf (ρ := ρ))
theorem aei {ρ : Type} (a : Int) (k : Int → Option ρ) : om a k = abf a k := by unfold om; rw [bq]

def ach {ρ : Type} (a b : Int) (k : Bool → Option ρ) : Option ρ := mg a fun c => br (c != 0) (om b fun d => k (d != 0)) (k false)
def w9 {ρ : Type} := shut (ach (ρ := ρ))
theorem afu {ρ : Type} (a : Int) (b : Int) (k : Bool → Option ρ) : w9 a b k = ach a b k := by unfold w9; rw [bq]

def agx {ρ : Type} (a : Int) (k : Int → Int → Int → Bool → Option ρ) : Option ρ := br (a == 1) (k 265 7 1 true) (br (a == 2) (k 133 6 2 true) (br (a == 4) (k 67 4 3 true) (br (a == 8) (k 34 0 4 true) (k 0 0 0 false))))
def lu {ρ : Type} := shut (agx (ρ := ρ))
theorem zi {ρ : Type} (a : Int) (k : Int → Int → Int → Bool → Option ρ) : lu a k = agx a k := by unfold lu; rw [bq]

def afm {ρ : Type} (a : Int) (k : Int → Option ρ) : Option ρ := lu a fun b d e c => br (!c) (k 0) (k (IntKind.i64.wrap (36 + IntKind.i64.wrap (32 * b))))
def jf {ρ : Type} := shut (afm (ρ := ρ))
theorem aj2 {ρ : Type} (a : Int) (k : Int → Option ρ) : jf a k = afm a k := by unfold jf; rw [bq]

def agy {ρ : Type} (a b : Int) (k : Int → Option ρ) : Option ρ := w9 a b fun c => br (!c) (k 0) (jf b fun d => k (IntKind.i64.wrap (IntKind.i64.wrap (IntKind.i64.wrap (4 + d) + 4) + IntKind.i64.wrap (32 * a))))
def y5 {ρ : Type} := shut (agy (ρ := ρ))
theorem amz {ρ : Type} (a : Int) (b : Int) (k : Int → Option ρ) : y5 a b k = agy a b k := by unfold y5; rw [bq]

def aa7 {ρ : Type} (a : Int) (k : (List Int) → Option ρ) : Option ρ := br (decide (a < 0)) none (br (decide (IntKind.i64.wrap (a - IntKind.i64.wrap (0 - (↑0 : Int))) > 0)) (br (decide (0 ≤ IntKind.i64.wrap (a - IntKind.i64.wrap (0 - (↑0 : Int))))) (br (decide ((IntKind.i64.wrap (a - IntKind.i64.wrap (0 - (↑0 : Int)))).toNat * 1 ≤ 140737488355328)) (k (List.take ((↑0 : Int) - (0 : Int)).toNat (List.replicate (IntKind.i64.wrap (a - IntKind.i64.wrap (0 - (↑0 : Int)))).toNat (0 : Int)))) none) none) (k []))
def l8 {ρ : Type} := shut (aa7 (ρ := ρ))
theorem aeh {ρ : Type} (a : Int) (k : (List Int) → Option ρ) : l8 a k = aa7 a k := by unfold l8; rw [bq]

abbrev zc2 (ρ : Type) := (List (List Int)) → Int → (List (List Int)) → Int → Int → Option ρ
def z8 {ρ : Type} (e : List (List Int)) (d : Int) (b : List (List Int)) (c a : Int) (nx f : zc2 ρ) : Option ρ := br (decide (a < c)) (br (decide (0 ≤ a)) (br (decide (a < (↑b.length : Int))) (br (decide (IntKind.i64.wrap (d + (↑(b.getD a.toNat []).length : Int)) < 0)) none (nx e (IntKind.i64.wrap (d + (↑(b.getD a.toNat []).length : Int))) b c (IntKind.i64.wrap (a + 1)))) none) none) (f e d b c a)
abbrev zt2 := (List (List Int)) × Int × (List (List Int)) × Int × Int
abbrev zy2 := zt2
def zu2 {ρ : Type} (f : zt2 → Option ρ) : zc2 ρ := fun c d e a b => f (c, d, e, a, b)
def zs2 {ρ : Type} : ai8 zt2 zy2 ρ := fun (c, d, e, a, b) next ex => z8 c d e a b (zu2 next) (zu2 ex)
def zm2 {ρ : Type} := shut (lp (zs2 (ρ := ρ)))
theorem ze2 {ρ : Type} : zm2 (ρ := ρ) = lp zs2 := bq _
def zk2 {ρ : Type} (f : ai9 zt2 zy2 ρ) (c : List (List Int)) (d : Int) (e : List (List Int)) (a b : Int) (g : zc2 ρ) : Option ρ := f (c, d, e, a, b) (fun (c, d, e, a, b) => g c d e a b)
def adb {ρ : Type} := zk2 (lp (zs2 (ρ := ρ)))
def ac7 {ρ : Type} := zk2 (zm2 (ρ := ρ))
theorem afp {ρ : Type} : ac7 (ρ := ρ) = adb := congrArg zk2 ze2
abbrev zc3 (ρ : Type) := (List (List Int)) → Int → Int → (List Int) → Option ρ
def zl {ρ : Type} (b : List (List Int)) (c a : Int) (d : List Int) (nx e : zc3 ρ) : Option ρ := br (decide (a < c)) (br (decide (0 ≤ a)) (br (decide (a < (↑b.length : Int))) (br (decide ((d.length + (b.getD a.toNat []).length) * 1 ≤ 140737488355328)) (nx b c (IntKind.i64.wrap (a + 1)) (d ++ b.getD a.toNat [])) none) none) none) (e b c a d)
abbrev zt3 := (List (List Int)) × Int × Int × (List Int)
abbrev zy3 := zt3
def zu3 {ρ : Type} (f : zt3 → Option ρ) : zc3 ρ := fun a b c d => f (a, b, c, d)
def zs3 {ρ : Type} : ai8 zt3 zy3 ρ := fun (a, b, c, d) next ex => zl a b c d (zu3 next) (zu3 ex)
def zm3 {ρ : Type} := shut (lp (zs3 (ρ := ρ)))
theorem ze3 {ρ : Type} : zm3 (ρ := ρ) = lp zs3 := bq _
def zk3 {ρ : Type} (f : ai9 zt3 zy3 ρ) (a : List (List Int)) (b c : Int) (d : List Int) (e : zc3 ρ) : Option ρ := f (a, b, c, d) (fun (a, b, c, d) => e a b c d)
def ab8 {ρ : Type} := zk3 (lp (zs3 (ρ := ρ)))
def ab7 {ρ : Type} := zk3 (zm3 (ρ := ρ))
theorem afe {ρ : Type} : ab7 (ρ := ρ) = ab8 := congrArg zk3 ze3
def zo {ρ : Type} (a : List (List Int)) (k : (List Int) → Option ρ) : Option ρ := ac7 a 0 a (↑a.length : Int) 0 fun b c f g h => l8 c fun d => ab7 b (↑b.length : Int) 0 d fun i j l e => k e
def gu {ρ : Type} := shut (zo (ρ := ρ))
theorem ac2 {ρ : Type} (a : List (List Int)) (k : (List Int) → Option ρ) : gu a k = zo a k := by unfold gu; rw [bq]

def af4 {ρ : Type} (a : List (List Int)) (k : (List Int) → Option ρ) : Option ρ := gu a fun b => k b
def d9 {ρ : Type} := shut (af4 (ρ := ρ))
theorem alu {ρ : Type} (a : List (List Int)) (k : (List Int) → Option ρ) : d9 a k = af4 a k := by unfold d9; rw [bq]

abbrev zc4 (ρ : Type) := Int → Int → Int → (List Int) → Option ρ
def aks {ρ : Type} (c b a : Int) (d : List Int) (nx e : zc4 ρ) : Option ρ := br (decide (a < b)) (br (decide (IntKind.i64.wrap (8 * a) < 0)) none (br (decide (0 ≤ a)) (br (decide (a < (↑d.length : Int))) (nx c b (IntKind.i64.wrap (a + 1)) (d.set a.toNat (IntKind.u8.wrap (c.fdiv (2 ^ min (IntKind.i64.wrap (8 * a)).toNat 64))))) none) none)) (e c b a d)
abbrev zt4 := Int × Int × Int × (List Int)
abbrev zy4 := zt4
def zu4 {ρ : Type} (f : zt4 → Option ρ) : zc4 ρ := fun c a b d => f (c, a, b, d)
def zs4 {ρ : Type} : ai8 zt4 zy4 ρ := fun (c, a, b, d) next ex => aks c a b d (zu4 next) (zu4 ex)
def zm4 {ρ : Type} := shut (lp (zs4 (ρ := ρ)))
theorem ze4 {ρ : Type} : zm4 (ρ := ρ) = lp zs4 := bq _
def zk4 {ρ : Type} (f : ai9 zt4 zy4 ρ) (c a b : Int) (d : List Int) (e : zc4 ρ) : Option ρ := f (c, a, b, d) (fun (c, a, b, d) => e c a b d)
def aql {ρ : Type} := zk4 (lp (zs4 (ρ := ρ)))
def aqs {ρ : Type} := zk4 (zm4 (ρ := ρ))
theorem aq3 {ρ : Type} : aqs (ρ := ρ) = aql := congrArg zk4 ze4
def air {ρ : Type} (b a : Int) (k : (List Int) → Option ρ) : Option ρ := br (decide (a < 0)) (k []) (br (decide (a > 65536)) (k []) (br (decide (0 ≤ a)) (br (decide (a ≤ a)) (br (decide (a * (↑1 : Int) ≤ (↑140737488355328 : Int))) (aqs b (bif decide (8 < a) then 8 else a) 0 (List.replicate a.toNat (0 : Int)) fun d e f c => k c) none) none) none))
def acs {ρ : Type} := shut (air (ρ := ρ))
theorem apk {ρ : Type} (a : Int) (b : Int) (k : (List Int) → Option ρ) : acs a b k = air a b k := by unfold acs; rw [bq]

abbrev zc5 (ρ : Type) := Int → Int → (List Int) → Option ρ
def ag8 {ρ : Type} (a b : Int) (c : List Int) (nx d : zc5 ρ) : Option ρ := br (decide (a < b)) (br (decide (0 ≤ b)) (br (decide (b < (↑c.length : Int))) (br (decide (0 ≤ a)) (br (decide (a < (↑c.length : Int))) (br (decide (0 ≤ a)) (br (decide (a < (↑c.length : Int))) (br (decide (0 ≤ b)) (br (decide (b < (↑(c.set a.toNat (c.getD b.toNat 0)).length : Int))) (nx (IntKind.i64.wrap (a + 1)) (IntKind.i64.wrap (b - 1)) ((c.set a.toNat (c.getD b.toNat 0)).set b.toNat (c.getD a.toNat 0))) none) none) none) none) none) none) none) none) (d a b c)
abbrev zt5 := Int × Int × (List Int)
abbrev zy5 := zt5
def zu5 {ρ : Type} (f : zt5 → Option ρ) : zc5 ρ := fun a b c => f (a, b, c)
def zs5 {ρ : Type} : ai8 zt5 zy5 ρ := fun (a, b, c) next ex => ag8 a b c (zu5 next) (zu5 ex)
def zm5 {ρ : Type} := shut (lp (zs5 (ρ := ρ)))
theorem ze5 {ρ : Type} : zm5 (ρ := ρ) = lp zs5 := bq _
def zk5 {ρ : Type} (f : ai9 zt5 zy5 ρ) (a b : Int) (c : List Int) (d : zc5 ρ) : Option ρ := f (a, b, c) (fun (a, b, c) => d a b c)
def al4 {ρ : Type} := zk5 (lp (zs5 (ρ := ρ)))
def al3 {ρ : Type} := zk5 (zm5 (ρ := ρ))
theorem aoi {ρ : Type} : al3 (ρ := ρ) = al4 := congrArg zk5 ze5
def ai2 {ρ : Type} (b c : Int) (k : (List Int) → Option ρ) : Option ρ := acs b c fun a => al3 0 (IntKind.i64.wrap ((↑a.length : Int) - 1)) a fun e f d => k d
def jg {ρ : Type} := shut (ai2 (ρ := ρ))
theorem aqg {ρ : Type} (a : Int) (b : Int) (k : (List Int) → Option ρ) : jg a b k = ai2 a b k := by unfold jg; rw [bq]

def ahh {ρ : Type} (a b : Int) (k : (List Int) → Option ρ) : Option ρ := mg a fun c => jg c 4 fun d => om b fun e => jg e 4 fun f => d9 [d, f] fun g => k g
def abe {ρ : Type} := shut (ahh (ρ := ρ))
theorem aod {ρ : Type} (a : Int) (b : Int) (k : (List Int) → Option ρ) : abe a b k = ahh a b k := by unfold abe; rw [bq]

abbrev zc6 (ρ : Type) := Int → (List Int) → Int → Int → Option ρ
def ai7 {ρ : Type} (d : Int) (b : List Int) (c a : Int) (nx e : zc6 ρ) : Option ρ := br (decide (a < c)) (br (decide (0 ≤ a)) (br (decide (a < (↑b.length : Int))) (nx (bits BinOp.or IntKind.u64 (IntKind.u64.wrap (d * 2 ^ 8)) (IntKind.u64.wrap (b.getD a.toNat 0))) b c (IntKind.i64.wrap (a + 1))) none) none) (e d b c a)
abbrev zt6 := Int × (List Int) × Int × Int
abbrev zy6 := zt6
def zu6 {ρ : Type} (f : zt6 → Option ρ) : zc6 ρ := fun a b c d => f (a, b, c, d)
def zs6 {ρ : Type} : ai8 zt6 zy6 ρ := fun (a, b, c, d) next ex => ai7 a b c d (zu6 next) (zu6 ex)
def zm6 {ρ : Type} := shut (lp (zs6 (ρ := ρ)))
theorem ze6 {ρ : Type} : zm6 (ρ := ρ) = lp zs6 := bq _
def zk6 {ρ : Type} (f : ai9 zt6 zy6 ρ) (a : Int) (b : List Int) (c d : Int) (e : zc6 ρ) : Option ρ := f (a, b, c, d) (fun (a, b, c, d) => e a b c d)
def anm {ρ : Type} := zk6 (lp (zs6 (ρ := ρ)))
def aoa {ρ : Type} := zk6 (zm6 (ρ := ρ))
theorem ao9 {ρ : Type} : aoa (ρ := ρ) = anm := congrArg zk6 ze6
def ahb {ρ : Type} (a : List Int) (k : Int → Option ρ) : Option ρ := aoa 0 a (↑a.length : Int) 0 fun b c d e => k b
def jl {ρ : Type} := shut (ahb (ρ := ρ))
theorem an0 {ρ : Type} (a : List Int) (k : Int → Option ρ) : jl a k = ahb a k := by unfold jl; rw [bq]

def afd {ρ : Type} (a : Int) (k : Int → Option ρ) : Option ρ := br (decide (a > 3758096384)) (br (decide (a ≤ 3758096388)) (k (IntKind.i64.wrap (IntKind.u64.wrap (a - 3758096384)))) (br (decide (a ≥ 5)) (br (decide (a ≤ 9)) (k (IntKind.i64.wrap (5 * IntKind.i64.wrap (IntKind.u64.wrap (a - 4))))) (k 0)) (k 0))) (br (decide (a ≥ 5)) (br (decide (a ≤ 9)) (k (IntKind.i64.wrap (5 * IntKind.i64.wrap (IntKind.u64.wrap (a - 4))))) (k 0)) (k 0))
def qj {ρ : Type} := shut (afd (ρ := ρ))
theorem ajd {ρ : Type} (a : Int) (k : Int → Option ρ) : qj a k = afd a k := by unfold qj; rw [bq]

def afz {ρ : Type} (a : Int) (k : Int → Option ρ) : Option ρ := br (decide (a < 1)) (k 0) (br (decide (a > 4)) (k 0) (br (decide (IntKind.u64.wrap (a - 1) < 0)) none (k (IntKind.i64.wrap (1 * 2 ^ min (IntKind.u64.wrap (a - 1)).toNat 64)))))
def um {ρ : Type} := shut (afz (ρ := ρ))
theorem al1 {ρ : Type} (a : Int) (k : Int → Option ρ) : um a k = afz a k := by unfold um; rw [bq]

def aiq {ρ : Type} (a : List Int) (k : (List Int) → Int → Int → (List Int) → Int → Option ρ) : Option ρ := br (decide ((↑a.length : Int) < 8)) (k [] 0 0 [] 1) (br (decide (8 ≤ (↑a.length : Int))) (jl (List.drop 4 (List.take (Int.toNat 8) a)) fun f => um f fun d => br (d == 0) (k [] 0 0 [] 9) (jf d fun b => br (decide ((↑a.length : Int) < IntKind.i64.wrap (IntKind.i64.wrap (4 + b) + 4))) (k [] 0 0 [] 1) (br (decide (0 ≤ IntKind.i64.wrap (4 + b))) (br (decide (IntKind.i64.wrap (4 + b) ≤ IntKind.i64.wrap (IntKind.i64.wrap (4 + b) + 4))) (br (decide (IntKind.i64.wrap (IntKind.i64.wrap (4 + b) + 4) ≤ (↑a.length : Int))) (jl (List.drop (IntKind.i64.wrap (4 + b)).toNat (List.take (IntKind.i64.wrap (IntKind.i64.wrap (4 + b) + 4)).toNat a)) fun g => qj g fun e => br (e == 0) (k [] 0 0 [] 9) (y5 e d fun c => br (decide ((↑a.length : Int) < c)) (k [] 0 0 [] 1) (br (decide (0 ≤ c)) (br (decide (c ≤ (↑a.length : Int))) (d9 [List.drop 0 (List.take c.toNat a)] fun h => br (decide (0 ≤ c)) (br (decide (c ≤ (↑a.length : Int))) (br (decide ((↑a.length : Int) ≤ (↑a.length : Int))) (d9 [List.drop c.toNat (List.take (↑a.length : Int).toNat a)] fun i => k h e d i 0) none) none) none) none) none))) none) none) none))) none)
def abp {ρ : Type} := shut (aiq (ρ := ρ))
theorem aqb {ρ : Type} (a : List Int) (k : (List Int) → Int → Int → (List Int) → Int → Option ρ) : abp a k = aiq a k := by unfold abp; rw [bq]

abbrev zc7 (ρ : Type) := (List Int) → (List Int) → Int → Int → Int → Option ρ
def ahc {ρ : Type} (c d : List Int) (e b a : Int) (nx f : zc7 ρ) : Option ρ := br (decide (a < b)) (br (decide (0 ≤ a)) (br (decide (a < (↑c.length : Int))) (br (decide (0 ≤ a)) (br (decide (a < (↑d.length : Int))) (nx c d (bits BinOp.or IntKind.u8 e (bits BinOp.xor IntKind.u8 (c.getD a.toNat 0) (d.getD a.toNat 0))) b (IntKind.i64.wrap (a + 1))) none) none) none) none) (f c d e b a)
abbrev zt7 := (List Int) × (List Int) × Int × Int × Int
abbrev zy7 := zt7
def zu7 {ρ : Type} (f : zt7 → Option ρ) : zc7 ρ := fun c d e a b => f (c, d, e, a, b)
def zs7 {ρ : Type} : ai8 zt7 zy7 ρ := fun (c, d, e, a, b) next ex => ahc c d e a b (zu7 next) (zu7 ex)
def zm7 {ρ : Type} := shut (lp (zs7 (ρ := ρ)))
theorem ze7 {ρ : Type} : zm7 (ρ := ρ) = lp zs7 := bq _
def zk7 {ρ : Type} (f : ai9 zt7 zy7 ρ) (c d : List Int) (e a b : Int) (g : zc7 ρ) : Option ρ := f (c, d, e, a, b) (fun (c, d, e, a, b) => g c d e a b)
def als {ρ : Type} := zk7 (lp (zs7 (ρ := ρ)))
def alp {ρ : Type} := zk7 (zm7 (ρ := ρ))
theorem aov {ρ : Type} : alp (ρ := ρ) = als := congrArg zk7 ze7
def agh {ρ : Type} (a b : List Int) (k : Bool → Option ρ) : Option ρ := br ((↑a.length : Int) != (↑b.length : Int)) (k false) (alp a b 0 (↑a.length : Int) 0 fun d e c f g => k (c == 0))
def vo {ρ : Type} := shut (agh (ρ := ρ))
theorem alx {ρ : Type} (a : List Int) (b : List Int) (k : Bool → Option ρ) : vo a b k = agh a b k := by unfold vo; rw [bq]

def ajp {ρ : Type} (a : Int) (k : (List Int) → Bool → Option ρ) : Option ρ := br (a == 1) (k [1779033703, 3144134277, 1013904242, 2773480762, 1359893119, 2600822924, 528734635, 1541459225] true) (br (a == 2) (k [14680500436340154072, 7105036623409894663, 10473403895298186519, 1526699215303891257, 7436329637833083697, 10282925794625328401, 15784041429090275239, 5167115440072839076] true) (br (a == 3) (k [7640891576956012808, 13503953896175478587, 4354685564936845355, 11912009170470909681, 5840696475078001361, 11170449401992604703, 2270897969802886507, 6620516959819538809] true) (k [0, 0, 0, 0, 0, 0, 0, 0] false)))
def ab3 {ρ : Type} := shut (ajp (ρ := ρ))
theorem al5 {ρ : Type} (a : Int) (k : (List Int) → Bool → Option ρ) : ab3 a k = ajp a k := by unfold ab3; rw [bq]

def aip {ρ : Type} (a : Int) (k : Int → (List Int) → (List Int) → Int → Int → Option ρ) : Option ρ := ab3 a fun b c => br (!c) (k 0 [0, 0, 0, 0, 0, 0, 0, 0] [] 0 9) (k a b [] 0 0)
def abj {ρ : Type} := shut (aip (ρ := ρ))
theorem aqf {ρ : Type} (a : Int) (k : Int → (List Int) → (List Int) → Int → Int → Option ρ) : abj a k = aip a k := by unfold abj; rw [bq]

end P
end
