/-
  ForsSigns, part 9: an interpreter of my own over abstract values, the pure functions, the walks and the plain law.
-/

import Derived.Test.YtjhnljhjpnjieaaGreatDoorForsSignsG

noncomputable section
open Go Go.Abs
set_option linter.unusedVariables false
namespace P

abbrev zc1 (ρ : Type) := (List (List Int)) → Int → Int → Option ρ
def ana {ρ : Type} (b : List (List Int)) (c a : Int) (nx d : zc1 ρ) (e : Bool → Option ρ) : Option ρ := br (decide (a < c)) (br (decide (0 ≤ a)) (br (decide (a < (↑b.length : Int))) (br (decide ((↑(b.getD a.toNat []).length : Int) > 300)) (e false) (nx b c (IntKind.i64.wrap (a + 1)))) none) none) (d b c a)
abbrev zt1 := (List (List Int)) × Int × Int
abbrev zy1 := ((List (List Int)) × Int × Int) ⊕ (Bool)
def zu1 {ρ : Type} (f : zt1 → Option ρ) : zc1 ρ := fun a b c => f (a, b, c)
def zs1 {ρ : Type} : adp zt1 zy1 ρ := fun (a, b, c) next ex => ana a b c (zu1 next) (fun a b c => ex (.inl (a, b, c))) (fun d => ex (.inr d))
def zm1 {ρ : Type} := shut (lp (zs1 (ρ := ρ)))
theorem ze1 {ρ : Type} : zm1 (ρ := ρ) = lp zs1 := bn _
def zk1 {ρ : Type} (f : adr zt1 zy1 ρ) (a : List (List Int)) (b c : Int) (d : zc1 ρ) (e : Bool → Option ρ) : Option ρ := f (a, b, c) (Sum.elim (fun (a, b, c) => d a b c) (fun x => e x))
def axm {ρ : Type} := zk1 (lp (zs1 (ρ := ρ)))
def ax5 {ρ : Type} := zk1 (zm1 (ρ := ρ))
theorem bai {ρ : Type} : ax5 (ρ := ρ) = axm := congrArg zk1 ze1
def aog {ρ : Type} (a : List (List Int)) (k : Bool → Option ρ) : Option ρ := ax5 a (↑a.length : Int) 0 (fun c d e => k true) fun b => k b
def agh {ρ : Type} := shut (aog (ρ := ρ))
theorem axf {ρ : Type} (a : List (List Int)) (k : Bool → Option ρ) : agh a k = aog a k := by unfold agh; rw [bn]

def amo {ρ : Type} (e b a c d : Int) (f : Bool) (k : Bool → Option ρ) : Option ρ := br (e != 16) (br (e != 24) (br (e != 32) (k false) (br (decide (a < 1)) (k false) (br (decide (b < a)) (k false) (br (decide (b > 68)) (k false) (br (decide (a = 0)) none (br (b.tmod a != 0) (k false) (br (decide (a = 0)) none (br (decide (IntKind.i64.wrap (b.tdiv a) > 9)) (k false) (br (decide (c ≥ 1)) (br (decide (c ≤ 14)) (br (decide (d ≥ 1)) (k (decide (d ≤ 40))) (k false)) (k false)) (k false)))))))))) (br (decide (a < 1)) (k false) (br (decide (b < a)) (k false) (br (decide (b > 68)) (k false) (br (decide (a = 0)) none (br (b.tmod a != 0) (k false) (br (decide (a = 0)) none (br (decide (IntKind.i64.wrap (b.tdiv a) > 9)) (k false) (br (decide (c ≥ 1)) (br (decide (c ≤ 14)) (br (decide (d ≥ 1)) (k (decide (d ≤ 40))) (k false)) (k false)) (k false)))))))))) (br (decide (a < 1)) (k false) (br (decide (b < a)) (k false) (br (decide (b > 68)) (k false) (br (decide (a = 0)) none (br (b.tmod a != 0) (k false) (br (decide (a = 0)) none (br (decide (IntKind.i64.wrap (b.tdiv a) > 9)) (k false) (br (decide (c ≥ 1)) (br (decide (c ≤ 14)) (br (decide (d ≥ 1)) (k (decide (d ≤ 40))) (k false)) (k false)) (k false)))))))))
def mq {ρ : Type} := shut (amo (ρ := ρ))
theorem aus {ρ : Type} (b : Int) (c : Int) (d : Int) (e : Int) (f : Int) (a : Bool) (k : Bool → Option ρ) : mq b c d e f a k = amo b c d e f a k := by unfold mq; rw [bn]

def aj0 {ρ : Type} (d e f a b : Int) (c : Bool) (k : Int → Int → Option ρ) : Option ρ := mq d e f a b c fun g => br (!g) (k 0 0) (k (IntKind.i64.wrap (IntKind.i64.wrap (d * b) * IntKind.i64.wrap (a + 1))) (IntKind.i64.wrap ((IntKind.i64.wrap (IntKind.i64.wrap (b * a) + 7)).tdiv 8)))
def iq {ρ : Type} := shut (aj0 (ρ := ρ))
theorem as5 {ρ : Type} (b : Int) (c : Int) (d : Int) (e : Int) (f : Int) (a : Bool) (k : Int → Int → Option ρ) : iq b c d e f a k = aj0 b c d e f a k := by unfold iq; rw [bn]

def aph {ρ : Type} (c : List Int) (a b : Int) (k : Bool → Option ρ) : Option ρ := br (decide (a ≥ 1)) (br (decide (a ≤ 24)) (br (decide (b ≥ 0)) (br (decide (a = 0)) none (k (decide (b ≤ IntKind.i64.wrap ((IntKind.i64.wrap ((↑c.length : Int) * 8)).tdiv a))))) (k false)) (k false)) (k false)
def abo {ρ : Type} := shut (aph (ρ := ρ))
theorem asy {ρ : Type} (a : List Int) (b : Int) (c : Int) (k : Bool → Option ρ) : abo a b c k = aph a b c k := by unfold abo; rw [bn]

abbrev zc2 (ρ : Type) := (List Int) → Int → Int → Int → Int → Int → Int → (List Int) → Option ρ
def aix {ρ : Type} (a : List Int) (e g f b c d : Int) (h : List Int) (nx i : zc2 ρ) : Option ρ := br (decide (f < e)) (br (decide (0 < (↑a.length : Int))) (br (decide (1 ≤ (↑a.length : Int))) (br (decide ((↑a.length : Int) ≤ (↑a.length : Int))) (nx (List.drop 1 (List.take (↑a.length : Int).toNat a)) e (bits BinOp.or IntKind.u64 (IntKind.u64.wrap (g * 2 ^ 8)) (IntKind.u64.wrap (a.getD 0 0))) (IntKind.i64.wrap (f + 8)) b c d h) none) none) none) (i a e g f b c d h)
abbrev zt2 := (List Int) × Int × Int × Int × Int × Int × Int × (List Int)
abbrev zy2 := zt2
def zu2 {ρ : Type} (f : zt2 → Option ρ) : zc2 ρ := fun d e g h a b c i => f (d, e, g, h, a, b, c, i)
def zs2 {ρ : Type} : adp zt2 zy2 ρ := fun (d, e, f, g, a, b, c, h) next ex => aix d e f g a b c h (zu2 next) (zu2 ex)
def zm2 {ρ : Type} := shut (lp (zs2 (ρ := ρ)))
theorem ze2 {ρ : Type} : zm2 (ρ := ρ) = lp zs2 := bn _
def zk2 {ρ : Type} (f : adr zt2 zy2 ρ) (d : List Int) (e g h a b c : Int) (i : List Int) (j : zc2 ρ) : Option ρ := f (d, e, g, h, a, b, c, i) (fun (d, e, g, h, a, b, c, i) => j d e g h a b c i)
def an1 {ρ : Type} := zk2 (lp (zs2 (ρ := ρ)))
def ano {ρ : Type} := zk2 (zm2 (ρ := ρ))
theorem ar8 {ρ : Type} : ano (ρ := ρ) = an1 := congrArg zk2 ze2
abbrev zc3 (ρ : Type) := (List Int) → Int → Int → Int → Int → Int → (List Int) → Option ρ
def aiz {ρ : Type} (f : List Int) (g h i c a : Int) (j : List Int) (nx m : zc3 ρ) : Option ρ := br (decide (a < c)) (ano f g h i a c a j fun n b k d e o p l => br (decide (IntKind.i64.wrap (d - b) < 0)) none (br (decide (b < 0)) none (br (decide (0 ≤ e)) (br (decide (e < (↑l.length : Int))) (nx n b k (IntKind.i64.wrap (d - b)) o (IntKind.i64.wrap (p + 1)) (l.set e.toNat (IntKind.u32.wrap (bits BinOp.and IntKind.u64 (k.fdiv (2 ^ min (IntKind.i64.wrap (d - b)).toNat 64)) (IntKind.u64.wrap (IntKind.u64.wrap (1 * 2 ^ min b.toNat 64) - 1)))))) none) none))) (m f g h i c a j)
abbrev zt3 := (List Int) × Int × Int × Int × Int × Int × (List Int)
abbrev zy3 := zt3
def zu3 {ρ : Type} (f : zt3 → Option ρ) : zc3 ρ := fun c d e g a b h => f (c, d, e, g, a, b, h)
def zs3 {ρ : Type} : adp zt3 zy3 ρ := fun (c, d, e, f, a, b, g) next ex => aiz c d e f a b g (zu3 next) (zu3 ex)
def zm3 {ρ : Type} := shut (lp (zs3 (ρ := ρ)))
theorem ze3 {ρ : Type} : zm3 (ρ := ρ) = lp zs3 := bn _
def zk3 {ρ : Type} (f : adr zt3 zy3 ρ) (c : List Int) (d e g a b : Int) (h : List Int) (i : zc3 ρ) : Option ρ := f (c, d, e, g, a, b, h) (fun (c, d, e, g, a, b, h) => i c d e g a b h)
def ant {ρ : Type} := zk3 (lp (zs3 (ρ := ρ)))
def anw {ρ : Type} := zk3 (zm3 (ρ := ρ))
theorem ar6 {ρ : Type} : anw (ρ := ρ) = ant := congrArg zk3 ze3
def ahu {ρ : Type} (b : List Int) (c a : Int) (k : (List Int) → Option ρ) : Option ρ := abo b c a fun d => br (!d) (k []) (br (decide (0 ≤ a)) (br (decide (a ≤ a)) (br (decide (a * (↑4 : Int) ≤ (↑140737488355328 : Int))) (anw b c 0 0 (↑(List.replicate a.toNat (0 : Int)).length : Int) 0 (List.replicate a.toNat (0 : Int)) fun f g h i j l e => k e) none) none) none)
def jk {ρ : Type} := shut (ahu (ρ := ρ))
theorem anl {ρ : Type} (a : List Int) (b : Int) (c : Int) (k : (List Int) → Option ρ) : jk a b c k = ahu a b c k := by unfold jk; rw [bn]

def agb {ρ : Type} (b c d e f : Int) (a : Bool) (g h i : List Int) (k : Int → Int → Int → Int → Int → Bool → (List Int) → (List Int) → (List Int) → Bool → Option ρ) : Option ρ := mq b c d e f a fun j => br j (br ((↑g.length : Int) == b) (k b c d e f a g h i ((↑h.length : Int) == b)) (k b c d e f a g h i false)) (k b c d e f a g h i false)
def jy {ρ : Type} := shut (agb (ρ := ρ))
theorem amg {ρ : Type} (b : Int) (c : Int) (d : Int) (e : Int) (f : Int) (a : Bool) (g : List Int) (h : List Int) (i : List Int) (k : Int → Int → Int → Int → Int → Bool → (List Int) → (List Int) → (List Int) → Bool → Option ρ) : jy b c d e f a g h i k = agb b c d e f a g h i k := by unfold jy; rw [bn]

abbrev zc4 (ρ : Type) := Int → Int → Int → (List Int) → Option ρ
def ar4 {ρ : Type} (c b a : Int) (d : List Int) (nx e : zc4 ρ) : Option ρ := br (decide (a < b)) (br (decide (IntKind.i64.wrap (8 * a) < 0)) none (br (decide (0 ≤ a)) (br (decide (a < (↑d.length : Int))) (nx c b (IntKind.i64.wrap (a + 1)) (d.set a.toNat (IntKind.u8.wrap (c.fdiv (2 ^ min (IntKind.i64.wrap (8 * a)).toNat 64))))) none) none)) (e c b a d)
abbrev zt4 := Int × Int × Int × (List Int)
abbrev zy4 := zt4
def zu4 {ρ : Type} (f : zt4 → Option ρ) : zc4 ρ := fun c a b d => f (c, a, b, d)
def zs4 {ρ : Type} : adp zt4 zy4 ρ := fun (c, a, b, d) next ex => ar4 c a b d (zu4 next) (zu4 ex)
def zm4 {ρ : Type} := shut (lp (zs4 (ρ := ρ)))
theorem ze4 {ρ : Type} : zm4 (ρ := ρ) = lp zs4 := bn _
def zk4 {ρ : Type} (f : adr zt4 zy4 ρ) (c a b : Int) (d : List Int) (e : zc4 ρ) : Option ρ := f (c, a, b, d) (fun (c, a, b, d) => e c a b d)
def ayr {ρ : Type} := zk4 (lp (zs4 (ρ := ρ)))
def ayo {ρ : Type} := zk4 (zm4 (ρ := ρ))
theorem az0 {ρ : Type} : ayo (ρ := ρ) = ayr := congrArg zk4 ze4
def an9 {ρ : Type} (b a : Int) (k : (List Int) → Option ρ) : Option ρ := br (decide (a < 0)) (k []) (br (decide (a > 65536)) (k []) (br (decide (0 ≤ a)) (br (decide (a ≤ a)) (br (decide (a * (↑1 : Int) ≤ (↑140737488355328 : Int))) (ayo b (bif decide (8 < a) then 8 else a) 0 (List.replicate a.toNat (0 : Int)) fun d e f c => k c) none) none) none))
def ae7 {ρ : Type} := shut (an9 (ρ := ρ))
theorem ays {ρ : Type} (a : Int) (b : Int) (k : (List Int) → Option ρ) : ae7 a b k = an9 a b k := by unfold ae7; rw [bn]

abbrev zc5 (ρ : Type) := Int → Int → (List Int) → Option ρ
def als {ρ : Type} (a b : Int) (c : List Int) (nx d : zc5 ρ) : Option ρ := br (decide (a < b)) (br (decide (0 ≤ b)) (br (decide (b < (↑c.length : Int))) (br (decide (0 ≤ a)) (br (decide (a < (↑c.length : Int))) (br (decide (0 ≤ a)) (br (decide (a < (↑c.length : Int))) (br (decide (0 ≤ b)) (br (decide (b < (↑(c.set a.toNat (c.getD b.toNat 0)).length : Int))) (nx (IntKind.i64.wrap (a + 1)) (IntKind.i64.wrap (b - 1)) ((c.set a.toNat (c.getD b.toNat 0)).set b.toNat (c.getD a.toNat 0))) none) none) none) none) none) none) none) none) (d a b c)
abbrev zt5 := Int × Int × (List Int)
abbrev zy5 := zt5
def zu5 {ρ : Type} (f : zt5 → Option ρ) : zc5 ρ := fun a b c => f (a, b, c)
def zs5 {ρ : Type} : adp zt5 zy5 ρ := fun (a, b, c) next ex => als a b c (zu5 next) (zu5 ex)
def zm5 {ρ : Type} := shut (lp (zs5 (ρ := ρ)))
theorem ze5 {ρ : Type} : zm5 (ρ := ρ) = lp zs5 := bn _
def zk5 {ρ : Type} (f : adr zt5 zy5 ρ) (a b : Int) (c : List Int) (d : zc5 ρ) : Option ρ := f (a, b, c) (fun (a, b, c) => d a b c)
def atb {ρ : Type} := zk5 (lp (zs5 (ρ := ρ)))
def as6 {ρ : Type} := zk5 (zm5 (ρ := ρ))
theorem awm {ρ : Type} : as6 (ρ := ρ) = atb := congrArg zk5 ze5
def apb {ρ : Type} (b c : Int) (k : (List Int) → Option ρ) : Option ρ := ae7 b c fun a => as6 0 (IntKind.i64.wrap ((↑a.length : Int) - 1)) a fun e f d => k d
def vo {ρ : Type} := shut (apb (ρ := ρ))
theorem ayh {ρ : Type} (a : Int) (b : Int) (k : (List Int) → Option ρ) : vo a b k = apb a b k := by unfold vo; rw [bn]

def ac1 {ρ : Type} (a : Int) (k : (List Int) → Option ρ) : Option ρ := br (decide (a < 0)) none (br (decide (IntKind.i64.wrap (a - IntKind.i64.wrap (0 - (↑0 : Int))) > 0)) (br (decide (0 ≤ IntKind.i64.wrap (a - IntKind.i64.wrap (0 - (↑0 : Int))))) (br (decide ((IntKind.i64.wrap (a - IntKind.i64.wrap (0 - (↑0 : Int)))).toNat * 1 ≤ 140737488355328)) (k (List.take ((↑0 : Int) - (0 : Int)).toNat (List.replicate (IntKind.i64.wrap (a - IntKind.i64.wrap (0 - (↑0 : Int)))).toNat (0 : Int)))) none) none) (k []))
def om {ρ : Type} := shut (ac1 (ρ := ρ))
theorem ahy {ρ : Type} (a : Int) (k : (List Int) → Option ρ) : om a k = ac1 a k := by unfold om; rw [bn]

abbrev zc6 (ρ : Type) := (List (List Int)) → Int → (List (List Int)) → Int → Int → Option ρ
def abw {ρ : Type} (e : List (List Int)) (d : Int) (b : List (List Int)) (c a : Int) (nx f : zc6 ρ) : Option ρ := br (decide (a < c)) (br (decide (0 ≤ a)) (br (decide (a < (↑b.length : Int))) (br (decide (IntKind.i64.wrap (d + (↑(b.getD a.toNat []).length : Int)) < 0)) none (nx e (IntKind.i64.wrap (d + (↑(b.getD a.toNat []).length : Int))) b c (IntKind.i64.wrap (a + 1)))) none) none) (f e d b c a)
abbrev zt6 := (List (List Int)) × Int × (List (List Int)) × Int × Int
abbrev zy6 := zt6
def zu6 {ρ : Type} (f : zt6 → Option ρ) : zc6 ρ := fun c d e a b => f (c, d, e, a, b)
def zs6 {ρ : Type} : adp zt6 zy6 ρ := fun (c, d, e, a, b) next ex => abw c d e a b (zu6 next) (zu6 ex)
def zm6 {ρ : Type} := shut (lp (zs6 (ρ := ρ)))
theorem ze6 {ρ : Type} : zm6 (ρ := ρ) = lp zs6 := bn _
def zk6 {ρ : Type} (f : adr zt6 zy6 ρ) (c : List (List Int)) (d : Int) (e : List (List Int)) (a b : Int) (g : zc6 ρ) : Option ρ := f (c, d, e, a, b) (fun (c, d, e, a, b) => g c d e a b)
def afy {ρ : Type} := zk6 (lp (zs6 (ρ := ρ)))
def af3 {ρ : Type} := zk6 (zm6 (ρ := ρ))
theorem ajm {ρ : Type} : af3 (ρ := ρ) = afy := congrArg zk6 ze6
abbrev zc7 (ρ : Type) := (List (List Int)) → Int → Int → (List Int) → Option ρ
def abg {ρ : Type} (b : List (List Int)) (c a : Int) (d : List Int) (nx e : zc7 ρ) : Option ρ := br (decide (a < c)) (br (decide (0 ≤ a)) (br (decide (a < (↑b.length : Int))) (br (decide ((d.length + (b.getD a.toNat []).length) * 1 ≤ 140737488355328)) (nx b c (IntKind.i64.wrap (a + 1)) (d ++ b.getD a.toNat [])) none) none) none) (e b c a d)
abbrev zt7 := (List (List Int)) × Int × Int × (List Int)
abbrev zy7 := zt7
def zu7 {ρ : Type} (f : zt7 → Option ρ) : zc7 ρ := fun a b c d => f (a, b, c, d)
def zs7 {ρ : Type} : adp zt7 zy7 ρ := fun (a, b, c, d) next ex => abg a b c d (zu7 next) (zu7 ex)
def zm7 {ρ : Type} := shut (lp (zs7 (ρ := ρ)))
theorem ze7 {ρ : Type} : zm7 (ρ := ρ) = lp zs7 := bn _
def zk7 {ρ : Type} (f : adr zt7 zy7 ρ) (a : List (List Int)) (b c : Int) (d : List Int) (e : zc7 ρ) : Option ρ := f (a, b, c, d) (fun (a, b, c, d) => e a b c d)
def aeo {ρ : Type} := zk7 (lp (zs7 (ρ := ρ)))
def ael {ρ : Type} := zk7 (zm7 (ρ := ρ))
theorem ajd {ρ : Type} : ael (ρ := ρ) = aeo := congrArg zk7 ze7
def aa7 {ρ : Type} (a : List (List Int)) (k : (List Int) → Option ρ) : Option ρ := af3 a 0 a (↑a.length : Int) 0 fun b c f g h => om c fun d => ael b (↑b.length : Int) 0 d fun i j l e => k e
def iy {ρ : Type} := shut (aa7 (ρ := ρ))
theorem afo {ρ : Type} (a : List (List Int)) (k : (List Int) → Option ρ) : iy a k = aa7 a k := by unfold iy; rw [bn]

def ajz {ρ : Type} (a : List (List Int)) (k : (List Int) → Option ρ) : Option ρ := iy a fun b => k b
def jq {ρ : Type} := shut (ajz (ρ := ρ))
theorem asn {ρ : Type} (a : List (List Int)) (k : (List Int) → Option ρ) : jq a k = ajz a k := by unfold jq; rw [bn]

def alj {ρ : Type} (b : List Int) (a c : Int) (k : (List Int) → Option ρ) : Option ρ := br (a == 0) (vo c 4 fun d => k ((List.take 4 d).append (List.drop (0 + min 4 d.length) b))) (br (a == 1) (vo c 12 fun e => k ((List.take 4 b).append (List.take 12 e ++ List.drop (4 + min 12 e.length) b))) (br (a == 2) (vo c 4 fun j => jq [j, List.replicate 12 (0 : Int)] fun f => k ((List.take 16 b).append (List.take 16 f ++ List.drop (16 + min 16 f.length) b))) (br (a == 3) (br (a == 3) (br (decide (0 ≤ IntKind.i64.wrap (8 + IntKind.i64.wrap (4 * a)))) (br (decide (IntKind.i64.wrap (8 + IntKind.i64.wrap (4 * a)) ≤ (↑32 : Int))) (vo c 4 fun g => k ((List.take (IntKind.i64.wrap (8 + IntKind.i64.wrap (4 * a))).toNat b).append (List.take ((↑32 : Int) - IntKind.i64.wrap (8 + IntKind.i64.wrap (4 * a))).toNat g ++ List.drop ((IntKind.i64.wrap (8 + IntKind.i64.wrap (4 * a))).toNat + min ((↑32 : Int) - IntKind.i64.wrap (8 + IntKind.i64.wrap (4 * a))).toNat g.length) b))) none) none) (k b)) (br (a == 4) (br (a == 4) (br (decide (0 ≤ IntKind.i64.wrap (8 + IntKind.i64.wrap (4 * a)))) (br (decide (IntKind.i64.wrap (8 + IntKind.i64.wrap (4 * a)) ≤ (↑32 : Int))) (vo c 4 fun h => k ((List.take (IntKind.i64.wrap (8 + IntKind.i64.wrap (4 * a))).toNat b).append (List.take ((↑32 : Int) - IntKind.i64.wrap (8 + IntKind.i64.wrap (4 * a))).toNat h ++ List.drop ((IntKind.i64.wrap (8 + IntKind.i64.wrap (4 * a))).toNat + min ((↑32 : Int) - IntKind.i64.wrap (8 + IntKind.i64.wrap (4 * a))).toNat h.length) b))) none) none) (k b)) (br (a == 5) (br (decide (0 ≤ IntKind.i64.wrap (8 + IntKind.i64.wrap (4 * a)))) (br (decide (IntKind.i64.wrap (8 + IntKind.i64.wrap (4 * a)) ≤ (↑32 : Int))) (vo c 4 fun i => k ((List.take (IntKind.i64.wrap (8 + IntKind.i64.wrap (4 * a))).toNat b).append (List.take ((↑32 : Int) - IntKind.i64.wrap (8 + IntKind.i64.wrap (4 * a))).toNat i ++ List.drop ((IntKind.i64.wrap (8 + IntKind.i64.wrap (4 * a))).toNat + min ((↑32 : Int) - IntKind.i64.wrap (8 + IntKind.i64.wrap (4 * a))).toNat i.length) b))) none) none) (k b))))))
def oz {ρ : Type} := shut (alj (ρ := ρ))
theorem awj {ρ : Type} (a : List Int) (b : Int) (c : Int) (k : (List Int) → Option ρ) : oz a b c k = alj a b c k := by unfold oz; rw [bn]

def ah2 {ρ : Type} (a : Int) (k : Int → Option ρ) : Option ρ := br (a == 4) (br (a == 4) (k 136) (br (a == 5) (k 72) (br (a == 6) (k 168) (k 0)))) (br (a == 7) (k 136) (br (a == 5) (k 72) (br (a == 6) (k 168) (k 0))))
def ko {ρ : Type} := shut (ah2 (ρ := ρ))
theorem anv {ρ : Type} (a : Int) (k : Int → Option ρ) : ko a k = ah2 a k := by unfold ko; rw [bn]

def ai9 {ρ : Type} (a : Int) (k : Int → (List Int) → Int → Bool → Int → Option ρ) : Option ρ := ko a fun b => br (b == 0) (k 0 [0, 0, 0, 0, 0, 0, 0, 0, 0, 0, 0, 0, 0, 0, 0, 0, 0, 0, 0, 0, 0, 0, 0, 0, 0] 0 false 9) (k a [0, 0, 0, 0, 0, 0, 0, 0, 0, 0, 0, 0, 0, 0, 0, 0, 0, 0, 0, 0, 0, 0, 0, 0, 0] 0 false 0)
def adt {ρ : Type} := shut (ai9 (ρ := ρ))
theorem apo {ρ : Type} (a : Int) (k : Int → (List Int) → Int → Bool → Int → Option ρ) : adt a k = ai9 a k := by unfold adt; rw [bn]

def ni {ρ : Type} (b a : Int) (k : Int → Option ρ) : Option ρ := br (decide (IntKind.u64.wrap (64 - bits BinOp.and IntKind.u64 (IntKind.u64.wrap a) 63) < 0)) none (k (bits BinOp.or IntKind.u64 (IntKind.u64.wrap (b * 2 ^ min (bits BinOp.and IntKind.u64 (IntKind.u64.wrap a) 63).toNat 64)) (b.fdiv (2 ^ min (IntKind.u64.wrap (64 - bits BinOp.and IntKind.u64 (IntKind.u64.wrap a) 63)).toNat 64))))
def ig {ρ : Type} := shut (ni (ρ := ρ))
theorem qg {ρ : Type} (a : Int) (b : Int) (k : Int → Option ρ) : ig a b k = ni a b k := by unfold ig; rw [bn]

end P
end
