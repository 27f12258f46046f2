import Derived.Test.YtmaoicbiekgmhaaAbsFun
import Derived.KernelRfl
namespace Go.Abs
open Go

/-- a function and its contract -/
structure Proved (P : Program) (globs : List (Nat × List AVal)) (f : FuncId) (s : Spec) : Prop where
  enters : Enters P f
  sound : SoundAt P globs f s

def GAll (P : Program) (globs : List (Nat × List AVal)) : List (Nat × Spec) → Prop
  | [] => True
  | (f, s) :: r => Proved P globs f s ∧ GAll P globs r

theorem gok_of {D : Ctx} (h : GAll D.P D.globs D.G) : GOk D := by
  intro f s hs
  have : ∀ (l : List (Nat × Spec)), GAll D.P D.globs l → assocS l f = some s → Enters D.P f ∧ SoundAt D.P D.globs f s := by
    intro l
    induction l with
    | nil => intro _ h; simp [assocS] at h
    | cons x r ih =>
      obtain ⟨k, s'⟩ := x
      intro hg h
      simp only [assocS] at h
      cases hb : Nat.beq k f with
      | true =>
        rw [hb] at h
        cases h
        have := Nat.eq_of_beq_eq_true hb
        subst this
        exact ⟨hg.1.enters, hg.1.sound⟩
      | false => rw [hb] at h; exact ih hg.2 h
  exact this D.G h hs

theorem globsPlain_nil {D : Ctx} (h : D.globs = []) : GlobsPlain D := by
  intro g l hg
  rw [h] at hg
  simp [assoc] at hg

def IAll (D : Ctx) : List (Nat × ISpec) → Prop
  | [] => True
  | (g, s) :: r => (Enters D.P g ∧ RunOk D g s) ∧ IAll D r
theorem inl_of {D : Ctx} (h : IAll D D.inl) : InlOk D := by
  intro g s hs
  have : ∀ (l : List (Nat × ISpec)), IAll D l → iassoc l g = some s → Enters D.P g ∧ RunOk D g s := by
    intro l
    induction l with
    | nil => intro _ h; simp [iassoc] at h
    | cons x r ih =>
      obtain ⟨k, s'⟩ := x
      intro hg h
      simp only [iassoc] at h
      cases hb : Nat.beq k g with
      | true =>
        rw [hb] at h
        cases h
        have := Nat.eq_of_beq_eq_true hb
        subst this
        exact hg.1
      | false => rw [hb] at h; exact ih hg.2 h
  exact this D.inl h hs

def loopAt (fn : Func) (id : Nat) : Code :=
  match fn.body with
  | some c => findC (loopsOf c) id
  | none => .skip
where findC : List Code → Nat → Code
  | [], _ => .skip
  | c :: r, id => bif Nat.beq (firstRegion c) id then c else findC r id

theorem loopOk_of {D : Ctx} {c : Code} {s0 : LSpec} (h0 : lassoc D.loops (firstRegion c) = some s0) (h : ∀ st K r, s0 st K = some r → ∃ k, itA D c K k st = some r) : LoopOk D c := by
  intro s hs
  rw [h0] at hs
  cases hs
  exact h

def AllLoops (D : Ctx) : List Code → Prop
  | [] => True
  | c :: r => LoopOk D c ∧ AllLoops D r

theorem allLoops {D : Ctx} : ∀ (l : List Code), AllLoops D l → ∀ c, c ∈ l → LoopOk D c
  | [], _, c, h => by simp at h
  | a :: r, h, c, hc => by
    rcases List.mem_cons.1 hc with rfl | hc
    · exact h.1
    · exact allLoops r h.2 c hc

/-- A FUNCTION's CONTRACT from its body. -/
theorem proved_of {D : Ctx} {f : FuncId} {fn : Func} {c : Code} {s : Spec} (sig : List (Option (TypeId × Cont))) (hmix : D.P.follows .mixedOrders = true) (hgl : D.globs = []) (hf : D.P.funcs[f]? = some fn) (hn : (fn.name == "runtime.NumGoroutine") = false) (hb : fn.body = some c)
    (hG : GAll D.P D.globs D.G) (hI : IAll D D.inl) (hL : AllLoops D (loopsOf c)) (h : ∀ args K r, s args K = some r → bodyA D fn sig args K = some r) : Proved D.P D.globs f s := by
  refine ⟨⟨fn, hf, hn, by rw [hb]; rfl⟩, fun args K r hs => ?_⟩
  exact body_sound (gok_of hG) (globsPlain_nil hgl) (inl_of hI) hmix hf (fun c' hc' => by rw [hb] at hc'; cases hc'; exact allLoops _ hL) sig args K r (h args K r hs)

/-- A FUNCTION within its caller's memory, from its body. -/
theorem run_of {D D' : Ctx} {f : FuncId} {fn : Func} {c : Code} {s : ISpec} (hP : D'.P = D.P) (hgg : D'.globs = D.globs) (hmix : D.P.follows .mixedOrders = true) (hgl : D.globs = []) (hf : D.P.funcs[f]? = some fn) (hn : (fn.name == "runtime.NumGoroutine") = false) (hb : fn.body = some c)
    (hG : GAll D.P D.globs D.G) (hI : IAll D D.inl) (hL : AllLoops D (loopsOf c)) (h : ∀ args hh n K r, s args hh n K = some r → bodyIn D fn args hh n K = some r) : Enters D'.P f ∧ RunOk D' f s := by
  refine ⟨⟨fn, by rw [hP]; exact hf, hn, by rw [hb]; rfl⟩, fun args hh n K r hs => ?_⟩
  have h1 := bodyIn_ok (gok_of hG) (globsPlain_nil hgl) (inl_of hI) hmix hf (fun c' hc' => by rw [hb] at hc'; cases hc'; exact allLoops _ hL) args hh n K r (h args hh n K r hs)
  obtain ⟨v, h', n', k1, k2⟩ := h1
  refine ⟨v, h', n', k1, fun B0 w0 E f m act w cargs hR hD ha => ?_⟩
  have hR' : Rel D B0 w0 E ⟨f, hh, n, m⟩ act w := { hR with globs := by rw [← hgg]; exact hR.globs }
  rw [hP]
  refine (k2 B0 w0 E f m act w cargs hR' hD ha).mono ?_
  rintro e w' ⟨u, E', rfl, g1, g2, g3, g4⟩
  exact ⟨u, E', rfl, g1, { g2 with globs := by rw [hgg]; exact g2.globs }, g3, g4⟩

theorem br_eq_some {b : Bool} {x y : Option R} {r : R} : br b x y = some r ↔ (b = true ∧ x = some r) ∨ (b = false ∧ y = some r) := by
  unfold br
  cases b <;> simp
@[simp] theorem br_tt {α : Type} (x y : α) : br true x y = x := by unfold br; rfl
@[simp] theorem br_ff {α : Type} (x y : α) : br false x y = y := by unfold br; rfl
theorem br_pos {α : Type} {p : Prop} [Decidable p] (h : p) (x y : α) : br (decide p) x y = x := by rw [decide_eq_true h]; exact br_tt x y
theorem br_neg {α : Type} {p : Prop} [Decidable p] (h : ¬ p) (x y : α) : br (decide p) x y = y := by rw [decide_eq_false h]; exact br_ff x y

/-- one round of a loop -/
def roundA (D : Ctx) (c : Code) (K : AExit → ASt → Option R) (next : ASt → Option R) (st : ASt) : Option R :=
  codeA D c st (knot (hintOf D.hints (firstRegion c)) (st.n - (hintOf D.hints (firstRegion c)).rows.length) (keysOf (dropN (hintOf D.hints (firstRegion c)).rows.length st.h)) K next)

theorem itA_succ (D : Ctx) (c : Code) (K : AExit → ASt → Option R) (k : Nat) (st : ASt) : itA D c K (k + 1) st = roundA D c K (itA D c K k) st := by
  unfold roundA
  show iter _ _ _ _ _ _ _ = _
  simp only [iter]
  congr 1
  funext ex st'
  cases ex with
  | normal =>
    simp only [knot]
    split
    · rename_i st1 hn
      obtain ⟨h1, h2⟩ := norm_back hn
      unfold itA
      rw [h1, h2]
    · rfl
  | exit id => rfl
  | ret => rfl
theorem itA_zero (D : Ctx) (c : Code) (K : AExit → ASt → Option R) (st : ASt) : itA D c K 0 st = roundA D c K (fun _ => none) st := rfl

/-- A LOOP, by a number that each round lowers. -/
theorem loop_ind {X : Type} {D : Ctx} {c : Code} {K : AExit → ASt → Option R} {r : R} (S : X → ASt) (P : X → Prop) (μ : X → Nat)
    (hstep : ∀ x, P x → ∀ next, (∀ x', P x' → μ x' < μ x → next (S x') = some r) → roundA D c K next (S x) = some r) {x : X} (hx : P x) : ∃ k, itA D c K k (S x) = some r := by
  have key : ∀ m x, μ x ≤ m → P x → itA D c K m (S x) = some r := by
    intro m
    induction m with
    | zero =>
      intro x hm hP
      rw [itA_zero]
      exact hstep x hP _ (fun x' _ h => by omega)
    | succ m ih =>
      intro x hm hP
      rw [itA_succ]
      exact hstep x hP _ (fun x' hx' h => ih x' (by omega) hx')
  exact ⟨μ x, key _ x (Nat.le_refl _) hx⟩
end Go.Abs
