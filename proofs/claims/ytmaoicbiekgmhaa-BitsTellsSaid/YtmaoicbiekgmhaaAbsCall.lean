import Derived.Test.YtmaoicbiekgmhaaAbsOps12
namespace Go.Abs
open Go Go.RowKit
set_option linter.unusedVariables false
set_option linter.unusedSimpArgs false

def noEnv (S : Nat → Prop) : Env := ⟨S, fun _ => none⟩

mutual
/-- a function's result: fresh rows and their blocks, else values in static memory -/
def RelX (S : Nat → Prop) (w : World) (B : Nat) : AVal → Value → List Nat → Prop
  | .fr e c, u, bs => (∃ xs, w.ownsRow B e c.size u c.len xs ∧ ∀ j x, xs[j]? = some x → x.oneCell' = true ∧ cellC S w c j x) ∧ bs = (vBlock u).toList
  | .agg l, u, bs => ∃ cs, u = .agg cs.toArray ∧ RelXF S w B l cs bs
  | .tuple l, u, bs => ∃ vs, u = .tuple vs.toArray ∧ RelXs S w B l vs bs
  | a, u, bs => RelV (noEnv S) w a u ∧ bs = []
def RelXs (S : Nat → Prop) (w : World) (B : Nat) : List AVal → List Value → List Nat → Prop
  | [], vs, bs => vs = [] ∧ bs = []
  | a :: r, vs, bs => ∃ u us b1 b2, vs = u :: us ∧ bs = b1 ++ b2 ∧ RelX S w B a u b1 ∧ RelXs S w B r us b2
def RelXF (S : Nat → Prop) (w : World) (B : Nat) : List AVal → List Value → List Nat → Prop
  | [], cs, bs => cs = [] ∧ bs = []
  | .arr k n l :: r, cs, bs => ∃ cs', l.length = n ∧ cs = l.map (Value.int k) ++ cs' ∧ RelXF S w B r cs' bs
  | a :: r, cs, bs => ∃ u cs' b1 b2, cs = u :: cs' ∧ u.oneCell' = true ∧ bs = b1 ++ b2 ∧ RelX S w B a u b1 ∧ RelXF S w B r cs' b2
end

theorem noEnv_up {S S' : Nat → Prop} {E : Env} {w w' : World} (k : Keeps S E.S w w') : Up (noEnv S) E w w' := ⟨k, fun _ _ h => by simp [noEnv] at h⟩
theorem relV_noEnv {E : Env} {w : World} {a : AVal} {u : Value} (h : RelV (noEnv E.S) w a u) : RelV E w a u :=
  RelV.mono (E := noEnv E.S) (E' := E) (w := w) (w' := w) (noEnv_up (S' := E.S) (Keeps.refl E.S w)) a u h

def GlobsOk (globs : List (Nat × List AVal)) (S : Nat → Prop) (w : World) : Prop :=
  ∀ g l, assoc globs g = some l → S g ∧ ∃ cs e fz, w.heap[g]? = some (.cells cs e fz) ∧ RelF (noEnv S) w l cs.toList

/-- WHAT A FUNCTION'S CONTRACT SAYS of the model's run. -/
def SoundAt (P : Program) (globs : List (Nat × List AVal)) (f : FuncId) (s : Spec) : Prop :=
  ∀ (args : List AVal) (K : AVal → Option R) (r : R), s args K = some r → ∃ a, K a = some r ∧ ∀ (S : Nat → Prop) (w : World) (cargs : List Value),
    (∀ b, S b → b < w.heap.size) → GlobsOk globs S w → RelVs (noEnv S) w args cargs →
    Calls P f cargs.toArray w fun e w' => ∃ v Sn bs, e = .returned v ∧ Below w.heap.size w w' ∧ (∀ b, Sn b → S b ∨ (w.heap.size ≤ b ∧ b < w'.heap.size)) ∧ RelX Sn w' w.heap.size a v bs ∧ bs.Nodup ∧ ∀ b, b ∈ bs → ¬ Sn b

/-- a function that is entered when it is called -/
def Enters (P : Program) (f : FuncId) : Prop := ∃ fn, P.funcs[f]? = some fn ∧ (fn.name == "runtime.NumGoroutine") = false ∧ fn.body.isSome = true

def GOk (D : Ctx) : Prop := ∀ f s, assocS D.G f = some s → Enters D.P f ∧ SoundAt D.P D.globs f s

theorem run_callFunc {P : Program} {w : World} {f : FuncId} (h : Enters P f) (args : Array Value) : (callFunc f args).run P w = .ok (.enter f args) w := by
  obtain ⟨fn, h1, h2, h3⟩ := h
  simp only [callFunc, Sem.run_bind, run_program, Result.andThen_ok, h1]
  rw [if_neg (by simpa using h2)]
  rw [if_neg (by cases hb : fn.body <;> simp_all)]
  rfl

theorem relXF_cons {S : Nat → Prop} {w : World} {B : Nat} {a : AVal} {r : List AVal} {cs : List Value} {bs : List Nat} (h : RelXF S w B (a :: r) cs bs) :
    (∃ k n l cs', a = .arr k n l ∧ l.length = n ∧ cs = l.map (Value.int k) ++ cs' ∧ RelXF S w B r cs' bs) ∨
    ((∀ k n l, a ≠ .arr k n l) ∧ ∃ u cs' b1 b2, cs = u :: cs' ∧ u.oneCell' = true ∧ bs = b1 ++ b2 ∧ RelX S w B a u b1 ∧ RelXF S w B r cs' b2) := by
  cases a <;> simp only [RelXF] at h <;> first
    | (obtain ⟨cs', h1, h2, h3⟩ := h; exact .inl ⟨_, _, _, cs', rfl, h1, h2, h3⟩)
    | (obtain ⟨u, cs', b1, b2, h1, h2, h3, h4, h5⟩ := h; exact .inr ⟨by simp, u, cs', b1, b2, h1, h2, h3, h4, h5⟩)

section
variable {D : Ctx} {B0 : Nat} {w0 : W0} {E : Env} {st : ASt} {act : Act} {w : World}

/-- a row that has become one's own -/
theorem rel_adopt (h : Rel D B0 w0 E st act w) {x : Nat} (hx : E.ρ x = none) {e : TypeId} {c : Cont} {u : Value} {xs : List Value} (ho : w.ownsRow B0 e c.size u c.len xs) (hc : ∀ j x, xs[j]? = some x → x.oneCell' = true ∧ cellC E.S w c j x)
    (hS : ∀ k, vBlock u = some k → ¬ E.S k) (hap : ∀ id b v k, hlook st.h id = some b → b.frz = false → E.ρ id = some v → vBlock v = some k → vBlock u ≠ some k) (n : Nat) :
    Rel D B0 w0 ⟨E.S, upd E.ρ x u⟩ { st with h := (x, some ⟨.row e c, false⟩) :: st.h, n := n } act w ∧ Up E ⟨E.S, upd E.ρ x u⟩ w w := by
  have up : Up E ⟨E.S, upd E.ρ x u⟩ w w := ⟨Keeps.refl _ _, upd_ext hx⟩
  have look' : ∀ id b, hlook ((x, some ⟨.row e c, false⟩) :: st.h) id = some b → (id = x ∧ b = ⟨.row e c, false⟩) ∨ (id ≠ x ∧ hlook st.h id = some b) := by
    intro id b hb
    by_cases he : id = x
    · subst he; rw [hlook_cons_eq] at hb; cases hb; exact .inl ⟨rfl, rfl⟩
    · rw [hlook_cons_ne he] at hb; exact .inr ⟨he, hb⟩
  have hB : BlkR ⟨E.S, upd E.ρ x u⟩ w B0 x ⟨.row e c, false⟩ := ⟨u, upd_same _ _ _, ⟨xs, ho, hc⟩, fun _ k hk => hS k hk, fun hf => by cases hf⟩
  refine ⟨h.step up (Below.refl _ _) n (fun id b hb => ?_) (fun id id' b b' v v' k hb hf hb' hf' hne hv hv' hk hk' => ?_) (fun _ h => .inl h) (fun id v hv => ?_), up⟩
  · rcases look' id b hb with ⟨rfl, rfl⟩ | ⟨hid, hb⟩
    · exact hB
    · exact (h.heap id b hb).mono up (fun _ _ _ _ => rfl) (fun _ _ _ _ _ hs => hs)
  · rcases look' id b hb with ⟨rfl, rfl⟩ | ⟨hid, hbn⟩
    · rcases look' id' b' hb' with ⟨rfl, rfl⟩ | ⟨hid', hbn'⟩
      · exact hne rfl
      · simp only [upd_same] at hv
        cases hv
        simp only [upd, if_neg hid'] at hv'
        exact hap id' b' v' k hbn' hf' hv' hk' hk
    · simp only [upd, if_neg hid] at hv
      rcases look' id' b' hb' with ⟨rfl, rfl⟩ | ⟨hid', hbn'⟩
      · simp only [upd_same] at hv'
        cases hv'
        exact hap id b v k hbn hf hv hk hk'
      · simp only [upd, if_neg hid'] at hv'
        exact h.apart id id' b b' v v' k hbn hf hbn' hf' hne hv hv' hk hk'
  · by_cases he : id = x
    · subst he; exact hB.form hv
    · simp only [upd, if_neg he] at hv; exact h.form id v hv

/-- what is asked of the state while a result is taken in -/
structure Taking (D : Ctx) (B0 : Nat) (w0 : W0) (N : Nat) (E : Env) (f : List (Nat × AVal)) (m : Nat) (h : Hp) (act : Act) (w : World) (bs : List Nat) (n : Nat) : Prop where
  rel : Rel D B0 w0 E ⟨f, h, n, m⟩ act w
  free : ∀ id, n ≤ id → id < N → E.ρ id = none
  apart : ∀ id b v k, hlook h id = some b → b.frz = false → E.ρ id = some v → vBlock v = some k → k ∉ bs
  notS : ∀ b, b ∈ bs → ¬ E.S b
end

mutual
/-- memory that a result of these kinds does not share -/
theorem relX_mono {S S' : Nat → Prop} {w : World} {B : Nat} : ∀ (a : AVal) (u : Value) (bs : List Nat), RelX S w B a u bs → ((∀ b, S b → S' b) ∨ shares a = false) → RelX S' w B a u bs
  | .fr e c, u, bs, h, hs => by
    simp only [RelX] at h ⊢
    obtain ⟨⟨xs, h1, h2⟩, h3⟩ := h
    refine ⟨⟨xs, h1, fun j x hj => ⟨(h2 j x hj).1, ?_⟩⟩, h3⟩
    rcases hs with hs | hs
    · exact cellC.mono ⟨hs, fun _ _ => rfl⟩ (h2 j x hj).2
    · cases c with
      | ints k l => exact (h2 j x hj).2
      | _ => simp [shares] at hs
  | .agg l, u, bs, h, hs => by
    simp only [RelX] at h ⊢
    obtain ⟨cs, h1, h2⟩ := h
    exact ⟨cs, h1, relXF_mono l cs bs h2 (hs.imp id (by simpa only [shares] using id))⟩
  | .tuple l, u, bs, h, hs => by
    simp only [RelX] at h ⊢
    obtain ⟨vs, h1, h2⟩ := h
    exact ⟨vs, h1, relXs_mono l vs bs h2 (hs.imp id (by simpa only [shares] using id))⟩
  | .v x, u, bs, h, hs => by simp only [RelX, RelV] at h ⊢; exact h
  | .bot, u, bs, h, hs => by simp only [RelX, RelV] at h ⊢; exact h
  | .arr _ _ _, u, bs, h, hs => by simp only [RelX, RelV] at h ⊢; exact h
  | .sl c, u, bs, h, hs => by
    simp only [RelX] at h ⊢
    rcases hs with hs | hs
    · exact ⟨RelV.mono (E := noEnv S) (E' := noEnv S') (w := w) (w' := w) ⟨⟨hs, fun _ _ => rfl⟩, fun _ _ h => h⟩ _ _ h.1, h.2⟩
    · simp [shares] at hs
  | .own _, u, bs, h, hs => by
    simp only [RelX] at h ⊢
    rcases hs with hs | hs
    · exact ⟨RelV.mono (E := noEnv S) (E' := noEnv S') (w := w) (w' := w) ⟨⟨hs, fun _ _ => rfl⟩, fun _ _ h => h⟩ _ _ h.1, h.2⟩
    · simp [shares] at hs
  | .win _ _ _, u, bs, h, hs => by
    simp only [RelX] at h ⊢
    rcases hs with hs | hs
    · exact ⟨RelV.mono (E := noEnv S) (E' := noEnv S') (w := w) (w' := w) ⟨⟨hs, fun _ _ => rfl⟩, fun _ _ h => h⟩ _ _ h.1, h.2⟩
    · simp [shares] at hs
  | .awin _ _ _ _ _, u, bs, h, hs => by
    simp only [RelX] at h ⊢
    rcases hs with hs | hs
    · exact ⟨RelV.mono (E := noEnv S) (E' := noEnv S') (w := w) (w' := w) ⟨⟨hs, fun _ _ => rfl⟩, fun _ _ h => h⟩ _ _ h.1, h.2⟩
    · simp [shares] at hs
  | .ptr _ _, u, bs, h, hs => by
    simp only [RelX] at h ⊢
    rcases hs with hs | hs
    · exact ⟨RelV.mono (E := noEnv S) (E' := noEnv S') (w := w) (w' := w) ⟨⟨hs, fun _ _ => rfl⟩, fun _ _ h => h⟩ _ _ h.1, h.2⟩
    · simp [shares] at hs
  | .pel _ _ _, u, bs, h, hs => by
    simp only [RelX] at h ⊢
    rcases hs with hs | hs
    · exact ⟨RelV.mono (E := noEnv S) (E' := noEnv S') (w := w) (w' := w) ⟨⟨hs, fun _ _ => rfl⟩, fun _ _ h => h⟩ _ _ h.1, h.2⟩
    · simp [shares] at hs
  | .apel _ _ _ _, u, bs, h, hs => by
    simp only [RelX] at h ⊢
    rcases hs with hs | hs
    · exact ⟨RelV.mono (E := noEnv S) (E' := noEnv S') (w := w) (w' := w) ⟨⟨hs, fun _ _ => rfl⟩, fun _ _ h => h⟩ _ _ h.1, h.2⟩
    · simp [shares] at hs
  | .sta _, u, bs, h, hs => by
    simp only [RelX] at h ⊢
    rcases hs with hs | hs
    · exact ⟨RelV.mono (E := noEnv S) (E' := noEnv S') (w := w) (w' := w) ⟨⟨hs, fun _ _ => rfl⟩, fun _ _ h => h⟩ _ _ h.1, h.2⟩
    · simp [shares] at hs
  | .fn _ _ _, u, bs, h, hs => by
    simp only [RelX] at h ⊢
    rcases hs with hs | hs
    · exact ⟨RelV.mono (E := noEnv S) (E' := noEnv S') (w := w) (w' := w) ⟨⟨hs, fun _ _ => rfl⟩, fun _ _ h => h⟩ _ _ h.1, h.2⟩
    · simp [shares] at hs
  | .iface _ _, u, bs, h, hs => by
    simp only [RelX] at h ⊢
    rcases hs with hs | hs
    · exact ⟨RelV.mono (E := noEnv S) (E' := noEnv S') (w := w) (w' := w) ⟨⟨hs, fun _ _ => rfl⟩, fun _ _ h => h⟩ _ _ h.1, h.2⟩
    · simp [shares] at hs
  | .glob _ _, u, bs, h, hs => by simp only [RelX, RelV] at h ⊢; exact h
  | .gel _ _ _ _, u, bs, h, hs => by simp only [RelX, RelV] at h ⊢; exact h
theorem relXs_mono {S S' : Nat → Prop} {w : World} {B : Nat} : ∀ (l : List AVal) (vs : List Value) (bs : List Nat), RelXs S w B l vs bs → ((∀ b, S b → S' b) ∨ sharesL l = false) → RelXs S' w B l vs bs
  | [], vs, bs, h, hs => by simp only [RelXs] at h ⊢; exact h
  | a :: r, vs, bs, h, hs => by
    simp only [RelXs] at h ⊢
    obtain ⟨u, us, b1, b2, h1, h2, h3, h4⟩ := h
    simp only [sharesL, Bool.or_eq_false_iff] at hs
    exact ⟨u, us, b1, b2, h1, h2, relX_mono a u b1 h3 (hs.imp id (·.1)), relXs_mono r us b2 h4 (hs.imp id (·.2))⟩
theorem relXF_mono {S S' : Nat → Prop} {w : World} {B : Nat} : ∀ (l : List AVal) (cs : List Value) (bs : List Nat), RelXF S w B l cs bs → ((∀ b, S b → S' b) ∨ sharesL l = false) → RelXF S' w B l cs bs
  | [], cs, bs, h, hs => by simp only [RelXF] at h ⊢; exact h
  | a :: r, cs, bs, h, hs => by
    simp only [sharesL, Bool.or_eq_false_iff] at hs
    rcases relXF_cons h with ⟨k', n, l, cs', rfl, h1, rfl, h3⟩ | ⟨ha, u, cs', b1, b2, rfl, h2, h3, h4, h5⟩
    · simp only [RelXF]
      exact ⟨cs', h1, rfl, relXF_mono r cs' bs h3 (hs.imp id (·.2))⟩
    · have g1 := relX_mono a u b1 h4 (hs.imp id (·.1))
      have g2 := relXF_mono r cs' b2 h5 (hs.imp id (·.2))
      cases a <;> simp only [RelXF] <;> first
        | exact absurd rfl (ha _ _ _)
        | exact ⟨u, cs', b1, b2, rfl, h2, h3, g1, g2⟩
end

section
variable {D : Ctx} {B0 : Nat} {w0 : W0} {act : Act} {w : World} {f : List (Nat × AVal)} {m : Nat}

mutual
theorem imp_le : ∀ (a : AVal) (n : Nat) (h : Hp), n ≤ (imp a n h).2.1
  | .fr e c, n, h => by simp only [imp]; omega
  | .agg l, n, h => by simp only [imp]; exact impL_le l n h
  | .tuple l, n, h => by simp only [imp]; exact impL_le l n h
  | .v _, n, h => by simp only [imp]; exact Nat.le_refl _
  | .bot, n, h => by simp only [imp]; exact Nat.le_refl _
  | .sl _, n, h => by simp only [imp]; exact Nat.le_refl _
  | .own _, n, h => by simp only [imp]; exact Nat.le_refl _
  | .win _ _ _, n, h => by simp only [imp]; exact Nat.le_refl _
  | .awin _ _ _ _ _, n, h => by simp only [imp]; exact Nat.le_refl _
  | .arr _ _ _, n, h => by simp only [imp]; exact Nat.le_refl _
  | .ptr _ _, n, h => by simp only [imp]; exact Nat.le_refl _
  | .pel _ _ _, n, h => by simp only [imp]; exact Nat.le_refl _
  | .apel _ _ _ _, n, h => by simp only [imp]; exact Nat.le_refl _
  | .sta _, n, h => by simp only [imp]; exact Nat.le_refl _
  | .fn _ _ _, n, h => by simp only [imp]; exact Nat.le_refl _
  | .iface _ _, n, h => by simp only [imp]; exact Nat.le_refl _
  | .glob _ _, n, h => by simp only [imp]; exact Nat.le_refl _
  | .gel _ _ _ _, n, h => by simp only [imp]; exact Nat.le_refl _
theorem impL_le : ∀ (l : List AVal) (n : Nat) (h : Hp), n ≤ (impL l n h).2.1
  | [], n, h => by simp only [impL]; exact Nat.le_refl _
  | a :: r, n, h => by simp only [impL]; exact Nat.le_trans (imp_le a n h) (impL_le r _ _)
end

mutual
/-- THE RESULT TAKEN IN. -/
theorem imp_rel {B N : Nat} (hB : B0 ≤ B) : ∀ (a : AVal) (n : Nat) (h : Hp) (E : Env) (u : Value) (bs rest : List Nat), (imp a n h).2.1 ≤ N → RelX E.S w B a u bs → (bs ++ rest).Nodup → Taking D B0 w0 N E f m h act w (bs ++ rest) n →
    ∃ E', E'.S = E.S ∧ Up E E' w w ∧ Taking D B0 w0 N E' f m (imp a n h).2.2 act w rest (imp a n h).2.1 ∧ RelV E' w (imp a n h).1 u ∧ n ≤ (imp a n h).2.1 ∧ (∀ id x, E'.ρ id = some x → E.ρ id = some x ∨ (n ≤ id ∧ id < (imp a n h).2.1))
  | .fr e c, n, h, E, u, bs, rest, hN, hx, hnd, ht => by
    simp only [RelX] at hx
    obtain ⟨⟨xs, h1, h2⟩, rfl⟩ := hx
    have h1' : w.ownsRow B0 e c.size u c.len xs := by
      refine ⟨h1.1, h1.2.imp id ?_⟩
      rintro ⟨g, cap, cur, h3, h4, h5⟩
      exact ⟨g, cap, cur, h3, Nat.le_trans hB h4, h5⟩
    obtain ⟨hR, up⟩ := rel_adopt ht.rel (x := n) (ht.free n (Nat.le_refl _) (by simp only [imp] at hN; omega)) h1' h2 (fun k hk => ht.notS k (by simp [hk])) (fun id b v k hb hf hv hk hk' => ht.apart id b v k hb hf hv hk (by simp [hk'])) (n + 1)
    have hsplit : ∀ id x, upd E.ρ n u id = some x → E.ρ id = some x ∨ (n ≤ id ∧ id < n + 1) := by
      intro id x hx
      by_cases e : id = n
      · exact .inr ⟨by omega, by omega⟩
      · simp only [upd, if_neg e] at hx; exact .inl hx
    refine ⟨⟨E.S, upd E.ρ n u⟩, rfl, up, ⟨hR, fun id hid hidN => ?_, fun id b v k hb hf hv hk hk' => ?_, fun b hb => ht.notS b (by simp [hb])⟩, by simp only [imp, RelV]; exact upd_same _ _ _, by simp [imp], hsplit⟩
    · simp only [imp] at hid
      simp only [upd, if_neg (show id ≠ n by omega)]
      exact ht.free id (by omega) hidN
    · simp only [imp] at hb
      by_cases he : id = n
      · subst he
        simp only [upd_same] at hv
        cases hv
        rw [hk] at hnd
        simp only [Option.toList, List.cons_append, List.nil_append, List.nodup_cons] at hnd
        exact hnd.1 hk'
      · rw [hlook_cons_ne he] at hb
        simp only [upd, if_neg he] at hv
        exact ht.apart id b v k hb hf hv hk (by simp [hk'])
  | .agg l, n, h, E, u, bs, rest, hN, hx, hnd, ht => by
    simp only [RelX] at hx
    obtain ⟨cs, rfl, hx⟩ := hx
    obtain ⟨E', g1, g2, g3, g4, g5, g6⟩ := impF_rel hB l n h E cs bs rest (by simpa only [imp] using hN) hx hnd ht
    simp only [imp]
    exact ⟨E', g1, g2, g3, by simp only [RelV]; exact ⟨cs, rfl, g4⟩, g5, g6⟩
  | .tuple l, n, h, E, u, bs, rest, hN, hx, hnd, ht => by
    simp only [RelX] at hx
    obtain ⟨vs, rfl, hx⟩ := hx
    obtain ⟨E', g1, g2, g3, g4, g5, g6⟩ := impL_rel hB l n h E vs bs rest (by simpa only [imp] using hN) hx hnd ht
    simp only [imp]
    exact ⟨E', g1, g2, g3, by simp only [RelV]; exact ⟨vs, rfl, g4⟩, g5, g6⟩
  | .v x, n, h, E, u, bs, rest, hN, hx, hnd, ht => by
    simp only [RelX] at hx; obtain ⟨hx, rfl⟩ := hx
    exact ⟨E, rfl, Up.refl _ _, ht, by simp only [imp]; exact relV_noEnv hx, Nat.le_refl _, fun _ _ h => .inl h⟩
  | .bot, n, h, E, u, bs, rest, hN, hx, hnd, ht => by
    simp only [RelX] at hx; obtain ⟨hx, rfl⟩ := hx
    exact ⟨E, rfl, Up.refl _ _, ht, by simp only [imp]; exact relV_noEnv hx, Nat.le_refl _, fun _ _ h => .inl h⟩
  | .sl c, n, h, E, u, bs, rest, hN, hx, hnd, ht => by
    simp only [RelX] at hx; obtain ⟨hx, rfl⟩ := hx
    exact ⟨E, rfl, Up.refl _ _, ht, by simp only [imp]; exact relV_noEnv hx, Nat.le_refl _, fun _ _ h => .inl h⟩
  | .own _, n, h, E, u, bs, rest, hN, hx, hnd, ht => by
    simp only [RelX] at hx; obtain ⟨hx, rfl⟩ := hx
    exact ⟨E, rfl, Up.refl _ _, ht, by simp only [imp]; exact relV_noEnv hx, Nat.le_refl _, fun _ _ h => .inl h⟩
  | .win _ _ _, n, h, E, u, bs, rest, hN, hx, hnd, ht => by
    simp only [RelX] at hx; obtain ⟨hx, rfl⟩ := hx
    exact ⟨E, rfl, Up.refl _ _, ht, by simp only [imp]; exact relV_noEnv hx, Nat.le_refl _, fun _ _ h => .inl h⟩
  | .awin _ _ _ _ _, n, h, E, u, bs, rest, hN, hx, hnd, ht => by
    simp only [RelX] at hx; obtain ⟨hx, rfl⟩ := hx
    exact ⟨E, rfl, Up.refl _ _, ht, by simp only [imp]; exact relV_noEnv hx, Nat.le_refl _, fun _ _ h => .inl h⟩
  | .arr _ _ _, n, h, E, u, bs, rest, hN, hx, hnd, ht => by
    simp only [RelX] at hx; obtain ⟨hx, rfl⟩ := hx
    exact ⟨E, rfl, Up.refl _ _, ht, by simp only [imp]; exact relV_noEnv hx, Nat.le_refl _, fun _ _ h => .inl h⟩
  | .ptr _ _, n, h, E, u, bs, rest, hN, hx, hnd, ht => by
    simp only [RelX] at hx; obtain ⟨hx, rfl⟩ := hx
    exact ⟨E, rfl, Up.refl _ _, ht, by simp only [imp]; exact relV_noEnv hx, Nat.le_refl _, fun _ _ h => .inl h⟩
  | .pel _ _ _, n, h, E, u, bs, rest, hN, hx, hnd, ht => by
    simp only [RelX] at hx; obtain ⟨hx, rfl⟩ := hx
    exact ⟨E, rfl, Up.refl _ _, ht, by simp only [imp]; exact relV_noEnv hx, Nat.le_refl _, fun _ _ h => .inl h⟩
  | .apel _ _ _ _, n, h, E, u, bs, rest, hN, hx, hnd, ht => by
    simp only [RelX] at hx; obtain ⟨hx, rfl⟩ := hx
    exact ⟨E, rfl, Up.refl _ _, ht, by simp only [imp]; exact relV_noEnv hx, Nat.le_refl _, fun _ _ h => .inl h⟩
  | .sta _, n, h, E, u, bs, rest, hN, hx, hnd, ht => by
    simp only [RelX] at hx; obtain ⟨hx, rfl⟩ := hx
    exact ⟨E, rfl, Up.refl _ _, ht, by simp only [imp]; exact relV_noEnv hx, Nat.le_refl _, fun _ _ h => .inl h⟩
  | .fn _ _ _, n, h, E, u, bs, rest, hN, hx, hnd, ht => by
    simp only [RelX] at hx; obtain ⟨hx, rfl⟩ := hx
    exact ⟨E, rfl, Up.refl _ _, ht, by simp only [imp]; exact relV_noEnv hx, Nat.le_refl _, fun _ _ h => .inl h⟩
  | .iface _ _, n, h, E, u, bs, rest, hN, hx, hnd, ht => by
    simp only [RelX] at hx; obtain ⟨hx, rfl⟩ := hx
    exact ⟨E, rfl, Up.refl _ _, ht, by simp only [imp]; exact relV_noEnv hx, Nat.le_refl _, fun _ _ h => .inl h⟩
  | .glob _ _, n, h, E, u, bs, rest, hN, hx, hnd, ht => by
    simp only [RelX] at hx; obtain ⟨hx, rfl⟩ := hx
    exact ⟨E, rfl, Up.refl _ _, ht, by simp only [imp]; exact relV_noEnv hx, Nat.le_refl _, fun _ _ h => .inl h⟩
  | .gel _ _ _ _, n, h, E, u, bs, rest, hN, hx, hnd, ht => by
    simp only [RelX] at hx; obtain ⟨hx, rfl⟩ := hx
    exact ⟨E, rfl, Up.refl _ _, ht, by simp only [imp]; exact relV_noEnv hx, Nat.le_refl _, fun _ _ h => .inl h⟩
theorem impL_rel {B N : Nat} (hB : B0 ≤ B) : ∀ (l : List AVal) (n : Nat) (h : Hp) (E : Env) (vs : List Value) (bs rest : List Nat), (impL l n h).2.1 ≤ N → RelXs E.S w B l vs bs → (bs ++ rest).Nodup → Taking D B0 w0 N E f m h act w (bs ++ rest) n →
    ∃ E', E'.S = E.S ∧ Up E E' w w ∧ Taking D B0 w0 N E' f m (impL l n h).2.2 act w rest (impL l n h).2.1 ∧ RelVs E' w (impL l n h).1 vs ∧ n ≤ (impL l n h).2.1 ∧ (∀ id x, E'.ρ id = some x → E.ρ id = some x ∨ (n ≤ id ∧ id < (impL l n h).2.1))
  | [], n, h, E, vs, bs, rest, hN, hx, hnd, ht => by
    simp only [RelXs] at hx
    obtain ⟨rfl, rfl⟩ := hx
    exact ⟨E, rfl, Up.refl _ _, ht, by simp only [impL, RelVs], Nat.le_refl _, fun _ _ h => .inl h⟩
  | a :: r, n, h, E, vs, bs, rest, hN, hx, hnd, ht => by
    simp only [RelXs] at hx
    obtain ⟨u, us, b1, b2, rfl, rfl, h3, h4⟩ := hx
    rw [List.append_assoc] at hnd ht
    obtain ⟨E1, g1, g2, g3, g4, g5, g6⟩ := imp_rel hB a n h E u b1 (b2 ++ rest) (Nat.le_trans (impL_le r _ _) (by simpa only [impL] using hN)) h3 hnd ht
    obtain ⟨E2, k1, k2, k3, k4, k5, k6⟩ := impL_rel hB r _ _ E1 us b2 rest (by simpa only [impL] using hN) (by rw [g1]; exact h4) (List.nodup_append.1 hnd).2.1 g3
    simp only [impL]
    refine ⟨E2, k1.trans g1, g2.trans k2, k3, by simp only [RelVs]; exact ⟨u, us, rfl, RelV.mono k2 _ _ g4, k4⟩, Nat.le_trans g5 k5, fun id x hx => ?_⟩
    rcases k6 id x hx with hx | ⟨p, q⟩
    · rcases g6 id x hx with hx | ⟨p, q⟩
      · exact .inl hx
      · exact .inr ⟨p, Nat.lt_of_lt_of_le q k5⟩
    · exact .inr ⟨Nat.le_trans g5 p, q⟩
theorem impF_rel {B N : Nat} (hB : B0 ≤ B) : ∀ (l : List AVal) (n : Nat) (h : Hp) (E : Env) (cs : List Value) (bs rest : List Nat), (impL l n h).2.1 ≤ N → RelXF E.S w B l cs bs → (bs ++ rest).Nodup → Taking D B0 w0 N E f m h act w (bs ++ rest) n →
    ∃ E', E'.S = E.S ∧ Up E E' w w ∧ Taking D B0 w0 N E' f m (impL l n h).2.2 act w rest (impL l n h).2.1 ∧ RelF E' w (impL l n h).1 cs ∧ n ≤ (impL l n h).2.1 ∧ (∀ id x, E'.ρ id = some x → E.ρ id = some x ∨ (n ≤ id ∧ id < (impL l n h).2.1))
  | [], n, h, E, cs, bs, rest, hN, hx, hnd, ht => by
    simp only [RelXF] at hx
    obtain ⟨rfl, rfl⟩ := hx
    exact ⟨E, rfl, Up.refl _ _, ht, by simp only [impL, RelF], Nat.le_refl _, fun _ _ h => .inl h⟩
  | a :: r, n, h, E, cs, bs, rest, hN, hx, hnd, ht => by
    rcases relXF_cons hx with ⟨k', z, l, cs', rfl, h1, rfl, h3⟩ | ⟨ha, u, cs', b1, b2, rfl, h2, rfl, h4, h5⟩
    · obtain ⟨E2, k1, k2, k3, k4, k5, k6⟩ := impF_rel hB r n h E cs' bs rest (by simpa only [impL, imp] using hN) h3 hnd ht
      simp only [impL, imp]
      exact ⟨E2, k1, k2, k3, relF_arr h1 k4, k5, k6⟩
    · rw [List.append_assoc] at hnd ht
      obtain ⟨E1, g1, g2, g3, g4, g5, g6⟩ := imp_rel hB a n h E u b1 (b2 ++ rest) (Nat.le_trans (impL_le r _ _) (by simpa only [impL] using hN)) h4 hnd ht
      obtain ⟨E2, k1, k2, k3, k4, k5, k6⟩ := impF_rel hB r _ _ E1 cs' b2 rest (by simpa only [impL] using hN) (by rw [g1]; exact h5) (List.nodup_append.1 hnd).2.1 g3
      simp only [impL]
      refine ⟨E2, k1.trans g1, g2.trans k2, k3, relF_one ?_ h2 (RelV.mono k2 _ _ g4) k4, Nat.le_trans g5 k5, fun id x hx => ?_⟩
      · intro k z l
        cases a <;> simp only [imp] <;> first | exact absurd rfl (ha _ _ _) | simp
      · rcases k6 id x hx with hx | ⟨p, q⟩
        · rcases g6 id x hx with hx | ⟨p, q⟩
          · exact .inl hx
          · exact .inr ⟨p, Nat.lt_of_lt_of_le q k5⟩
        · exact .inr ⟨Nat.le_trans g5 p, q⟩
end
end

theorem lcat_lcat {α : Type} (a b c : List α) : lcat (lcat a b) c = lcat a (lcat b c) := by simp [lcat_eq]

mutual
theorem imp_lcat : ∀ (a : AVal) (n : Nat) (F H : Hp), imp a n (lcat F H) = ((imp a n F).1, (imp a n F).2.1, lcat (imp a n F).2.2 H)
  | .fr e c, n, F, H => by simp only [imp, lcat]
  | .agg l, n, F, H => by simp only [imp]; rw [impL_lcat l n F H]
  | .tuple l, n, F, H => by simp only [imp]; rw [impL_lcat l n F H]
  | .v _, n, F, H => by simp only [imp]
  | .bot, n, F, H => by simp only [imp]
  | .sl _, n, F, H => by simp only [imp]
  | .own _, n, F, H => by simp only [imp]
  | .win _ _ _, n, F, H => by simp only [imp]
  | .awin _ _ _ _ _, n, F, H => by simp only [imp]
  | .arr _ _ _, n, F, H => by simp only [imp]
  | .ptr _ _, n, F, H => by simp only [imp]
  | .pel _ _ _, n, F, H => by simp only [imp]
  | .apel _ _ _ _, n, F, H => by simp only [imp]
  | .sta _, n, F, H => by simp only [imp]
  | .fn _ _ _, n, F, H => by simp only [imp]
  | .iface _ _, n, F, H => by simp only [imp]
  | .glob _ _, n, F, H => by simp only [imp]
  | .gel _ _ _ _, n, F, H => by simp only [imp]
theorem impL_lcat : ∀ (l : List AVal) (n : Nat) (F H : Hp), impL l n (lcat F H) = ((impL l n F).1, (impL l n F).2.1, lcat (impL l n F).2.2 H)
  | [], n, F, H => by simp only [impL]
  | a :: r, n, F, H => by
    simp only [impL]
    rw [imp_lcat a n F H]
    simp only
    rw [impL_lcat r _ _ H]
end

mutual
theorem relX_ge {S : Nat → Prop} {w : World} {B : Nat} : ∀ (a : AVal) (u : Value) (bs : List Nat), RelX S w B a u bs → ∀ b, b ∈ bs → B ≤ b
  | .fr e c, u, bs, h => by
    simp only [RelX] at h
    obtain ⟨⟨xs, h1, _⟩, rfl⟩ := h
    intro b hb
    rcases h1.2 with ⟨rfl, _⟩ | ⟨g, cap, cur, rfl, hg, _⟩
    · simp [vBlock] at hb
    · simp [vBlock] at hb; omega
  | .agg l, u, bs, h => by simp only [RelX] at h; obtain ⟨cs, _, h⟩ := h; exact relXF_ge l cs bs h
  | .tuple l, u, bs, h => by simp only [RelX] at h; obtain ⟨vs, _, h⟩ := h; exact relXs_ge l vs bs h
  | .v _, u, bs, h => by simp only [RelX] at h; rw [h.2]; simp
  | .bot, u, bs, h => by simp only [RelX] at h; rw [h.2]; simp
  | .sl _, u, bs, h => by simp only [RelX] at h; rw [h.2]; simp
  | .own _, u, bs, h => by simp only [RelX] at h; rw [h.2]; simp
  | .win _ _ _, u, bs, h => by simp only [RelX] at h; rw [h.2]; simp
  | .awin _ _ _ _ _, u, bs, h => by simp only [RelX] at h; rw [h.2]; simp
  | .arr _ _ _, u, bs, h => by simp only [RelX] at h; rw [h.2]; simp
  | .ptr _ _, u, bs, h => by simp only [RelX] at h; rw [h.2]; simp
  | .pel _ _ _, u, bs, h => by simp only [RelX] at h; rw [h.2]; simp
  | .apel _ _ _ _, u, bs, h => by simp only [RelX] at h; rw [h.2]; simp
  | .sta _, u, bs, h => by simp only [RelX] at h; rw [h.2]; simp
  | .fn _ _ _, u, bs, h => by simp only [RelX] at h; rw [h.2]; simp
  | .iface _ _, u, bs, h => by simp only [RelX] at h; rw [h.2]; simp
  | .glob _ _, u, bs, h => by simp only [RelX] at h; rw [h.2]; simp
  | .gel _ _ _ _, u, bs, h => by simp only [RelX] at h; rw [h.2]; simp
theorem relXs_ge {S : Nat → Prop} {w : World} {B : Nat} : ∀ (l : List AVal) (vs : List Value) (bs : List Nat), RelXs S w B l vs bs → ∀ b, b ∈ bs → B ≤ b
  | [], vs, bs, h => by simp only [RelXs] at h; rw [h.2]; simp
  | a :: r, vs, bs, h => by
    simp only [RelXs] at h
    obtain ⟨u, us, b1, b2, _, rfl, h3, h4⟩ := h
    intro b hb
    rcases List.mem_append.1 hb with hb | hb
    · exact relX_ge a u b1 h3 b hb
    · exact relXs_ge r us b2 h4 b hb
theorem relXF_ge {S : Nat → Prop} {w : World} {B : Nat} : ∀ (l : List AVal) (cs : List Value) (bs : List Nat), RelXF S w B l cs bs → ∀ b, b ∈ bs → B ≤ b
  | [], cs, bs, h => by simp only [RelXF] at h; rw [h.2]; simp
  | a :: r, cs, bs, h => by
    rcases relXF_cons h with ⟨k', n, l, cs', rfl, h1, rfl, h3⟩ | ⟨ha, u, cs', b1, b2, rfl, h2, rfl, h4, h5⟩
    · exact relXF_ge r cs' bs h3
    · intro b hb
      rcases List.mem_append.1 hb with hb | hb
      · exact relX_ge a u b1 h4 b hb
      · exact relXF_ge r cs' b2 h5 b hb
end

section
variable {D : Ctx} {B0 : Nat} {w0 : W0} {st : ASt} {dst : Option Tmp} {type : TypeId} {pos : String} {after : Array Edge} {guard : Option (Nat × Bool)}

/-- behind a call: the world has grown, the result is taken in -/
theorem rel_behind {E1 : Env} {F : Hp} {act : Act} {w w' : World} (hR1 : Rel D B0 w0 E1 { st with h := lcat F st.h } act w) {a : AVal} (hfree : ∀ id, st.n ≤ id → id < (imp a st.n F).2.1 → E1.ρ id = none) (hbel : Below w.heap.size w w') {Sn : Nat → Prop} {v : Value} {bs : List Nat}
    (hSn : ∀ b, Sn b → b < w.heap.size ∨ b < w'.heap.size) (hsub : (∀ b, Sn b → b < w.heap.size → E1.S b) ∨ shares a = false) (hrx : RelX Sn w' w.heap.size a v bs) (hnd : bs.Nodup) (hbs : ∀ b, b ∈ bs → ¬ Sn b) :
    ∃ E', Up E1 E' w w' ∧ (∀ id x, E'.ρ id = some x → E1.ρ id = some x ∨ (st.n ≤ id ∧ id < (imp a st.n F).2.1)) ∧ st.n ≤ (imp a st.n F).2.1 ∧
      Rel D B0 w0 E' (st.app ⟨(imp a st.n F).1, (imp a st.n F).2.2, (imp a st.n F).2.1⟩ dst) (act.put dst v) w' := by
  let E2 : Env := ⟨fun b => E1.S b ∨ (Sn b ∧ w.heap.size ≤ b), E1.ρ⟩
  have hold : ∀ k, k < w.heap.size → w'.heap[k]? = w.heap[k]? := hbel.block
  have up2 : Up E1 E2 w w' := ⟨⟨fun b hb => .inl hb, fun b hb => hold b (hR1.sOld b hb)⟩, fun _ _ h => h⟩
  have hR2 : Rel D B0 w0 E2 ⟨st.f, lcat F st.h, st.n, st.m⟩ act w' := by
    refine hR1.step up2 (hbel.mono hR1.base) st.n (fun id b hb => ?_) hR1.apart (fun b hb => ?_) hR1.form
    · refine (hR1.heap id b hb).mono up2 (fun u j hu hj => hold j ((hR1.heap id b hb).lt hu hj).2) (fun _ u j hu hj hs => ?_)
      rcases hs with hs | ⟨_, hs⟩
      · exact hs
      · have := ((hR1.heap id b hb).lt hu hj).2
        omega
    · rcases hb with hb | ⟨hb, hge⟩
      · exact .inl hb
      · rcases hSn b hb with h | h
        · exact absurd h (by omega)
        · exact .inr ⟨Nat.le_trans hR1.base hge, h⟩
  have ht : Taking D B0 w0 (imp a st.n F).2.1 E2 st.f st.m (lcat F st.h) act w' (bs ++ []) st.n := by
    refine ⟨hR2, hfree, fun id b v k hb hf hv hk hk' => ?_, fun b hb hS => ?_⟩
    · have h1 := ((hR1.heap id b hb).lt hv hk).2
      have h2 := relX_ge a _ bs hrx k (by simpa using hk')
      omega
    · have h2 := relX_ge a _ bs hrx b (by simpa using hb)
      rcases hS with hS | ⟨hS, _⟩
      · have := hR1.sOld b hS; omega
      · exact hbs b (by simpa using hb) hS
  have hrx2 : RelX E2.S w' w.heap.size a v bs := relX_mono a v bs hrx (hsub.imp (fun h b hb => by
    by_cases hlt : b < w.heap.size
    · exact .inl (h b hb hlt)
    · exact .inr ⟨hb, by omega⟩) id)
  obtain ⟨E3, g1, g2, g3, g4, g5, g6⟩ := imp_rel hR1.base a st.n (lcat F st.h) E2 v bs [] (by rw [imp_lcat]; exact Nat.le_refl _) hrx2 (by simpa using hnd) ht
  rw [imp_lcat] at g3 g4 g5 g6
  exact ⟨E3, up2.trans g2, g6, g5, Rel.put g3.rel g4 dst⟩

/-- A CALL OF A FUNCTION WITH A CONTRACT. -/
theorem ok_callG (hG : GOk D) {g : FuncId} {first caps vs : List AVal} {s : Spec} (hs : assocS D.G g = some s) {hl : Nat → Option Blk} {n : Nat}
    (hG2 : ∀ g l, assoc D.globs g = some l → ∀ (E E' : Env) w cs, RelF E w l cs → E.S = E'.S → RelF E' w l cs)
    {K : Eff → Option R} {r : R} (h : callG s (lcat first (lcat vs caps)) hl n K = some r) :
    ∃ eff, K eff = some r ∧ n ≤ eff.n ∧ ∀ (B0 : Nat) (w0 : W0) (st : ASt) (x : Operand) (xs : Array Operand) (at_ : Array TypeId), ev st.f x = .fn (.func g) first caps → evs st.f xs.toList = vs →
      (∀ id b, hl id = some b → hlook st.h id = some b) → st.n = n → OpOk D B0 w0 st ⟨dst, .call ⟨.value x, xs, at_⟩, type, pos, after, guard⟩ eff := by
  obtain ⟨hent, hsound⟩ := hG g s hs
  obtain ⟨a, hK, hrun⟩ := hsound _ _ r h
  simp only at hK
  refine ⟨_, hK, imp_le _ _ _, ?_⟩
  rintro B0 w0 st x xs at_ hx rfl hm rfl
  intro E act w hR hfree next Q hnext
  have hX := hR.ev x
  rw [hx] at hX
  simp only [RelV] at hX
  obtain ⟨fv, cv, hfn, hrf, hrc⟩ := hX
  have hargs : RelVs E w (lcat first (lcat (evs st.f xs.toList) caps)) (fv ++ (xs.toList.map act.eval ++ cv)) := by
    rw [lcat_eq, lcat_eq]
    exact relVs_join _ _ _ _ hrf (relVs_join _ _ _ _ (hR.evs _) hrc)
  generalize hA : lcat first (lcat (evs st.f xs.toList) caps) = args at *
  -- the static memory of the call
  let S1 : Nat → Prop := fun b => E.S b ∨ ∃ id, id ∈ rowIdsL args ∧ ∃ c v, hl id = some c ∧ E.ρ id = some v ∧ vBlock v = some b
  have hS1 : ∀ b, S1 b → b < w.heap.size := by
    rintro b (hb | ⟨id, _, c, v, hc, hv, hk⟩)
    · exact hR.sOld b hb
    · exact ((hR.heap id c (hm id c hc)).lt hv hk).2
  have hxa : RelVs (noEnv S1) w (xports hl args) (fv ++ (xs.toList.map act.eval ++ cv)) :=
    xports_rel hR hm (S' := S1) (fun b hb => .inl hb) args _ hargs (fun id hid b v k hb hv hk => .inr ⟨id, hid, b, v, hb, hv, hk⟩)
  have hgl : GlobsOk D.globs S1 w := by
    intro g l hg
    obtain ⟨h1, cs, e, fz, h2, h3⟩ := hR.globs g l hg
    refine ⟨.inl h1, cs, e, fz, h2, ?_⟩
    have h4 := hG2 g l hg E (noEnv E.S) w cs.toList h3 rfl
    exact RelF.mono (E := noEnv E.S) (E' := noEnv S1) ⟨⟨fun b hb => .inl hb, fun _ _ => rfl⟩, fun _ _ h => h⟩ _ _ h4
  have hcall := hrun S1 w _ hS1 hgl hxa
  have hexec : (execOp act.eval ⟨dst, .call ⟨.value x, xs, at_⟩, type, pos, after, guard⟩).run D.P w = .ok (.enter g (fv ++ (xs.toList.map act.eval ++ cv)).toArray) w := by
    have e1 : (fv.toArray ++ Array.map act.eval xs) ++ cv.toArray = (fv ++ (xs.toList.map act.eval ++ cv)).toArray := by
      apply Array.ext'
      simp
    simp only [execOp, resolve, hfn, Deferred.ofValue, invoke, Sem.run_bind, Sem.run_pure, Result.andThen_ok, e1, run_callFunc hent]
  unfold Oper.wp
  rw [hexec, Oper.upon_enter]
  refine hcall.mono ?_
  rintro e w' ⟨v, Sn, bs, rfl, hbel, hSn, hrx, hnd, hbs⟩
  show next (act.put dst v) w'
  have hcb : ∀ b, Sn b → b < w.heap.size ∨ b < w'.heap.size := fun b hb => (hSn b hb).imp (hS1 b) (·.2)
  -- freeze, where the result may share memory
  cases hsh : shares a with
  | true =>
    rw [hsh] at hnext hfree
    simp only [cond_true] at hnext hfree
    obtain ⟨E1, hρ1, up1, hR1, hSf, _⟩ := rel_freeze hm (rowIdsL args) hR
    obtain ⟨E', k1, k2, k3, k4⟩ := rel_behind (dst := dst) hR1 (a := a) (by rw [hρ1]; exact hfree) hbel hcb (.inl fun b hb hlt => by
      rcases hSn b hb with h | h
      · rcases h with h | ⟨id, hid, c, v, hc, hv, hk⟩
        · exact up1.keeps.sub b h
        · exact hSf id hid c v b hc hv hk
      · omega) hrx hnd hbs
    exact hnext E' w' v (up1.trans k1) (fun id x hx => by rw [← hρ1]; exact k2 id x hx) k4
  | false =>
    rw [hsh] at hnext hfree
    simp only [cond_false] at hnext hfree
    obtain ⟨E', k1, k2, k3, k4⟩ := rel_behind (dst := dst) (F := []) (E1 := E) hR (a := a) hfree hbel hcb (.inr hsh) hrx hnd hbs
    exact hnext E' w' v k1 k2 k4
end
end Go.Abs
