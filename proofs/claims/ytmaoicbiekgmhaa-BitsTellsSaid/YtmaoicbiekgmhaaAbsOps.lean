import Derived.Test.YtmaoicbiekgmhaaAbsState
namespace Go.Abs
open Go Go.RowKit
set_option linter.unusedVariables false
set_option linter.unusedSimpArgs false

/-- THE OPERATION AND ITS EFFECT. -/
def OpOk (D : Ctx) (B0 : Nat) (w0 : W0) (st : ASt) (o : Oper) (eff : Eff) : Prop :=
  ∀ E act w, Rel D B0 w0 E st act w → (∀ id, st.n ≤ id → id < eff.n → E.ρ id = none) →
    ∀ (next : Act → World → Prop) (Q : Exit → Act → World → Prop),
      (∀ E' w' u, Up E E' w w' → (∀ id x, E'.ρ id = some x → E.ρ id = some x ∨ (st.n ≤ id ∧ id < eff.n)) →
        Rel D B0 w0 E' (st.app eff o.dst) (act.put o.dst u) w' → next (act.put o.dst u) w') → o.wp D.P act w next Q

section
variable {D : Ctx} {B0 : Nat} {w0 : W0} {st : ASt} {o : Oper}

theorem opOk_val {a : AVal} (h : ∀ E act w, Rel D B0 w0 E st act w → ∃ u, (execOp act.eval o).run D.P w = .ok (.value u) w ∧ RelV E w a u) :
    OpOk D B0 w0 st o ⟨a, [], st.n⟩ := by
  intro E act w hR hn next Q hnext
  obtain ⟨u, hr, hu⟩ := h E act w hR
  unfold Oper.wp
  rw [hr, Oper.upon_value]
  exact hnext E w u (Up.refl _ _) (fun id x hx => .inl hx) (hR.app_val hu _ _)
end

section
variable {D : Ctx} {B0 : Nat} {w0 : W0} {st : ASt} {dst : Option Tmp} {type : TypeId} {pos : String} {after : Array Edge} {guard : Option (Nat × Bool)}

theorem ok_move (x : Operand) : OpOk D B0 w0 st ⟨dst, .move x, type, pos, after, guard⟩ ⟨ev st.f x, [], st.n⟩ :=
  opOk_val fun E act w h => ⟨act.eval x, rfl, h.ev x⟩
theorem ok_assign (x : Operand) : OpOk D B0 w0 st ⟨dst, .assign x, type, pos, after, guard⟩ ⟨ev st.f x, [], st.n⟩ :=
  opOk_val fun E act w h => ⟨act.eval x, rfl, h.ev x⟩
theorem ok_pick (c a b : Operand) {t : Bool} (hc : ev st.f c = .v (.bool t)) :
    OpOk D B0 w0 st ⟨dst, .pick c a b, type, pos, after, guard⟩ ⟨if t then ev st.f a else ev st.f b, [], st.n⟩ :=
  opOk_val fun E act w h => by
    have h1 := h.ev c
    rw [hc] at h1
    simp only [RelV] at h1
    refine ⟨if t then act.eval a else act.eval b, ?_, ?_⟩
    · simp [execOp, h1, asBool]
    · cases t
      · exact h.ev b
      · exact h.ev a

end

theorem binA_run {P : Program} {op : BinOp} {X Y : AVal} {K : AVal → Option R} {r : R} (h : binA op X Y K = some r) :
    ∃ u v z, X = .v u ∧ Y = .v v ∧ K (.v z) = some r ∧ ∀ (xt : TypeId) (x y : Operand) (w : World), (do eqGuard op xt x y u v; binOp op xt u v : Sem Value).run P w = .ok z w := by
  unfold binA at h
  split at h
  all_goals first
    | (rcases br_some h with ⟨_, h⟩ | ⟨hb, h⟩
       · cases h
       · refine ⟨_, _, _, rfl, rfl, h, fun xt x y w => ?_⟩
         have hb' := of_decide_eq_false hb
         simp [go_sem, Op.shift, hb'])
    | (cases h; done)
    | skip
  all_goals (have h2 := (kOk_some h).2; have hk := (kOk_some h).1; clear h; subst hk)
  all_goals first
    | (refine ⟨_, _, _, rfl, rfl, h2, fun xt x y w => ?_⟩
       simp [go_sem]; done)
    | (rcases br_some h2 with ⟨_, h⟩ | ⟨hb, h⟩
       · cases h
       · refine ⟨_, _, _, rfl, rfl, h, fun xt x y w => ?_⟩
         have hb' := of_decide_eq_false hb
         simp [go_sem, hb'])

section
variable {D : Ctx} {B0 : Nat} {w0 : W0} {st : ASt} {dst : Option Tmp} {type : TypeId} {pos : String} {after : Array Edge} {guard : Option (Nat × Bool)}

/-- a value of the abstract binary operation -/
theorem ok_bin (op : BinOp) (xt : TypeId) (x y : Operand) (yt : TypeId) {K : AVal → Option R} {r : R} (h : binA op (ev st.f x) (ev st.f y) K = some r) :
    ∃ a, K a = some r ∧ OpOk D B0 w0 st ⟨dst, .binOp op xt x y yt, type, pos, after, guard⟩ ⟨a, [], st.n⟩ := by
  obtain ⟨u, v, z, hx, hy, hK, hrun⟩ := binA_run (P := D.P) h
  refine ⟨_, hK, opOk_val fun E act w hR => ⟨z, ?_, by simp only [RelV]⟩⟩
  have h1 := hR.ev x
  have h2 := hR.ev y
  rw [hx] at h1
  rw [hy] at h2
  simp only [RelV] at h1 h2
  have := hrun xt x y w
  simp only [Sem.run_bind] at this
  simp only [execOp, h1, h2, Sem.run_bind, this]
  rfl

theorem ok_not (t : TypeId) (x : Operand) {b : Bool} (hx : ev st.f x = .v (.bool b)) :
    OpOk D B0 w0 st ⟨dst, .unOp .not t x, type, pos, after, guard⟩ ⟨.v (.bool !b), [], st.n⟩ :=
  opOk_val fun E act w hR => by
    have h1 := hR.ev x
    rw [hx] at h1
    simp only [RelV] at h1
    exact ⟨.bool !b, by simp [execOp, h1, Op.unary], by simp only [RelV]⟩
theorem ok_neg (t : TypeId) (x : Operand) {k : IntKind} {a : Int} (hx : ev st.f x = .v (.int k a)) :
    OpOk D B0 w0 st ⟨dst, .unOp .neg t x, type, pos, after, guard⟩ ⟨.v (.int k (k.wrap (0 - a))), [], st.n⟩ :=
  opOk_val fun E act w hR => by
    have h1 := hR.ev x
    rw [hx] at h1
    simp only [RelV] at h1
    exact ⟨.int k (k.wrap (0 - a)), by simp only [execOp, h1, Op.unary, Op.intArith, Sem.run_bind, Sem.run_pure, Result.andThen_ok], by simp only [RelV]⟩
theorem ok_convert (src tgt : TypeId) (x : Operand) {k k' : IntKind} {a : Int} (hx : ev st.f x = .v (.int k' a)) {d : TypeDesc} (hs : D.P.underlying src = some d) (ht : D.P.underlying tgt = some (.int k)) :
    OpOk D B0 w0 st ⟨dst, .convert src tgt x, type, pos, after, guard⟩ ⟨.v (.int k (k.wrap a)), [], st.n⟩ :=
  opOk_val fun E act w hR => by
    have h1 := hR.ev x
    rw [hx] at h1
    simp only [RelV] at h1
    refine ⟨_, ?_, by simp only [RelV]; rfl⟩
    simp [execOp, h1, convert, run_underlying hs, run_underlying ht, Conv.intToInt]
theorem ok_extract (x : Operand) (i : Nat) {l : List AVal} (hx : ev st.f x = .tuple l) (hi : i < l.length) :
    OpOk D B0 w0 st ⟨dst, .extract x i, type, pos, after, guard⟩ ⟨l.getD i .bot, [], st.n⟩ :=
  opOk_val fun E act w hR => by
    have h1 := hR.ev x
    rw [hx] at h1
    simp only [RelV] at h1
    obtain ⟨vs, hv, hl⟩ := h1
    have key : ∀ (l : List AVal) (vs : List Value) (i : Nat), RelVs E w l vs → i < l.length → ∃ u, vs[i]? = some u ∧ RelV E w (l.getD i .bot) u := by
      intro l
      induction l with
      | nil => intro vs i _ hi; simp at hi
      | cons a r ih =>
        intro vs i h hi
        simp only [RelVs] at h
        obtain ⟨u, us, rfl, h2, h3⟩ := h
        cases i with
        | zero => exact ⟨u, rfl, h2⟩
        | succ i =>
          obtain ⟨u', hu, hr⟩ := ih us i h3 (by simpa using hi)
          exact ⟨u', by simpa using hu, by simpa using hr⟩
    obtain ⟨u, hu, hr⟩ := key l vs i hl hi
    refine ⟨u, ?_, hr⟩
    simp [execOp, hv, Instr.extract, hu]
theorem ok_makeInterface (t : TypeId) (x : Operand) {d : TypeDesc} (ht : D.P.underlying t = some d) (hd : ∀ ms, d ≠ .interface ms) :
    OpOk D B0 w0 st ⟨dst, .makeInterface t x, type, pos, after, guard⟩ ⟨.iface t (ev st.f x), [], st.n⟩ :=
  opOk_val fun E act w hR => by
    refine ⟨.iface t (act.eval x), ?_, by simp only [RelV]; exact ⟨_, rfl, hR.ev x⟩⟩
    simp only [execOp, Instr.makeInterface, Sem.run_bind, run_underlying ht, Result.andThen_ok]
    cases d <;> first | rfl | exact absurd rfl (hd _)
theorem relVs_split {E : Env} {w : World} : ∀ (l r : List AVal) (vs : List Value), RelVs E w (l ++ r) vs → ∃ a b, vs = a ++ b ∧ RelVs E w l a ∧ RelVs E w r b
  | [], r, vs, h => ⟨[], vs, rfl, by simp only [RelVs], h⟩
  | x :: l, r, vs, h => by
    simp only [List.cons_append, RelVs] at h
    obtain ⟨u, us, rfl, h1, h2⟩ := h
    obtain ⟨a, b, rfl, h3, h4⟩ := relVs_split l r us h2
    exact ⟨u :: a, b, rfl, by simp only [RelVs]; exact ⟨u, a, rfl, h1, h3⟩, h4⟩
theorem relVs_join {E : Env} {w : World} : ∀ (l r : List AVal) (a b : List Value), RelVs E w l a → RelVs E w r b → RelVs E w (l ++ r) (a ++ b)
  | [], r, a, b, h, g => by simp only [RelVs] at h; subst h; exact g
  | x :: l, r, a, b, h, g => by
    simp only [RelVs] at h
    obtain ⟨u, us, rfl, h1, h2⟩ := h
    simp only [List.cons_append, RelVs]
    exact ⟨u, us ++ b, rfl, h1, relVs_join l r us b h2 g⟩
theorem evs_map (f : List (Nat × AVal)) (xs : List Operand) : evs f xs = xs.map (ev f) := by
  induction xs with
  | nil => rfl
  | cons x r ih => simp [evs, ih]
theorem relVs_len {E : Env} {w : World} : ∀ (l : List AVal) (vs : List Value), RelVs E w l vs → vs.length = l.length
  | [], vs, h => by simp only [RelVs] at h; subst h; rfl
  | x :: l, vs, h => by
    simp only [RelVs] at h
    obtain ⟨u, us, rfl, h1, h2⟩ := h
    simp [relVs_len l us h2]
theorem ok_makeFunc (fn : Fn) (first caps : Array Operand) :
    OpOk D B0 w0 st ⟨dst, .makeFunc fn first caps, type, pos, after, guard⟩ ⟨.fn fn (evs st.f first.toList) (evs st.f caps.toList), [], st.n⟩ :=
  opOk_val fun E act w hR => by
    refine ⟨.func fn (first.map act.eval) (caps.map act.eval), rfl, ?_⟩
    simp only [RelV]
    exact ⟨_, _, by rw [← Array.toList_map, ← Array.toList_map], hR.evs first.toList, hR.evs caps.toList⟩
theorem ok_nilCheck (x : Operand) (hx : ∀ E act w, Rel D B0 w0 E st act w → (∃ a, act.eval x = .pointer (some a)) ∨ (∃ f a b, act.eval x = .func (.func f) a b) ∨ (∃ t v, act.eval x = .iface t v)) :
    OpOk D B0 w0 st ⟨dst, .nilCheck x, type, pos, after, guard⟩ ⟨ev st.f x, [], st.n⟩ :=
  opOk_val fun E act w hR => by
    refine ⟨act.eval x, ?_, hR.ev x⟩
    rcases hx E act w hR with ⟨a, h⟩ | ⟨f, a, b, h⟩ | ⟨t, v, h⟩ <;> simp [execOp, h]
end
end Go.Abs
