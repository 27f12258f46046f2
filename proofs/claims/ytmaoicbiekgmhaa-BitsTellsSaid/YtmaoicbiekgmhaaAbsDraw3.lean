import Derived.Test.YtmaoicbiekgmhaaAbsDraw2
namespace Go.Abs
open Go Go.RowKit
set_option linter.unusedVariables false
set_option linter.unusedSimpArgs false

section
variable {D : Ctx} {B0 : Nat} {w0 : W0} {ops : Array Oper} {st0 : ASt}

/-- what holds while a region is under way -/
structure Under (D : Ctx) (B0 : Nat) (w0 : W0) (st0 : ASt) (steps : List Stp) (E0 : Env) (w00 : World) (L : Nat → Bool) (E : Env) (act : Act) (w : World) : Prop where
  up : Up E0 E w00 w
  rel : Rel D B0 w0 E (runR st0 L steps) act w
  dom : ∀ id u, E.ρ id = some u → id < st0.n ∨ ∃ p s r, steps = p ++ s :: r ∧ L r.length = true ∧ s.n ≤ id ∧ id < s.n'
  closed : ∀ p s r, steps = p ++ s :: r → L r.length = true → ∀ k, k ∈ s.i.cl → L k = true

theorem GuardIs.congr' {a b : ASt} {o : Oper} {q : Bool} (he : ∀ j want t, o.guard = some (j, want) → guardT ops j = some t → look a.f t = look b.f t) (h : GuardIs ops o b q) : GuardIs ops o a q := by
  unfold GuardIs at *
  cases hg : o.guard with
  | none => simp only [hg] at h ⊢; exact h
  | some jw =>
    obtain ⟨j, want⟩ := jw
    simp only [hg] at h ⊢
    obtain ⟨t, h1, ⟨b, h2, h3⟩ | ⟨x, h2, h3⟩⟩ := h
    · exact ⟨t, h1, .inl ⟨b, by rw [he j want t hg h1]; exact h2, h3⟩⟩
    · exact ⟨t, h1, .inr ⟨x, by rw [he j want t hg h1]; exact h2, h3⟩⟩

theorem assoc_none_of_hit {h : Hp} {id : Nat} (hn : (assoc h id).isSome = true → False) : assoc h id = none := by
  cases hx : assoc h id with
  | none => rfl
  | some _ => rw [hx] at hn; exact (hn rfl).elim

theorem trOk_dst {p : List Stp} {s : Stp} {r : List Stp} (h : TrOk D ops st0 (p ++ s :: r)) : s.i.dst = s.o.dst := (trOk_suffix p h).2.2.1

theorem list_index {α : Type} : ∀ (l : List α) (i : Nat), i < l.length → ∃ p s r, l = p ++ s :: r ∧ r.length = i
  | [], i, h => by simp at h
  | a :: l, i, h => by
    by_cases he : i = l.length
    · exact ⟨[], a, l, rfl, he.symm⟩
    · simp only [List.length_cons] at h
      obtain ⟨p, s, r, h1, h2⟩ := list_index l i (by omega)
      exact ⟨a :: p, s, r, by rw [h1]; rfl, h2⟩

theorem list_index_unique {α : Type} {p p' : List α} {s s' : α} {r r' : List α} (h : p ++ s :: r = p' ++ s' :: r') (hl : r.length = r'.length) : s = s' ∧ r = r' := by
  have h1 : (p ++ s :: r).length = (p' ++ s' :: r').length := by rw [h]
  have h2 : p.length = p'.length := by simp at h1; omega
  have h3 := List.append_inj h h2
  simp only [List.cons.injEq] at h3
  exact h3.2

/-- ONE MORE OPERATION, whichever is ready. -/
theorem step_ready {steps p r : List Stp} {s : Stp} (hT : TrOk D ops st0 steps) (hs : steps = p ++ s :: r) {E0 : Env} {w00 : World} {L : Nat → Bool} {E : Env} {act : Act} {w : World} (hU : Under D B0 w0 st0 steps E0 w00 L E act w)
    (hL : L r.length = false) (hready : ∀ e, e ∈ s.o.after → Region.binds .any e = true → L e.on = true) {Q : Exit → Act → World → Prop} {K : Act → World → Prop}
    (hK : ∀ E' a' w', Under D B0 w0 st0 steps E0 w00 (fun j => Nat.beq j r.length || L j) E' a' w' → K a' w') : wpOp D.P ops Q r.length K act w := by
  subst hs
  obtain ⟨hT0, hop, hdst, hcl, hfit, hn, hle, hguard, hglook, hskip, hdo⟩ := trOk_suffix p hT
  -- all ahead has been done
  have hahead : ∀ k, k ∈ s.i.cl → L k = true := by
    intro k hk
    obtain ⟨g1, g2⟩ := cloA_spec (by simp) _ _ hcl
    obtain ⟨e, he, hb, rfl | ⟨p1, x, q, hx, hq, hk'⟩⟩ := g2 k hk
    · exact hready e (by simpa using he) hb
    · obtain ⟨p', q0, hpq, hp1, hp2⟩ := List.map_eq_append_iff.1 hx
      obtain ⟨x', q', hq0, hx1, hx2⟩ := List.map_eq_cons_iff.1 hp2
      subst hq0
      subst hx1
      refine hU.closed (p ++ s :: p') x' q' (by rw [hpq]; simp) ?_ k hk'
      have : q'.length = e.on := by rw [← hq, ← hx2]; simp
      rw [this]
      exact hready e (by simpa using he) hb
  -- the later ones that have been done are apart from this one
  have later : ∀ p1 x q, p ++ s :: r = p1 ++ x :: (q ++ s :: r) → L (q ++ s :: r).length = true → apartI s.i x.i = true ∧ x.i.dst = x.o.dst := by
    intro p1 x q hx hLx
    refine ⟨?_, trOk_dst (hx ▸ hT)⟩
    rcases pair_spec (hx ▸ hT) with h | h
    · have := hU.closed p1 x (q ++ s :: r) hx hLx _ h
      rw [hL] at this
      cases this
    · exact h
  have earlier : ∀ p1 x q, r = p1 ++ x :: q → L q.length = false → apartI x.i s.i = true ∧ x.i.dst = x.o.dst := by
    intro p1 x q hx hLx
    refine ⟨?_, trOk_dst (hx ▸ hT0)⟩
    rcases pair_spec (p := p) (y := s) (m := p1) (x := x) (q := q) (hx ▸ hT) with h | h
    · have := hahead _ h
      rw [hLx] at this
      cases this
    · exact h
  have hlk : ∀ t, t ∈ s.i.looks → look (runR st0 L (p ++ s :: r)).f t = look (runR st0 allL r).f t := by
    intro t ht
    rw [look_since p (s :: r) (fun p1 x q hx hLx => ?_)]
    · have : runR st0 L (s :: r) = runR st0 L r := by simp only [runR, hL, cond_false]
      rw [this]
      refine look_agree r (fun p1 x q hx hLx hd => ?_)
      obtain ⟨ha, hxd⟩ := earlier p1 x q hx hLx
      exact (apartI_spec ha).1 t (by rw [hxd]; exact hd) ht
    · intro hd
      obtain ⟨ha, hxd⟩ := later p1 x q hx hLx
      exact (apartI_spec ha).2.1 t (by rw [hxd]; exact hd) ht
  have hhlook : ∀ id, mentionsL id s.i.vs = true → hlook (runR st0 L (p ++ s :: r)).h id = hlook (runR st0 allL r).h id := by
    intro id hid
    rw [hlook_since p (s :: r) (fun p1 x q hx hLx => ?_)]
    · have : runR st0 L (s :: r) = runR st0 L r := by simp only [runR, hL, cond_false]
      rw [this]
      refine hlook_agree r (fun p1 x q hx hLx => assoc_none_of_hit fun hd => ?_)
      obtain ⟨ha, hxd⟩ := earlier p1 x q hx hLx
      have := (putsHit_spec _ (apartI_spec ha).2.2.2.1 id hd).1
      rw [hid] at this
      cases this
    · refine assoc_none_of_hit fun hd => ?_
      obtain ⟨ha, hxd⟩ := later p1 x q hx hLx
      have := (putsHit_spec _ (apartI_spec ha).2.2.2.2 id hd).1
      rw [hid] at this
      cases this
  have hins := runR_insert (st0 := st0) hL p (s := s) (fun p1 x q hx hLx => by
    obtain ⟨ha, hxd⟩ := later p1 x q (by rw [hx]; simp) hLx
    refine ⟨by rw [← hdst, ← hxd]; exact (apartI_spec ha).2.2.1, fun id h1 h2 => ?_⟩
    have := (putsHit_spec _ (apartI_spec ha).2.2.2.1 id h1).2
    rw [this] at h2
    cases h2)
  have hclosed : ∀ p1 x q, p ++ s :: r = p1 ++ x :: q → (Nat.beq q.length r.length || L q.length) = true → ∀ k, k ∈ x.i.cl → (Nat.beq k r.length || L k) = true := by
    intro p1 x q hx hLx k hk
    cases hb : Nat.beq q.length r.length with
    | true =>
      have hql := Nat.eq_of_beq_eq_true hb
      obtain ⟨rfl, rfl⟩ := list_index_unique hx hql.symm
      rw [hahead k hk]
      simp
    | false =>
      rw [hb, Bool.false_or] at hLx
      rw [hU.closed p1 x q hx hLx k hk]
      simp
  have hwant := (hguard.congr' (a := runR st0 L (p ++ s :: r)) (fun j want t h1 h2 => hlk t (hglook j want t h1 h2))).wanted hU.rel
  unfold wpOp
  rw [hop]
  simp only [hwant]
  cases hsk : s.skip with
  | true =>
    obtain ⟨hv, hp, hn'⟩ := hskip hsk
    simp only [Bool.not_true, Bool.false_eq_true, if_false]
    refine hK E _ w ⟨hU.up, ?_, fun id u hu => ?_, hclosed⟩
    · have h1 := hU.rel.put relV_undef s.o.dst
      refine h1.eqS (EqS.trans ?_ hins.symm)
      have : s.eff = ⟨.v undef, [], s.n'⟩ := by unfold Stp.eff; rw [hv, hp]
      rw [this]
      exact ⟨fun _ => rfl, fun _ => rfl, rfl⟩
    · rcases hU.dom id u hu with h | ⟨p1, x, q, h1, h2, h3⟩
      · exact .inl h
      · exact .inr ⟨p1, x, q, h1, by simp only [h2, Bool.or_true], h3⟩
  | false =>
    obtain ⟨htm, hok⟩ := hdo hsk
    simp only [Bool.not_false, if_true]
    refine .inl ?_
    refine hok B0 w0 { runR st0 L (p ++ s :: r) with n := s.n } ?_ (fun id b hb => ?_) rfl E act w (hU.rel.with_n _) (fun id h1 h2 => ?_) K Q (fun E' w' u k1 k2 k3 => ?_)
    · exact evs_congr _ (fun t ht => hlk t (htm t ht))
    · unfold mask at hb
      cases hm : mentionsL id s.i.vs with
      | false => rw [hm] at hb; cases hb
      | true => rw [hm] at hb; simp only [cond_true] at hb; rw [hhlook id hm]; exact hb
    · cases hx : E.ρ id with
      | none => rfl
      | some x =>
        exfalso
        simp only [Stp.eff] at h2
        simp only at h1
        rcases hU.dom id x hx with h | ⟨p1, y, q, e1, e2, e3, e4⟩
        · have := lastN_mono r (r := []) (by simpa using hT0)
          simp only [List.append_nil] at this
          have h5 : lastN st0 ([] : List Stp) = st0.n := rfl
          omega
        · -- two operations' numbers
          rcases Nat.lt_trichotomy q.length r.length with hlt | heq | hgt
          · -- earlier
            obtain ⟨p2, y', q', f1, f2⟩ := list_index r q.length hlt
            have f3 : (p ++ s :: p2) ++ y' :: q' = p1 ++ y :: q := by rw [← e1, f1]; simp
            obtain ⟨rfl, rfl⟩ := list_index_unique f3 f2
            have := lastN_mono p2 (r := y' :: q') (by rw [← f1]; exact hT0)
            rw [← f1] at this
            have h5 : lastN st0 (y' :: q') = y'.n' := rfl
            omega
          · obtain ⟨rfl, rfl⟩ := list_index_unique e1 heq.symm
            rw [hL] at e2
            cases e2
          · -- later
            have hlen : (p ++ s :: r).length = p1.length + (q.length + 1) := by rw [e1]; simp
            have : ∃ q0, q = q0 ++ s :: r := by
              obtain ⟨q0, t0, h5, h6⟩ : ∃ q0 t0, q = q0 ++ t0 ∧ t0.length = r.length + 1 := ⟨q.take (q.length - (r.length + 1)), q.drop (q.length - (r.length + 1)), (List.take_append_drop _ _).symm, by rw [List.length_drop]; omega⟩
              refine ⟨q0, ?_⟩
              have h7 : p ++ s :: r = (p1 ++ y :: q0) ++ t0 := by rw [e1, h5]; simp
              have h8 : p.length = (p1 ++ y :: q0).length := by
                have := congrArg List.length h7
                simp only [List.length_append, List.length_cons] at this ⊢
                omega
              have := (List.append_inj h7 h8).2
              rw [h5, this]
            obtain ⟨q0, rfl⟩ := this
            have h9 := trOk_suffix p1 (e1 ▸ hT)
            obtain ⟨h10, _, _, _, _, h11, _⟩ := h9
            have := lastN_mono q0 h10
            have h5 : lastN st0 (s :: r) = s.n' := rfl
            omega
    · refine hK E' _ w' ⟨hU.up.trans k1, k3.eqS (EqS.trans ?_ hins.symm), fun id x hx => ?_, hclosed⟩
      · exact ⟨fun _ => rfl, fun _ => rfl, rfl⟩
      · rcases k2 id x hx with h | h
        · rcases hU.dom id x h with h | ⟨p1, y, q, h1, h2, h3⟩
          · exact .inl h
          · exact .inr ⟨p1, y, q, h1, by simp only [h2, Bool.or_true], h3⟩
        · exact .inr ⟨p, s, r, rfl, by simp, h⟩

/-- how many have not been done -/
def unl (L : Nat → Bool) : Nat → Nat
  | 0 => 0
  | n + 1 => unl L n + (bif L n then 0 else 1)
theorem unl_zero {L : Nat → Bool} : ∀ (n : Nat), unl L n = 0 → ∀ j, j < n → L j = true
  | 0, _, j, hj => by omega
  | n + 1, h, j, hj => by
    simp only [unl] at h
    by_cases he : j = n
    · subst he
      cases hl : L j with
      | true => rfl
      | false => rw [hl] at h; simp at h
    · exact unl_zero n (by omega) j (by omega)
theorem unl_set {L : Nat → Bool} {i : Nat} (hi : L i = false) : ∀ (n : Nat), unl L n = unl (fun j => Nat.beq j i || L j) n + (if i < n then 1 else 0)
  | 0 => by simp [unl]
  | n + 1 => by
    simp only [unl, unl_set hi n]
    by_cases he : n = i
    · subst he
      simp [hi]
    · have : Nat.beq n i = false := by
        cases hb : Nat.beq n i with
        | false => rfl
        | true => exact absurd (Nat.eq_of_beq_eq_true hb) he
      rw [this, Bool.false_or]
      by_cases h2 : i < n
      · rw [if_pos h2, if_pos (by omega)]; omega
      · rw [if_neg h2, if_neg (by omega)]; omega
theorem unl_none {L : Nat → Bool} (hL : ∀ j, L j = false) : ∀ n, unl L n = n
  | 0 => rfl
  | n + 1 => by simp [unl, hL, unl_none hL n]

theorem under_congr {steps : List Stp} {E0 : Env} {w00 : World} {L L' : Nat → Bool} {E : Env} {act : Act} {w : World} (h : ∀ j, j < steps.length → L j = L' j) (hT : TrOk D ops st0 steps) (hU : Under D B0 w0 st0 steps E0 w00 L E act w) : Under D B0 w0 st0 steps E0 w00 L' E act w := by
  have hlt : ∀ {p : List Stp} {s : Stp} {r : List Stp}, steps = p ++ s :: r → r.length < steps.length := by intro p s r h; rw [h]; simp; omega
  refine ⟨hU.up, by rw [← runR_congr steps h]; exact hU.rel, fun id u hu => ?_, fun p s r hs hl k hk => ?_⟩
  · rcases hU.dom id u hu with h1 | ⟨p, s, r, h1, h2, h3⟩
    · exact .inl h1
    · exact .inr ⟨p, s, r, h1, by rw [← h _ (hlt h1)]; exact h2, h3⟩
  · have hk' := cl_lt steps hT p s r hs k hk
    have := hlt hs
    rw [← h k (by omega)]
    exact hU.closed p s r hs (by rw [h _ (hlt hs)]; exact hl) k hk

theorem draw_any {steps : List Stp} (hT : TrOk D ops st0 steps) (hlen : steps.length = ops.size) {E0 : Env} {w00 : World} {st' : ASt} (he : EqS (runR st0 allL steps) st') (hn' : st'.n = lastN st0 steps) {Q : Exit → Act → World → Prop}
    (hQ : ∀ E' a' w', Up E0 E' w00 w' → Rel D B0 w0 E' st' a' w' → Dom E' st'.n → Q .normal a' w') :
    ∀ (fuel : Nat) (listed : Array Bool) (E : Env) (act : Act) (w : World), listed.size = ops.size → unl (fun j => listed.getD j false) ops.size = fuel → Under D B0 w0 st0 steps E0 w00 (fun j => listed.getD j false) E act w →
      wpAny D.P .any ops Q fuel listed act w := by
  have edges : ∀ p s r, steps = p ++ s :: r → ∀ e, e ∈ s.o.after → Region.binds .any e = true → e.on < r.length := by
    intro p s r hs e hmem hb
    obtain ⟨_, _, _, hc, _⟩ := trOk_suffix p (hs ▸ hT)
    exact (cloA_spec (by simp) _ _ hc).1 e (by simpa using hmem) hb
  have opAt : ∀ p s r, steps = p ++ s :: r → ops[r.length]? = some s.o := fun p s r hs => by
    obtain ⟨_, h, _⟩ := trOk_suffix p (hs ▸ hT)
    exact h
  have done : ∀ (listed : Array Bool) E act w, listed.size = ops.size → Region.ready .any ops listed = [] → Under D B0 w0 st0 steps E0 w00 (fun j => listed.getD j false) E act w → Q .normal act w := by
    intro listed E act w hsz hr hU
    have hall : ∀ j, j < ops.size → listed.getD j false = true := by
      intro j
      induction j using Nat.strongRecOn with
      | _ j ih =>
        intro hj
        cases hl : listed.getD j false with
        | true => rfl
        | false =>
          exfalso
          obtain ⟨p, s, r, hs, hrl⟩ := list_index steps j (by omega)
          have : j ∈ Region.ready .any ops listed := by
            refine mem_ready.2 ⟨?_, s.o, by rw [← hrl]; exact opAt p s r hs, fun e hmem hb => ?_⟩
            · rw [Array.getD_eq_getD_getElem?] at hl ⊢
              rw [Array.getElem?_eq_getElem (by omega)] at hl ⊢
              exact hl
            · have := edges p s r hs e hmem hb
              exact ih e.on (by omega) (by omega)
          rw [hr] at this
          cases this
    have hrun : runR st0 (fun j => listed.getD j false) steps = runR st0 allL steps := runR_congr steps (fun j hj => hall j (by omega))
    refine hQ E act w hU.up ?_ ?_
    · have := hU.rel
      rw [hrun] at this
      exact this.eqS he
    · intro id u hu
      rcases hU.dom id u hu with h | ⟨p, s, r, hs, _, _, h⟩
      · have := lastN_mono steps (r := []) (by simpa using hT)
        simp only [List.append_nil] at this
        have h5 : lastN st0 ([] : List Stp) = st0.n := rfl
        omega
      · have := lastN_mono p (r := s :: r) (hs ▸ hT)
        rw [← hs] at this
        have h5 : lastN st0 (s :: r) = s.n' := rfl
        omega
  intro fuel
  induction fuel with
  | zero =>
    intro listed E act w hsz hun hU
    have hr : Region.ready .any ops listed = [] := by
      cases h : Region.ready .any ops listed with
      | nil => rfl
      | cons i rest =>
        exfalso
        have hi : i ∈ Region.ready .any ops listed := by rw [h]; exact List.mem_cons_self ..
        obtain ⟨h1, o, ho, _⟩ := mem_ready.1 hi
        have hlt := (Array.getElem?_eq_some_iff.1 ho).1
        have := unl_zero _ hun i hlt
        rw [Array.getD_eq_getD_getElem?, Array.getElem?_eq_getElem (by omega)] at this h1
        simp at this h1
        rw [this] at h1
        cases h1
    exact ⟨hr, done listed E act w hsz hr hU⟩
  | succ fuel ih =>
    intro listed E act w hsz hun hU
    refine ⟨fun hr => done listed E act w hsz hr hU, fun i hi => ?_⟩
    obtain ⟨h1, o, ho, hedge⟩ := mem_ready.1 hi
    have hlt := (Array.getElem?_eq_some_iff.1 ho).1
    obtain ⟨p, s, r, hs, hrl⟩ := list_index steps i (by omega)
    have hso : s.o = o := by
      have := opAt p s r hs
      rw [hrl, ho] at this
      cases this
      rfl
    have hLi : listed.getD i false = false := by
      rw [Array.getD_eq_getD_getElem?, Array.getElem?_eq_getElem (by omega)] at h1 ⊢
      exact h1
    subst hrl
    refine step_ready hT hs hU hLi (fun e he hb => hedge e (by rw [← hso]; exact he) hb) (fun E' a' w' hU' => ?_)
    have hset : ∀ j, j < ops.size → (Nat.beq j r.length || listed.getD j false) = (listed.setIfInBounds r.length true).getD j false := by
      intro j hj
      rw [Array.getD_eq_getD_getElem?, Array.getD_eq_getD_getElem?, Array.getElem?_setIfInBounds]
      by_cases he : r.length = j
      · subst he
        simp [hsz, hj]
      · have : Nat.beq j r.length = false := by
          cases hb : Nat.beq j r.length with
          | false => rfl
          | true => exact absurd (Nat.eq_of_beq_eq_true hb).symm he
        rw [this, if_neg he]
        simp
    refine ih _ E' a' w' (by simp [hsz]) ?_ (under_congr (fun j hj => hset j (by omega)) hT hU')
    have h5 := unl_set (L := fun j => listed.getD j false) hLi ops.size
    rw [if_pos hlt, hun] at h5
    have h6 : unl (fun j => Nat.beq j r.length || listed.getD j false) ops.size = unl (fun j => (listed.setIfInBounds r.length true).getD j false) ops.size := by
      have : ∀ n, n ≤ ops.size → unl (fun j => Nat.beq j r.length || listed.getD j false) n = unl (fun j => (listed.setIfInBounds r.length true).getD j false) n := by
        intro n
        induction n with
        | zero => intro _; rfl
        | succ n ih2 =>
          intro hle
          simp only [unl]
          rw [ih2 (by omega), hset n (by omega)]
      exact this _ (Nat.le_refl _)
    omega

/-- A REGION IN ANY ORDER. -/
theorem draw_ok (hG : GOk D) (hG2 : GlobsPlain D) (hmix : D.P.follows .mixedOrders = true) {id : Nat} {st : ASt} {K : ASt → Option R} {r : R} (h : drawA D ops ops.toList 0 [] st K = some r) :
    ∃ st', K st' = some r ∧ st'.m = st.m ∧ st.n ≤ st'.n ∧ ∀ (B0 : Nat) (w0 : W0) E act w Q, Rel D B0 w0 E st act w → Dom E st.n →
      (∀ E' act' w', Up E E' w w' → Rel D B0 w0 E' st' act' w' → Dom E' st'.n → Q Exit.normal act' w') → (Code.region id ops true).wp D.P Q act w := by
  obtain ⟨steps, st', h1, hT, hlen, he, hn⟩ := drawA_trace (st0 := st) hG hG2 ops.toList 0 [] st K r [] rfl rfl rfl trivial (EqS.refl _) rfl h
  have hlen' : steps.length = ops.size := by rw [hlen]; simp
  refine ⟨st', h1, he.m.symm.trans (runR_m _ _), ?_, fun B0 w0 E act w Q hR hD hQ => wp_region_any hmix ?_⟩
  · have := lastN_mono steps (r := []) (by simpa using hT)
    simp only [List.append_nil] at this
    rw [hn]
    exact this
  · refine draw_any hT hlen' he hn (E0 := E) (w00 := w) (fun E' a' w' k1 k2 k3 => hQ E' a' w' k1 k2 k3) ops.size _ E act _ (by simp) (unl_none (fun j => ?_) _) ⟨?_, ?_, fun id u hu => .inl (hD id u hu), fun p s r hs hl => ?_⟩
    · rw [Array.getD_eq_getD_getElem?, Array.getElem?_replicate]
      split <;> rfl
    · exact ⟨⟨fun _ h => h, fun _ _ => rfl⟩, fun _ _ h => h⟩
    · have hz : runR st (fun j => (Array.replicate ops.size false).getD j false) steps = st := by
        have : ∀ l : List Stp, runR st (fun j => (Array.replicate ops.size false).getD j false) l = st := by
          intro l
          induction l with
          | nil => rfl
          | cons s r ih =>
            simp only [runR]
            have : (Array.replicate ops.size false).getD r.length false = false := by
              rw [Array.getD_eq_getD_getElem?, Array.getElem?_replicate]
              split <;> rfl
            rw [this]
            exact ih
        exact this steps
      rw [hz]
      have up : Up E E w w.drew := ⟨⟨fun _ h => h, fun _ _ => rfl⟩, fun _ _ h => h⟩
      exact hR.step up (Below.refl _ _).drew st.n (fun id b hb => (hR.heap id b hb).mono up (fun _ _ _ _ => rfl) (fun _ _ _ _ _ h => h)) hR.apart (fun _ h => .inl h) hR.form
    · exfalso
      rw [Array.getD_eq_getD_getElem?, Array.getElem?_replicate] at hl
      split at hl <;> cases hl
end
end Go.Abs
