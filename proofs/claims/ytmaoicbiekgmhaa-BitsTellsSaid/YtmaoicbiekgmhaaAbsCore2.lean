import Derived.Test.YtmaoicbiekgmhaaAbsCore
namespace Go.Abs
open Go Go.RowKit
set_option linter.unusedVariables false
set_option linter.unusedSimpArgs false

/-- what the constants' parts are: no rows, no ids -/
def GlobsPlain (D : Ctx) : Prop := ∀ g l, assoc D.globs g = some l → ∀ (E E' : Env) (w : World) (cs : List Value), RelF E w l cs → E.S = E'.S → RelF E' w l cs

section
variable {D : Ctx} {B0 : Nat} {w0 : W0} {dst : Option Tmp} {type : TypeId} {pos : String} {after : Array Edge} {guard : Option (Nat × Bool)} {hl : Nat → Option Blk} {n : Nat} {K : Eff → Option R} {r : R}

theorem evs_cons {f : List (Nat × AVal)} {x : Operand} {xs : List Operand} {X : AVal} {Xs : List AVal} (h : evs f (x :: xs) = X :: Xs) : ev f x = X ∧ evs f xs = Xs := by
  simp only [evs] at h
  cases h
  exact ⟨rfl, rfl⟩

theorem evs_lcat (f : List (Nat × AVal)) : ∀ (a b : List Operand), evs f (lcat a b) = evs f a ++ evs f b
  | [], _ => rfl
  | x :: a, b => by simp [lcat, evs, evs_lcat f a b]
theorem evs_len (f : List (Nat × AVal)) : ∀ (a : List Operand), (evs f a).length = a.length
  | [] => rfl
  | x :: a => by simp [evs, evs_len f a]

theorem optV_ok {o : Option Operand} {l l' : List AVal} {v : Option Int} (h : optV o l = some (v, l')) {f : List (Nat × AVal)} {xs : List Operand} (hl : evs f (lcat o.toList xs) = l) :
    evs f xs = l' ∧ ((o = none ∧ v = none) ∨ ∃ x k i, o = some x ∧ v = some i ∧ ev f x = .v (.int k i)) := by
  unfold optV at h
  split at h
  · cases h
    exact ⟨hl, .inl ⟨rfl, rfl⟩⟩
  · cases h
    simp only [Option.toList, lcat] at hl
    obtain ⟨h1, h2⟩ := evs_cons hl
    exact ⟨h2, .inr ⟨_, _, _, rfl, rfl, h1⟩⟩
  · cases h

/-- the operands of a slice expression and their values -/
def BoundIs (f : List (Nat × AVal)) (o : Option Operand) (v : Option Int) : Prop := (o = none ∧ v = none) ∨ ∃ x k i, o = some x ∧ v = some i ∧ ev f x = .v (.int k i)

theorem ok_slice_max {st : ASt} {t e : TypeId} (ht : D.P.underlying t = some (.slice e)) (hs : cellsT D.P e = some 1) (x : Operand) (lo hi mx : Option Operand) {vl vh vm : Option Int} (hvl : BoundsOk D B0 w0 st lo vl) (hvh : BoundsOk D B0 w0 st hi vh) (hvm : BoundsOk D B0 w0 st mx vm) {m : Int} (hmv : vm = some m) (hhi : vh ≠ none)
    (hm : ∀ id b, hl id = some b → hlook st.h id = some b) {c c' : Cont} (hx : contA hl (ev st.f x) = some c) (h0 : 0 ≤ vl.getD 0) (h1 : vl.getD 0 ≤ vh.getD (c.len : Int)) (h2 : vh.getD (c.len : Int) ≤ m) (h3 : m ≤ (c.len : Int)) (hc : c.sub (vl.getD 0).toNat (vh.getD (c.len : Int)).toNat = some c') :
    OpOk D B0 w0 st ⟨dst, .slice t x lo hi mx, type, pos, after, guard⟩ ⟨.sl c', freeze hl (rowIds (ev st.f x)) [], st.n⟩ := by
  intro E act w hR hnew next Q hnext
  obtain ⟨E1, hρ1, up1, hR1, hS1, hsame⟩ := rel_freeze hm (rowIds (ev st.f x)) hR
  have hsl := contA_slC hR hm up1.keeps.sub hx (hR.ev x) (fun id hid b v k hb hv hk => hS1 id hid b v k hb hv hk)
  obtain ⟨A, cap, hu, hcap, _⟩ := (show _ from hsl)
  rcases hvm with ⟨rfl, rfl⟩ | ⟨xm, km, im, rfl, rfl, hxm⟩
  · cases hmv
  · cases hmv
    have hme := hR.ev xm
    rw [hxm] at hme
    simp only [RelV] at hme
    have hhn : hi.map act.eval ≠ none := by
      rcases hvh with ⟨_, rfl⟩ | ⟨xh, _, _, rfl, _, _⟩
      · exact absurd rfl hhi
      · simp
    have hr := run_sliceAt (P := D.P) (w := w) ht hs A (mx := some (.int km m)) (m := m) (len := c.len) (cap := cap) (hvl.optIs hR 0) (hvh.optIs hR (c.len : Int)) (.inr ⟨km, rfl, hhn⟩) h0 h1 h2 (by omega)
    have hexec : (execOp act.eval ⟨dst, .slice t x lo hi (some xm), type, pos, after, guard⟩).run D.P w = .ok (.value (.slice (if m.toNat = (vl.getD 0).toNat then A else A.map (·.add ((vl.getD 0).toNat * 1))) ((vh.getD (c.len : Int)).toNat - (vl.getD 0).toNat) (m.toNat - (vl.getD 0).toNat))) w := by
      simp only [execOp, hu, Option.map_some, hme, Sem.run_bind, hr, Result.andThen_ok, Sem.run_pure]
    unfold Oper.wp
    rw [hexec, Oper.upon_value]
    rw [hu] at hsl
    refine hnext E1 w _ up1 (fun id y hy => .inl (by rw [← hρ1]; exact hy)) (Rel.put hR1 (a := .sl c') ?_ dst)
    simp only [RelV]
    exact slC_sub hc (by omega) (by omega) (by omega) (by omega) hsl

theorem core_slice {t : TypeId} {x : Operand} {lo hi mx : Option Operand} {X : AVal} {vl vh vm : Option Int} {vs : List AVal} (hvs : ∀ f, evs f (opnds (.slice t x lo hi mx)) = vs → ev f x = X ∧ BoundIs f lo vl ∧ BoundIs f hi vh ∧ BoundIs f mx vm)
    (h : sliceOpA D t X vl vh vm hl n K = some r) : CoreOk D ⟨dst, .slice t x lo hi mx, type, pos, after, guard⟩ vs hl n K r := by
  have bnone : ∀ {f o}, BoundIs f o none → o = none := by
    rintro f o (⟨h, _⟩ | ⟨_, _, _, _, h, _⟩)
    · exact h
    · cases h
  unfold sliceOpA at h
  split at h
  · rename_i e ht
    split at h
    · rename_i sz len hs hlen
      split at h
      · -- all
        refine ⟨_, h, Nat.le_refl _, fun B0 w0 st hv hm hn => ?_⟩
        obtain ⟨hx, h1, h2, h3⟩ := hvs st.f hv
        subst hn
        have e1 := bnone h1
        have e2 := bnone h2
        have e3 := bnone h3
        subst e1
        subst e2
        subst e3
        rw [← hx]
        refine ok_slice_all ht hs x (fun E act w hR => ?_)
        obtain ⟨A, cap, hu⟩ := lenA_rel hm hlen hR (hx ▸ hR.ev x)
        exact ⟨A, len, cap, hu⟩
      · cases h
      · rename_i hnn1 hnn2
        obtain ⟨g0, h5⟩ := br_true h
        obtain ⟨g1, h6⟩ := br_true h5
        obtain ⟨g2, h7⟩ := br_true h6
        clear h h5 h6
        have h := h7
        clear h7
        have g0 := of_decide_eq_true g0
        have g1 := of_decide_eq_true g1
        have g2 := of_decide_eq_true g2
        unfold sliceA at h
        split at h
        · -- no third index
          split at h
          · rename_i c
            simp only [lenA] at hlen
            cases hlen
            split at h
            · rename_i c' hc
              cases hq : Nat.beq sz 1 with
              | false => rw [hq] at h; cases h
              | true =>
                rw [hq] at h
                refine ⟨_, h, Nat.le_refl _, fun B0 w0 st hv hm hn => ?_⟩
                obtain ⟨hx, h1, h2, h3⟩ := hvs st.f hv
                subst hn
                have e3 := bnone h3
                subst e3
                exact ok_slice_sl ht hs x lo hi h1 h2 hx g0 g1 g2 hc (Nat.eq_of_beq_eq_true hq)
            · cases h
          · rename_i id
            simp only [lenA] at hlen
            split at hlen
            · rename_i e' c f hb
              cases hlen
              cases hq : Nat.beq sz 1 with
              | true =>
                rw [hq] at h
                refine ⟨_, h, Nat.le_refl _, fun B0 w0 st hv hm hn => ?_⟩
                obtain ⟨hx, h1, h2, h3⟩ := hvs st.f hv
                subst hn
                have e3 := bnone h3
                subst e3
                exact ok_slice_own ht hs x lo hi h1 h2 (hm _ _ hb) hx g0 g1 g2 (.inl (Nat.eq_of_beq_eq_true hq))
              | false =>
                rw [hq] at h
                simp only [cond_false] at h
                split at h
                · rename_i hl0
                  refine ⟨_, h, Nat.le_refl _, fun B0 w0 st hv hm hn => ?_⟩
                  obtain ⟨hx, h1, h2, h3⟩ := hvs st.f hv
                  subst hn
                  have e3 := bnone h3
                  subst e3
                  have := ok_slice_own (D := D) (B0 := B0) (w0 := w0) (st := st) (dst := dst) (type := type) (pos := pos) (after := after) (guard := guard) ht hs x lo hi h1 h2 (hm _ _ hb) hx g0 g1 g2 (.inr hl0)
                  rw [hl0] at this
                  simpa using this
                · cases h
            · cases hlen
          · rename_i id off len'
            simp only [lenA] at hlen
            cases hlen
            split at h
            · rename_i hb
              cases hq : Nat.beq sz 1 with
              | false => rw [hq] at h; cases h
              | true =>
                rw [hq] at h
                have := Nat.eq_of_beq_eq_true hq
                subst this
                refine ⟨_, h, Nat.le_refl _, fun B0 w0 st hv hm hn => ?_⟩
                obtain ⟨hx, h1, h2, h3⟩ := hvs st.f hv
                subst hn
                have e3 := bnone h3
                subst e3
                exact ok_slice_win ht hs x lo hi h1 h2 (hm _ _ hb) hx g0 g1 g2
            · cases h
          · rename_i id off m wl len'
            simp only [lenA] at hlen
            cases hlen
            cases hq : Nat.beq sz 1 with
            | false => rw [hq] at h; cases h
            | true =>
              rw [hq] at h
              have := Nat.eq_of_beq_eq_true hq
              subst this
              refine ⟨_, h, Nat.le_refl _, fun B0 w0 st hv hm hn => ?_⟩
              obtain ⟨hx, h1, h2, h3⟩ := hvs st.f hv
              subst hn
              have e3 := bnone h3
              subst e3
              exact ok_slice_awin ht hs x lo hi h1 h2 hx g0 g1 g2
          · cases h
        · rename_i m
          cases hq : Nat.beq sz 1 with
          | false => rw [hq] at h; cases h
          | true =>
            rw [hq] at h
            simp only [cond_true] at h
            have := Nat.eq_of_beq_eq_true hq
            subst this
            obtain ⟨g3, h8⟩ := br_true h
            obtain ⟨g4, h9⟩ := br_true h8
            have g3 := of_decide_eq_true g3
            have g4 := of_decide_eq_true g4
            split at h9
            · rename_i c hc
              split at h9
              · rename_i c' hc'
                refine ⟨_, h9, Nat.le_refl _, fun B0 w0 st hv hm hn => ?_⟩
                obtain ⟨hx, h1, h2, h3⟩ := hvs st.f hv
                subst hn
                subst hx
                intro E act w hR
                -- the lengths are one
                obtain ⟨A, cap, hu, _⟩ := contA_reads hR hm hc (hR.ev x)
                obtain ⟨A', cap', hu'⟩ := lenA_rel hm hlen hR (hR.ev x)
                rw [hu] at hu'
                cases hu'
                exact ok_slice_max ht hs x lo hi mx h1 h2 h3 rfl (by rintro rfl; exact hnn1 m rfl rfl) hm hc g0 g1 g3 g4 hc' E act w hR
              · cases h9
            · cases h9
    · cases h
  · rename_i m e ht
    split at h
    · rename_i sz id off hs
      cases hq : Nat.beq sz 1 with
      | false => rw [hq] at h; cases h
      | true =>
        rw [hq] at h
        simp only [cond_true] at h
        have := Nat.eq_of_beq_eq_true hq
        subst this
        obtain ⟨g0, h⟩ := br_true h
        obtain ⟨g1, h⟩ := br_true h
        obtain ⟨g2, h⟩ := br_true h
        have g0 := of_decide_eq_true g0
        have g1 := of_decide_eq_true g1
        have g2 := of_decide_eq_true g2
        refine ⟨_, h, Nat.le_refl _, fun B0 w0 st hv hm hn => ?_⟩
        obtain ⟨hx, h1, h2, h3⟩ := hvs st.f hv
        subst hn
        have e3 := bnone h3
        subst e3
        exact ok_slice_arr ht hs x lo hi h1 h2 hx g0 g1 g2
    · cases h
  · cases h

theorem core_call (hG : GOk D) (hG2 : GlobsPlain D) {c : Call} {vs : List AVal} (h : callA D c.callee c.args.toList c.argTypes.toList vs hl n K = some r) : CoreOk D ⟨dst, .call c, type, pos, after, guard⟩ vs hl n K r := by
  obtain ⟨cal, ⟨as⟩, ⟨ts⟩⟩ := c
  simp only at h
  unfold callA at h
  split at h
  · -- len
    rename_i x t ts X
    unfold lenOpA at h
    split at h
    · rename_i e ht
      split at h
      · rename_i m hlen
        refine ⟨_, h, Nat.le_refl _, fun B0 w0 st hv hm hn => ?_⟩
        have := evs_one hv
        subst this
        subst hn
        exact ok_len hm x (by simp) ht hlen
      · cases h
    · cases h
  · refine ⟨_, h, Nat.le_refl _, fun B0 w0 st hv hm hn => ?_⟩
    obtain ⟨h1, h2⟩ := evs_two hv
    subst hn
    exact ok_min _ _ h1 h2
  · refine ⟨_, h, Nat.le_refl _, fun B0 w0 st hv hm hn => ?_⟩
    obtain ⟨h1, h2⟩ := evs_two hv
    subst hn
    exact ok_max _ _ h1 h2
  · rename_i s x t t' S X
    cases hq : Nat.beq t t' with
    | false => rw [hq] at h; cases h
    | true =>
      rw [hq] at h
      have := Nat.eq_of_beq_eq_true hq
      subst this
      exact core_append h
  · rename_i f g first caps vs
    split at h
    · rename_i s hs
      obtain ⟨eff, hK, hle, hok⟩ := ok_callG (dst := dst) (type := type) (pos := pos) (after := after) (guard := guard) hG hs hG2 h
      refine ⟨eff, hK, hle, fun B0 w0 st hv hm hn => ?_⟩
      obtain ⟨h1, h2⟩ := evs_cons hv
      exact hok B0 w0 st f _ _ h1 h2 hm hn
    · cases h
  · cases h

/-- THE OPERATIONS. -/
theorem core_ok (hG : GOk D) (hG2 : GlobsPlain D) {op : Op} {vs : List AVal} (h : core D op vs hl n K = some r) : CoreOk D ⟨dst, op, type, pos, after, guard⟩ vs hl n K r := by
  unfold core at h
  split at h
  · refine ⟨_, h, Nat.le_refl _, fun B0 w0 st hv hm hn => ?_⟩
    have := evs_one hv
    subst this
    subst hn
    exact ok_move _
  · refine ⟨_, h, Nat.le_refl _, fun B0 w0 st hv hm hn => ?_⟩
    have := evs_one hv
    subst this
    subst hn
    exact ok_assign _
  · rename_i c a b t A B
    have key : ∀ z, z = (if t then A else B) → K ⟨z, [], n⟩ = some r → CoreOk D ⟨dst, .pick c a b, type, pos, after, guard⟩ [.v (.bool t), A, B] hl n K r := by
      rintro z rfl hK
      refine ⟨_, hK, Nat.le_refl _, fun B0 w0 st hv hm hn => ?_⟩
      obtain ⟨h1, h2⟩ := evs_cons hv
      obtain ⟨h3, h4⟩ := evs_cons h2
      obtain ⟨h5, _⟩ := evs_cons h4
      subst hn
      subst h3
      subst h5
      exact ok_pick c a b h1
    rcases br_some h with ⟨rfl, h4⟩ | ⟨rfl, h4⟩
    · exact key A rfl h4
    · exact key B rfl h4
  · split at h
    · rename_i l hl'
      refine ⟨_, h, by simp, fun B0 w0 st hv hm hn => ?_⟩
      subst hn
      exact ok_alloc _ hl'
    · cases h
  · split at h
    · rename_i l hl'
      refine ⟨_, h, by simp, fun B0 w0 st hv hm hn => ?_⟩
      have := evs_one hv
      subst this
      subst hn
      exact ok_box _ _ hl'
    · cases h
  · exact core_buildSlice h
  · exact core_load h
  · exact core_store h
  · -- nilCheck
    rename_i x X
    have key : (∀ (E : Env) (w : World) (u : Value), RelV E w X u → (∃ a, u = .pointer (some a)) ∨ (∃ f a b, u = .func (.func f) a b) ∨ (∃ t v, u = .iface t v)) → K ⟨X, [], n⟩ = some r → CoreOk D ⟨dst, .nilCheck x, type, pos, after, guard⟩ [X] hl n K r := by
      intro hx hK
      refine ⟨_, hK, Nat.le_refl _, fun B0 w0 st hv hm hn => ?_⟩
      have := evs_one hv
      subst this
      subst hn
      exact ok_nilCheck _ (fun E act w hR => hx E w _ (hR.ev x))
    split at h
    · exact key (fun E w u hu => by simp only [RelV] at hu; obtain ⟨b, _, rfl⟩ := hu; exact .inl ⟨_, rfl⟩) h
    · exact key (fun E w u hu => by simp only [RelV] at hu; obtain ⟨_, _, _, _, _, rfl⟩ := hu; exact .inl ⟨_, rfl⟩) h
    · exact key (fun E w u hu => by simp only [RelV] at hu; obtain ⟨_, _, _, rfl⟩ := hu; exact .inl ⟨_, rfl⟩) h
    · exact key (fun E w u hu => by simp only [RelV] at hu; obtain ⟨_, _, rfl, _⟩ := hu; exact .inl ⟨_, rfl⟩) h
    · exact key (fun E w u hu => by simp only [RelV] at hu; subst hu; exact .inl ⟨_, rfl⟩) h
    · exact key (fun E w u hu => by simp only [RelV] at hu; obtain ⟨_, rfl⟩ := hu; exact .inl ⟨_, rfl⟩) h
    · exact key (fun E w u hu => by simp only [RelV] at hu; obtain ⟨_, _, rfl, _, _⟩ := hu; exact .inr (.inl ⟨_, _, _, rfl⟩)) h
    · exact key (fun E w u hu => by simp only [RelV] at hu; obtain ⟨_, rfl, _⟩ := hu; exact .inr (.inr ⟨_, _, rfl⟩)) h
    · cases h
  · rename_i bop t1 x y t2 X Y
    obtain ⟨u, v, z, hx, hy, hK, hrun⟩ := binA_run (P := D.P) h
    subst hx
    subst hy
    refine ⟨_, hK, Nat.le_refl _, fun B0 w0 st hv hm hn => ?_⟩
    obtain ⟨h1, h2⟩ := evs_two hv
    subst hn
    refine opOk_val fun E act w hR => ⟨z, ?_, by simp only [RelV]⟩
    have e1 := hR.ev x
    rw [h1] at e1
    have e2 := hR.ev y
    rw [h2] at e2
    simp only [RelV] at e1 e2
    have := hrun t1 x y w
    simp only [Sem.run_bind] at this
    simp only [execOp, e1, e2, Sem.run_bind, this]
    rfl
  · refine ⟨_, h, Nat.le_refl _, fun B0 w0 st hv hm hn => ?_⟩
    have := evs_one hv
    subst hn
    exact ok_not _ _ this
  · refine ⟨_, h, Nat.le_refl _, fun B0 w0 st hv hm hn => ?_⟩
    have := evs_one hv
    subst hn
    exact ok_neg _ _ this
  · split at h
    · rename_i hs ht
      refine ⟨_, h, Nat.le_refl _, fun B0 w0 st hv hm hn => ?_⟩
      have := evs_one hv
      subst hn
      exact ok_convert _ _ _ this hs ht
    · cases h
  · split at h
    · cases h
    · cases h
    · rename_i d hd ht
      refine ⟨_, h, Nat.le_refl _, fun B0 w0 st hv hm hn => ?_⟩
      have := evs_one hv
      subst this
      subst hn
      exact ok_makeInterface _ _ ht (fun ms e => hd ms e)
  · rename_i fn first captured
    refine ⟨_, h, Nat.le_refl _, fun B0 w0 st hv hm hn => ?_⟩
    have hv : evs st.f (lcat first.toList captured.toList) = _ := hv
    rw [evs_lcat] at hv
    subst hv
    subst hn
    have e1 : (evs st.f first.toList ++ evs st.f captured.toList).take first.size = evs st.f first.toList := by
      rw [List.take_left' (by rw [evs_len, Array.length_toList])]
    have e2 : (evs st.f first.toList ++ evs st.f captured.toList).drop first.size = evs st.f captured.toList := by
      rw [List.drop_left' (by rw [evs_len, Array.length_toList])]
    rw [e1, e2]
    exact ok_makeFunc _ _ _
  · rename_i x i l
    cases hq : Nat.blt i l.length with
    | false => rw [hq] at h; cases h
    | true =>
      rw [hq] at h
      refine ⟨_, h, Nat.le_refl _, fun B0 w0 st hv hm hn => ?_⟩
      have := evs_one hv
      subst hn
      exact ok_extract _ _ this (by simpa using hq)
  · -- slice
    rename_i t x lo hi mx X rest
    split at h
    · rename_i vl r1 hl1
      split at h
      · rename_i vh r2 hl2
        split at h
        · rename_i vm r3 hl3
          refine core_slice (fun f hv => ?_) h
          obtain ⟨hx, h1⟩ := evs_cons hv
          obtain ⟨h2, k1⟩ := optV_ok hl1 h1
          obtain ⟨h3, k2⟩ := optV_ok hl2 h2
          obtain ⟨h4, k3⟩ := optV_ok (xs := []) hl3 (by rw [← h3]; congr 1; rw [lcat_eq, List.append_nil])
          exact ⟨hx, k1, k2, k3⟩
        · cases h
      · cases h
    · cases h
  · exact core_makeSlice h
  · exact core_fieldAddr h
  · exact core_field h
  · exact core_indexAddr h
  · exact core_index h
  · rename_i c vs
    exact core_call hG hG2 h
  · cases h
end
end Go.Abs
