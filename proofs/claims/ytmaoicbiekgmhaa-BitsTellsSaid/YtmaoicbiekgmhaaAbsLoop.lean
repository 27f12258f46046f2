import Derived.Test.YtmaoicbiekgmhaaAbsDraw3
namespace Go.Abs
open Go Go.RowKit
set_option linter.unusedVariables false
set_option linter.unusedSimpArgs false

section
variable {n : Nat} {E E' : Env} {w : World}

mutual
theorem relV_bnd (hS : E'.S = E.S) (hρ : ∀ id, id < n → E'.ρ id = E.ρ id) : ∀ (a : AVal) (u : Value), bnd n a = true → RelV E w a u → RelV E' w a u
  | .v x, u, hb, h => by simp only [RelV] at h ⊢; exact h
  | .bot, u, hb, _ => by simp only [RelV]
  | .sl c, u, hb, h => by simp only [RelV] at h ⊢; rw [hS]; exact h
  | .own id, u, hb, h => by simp only [RelV] at h ⊢; rw [hρ id (by simpa [bnd] using hb)]; exact h
  | .win id off len, u, hb, h => by simp only [RelV] at h ⊢; rw [hρ id (by simpa [bnd] using hb)]; exact h
  | .awin id off m lo len, u, hb, h => by simp only [RelV] at h ⊢; rw [hρ id (by simpa [bnd] using hb)]; exact h
  | .arr k m l, u, hb, h => by simp only [RelV] at h ⊢; exact h
  | .agg l, u, hb, h => by
    simp only [RelV] at h ⊢
    obtain ⟨cs, h1, h2⟩ := h
    exact ⟨cs, h1, relF_bnd hS hρ l cs (by simpa [bnd] using hb) h2⟩
  | .ptr id off, u, hb, h => by simp only [RelV] at h ⊢; rw [hρ id (by simpa [bnd] using hb)]; exact h
  | .pel id sz i, u, hb, h => by simp only [RelV] at h ⊢; rw [hρ id (by simpa [bnd] using hb)]; exact h
  | .apel id off m i, u, hb, h => by simp only [RelV] at h ⊢; rw [hρ id (by simpa [bnd] using hb)]; exact h
  | .sta l, u, hb, h => by
    simp only [RelV] at h ⊢
    obtain ⟨a, cs, h1, h2, h3, h4⟩ := h
    exact ⟨a, cs, h1, by rw [hS]; exact h2, relF_bnd hS hρ l cs (by simpa [bnd] using hb) h3, h4⟩
  | .fn f a b, u, hb, h => by
    simp only [RelV] at h ⊢
    obtain ⟨x, y, h1, h2, h3⟩ := h
    simp only [bnd, Bool.and_eq_true] at hb
    exact ⟨x, y, h1, relVs_bnd hS hρ a x hb.1 h2, relVs_bnd hS hρ b y hb.2 h3⟩
  | .iface t x, u, hb, h => by
    simp only [RelV] at h ⊢
    obtain ⟨y, h1, h2⟩ := h
    exact ⟨y, h1, relV_bnd hS hρ x y (by simpa [bnd] using hb) h2⟩
  | .tuple l, u, hb, h => by
    simp only [RelV] at h ⊢
    obtain ⟨vs, h1, h2⟩ := h
    exact ⟨vs, h1, relVs_bnd hS hρ l vs (by simpa [bnd] using hb) h2⟩
  | .fr e c, u, hb, h => by simp only [RelV] at h
  | .glob g off, u, hb, h => by simp only [RelV] at h ⊢; exact h
  | .gel g off m i, u, hb, h => by simp only [RelV] at h ⊢; exact h
theorem relVs_bnd (hS : E'.S = E.S) (hρ : ∀ id, id < n → E'.ρ id = E.ρ id) : ∀ (l : List AVal) (vs : List Value), bndL n l = true → RelVs E w l vs → RelVs E' w l vs
  | [], vs, hb, h => by simp only [RelVs] at h ⊢; exact h
  | a :: r, vs, hb, h => by
    simp only [RelVs] at h ⊢
    obtain ⟨u, us, h1, h2, h3⟩ := h
    simp only [bndL, Bool.and_eq_true] at hb
    exact ⟨u, us, h1, relV_bnd hS hρ a u hb.1 h2, relVs_bnd hS hρ r us hb.2 h3⟩
theorem relF_bnd (hS : E'.S = E.S) (hρ : ∀ id, id < n → E'.ρ id = E.ρ id) : ∀ (l : List AVal) (cs : List Value), bndL n l = true → RelF E w l cs → RelF E' w l cs
  | [], cs, hb, h => by simp only [RelF] at h ⊢; exact h
  | a :: r, cs, hb, h => by
    simp only [bndL, Bool.and_eq_true] at hb
    rcases relF_cons h with ⟨k', m, l, cs', rfl, h1, rfl, h3⟩ | ⟨ha, u, cs', rfl, h2, h3, h4⟩
    · exact relF_arr h1 (relF_bnd hS hρ r cs' hb.2 h3)
    · exact relF_one ha h2 (relV_bnd hS hρ a u hb.1 h3) (relF_bnd hS hρ r cs' hb.2 h4)
end
end

theorem hlook_assoc {h : Hp} {id : Nat} {b : Blk} : hlook h id = some b ↔ assoc h id = some (some b) := by
  induction h with
  | nil => simp [hlook, assoc]
  | cons x r ih =>
    obtain ⟨k, y⟩ := x
    simp only [hlook, assoc]
    cases Nat.beq k id with
    | true => simp
    | false => simpa using ih
theorem look_lcat (a b : List (Nat × AVal)) (t : Nat) : look (lcat a b) t = (match assoc a t with | some x => x | none => look b t) := by
  induction a with
  | nil => rfl
  | cons x r ih =>
    obtain ⟨k, y⟩ := x
    simp only [lcat, look, assoc]
    cases Nat.beq k t <;> simp [ih]
theorem look_assoc (a : List (Nat × AVal)) (t : Nat) : look a t = (match assoc a t with | some x => x | none => .bot) := by
  induction a with
  | nil => rfl
  | cons x r ih =>
    obtain ⟨k, y⟩ := x
    simp only [look, assoc]
    cases Nat.beq k t <;> simp [ih]

/-- the value of a row that grows -/
def rowVal (tv : Nat → Value) : Nat → List (Nat × TypeId × Cont) → Nat → Option Value
  | _, [], _ => none
  | n, (t, _, _) :: r, id => bif Nat.beq n id then some (tv t) else rowVal tv (n + 1) r id

theorem rowVal_bnd {tv : Nat → Value} : ∀ (rows : List (Nat × TypeId × Cont)) (n id : Nat) (u : Value), rowVal tv n rows id = some u → n ≤ id ∧ id < n + rows.length
  | [], n, id, u, h => by simp [rowVal] at h
  | (t, e, c) :: r, n, id, u, h => by
    simp only [rowVal] at h
    cases hb : Nat.beq n id with
    | true => have := Nat.eq_of_beq_eq_true hb; simp; omega
    | false =>
      rw [hb] at h
      have := rowVal_bnd r (n + 1) id u h
      simp; omega

def Slf (u : Value) : Prop := (∃ A n c, u = .slice A n c) ∨ ∃ a, u = .pointer (some a)

/-- what is known of the rows that grow -/
structure Rows (E : Env) (w : World) (B0 : Nat) (h : Hp) (tv : Nat → Value) (n : Nat) (rows : List (Nat × TypeId × Cont)) (fs : List (Nat × AVal)) (hs : Hp) (us : List Nat) : Prop where
  slots : ∀ t x, assoc fs t = some x → ∃ id, x = .own id ∧ rowVal tv n rows id = some (tv t)
  blks : ∀ id b, assoc hs id = some b → ∃ e c u, b = some ⟨.row e c, false⟩ ∧ n ≤ id ∧ rowVal tv n rows id = some u ∧ (∃ xs, w.ownsRow B0 e c.size u c.len xs ∧ ∀ j x, xs[j]? = some x → x.oneCell' = true ∧ cellC E.S w c j x) ∧
    (∀ k, vBlock u = some k → ¬ E.S k ∧ ∃ id0, id0 ∈ us ∧ ∃ b0, hlook h id0 = some b0 ∧ b0.frz = false ∧ E.ρ id0 = some u)
  apart : ∀ id id' b b' u u' k, assoc hs id = some b → assoc hs id' = some b' → id ≠ id' → rowVal tv n rows id = some u → rowVal tv n rows id' = some u' → vBlock u = some k → vBlock u' ≠ some k
  form : ∀ id u, rowVal tv n rows id = some u → Slf u

section
variable {D : Ctx} {B0 : Nat} {w0 : W0} {E : Env} {st : ASt} {act : Act} {w : World}

theorem ownsRow_nil {B0 : Nat} {e : TypeId} {c : Cont} (hc : c.len = 0) : w.ownsRow B0 e c.size (.slice none 0 0) c.len [] := by
  refine ⟨by simp [hc], .inl ?_⟩
  simp [hc]

theorem keepR_ok (hR : Rel D B0 w0 E st act w) : ∀ (rows : List (Nat × TypeId × Cont)) (n : Nat) (fs : List (Nat × AVal)) (hs : Hp) (us : List Nat), keepR st.f st.h n rows = some (fs, hs, us) →
    Rows E w B0 st.h (fun t => act.tmps.getD t undef) n rows fs hs us
  | [], n, fs, hs, us, h => by
    simp only [keepR] at h
    cases h
    exact ⟨fun t x h => by simp [assoc] at h, fun id b h => by simp [assoc] at h, fun id id' b b' u u' k h => by simp [assoc] at h, fun id u h => by simp [rowVal] at h⟩
  | (t, e, c0) :: rows, n, fs, hs, us, h => by
    simp only [keepR] at h
    split at h
    · cases h
    · rename_i fs1 hs1 us1 hkr
      have ih := keepR_ok hR rows (n + 1) _ _ _ hkr
      have htv := hR.tmps t
      -- one more
      have build : ∀ (u : Value) (c : Cont) (us2 : List Nat), act.tmps.getD t undef = u → (∃ xs, w.ownsRow B0 e c.size u c.len xs ∧ ∀ j x, xs[j]? = some x → x.oneCell' = true ∧ cellC E.S w c j x) → Slf u →
          (∀ id0, id0 ∈ us1 → id0 ∈ us2) → (∀ k, vBlock u = some k → ¬ E.S k ∧ ∃ id0, id0 ∈ us2 ∧ id0 ∉ us1 ∧ ∃ b0, hlook st.h id0 = some b0 ∧ b0.frz = false ∧ E.ρ id0 = some u) →
          Rows E w B0 st.h (fun t => act.tmps.getD t undef) n ((t, e, c0) :: rows) ((t, .own n) :: fs1) ((n, some ⟨.row e c, false⟩) :: hs1) us2 := by
        intro u c us2 hu hrow hform hsub hor
        have rv : rowVal (fun t => act.tmps.getD t undef) n ((t, e, c0) :: rows) n = some u := by simp [rowVal, hu]
        have rv' : ∀ id, id ≠ n → rowVal (fun t => act.tmps.getD t undef) n ((t, e, c0) :: rows) id = rowVal (fun t => act.tmps.getD t undef) (n + 1) rows id := by
          intro id hid
          simp only [rowVal]
          cases hb : Nat.beq n id with
          | true => exact absurd (Nat.eq_of_beq_eq_true hb).symm hid
          | false => rfl
        have as' : ∀ id b, assoc ((n, some ⟨.row e c, false⟩) :: hs1) id = some b → (id = n ∧ b = some ⟨.row e c, false⟩) ∨ (id ≠ n ∧ assoc hs1 id = some b) := by
          intro id b hb
          simp only [assoc] at hb
          cases hq : Nat.beq n id with
          | true => rw [hq] at hb; cases hb; exact .inl ⟨(Nat.eq_of_beq_eq_true hq).symm, rfl⟩
          | false => rw [hq] at hb; exact .inr ⟨fun he => Nat.ne_of_beq_eq_false hq he.symm, hb⟩
        refine ⟨fun t' x hx => ?_, fun id b hb => ?_, fun id id' b b' v v' k hb hb' hne hv hv' hk hk' => ?_, fun id v hv => ?_⟩
        · simp only [assoc] at hx
          cases hq : Nat.beq t t' with
          | true =>
            rw [hq] at hx
            cases hx
            have := Nat.eq_of_beq_eq_true hq
            subst this
            exact ⟨n, rfl, by rw [rv, hu]⟩
          | false =>
            rw [hq] at hx
            obtain ⟨id, h1, h2⟩ := ih.slots t' x hx
            have := (rowVal_bnd _ _ _ _ h2).1
            exact ⟨id, h1, by rw [rv' id (by omega)]; exact h2⟩
        · rcases as' id b hb with ⟨rfl, rfl⟩ | ⟨hid, hb⟩
          · exact ⟨e, c, u, rfl, Nat.le_refl _, rv, hrow, fun k hk => by
              obtain ⟨h1, id0, h2, _, h3⟩ := hor k hk
              exact ⟨h1, id0, h2, h3⟩⟩
          · obtain ⟨e1, c1, u1, h1, h2, h3, h4, h5⟩ := ih.blks id b hb
            exact ⟨e1, c1, u1, h1, by omega, by rw [rv' id hid]; exact h3, h4, fun k hk => by
              obtain ⟨h6, id0, h7, h8⟩ := h5 k hk
              exact ⟨h6, id0, hsub _ h7, h8⟩⟩
        · have key : ∀ j b v' k, j ≠ n → assoc hs1 j = some b → rowVal (fun t => act.tmps.getD t undef) (n + 1) rows j = some v' → vBlock u = some k → vBlock v' ≠ some k := by
            intro j b v' k hj hb hv' hk hk'
            obtain ⟨e1, c1, u1, h1, h2, h3, h4, h5⟩ := ih.blks j b hb
            rw [hv'] at h3
            cases h3
            obtain ⟨_, id1, g1, b1, g2, g3, g4⟩ := h5 k hk'
            obtain ⟨_, id0, f1, f2, b0, f3, f4, f5⟩ := hor k hk
            exact hR.apart id0 id1 b0 b1 u v' k f3 f4 g2 g3 (by rintro rfl; exact f2 g1) f5 g4 hk hk'
          rcases as' id b hb with ⟨rfl, rfl⟩ | ⟨hid, hb1⟩
          · rcases as' id' b' hb' with ⟨rfl, rfl⟩ | ⟨hid', hb1'⟩
            · exact hne rfl
            · rw [rv] at hv
              cases hv
              rw [rv' id' hid'] at hv'
              exact key id' b' v' k hid' hb1' hv' hk hk'
          · rw [rv' id hid] at hv
            rcases as' id' b' hb' with ⟨rfl, rfl⟩ | ⟨hid', hb1'⟩
            · rw [rv] at hv'
              cases hv'
              exact key id b v k hid hb1 hv hk' hk
            · rw [rv' id' hid'] at hv'
              exact ih.apart id id' b b' v v' k hb1 hb1' hne hv hv' hk hk'
        · by_cases hid : id = n
          · subst hid
            rw [rv] at hv
            cases hv
            exact hform
          · rw [rv' id hid] at hv
            exact ih.form id v hv
      split at h
      · rename_i id0 hlk
        split at h
        · rename_i e' c hb
          cases hq : Nat.beq e e' && !memN id0 us1 with
          | false => rw [hq] at h; cases h
          | true =>
            rw [hq] at h
            cases h
            simp only [Bool.and_eq_true, Bool.not_eq_true'] at hq
            have := Nat.eq_of_beq_eq_true hq.1
            subst this
            rw [hlk] at htv
            simp only [RelV] at htv
            obtain ⟨u, hu, hrow, hns, _⟩ := hR.heap _ _ hb
            rw [htv] at hu
            refine build _ c (id0 :: us1) rfl (by cases hu; exact hrow) (hR.form _ _ htv) (fun _ h => List.mem_cons_of_mem _ h) (fun k hk => ⟨by cases hu; exact hns rfl k hk, id0, List.mem_cons_self .., ?_, _, hb, rfl, htv⟩)
            intro hm
            rw [memN_true.2 hm] at hq
            cases hq.2
        · cases h
      · rename_i hlk
        cases hq : Nat.beq c0.len 0 with
        | false => rw [hq] at h; cases h
        | true =>
          rw [hq] at h
          cases h
          have hc0 := Nat.eq_of_beq_eq_true hq
          rw [hlk] at htv
          simp only [RelV] at htv
          exact build _ c0 _ htv ⟨[], ownsRow_nil hc0, fun j x h => by simp at h⟩ (.inl ⟨_, _, _, rfl⟩) (fun _ h => h) (fun k hk => by simp [vBlock] at hk)
      · cases h

theorem keepF_ok {f : List (Nat × AVal)} {n : Nat} : ∀ (ts : List Nat) (l : List (Nat × AVal)), keepF f n ts = some l → ∀ t x, assoc l t = some x → x = look f t ∧ bnd n x = true
  | [], l, h, t, x, hx => by simp only [keepF] at h; cases h; simp [assoc] at hx
  | a :: ts, l, h, t, x, hx => by
    simp only [keepF] at h
    cases hb : bnd n (look f a) with
    | false => rw [hb] at h; cases h
    | true =>
      rw [hb] at h
      simp only [cond_true] at h
      split at h
      · rename_i l' hl'
        cases h
        simp only [assoc] at hx
        cases hq : Nat.beq a t with
        | true =>
          rw [hq] at hx
          cases hx
          have := Nat.eq_of_beq_eq_true hq
          subst this
          exact ⟨rfl, hb⟩
        | false => rw [hq] at hx; exact keepF_ok ts l' hl' t x hx
      · cases h

theorem keepH_ok {h : Hp} {n : Nat} {us : List Nat} : ∀ (ids : List Nat) (l : Hp), keepH h n us ids = some l → ∀ id b, assoc l id = some (some b) → hlook h id = some b ∧ id ∉ us ∧ bndB n b.b = true ∧ id < n
  | [], l, hk, id, b, hx => by simp only [keepH] at hk; cases hk; simp [assoc] at hx
  | a :: ids, l, hk, id, b, hx => by
    simp only [keepH] at hk
    split at hk
    · cases hk
    · rename_i l' hl'
      have ih := keepH_ok ids l' hl' id b
      cases hm : memN a us with
      | true =>
        rw [hm] at hk
        cases hk
        simp only [assoc] at hx
        cases hq : Nat.beq a id with
        | true => rw [hq] at hx; cases hx
        | false => rw [hq] at hx; exact ih hx
      | false =>
        rw [hm] at hk
        simp only [cond_false] at hk
        split at hk
        · cases hk
          simp only [assoc] at hx
          cases hq : Nat.beq a id with
          | true => rw [hq] at hx; cases hx
          | false => rw [hq] at hx; exact ih hx
        · rename_i b1 hb1
          cases hq2 : bndB n b1.b && Nat.blt a n with
          | false => rw [hq2] at hk; cases hk
          | true =>
            rw [hq2] at hk
            cases hk
            simp only [assoc] at hx
            cases hq : Nat.beq a id with
            | true =>
              rw [hq] at hx
              cases hx
              have := Nat.eq_of_beq_eq_true hq
              subst this
              simp only [Bool.and_eq_true] at hq2
              exact ⟨hb1, (fun hm' => by rw [memN_true.2 hm'] at hm; cases hm), hq2.1, by simpa using hq2.2⟩
            | false => rw [hq] at hx; exact ih hx

theorem keepR_len {f : List (Nat × AVal)} {h : Hp} : ∀ (rows : List (Nat × TypeId × Cont)) (n : Nat) (fs : List (Nat × AVal)) (hs : Hp) (us : List Nat), keepR f h n rows = some (fs, hs, us) → hs.length = rows.length
  | [], n, fs, hs, us, hk => by simp only [keepR] at hk; cases hk; rfl
  | (t, e, c0) :: rows, n, fs, hs, us, hk => by
    simp only [keepR] at hk
    split at hk
    · cases hk
    · rename_i fs1 hs1 us1 h1
      have ih := keepR_len rows _ _ _ _ h1
      split at hk
      · split at hk
        · cases hq : Nat.beq e _ && !memN _ us1 with
          | false => rw [hq] at hk; cases hk
          | true => rw [hq] at hk; cases hk; simp [ih]
        · cases hk
      · cases hq : Nat.beq c0.len 0 with
        | false => rw [hq] at hk; cases hk
        | true => rw [hq] at hk; cases hk; simp [ih]
      · cases hk
theorem keepH_keys {h : Hp} {n : Nat} {us : List Nat} : ∀ (ids : List Nat) (l : Hp), keepH h n us ids = some l → keysOf l = ids
  | [], l, hk => by simp only [keepH] at hk; cases hk; rfl
  | a :: ids, l, hk => by
    simp only [keepH] at hk
    split at hk
    · cases hk
    · rename_i l' hl'
      have ih := keepH_keys ids l' hl'
      cases hm : memN a us with
      | true => rw [hm] at hk; cases hk; simp [keysOf, ih]
      | false =>
        rw [hm] at hk
        simp only [cond_false] at hk
        split at hk
        · cases hk; simp [keysOf, ih]
        · rename_i b1 hb1
          cases hq2 : bndB n b1.b && Nat.blt a n with
          | false => rw [hq2] at hk; cases hk
          | true => rw [hq2] at hk; cases hk; simp [keysOf, ih]
theorem dropN_lcat {α : Type} : ∀ (l r : List α), dropN l.length (lcat l r) = r
  | [], r => by cases r <;> rfl
  | a :: l, r => by simp only [List.length_cons, lcat, dropN]; exact dropN_lcat l r
/-- what a head tells of the loop's beginning -/
theorem norm_back {h : Hint} {n : Nat} {ids : List Nat} {st st1 : ASt} (hn : norm h n ids st = some st1) : st1.n - h.rows.length = n ∧ keysOf (dropN h.rows.length st1.h) = ids := by
  unfold norm at hn
  split at hn
  · cases hn
  · rename_i fs hs us hk
    split at hn
    · rename_i f hh hf hhh
      cases hn
      refine ⟨by simp, ?_⟩
      simp only
      rw [← keepR_len _ _ _ _ _ hk, dropN_lcat]
      exact keepH_keys _ _ hhh
    · cases hn

/-- A LOOP's HEAD. -/
theorem norm_ok (hG2 : GlobsPlain D) {h : Hint} {n : Nat} {ids : List Nat} {st1 : ASt} (hn : norm h n ids st = some st1) :
    st1.m = st.m ∧ n ≤ st1.n ∧ ∀ (B0 : Nat) (w0 : W0) E act w, Rel D B0 w0 E st act w → ∃ E', E'.S = E.S ∧ (∀ id, id < n → E'.ρ id = E.ρ id) ∧ Rel D B0 w0 E' st1 act w ∧ Dom E' st1.n := by
  unfold norm at hn
  split at hn
  · cases hn
  · rename_i fs hs us hk
    split at hn
    · rename_i f hh hf hhh
      cases hn
      refine ⟨rfl, by simp, fun B0 w0 E act w hR => ?_⟩
      have hrows := keepR_ok hR _ _ _ _ _ hk
      have hfs := keepF_ok _ _ hf
      have hhs := keepH_ok _ _ hhh
      let E' : Env := ⟨E.S, fun id => if id < n then E.ρ id else rowVal (fun t => act.tmps.getD t undef) n h.rows id⟩
      have hlow : ∀ id, id < n → E'.ρ id = E.ρ id := fun id hid => by simp only [E', if_pos hid]
      have hhigh : ∀ id u, rowVal (fun t => act.tmps.getD t undef) n h.rows id = some u → E'.ρ id = some u := fun id u hu => by
        have := (rowVal_bnd _ _ _ _ hu).1
        simp only [E', if_neg (show ¬ id < n by omega)]
        exact hu
      have hheap : ∀ id b, hlook (lcat hs hh) id = some b → (∃ u, assoc hs id = some (some b) ∧ n ≤ id ∧ rowVal (fun t => act.tmps.getD t undef) n h.rows id = some u) ∨ (id < n ∧ hlook st.h id = some b ∧ id ∉ us ∧ bndB n b.b = true) := by
        intro id b hb
        rw [hlook_lcat] at hb
        split at hb
        · rename_i b' hb'
          subst hb
          obtain ⟨e, c, u, h1, h2, h3, _⟩ := hrows.blks id _ hb'
          exact .inl ⟨u, hb', h2, h3⟩
        · rw [hlook_assoc] at hb
          obtain ⟨h1, h2, h3, h4⟩ := hhs id b hb
          exact .inr ⟨h4, h1, h2, h3⟩
      refine ⟨E', rfl, hlow, ?_, fun id u hu => ?_⟩
      · refine ⟨hR.below, hR.base, hR.size, hR.defers, fun t => ?_, fun id b hb => ?_, fun id id' b b' u u' k hb hfr hb' hfr' hne hu hu' hk1 hk2 => ?_, hR.sOld, hR.sNew, fun id u hu => ?_, fun g l hg => ?_⟩
        · show RelV E' w (look (lcat fs f) t) _
          rw [look_lcat]
          split
          · rename_i x hx
            obtain ⟨id, rfl, hv⟩ := hrows.slots t x hx
            simp only [RelV]
            exact hhigh id _ hv
          · rw [look_assoc]
            split
            · rename_i x hx
              obtain ⟨rfl, hb⟩ := hfs t x hx
              exact relV_bnd (E := E) (E' := E') rfl hlow _ _ hb (hR.tmps t)
            · simp only [RelV]
        · rcases hheap id b hb with ⟨u, h1, h2, h3⟩ | ⟨h1, h2, h3, h4⟩
          · obtain ⟨e, c, u', g1, g2, g3, g4, g5⟩ := hrows.blks id _ h1
            cases g1
            rw [h3] at g3
            cases g3
            exact ⟨u, hhigh id u h3, g4, fun _ k hk => (g5 k hk).1, fun hf => by cases hf⟩
          · obtain ⟨u, hu, hbb, hf1, hf2⟩ := hR.heap id b h2
            refine ⟨u, by rw [hlow id h1]; exact hu, ?_, hf1, hf2⟩
            cases hbk : b.b with
            | row e c => rw [hbk] at hbb; exact hbb
            | box e l =>
              rw [hbk] at hbb h4
              obtain ⟨k, cs, g1, g2, g3, g4⟩ := hbb
              exact ⟨k, cs, g1, g2, g3, relF_bnd (E := E) (E' := E') rfl hlow _ _ h4 g4⟩
        · rcases hheap id b hb with ⟨v, h1, h2, h3⟩ | ⟨h1, h2, h3, h4⟩
          · have e1 := hhigh id v h3
            rw [hu] at e1
            cases e1
            rcases hheap id' b' hb' with ⟨v', h1', h2', h3'⟩ | ⟨h1', h2', h3', h4'⟩
            · have e2 := hhigh id' v' h3'
              rw [hu'] at e2
              cases e2
              exact hrows.apart id id' _ _ u u' k h1 h1' hne h3 h3' hk1 hk2
            · rw [hlow id' h1'] at hu'
              obtain ⟨e, c, u2, g1, g2, g3, g4, g5⟩ := hrows.blks id _ h1
              rw [h3] at g3
              cases g3
              obtain ⟨_, id0, f1, b0, f2, f3, f4⟩ := g5 k hk1
              exact hR.apart id0 id' b0 b' u u' k f2 f3 h2' hfr' (by rintro rfl; exact h3' f1) f4 hu' hk1 hk2
          · rw [hlow id h1] at hu
            rcases hheap id' b' hb' with ⟨v', h1', h2', h3'⟩ | ⟨h1', h2', h3', h4'⟩
            · have e2 := hhigh id' v' h3'
              rw [hu'] at e2
              cases e2
              obtain ⟨e, c, u2, g1, g2, g3, g4, g5⟩ := hrows.blks id' _ h1'
              rw [h3'] at g3
              cases g3
              obtain ⟨_, id0, f1, b0, f2, f3, f4⟩ := g5 k hk2
              exact hR.apart id id0 b b0 u u' k h2 hfr f2 f3 (by rintro rfl; exact h3 f1) hu f4 hk1 hk2
            · rw [hlow id' h1'] at hu'
              exact hR.apart id id' b b' u u' k h2 hfr h2' hfr' hne hu hu' hk1 hk2
        · simp only [E'] at hu
          split at hu
          · exact hR.form id u hu
          · exact hrows.form id u hu
        · obtain ⟨h1, cs, e, fz, h2, h3⟩ := hR.globs g l hg
          exact ⟨h1, cs, e, fz, h2, hG2 g l hg E E' w _ h3 rfl⟩
      · simp only [E'] at hu
        split at hu
        · simp; omega
        · have := (rowVal_bnd _ _ _ _ hu).2
          simpa using this
    · cases hn
end
end Go.Abs
