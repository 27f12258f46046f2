import Derived.Test.YtmaoicbiekgmhaaAbsCall
namespace Go.Abs
open Go Go.RowKit
set_option linter.unusedVariables false
set_option linter.unusedSimpArgs false

/-- from the operands' values an effect, and the operation has it at each state with these operands -/
def CoreOk (D : Ctx) (o : Oper) (vs : List AVal) (hl : Nat → Option Blk) (n : Nat) (K : Eff → Option R) (r : R) : Prop :=
  ∃ eff, K eff = some r ∧ n ≤ eff.n ∧ ∀ (B0 : Nat) (w0 : W0) (st : ASt), evs st.f (opnds o.op) = vs → (∀ id b, hl id = some b → hlook st.h id = some b) → st.n = n → OpOk D B0 w0 st o eff

section
variable {D : Ctx} {B0 : Nat} {w0 : W0} {dst : Option Tmp} {type : TypeId} {pos : String} {after : Array Edge} {guard : Option (Nat × Bool)} {hl : Nat → Option Blk} {n : Nat} {K : Eff → Option R} {r : R}

theorem partA_some {g : Bool} {mid : List AVal} (h : partA g mid n K = some r) : ∃ a, K ⟨a, [], n⟩ = some r ∧ (if g then a = aggOf mid else mid = [a] ∧ ∀ k m l, a ≠ .arr k m l) := by
  unfold partA at h
  cases g with
  | true => exact ⟨_, h, by simp⟩
  | false =>
    simp only [cond_false] at h
    unfold oneA at h
    split at h
    · cases h
    · rename_i a ha
      exact ⟨a, h, by simp; exact fun k m l e => ha k m l (by rw [e])⟩
    · cases h

theorem placeOf_ok {x : AVal} {sz : Nat} {mid : List AVal} (h : placeOf D hl x sz = some mid) {st : ASt} (hm : ∀ id b, hl id = some b → hlook st.h id = some b)
    {E : Env} {act : Act} {w : World} (hR : Rel D B0 w0 E st act w) {u : Value} (hu : RelV E w x u) : Place E w u mid sz := by
  unfold placeOf at h
  split at h
  · split at h
    · rename_i l _ hs
      cases h
      obtain ⟨h1, h2⟩ := splitC_spec _ _ _ _ hs
      rw [lcat_eq, List.append_nil] at h1
      subst h1
      exact place_sta hu h2
    · cases h
  · split at h
    · rename_i hb
      split at h
      · rename_i hg
        cases h
        exact place_box (hR.heap _ _ (hm _ _ hb)) hg hu
      · cases h
    · cases h
  · split at h
    · rename_i hgl
      split at h
      · rename_i hg
        cases h
        exact place_glob (hR.globs _ _ hgl).2 hg hu
      · cases h
    · cases h
  · split at h
    · rename_i c _ hb
      cases hq : Nat.beq _ c.size && Nat.beq _ sz with
      | false => rw [hq] at h; cases h
      | true =>
        rw [hq] at h
        cases h
        simp only [Bool.and_eq_true] at hq
        have h1 := Nat.eq_of_beq_eq_true hq.1
        have h2 := Nat.eq_of_beq_eq_true hq.2
        subst h1
        subst h2
        exact place_pel (hR.heap _ _ (hm _ _ hb)) hu
    · cases h
  · split at h
    · rename_i hb
      split at h
      · rename_i hs
        cases hq : Nat.beq _ _ && Nat.beq sz 1 with
        | false => rw [hq] at h; cases h
        | true =>
          rw [hq] at h
          cases h
          simp only [Bool.and_eq_true] at hq
          have h1 := Nat.eq_of_beq_eq_true hq.1
          have h2 := Nat.eq_of_beq_eq_true hq.2
          subst h1
          subst h2
          exact place_apel (hR.heap _ _ (hm _ _ hb)) hs hu
      · cases h
    · cases h
  · split at h
    · rename_i hgl
      split at h
      · rename_i hs
        cases hq : Nat.beq _ _ && Nat.beq sz 1 with
        | false => rw [hq] at h; cases h
        | true =>
          rw [hq] at h
          cases h
          simp only [Bool.and_eq_true] at hq
          have h1 := Nat.eq_of_beq_eq_true hq.1
          have h2 := Nat.eq_of_beq_eq_true hq.2
          subst h1
          subst h2
          exact place_gel (hR.globs _ _ hgl).2 hs hu
      · cases h
    · cases h
  · cases h

theorem evs_two {f : List (Nat × AVal)} {x y : Operand} {X Y : AVal} (h : evs f [x, y] = [X, Y]) : ev f x = X ∧ ev f y = Y := by
  simp only [evs] at h
  cases h
  exact ⟨rfl, rfl⟩
theorem evs_one {f : List (Nat × AVal)} {x : Operand} {X : AVal} (h : evs f [x] = [X]) : ev f x = X := by
  simp only [evs] at h
  cases h
  rfl

theorem core_load {t : TypeId} {x : Operand} {X : AVal} (h : loadA D t X hl n K = some r) : CoreOk D ⟨dst, .load t x, type, pos, after, guard⟩ [X] hl n K r := by
  unfold loadA at h
  split at h
  · rename_i g sz hg hs
    split at h
    · rename_i mid hp
      obtain ⟨a, hK, ha⟩ := partA_some h
      refine ⟨_, hK, Nat.le_refl _, fun B0 w0 st hv hm hn => ?_⟩
      have hx := evs_one hv
      subst hn
      have hpl : ∀ E act w, Rel D B0 w0 E st act w → Place E w (act.eval x) mid sz := fun E act w hR => placeOf_ok hp hm hR (by rw [← hx]; exact hR.ev x)
      cases g with
      | true =>
        simp only [if_true] at ha
        subst ha
        exact ok_load_agg t x hg hs hpl
      | false =>
        simp only [if_false, Bool.false_eq_true] at ha
        obtain ⟨rfl, ha⟩ := ha
        exact ok_load_one t x hg hs ha hpl
    · cases h
  · cases h

theorem memN_false {x : Nat} : ∀ {l : List Nat}, memN x l = false → x ∉ l
  | [], _ => by simp
  | y :: r, h => by
    simp only [memN, Bool.or_eq_false_iff] at h
    intro hx
    rcases List.mem_cons.1 hx with rfl | hx
    · exact Nat.ne_of_beq_eq_false h.1 rfl
    · exact memN_false h.2 hx

theorem core_store {t : TypeId} {x y : Operand} {X Y : AVal} (h : storeA D t X Y hl n K = some r) : CoreOk D ⟨dst, .store t x y, type, pos, after, guard⟩ [X, Y] hl n K r := by
  unfold storeA at h
  split at h
  · rename_i sz hs
    split at h
    · split at h
      · rename_i id off _ _ e l p hb hp
        split at h
        · rename_i pre mid post p' hg hsp
          refine ⟨_, h, Nat.le_refl _, fun B0 w0 st hv hm hn => ?_⟩
          obtain ⟨hx, hy⟩ := evs_two hv
          subst hn
          obtain ⟨h1, h2⟩ := splitC_spec _ _ _ _ hsp
          rw [lcat_eq, List.append_nil] at h1
          subst h1
          exact ok_store_ptr hs x y hx (hm _ _ hb) (by rw [hy]; exact hp) hg h2
        · cases h
      · cases h
    · rename_i id s i
      split at h
      · rename_i e c hb
        cases hq : Nat.beq s 1 && Nat.beq sz 1 && !memN id (rowIds Y) with
        | false => rw [hq] at h; cases h
        | true =>
          rw [hq] at h
          simp only [cond_true] at h
          simp only [Bool.and_eq_true, Bool.not_eq_true'] at hq
          have h1 := Nat.eq_of_beq_eq_true hq.1.1
          have h2 := Nat.eq_of_beq_eq_true hq.1.2
          subst h1
          subst h2
          split at h
          · rename_i c' hc
            refine ⟨_, h, Nat.le_refl _, fun B0 w0 st hv hm hn => ?_⟩
            obtain ⟨hx, hy⟩ := evs_two hv
            subst hn
            subst hy
            exact ok_store_pel hs x y hx (hm _ _ hb) hm hc (memN_false hq.2)
          · cases h
      · cases h
    · rename_i id off m i
      split at h
      · rename_i e l k' a hb
        split at h
        · rename_i pre k m' z post hsp
          cases hq : Nat.beq m m' && Nat.beq sz 1 with
          | false => rw [hq] at h; cases h
          | true =>
            rw [hq] at h
            simp only [cond_true] at h
            simp only [Bool.and_eq_true] at hq
            have h1 := Nat.eq_of_beq_eq_true hq.1
            have h2 := Nat.eq_of_beq_eq_true hq.2
            subst h1
            subst h2
            have hk := (kOk_some h).1
            have hK := (kOk_some h).2
            subst hk
            refine ⟨_, hK, Nat.le_refl _, fun B0 w0 st hv hm hn => ?_⟩
            obtain ⟨hx, hy⟩ := evs_two hv
            subst hn
            exact ok_store_apel hs x y hx (hm _ _ hb) hy hsp
        · cases h
      · cases h
    · cases h
  · cases h

theorem core_fieldAddr {s : TypeId} {x : Operand} {f : Nat} {X : AVal} (h : fieldAddrA D s X f n K = some r) : CoreOk D ⟨dst, .fieldAddr s x f, type, pos, after, guard⟩ [X] hl n K r := by
  unfold fieldAddrA at h
  split at h
  · rename_i fs ht
    split at h
    · rename_i fd hf
      split at h
      · rename_i sz hs
        split at h
        · refine ⟨_, h, Nat.le_refl _, fun B0 w0 st hv hm hn => ?_⟩
          have hx := evs_one hv
          subst hn
          exact ok_field_ptr ht hf hs x hx
        · refine ⟨_, h, Nat.le_refl _, fun B0 w0 st hv hm hn => ?_⟩
          have hx := evs_one hv
          subst hn
          exact ok_field_glob ht hf hs x hx
        · split at h
          · rename_i hg
            refine ⟨_, h, Nat.le_refl _, fun B0 w0 st hv hm hn => ?_⟩
            have hx := evs_one hv
            subst hn
            exact ok_field_sta ht hf hs x hx hg
          · cases h
        · cases h
      · cases h
    · cases h
  · cases h

theorem core_field {s : TypeId} {x : Operand} {f : Nat} {l : List AVal} (h : fieldA D s l f n K = some r) : CoreOk D ⟨dst, .field s x f, type, pos, after, guard⟩ [.agg l] hl n K r := by
  unfold fieldA at h
  split at h
  · rename_i fs ht
    split at h
    · rename_i fd hf
      split at h
      · rename_i g sz hg hs
        split at h
        · rename_i pre mid post hgc
          obtain ⟨a, hK, ha⟩ := partA_some h
          refine ⟨_, hK, Nat.le_refl _, fun B0 w0 st hv hm hn => ?_⟩
          have hx := evs_one hv
          subst hn
          exact ok_field ht hf hg hs x hx hgc ha
        · cases h
      · cases h
    · cases h
  · cases h

theorem within_some {i : Int} {len : Nat} {x : Option R} (h : within i len x = some r) : 0 ≤ i ∧ i < (len : Int) ∧ x = some r := by
  unfold within at h
  rcases br_some h with ⟨h1, h⟩ | ⟨_, h⟩
  · rcases br_some h with ⟨h2, h⟩ | ⟨_, h⟩
    · exact ⟨of_decide_eq_true h1, of_decide_eq_true h2, h⟩
    · cases h
  · cases h
theorem placeA_some {i : Int} {K : Nat → Option R} : ∀ (m j : Nat), placeA i m j K = some r → ∃ q : Nat, i = (q : Int) ∧ j ≤ q ∧ q < j + m ∧ K q = some r
  | 0, j, h => by simp [placeA] at h
  | m + 1, j, h => by
    simp only [placeA] at h
    rcases br_some h with ⟨h1, h⟩ | ⟨_, h⟩
    · exact ⟨j, of_decide_eq_true h1, Nat.le_refl _, by omega, h⟩
    · obtain ⟨q, g1, g2, g3, g4⟩ := placeA_some m (j + 1) h
      exact ⟨q, g1, by omega, by omega, g4⟩

theorem core_indexAddr {t : TypeId} {x i : Operand} {X : AVal} {k : IntKind} {z : Int} (h : indexAddrA D t X z hl n K = some r) : CoreOk D ⟨dst, .indexAddr t x i, type, pos, after, guard⟩ [X, .v (.int k z)] hl n K r := by
  unfold indexAddrA at h
  split at h
  · rename_i e ht
    split at h
    · rename_i sz hs
      unfold indexSlA at h
      split at h
      · rename_i c
        cases hq : Nat.beq c.size sz with
        | false => rw [hq] at h; cases h
        | true =>
          rw [hq] at h
          obtain ⟨h0, h1, hK⟩ := within_some h
          refine ⟨_, hK, Nat.le_refl _, fun B0 w0 st hv hm hn => ?_⟩
          obtain ⟨hx, hi⟩ := evs_two hv
          subst hn
          exact ok_index_sl ht hs x i hx (Nat.eq_of_beq_eq_true hq) hi h0 h1
      · rename_i id
        split at h
        · rename_i hb
          obtain ⟨h0, h1, hK⟩ := within_some h
          refine ⟨_, hK, Nat.le_refl _, fun B0 w0 st hv hm hn => ?_⟩
          obtain ⟨hx, hi⟩ := evs_two hv
          subst hn
          exact ok_index_own ht hs x i hx (hm _ _ hb) hi h0 h1
        · cases h
      · rename_i id off len
        split at h
        · rename_i hb
          cases hq : Nat.beq sz 1 with
          | false => rw [hq] at h; cases h
          | true =>
            rw [hq] at h
            have := Nat.eq_of_beq_eq_true hq
            subst this
            obtain ⟨h0, h1, hK⟩ := within_some h
            refine ⟨_, hK, Nat.le_refl _, fun B0 w0 st hv hm hn => ?_⟩
            obtain ⟨hx, hi⟩ := evs_two hv
            subst hn
            exact ok_index_win ht hs x i hx hi h0 h1 (hm _ _ hb)
        · cases h
      · rename_i id off m lo len
        cases hq : Nat.beq sz 1 with
        | false => rw [hq] at h; cases h
        | true =>
          rw [hq] at h
          have := Nat.eq_of_beq_eq_true hq
          subst this
          obtain ⟨h0, h1, hK⟩ := within_some h
          refine ⟨_, hK, Nat.le_refl _, fun B0 w0 st hv hm hn => ?_⟩
          obtain ⟨hx, hi⟩ := evs_two hv
          subst hn
          exact ok_index_awin ht hs x i hx hi h0 h1
      · cases h
    · cases h
  · rename_i m e ht
    split at h
    · rename_i sz hs
      unfold indexArA at h
      split at h
      · rename_i id off
        split at h
        · rename_i hb
          split at h
          · rename_i hsp
            cases hq : Nat.beq m _ && Nat.beq sz 1 with
            | false => rw [hq] at h; cases h
            | true =>
              rw [hq] at h
              simp only [Bool.and_eq_true] at hq
              have h2 := Nat.eq_of_beq_eq_true hq.2
              subst h2
              obtain ⟨h0, h1, hK⟩ := within_some h
              refine ⟨_, hK, Nat.le_refl _, fun B0 w0 st hv hm hn => ?_⟩
              obtain ⟨hx, hi⟩ := evs_two hv
              subst hn
              exact ok_index_ptr_arr ht hs x i hx hi h0 h1
          · obtain ⟨q, g1, g2, g3, hK⟩ := placeA_some m 0 h
            refine ⟨_, hK, Nat.le_refl _, fun B0 w0 st hv hm hn => ?_⟩
            obtain ⟨hx, hi⟩ := evs_two hv
            subst hn
            exact ok_index_ptr ht hs x i hx hi q g1 (by omega)
          · cases h
        · cases h
      · rename_i g off
        split at h
        · rename_i hb
          split at h
          · rename_i hsp
            cases hq : Nat.beq m _ && Nat.beq sz 1 with
            | false => rw [hq] at h; cases h
            | true =>
              rw [hq] at h
              simp only [Bool.and_eq_true] at hq
              have h2 := Nat.eq_of_beq_eq_true hq.2
              subst h2
              obtain ⟨h0, h1, hK⟩ := within_some h
              refine ⟨_, hK, Nat.le_refl _, fun B0 w0 st hv hm hn => ?_⟩
              obtain ⟨hx, hi⟩ := evs_two hv
              subst hn
              exact ok_index_glob_arr ht hs x i hx hi h0 h1
          · obtain ⟨q, g1, g2, g3, hK⟩ := placeA_some m 0 h
            refine ⟨_, hK, Nat.le_refl _, fun B0 w0 st hv hm hn => ?_⟩
            obtain ⟨hx, hi⟩ := evs_two hv
            subst hn
            exact ok_index_glob ht hs x i hx hi q g1 (by omega)
          · cases h
        · cases h
      · cases h
    · cases h
  · cases h

theorem core_index {t : TypeId} {x i : Operand} {X : AVal} {k : IntKind} {z : Int} (h : indexA D t X z n K = some r) : CoreOk D ⟨dst, .index t x i, type, pos, after, guard⟩ [X, .v (.int k z)] hl n K r := by
  unfold indexA at h
  split at h
  · rename_i m e ht
    split at h
    · rename_i sz g hs hg
      split at h
      · rename_i k' m' l
        cases hq : Nat.beq m m' && Nat.beq sz 1 && !g with
        | false => rw [hq] at h; cases h
        | true =>
          rw [hq] at h
          simp only [Bool.and_eq_true, Bool.not_eq_true'] at hq
          have h1 := Nat.eq_of_beq_eq_true hq.1.1
          have h2 := Nat.eq_of_beq_eq_true hq.1.2
          have h3 := hq.2
          subst h1
          subst h2
          subst h3
          obtain ⟨h0, h1, hK⟩ := within_some h
          refine ⟨_, hK, Nat.le_refl _, fun B0 w0 st hv hm hn => ?_⟩
          obtain ⟨hx, hi⟩ := evs_two hv
          subst hn
          exact ok_index_arr ht hs hg x i hx hi h0 h1
      · rename_i l
        obtain ⟨q, g1, g2, g3, h⟩ := placeA_some m 0 h
        split at h
        · rename_i hgc
          obtain ⟨a, hK, ha⟩ := partA_some h
          refine ⟨_, hK, Nat.le_refl _, fun B0 w0 st hv hm hn => ?_⟩
          obtain ⟨hx, hi⟩ := evs_two hv
          subst hn
          exact ok_index_agg ht hs hg x i hx hi q g1 (by omega) hgc ha
        · cases h
      · cases h
    · cases h
  · cases h

theorem core_makeSlice {t : TypeId} {x y : Operand} {k k' : IntKind} {l c : Int} (h : makeSliceA D t l c n K = some r) : CoreOk D ⟨dst, .makeSlice t x y, type, pos, after, guard⟩ [.v (.int k l), .v (.int k' c)] hl n K r := by
  unfold makeSliceA at h
  split at h
  · rename_i e ht
    split at h
    · rename_i by_ hb
      split at h
      · rename_i ct hct
        rcases br_some h with ⟨h1, h⟩ | ⟨_, h⟩
        · rcases br_some h with ⟨h2, h⟩ | ⟨_, h⟩
          · rcases br_some h with ⟨h3, h⟩ | ⟨_, h⟩
            · refine ⟨_, h, by simp, fun B0 w0 st hv hm hn => ?_⟩
              obtain ⟨hx, hy⟩ := evs_two hv
              subst hn
              exact ok_makeSlice ht hb x y hx hy (of_decide_eq_true h1) (of_decide_eq_true h2) (of_decide_eq_true h3) hct
            · cases h
          · cases h
        · cases h
      · cases h
    · cases h
  · cases h

theorem core_buildSlice {t : TypeId} {len : Nat} {ps : Array (Nat × Operand)} {vs : List AVal} (h : buildSliceA D t len ps vs hl n K = some r) : CoreOk D ⟨dst, .buildSlice t len ps, type, pos, after, guard⟩ vs hl n K r := by
  unfold buildSliceA at h
  split at h
  · rename_i e ht
    cases hq : inOrder 0 ps.toList && Nat.beq len ps.size && Nat.ble len 16777216 && elemOk D.P e with
    | false => rw [hq] at h; cases h
    | true =>
      rw [hq] at h
      simp only [cond_true] at h
      simp only [Bool.and_eq_true] at hq
      have h2 := Nat.eq_of_beq_eq_true hq.1.1.2
      subst h2
      split at h
      · rename_i c hc
        refine ⟨_, h, by simp, fun B0 w0 st hv hm hn => ?_⟩
        simp only [opnds] at hv
        subst hn
        subst hv
        exact ok_buildSlice ht ps hq.1.1.1 (Nat.le_of_ble_eq_true hq.1.2) hq.2 hm hc
      · cases h
  · cases h

theorem core_append {t : TypeId} {s x : Operand} {S X : AVal} (h : appendA D t S X hl n K = some r) : CoreOk D ⟨dst, .call ⟨.builtin .append, #[s, x], #[t, t]⟩, type, pos, after, guard⟩ [S, X] hl n K r := by
  unfold appendA at h
  split at h
  · rename_i e ht
    split at h
    · rename_i i hi
      cases hq : Nat.blt 0 i.size && Nat.blt 0 i.bytes && zeroFits i with
      | false => rw [hq] at h; cases h
      | true =>
        rw [hq] at h
        simp only [cond_true] at h
        simp only [Bool.and_eq_true] at hq
        have hsz : 0 < i.size := Nat.le_of_ble_eq_true hq.1.1
        have hby : 0 < i.bytes := Nat.le_of_ble_eq_true hq.1.2
        obtain ⟨z, hz, hzs⟩ : ∃ z, i.zero = some z ∧ z.cells.size = i.size := by
          have hq2 := hq.2
          unfold zeroFits at hq2
          cases hz : i.zero with
          | none => rw [hz] at hq2; cases hq2
          | some z => rw [hz] at hq2; exact ⟨z, rfl, Nat.eq_of_beq_eq_true hq2⟩
        -- to an own row
        have own : ∀ (S : AVal) (id : Nat) (e' : TypeId) (c : Cont) (m : Nat), hl id = some ⟨.row e' c, false⟩ → (Nat.beq e e') = true → (S = .own id ∧ m = c.len ∨ S = .win id 0 m) → ∀ (cd cx c' : Cont),
            cd.len = m → cd.size = c.size → (∀ S' w j x, j < m * c.size → cellC S' w c j x → cellC S' w cd j x) → contA hl X = some cx → cd.app cx = some c' → cd.size = i.size → (cd.len + cx.len) * i.bytes ≤ limit → K ⟨.own n, (n, some ⟨.row e c', false⟩) :: [(id, none)], n + 1⟩ = some r →
            CoreOk D ⟨dst, .call ⟨.builtin .append, #[s, x], #[t, t]⟩, type, pos, after, guard⟩ [S, X] hl n K r := by
          intro S id e' c m hb he hS cd cx c' hcl hcs hcell hx happ hsize hlim hK
          have he' := Nat.eq_of_beq_eq_true he
          subst he'
          obtain ⟨a1, a2, a3, a4, a5⟩ := Cont.app_spec happ
          refine ⟨_, hK, by simp, fun B0 w0 st hv hm hn => ?_⟩
          obtain ⟨hs', hx'⟩ := evs_two (x := s) (y := x) hv
          subst hn
          refine ok_append ht hi hz hzs hsz hby hm s x (by rw [hx']; exact hx) (by rw [a3, hsize]) (n := m) (dead := fun d => d = id) (by rw [hcl] at hlim; exact hlim) (by rw [a1, hcl]) (by rw [a2, hsize]) (fun j b hj hb2 => ?_) (fun E act w hR => ?_)
          · simp only [lcat] at hb2
            by_cases hji : j = id
            · subst hji; rw [hlook_cons_eq] at hb2; cases hb2
            · rw [hlook_cons_ne hji] at hb2; exact ⟨hb2, hji⟩
          · have hv := hR.ev s
            rw [hs'] at hv
            obtain ⟨v, hρ, ⟨xs, ho, hxs⟩, _⟩ := hR.heap _ _ (hm _ _ hb)
            have hsz2 : c.size = i.size := by rw [← hcs, hsize]
            rw [hsz2] at ho hcell
            have fin : ∀ (u : Value) (xs' : List Value), act.eval s = u → w.ownsRow B0 e i.size u m xs' → (∀ j y, xs'[j]? = some y → xs[j]? = some y ∧ j < m * i.size) → (∀ k, vBlock u = some k → vBlock v = some k) →
                ∃ xs, w.ownsRow B0 e i.size (act.eval s) m xs ∧ (∀ j y, xs[j]? = some y → y.oneCell' = true ∧ cellC E.S w c' j y) ∧ (∀ j y, cellC E.S w cx j y → cellC E.S w c' (m * i.size + j) y) ∧ (∀ k, vBlock (act.eval s) = some k → Owned E st.h (fun d => d = id) k) := by
              intro u xs' hu ho' hsub hvb
              refine ⟨xs', by rw [hu]; exact ho', fun j y hj => ?_, fun j y hy => ?_, fun k hk => ⟨id, _, v, rfl, hm _ _ hb, rfl, hρ, hvb k (by rw [← hu]; exact hk)⟩⟩
              · obtain ⟨h1, h2⟩ := hsub j y hj
                obtain ⟨g1, g2⟩ := hxs j y h1
                refine ⟨g1, (a5 E.S w).1 j y ?_ (hcell _ _ _ _ h2 g2)⟩
                rw [hcl]
                rw [hsize] at a4
                rw [a4, Nat.mul_one] at h2
                exact h2
              · have := (a5 E.S w).2 j y hy
                rw [hcl] at this
                rw [hsize] at a4
                rw [a4, Nat.mul_one]
                exact this
            rcases hS with ⟨rfl, rfl⟩ | rfl
            · simp only [RelV] at hv
              rw [hρ] at hv
              cases hv
              exact fin _ xs rfl ho (fun j y hj => ⟨hj, by have := (List.getElem?_eq_some_iff.1 hj).1; rw [ho.1] at this; exact this⟩) (fun k hk => hk)
            · simp only [RelV] at hv
              obtain ⟨A, q, cap, hρ', hle, A', _, hA', hu⟩ := hv
              rw [hρ] at hρ'
              cases hρ'
              rw [show A' = A from hA' trivial, Nat.sub_zero] at hu
              have hq : q = c.len := by
                rcases (show _ from ho.2) with ⟨h1, h2⟩ | ⟨g, cap', cur, h1, _⟩
                · cases h1; exact h2.symm
                · cases h1; rfl
              rw [← hq] at ho
              have ho' := ownsRow_prefix (m := m) ho rfl (by omega)
              exact fin _ _ hu ho' (fun j y hj => by
                have hlt := (List.getElem?_eq_some_iff.1 hj).1
                rw [ho'.1] at hlt
                rw [List.getElem?_take, if_pos hlt] at hj
                exact ⟨hj, hlt⟩) (fun k hk => by cases A <;> exact hk)
        split at h
        · -- a row, or a row's beginning
          rename_i c dead cx hold hx
          split at h
          · rename_i c' happ
            cases hs1 : Nat.beq c.size i.size with
            | false => rw [hs1] at h; cases h
            | true =>
              rw [hs1] at h
              have hs1 := Nat.eq_of_beq_eq_true hs1
              rcases br_some h with ⟨h1, hK⟩ | ⟨_, h⟩
              · have hlim := of_decide_eq_true h1
                unfold oldA at hold
                split at hold
                · cases hold
                · rename_i id
                  split at hold
                  · rename_i e' c0 hb
                    cases hq2 : Nat.beq e e' with
                    | false => rw [hq2] at hold; cases hold
                    | true =>
                      rw [hq2] at hold
                      cases hold
                      exact own _ id e' c c.len hb hq2 (.inl ⟨rfl, rfl⟩) c cx c' rfl rfl (fun _ _ _ _ _ h => h) hx happ hs1 hlim hK
                  · cases hold
                · rename_i id len
                  split at hold
                  · rename_i e' c0 hb
                    cases hq2 : Nat.beq e e' with
                    | false => rw [hq2] at hold; cases hold
                    | true =>
                      rw [hq2] at hold
                      cases hold
                      by_cases hlen : len ≤ c0.len
                      · obtain ⟨t1, t2, t3⟩ := Cont.take_spec hlen
                        exact own _ id e' c0 len hb hq2 (.inr rfl) (c0.take len) cx c' t1 t2 t3 hx happ hs1 hlim hK
                      · -- no such state
                        refine ⟨_, hK, by simp, fun B0 w0 st hv hm hn => ?_⟩
                        obtain ⟨hs', hx'⟩ := evs_two (x := s) (y := x) hv
                        intro E act w hR
                        exfalso
                        have hv := hR.ev s
                        rw [hs'] at hv
                        simp only [RelV] at hv
                        obtain ⟨A, q, cap, hρ', hle, _⟩ := hv
                        obtain ⟨v, hρ, ⟨xs, ho, hxs⟩, _⟩ := hR.heap _ _ (hm _ _ hb)
                        rw [hρ] at hρ'
                        cases hρ'
                        rcases ho.2 with ⟨h1, h2⟩ | ⟨g, cap', cur, h1, _⟩
                        · cases h1; omega
                        · cases h1; omega
                  · cases hold
                · cases hold
              · cases h
          · cases h
        · -- nil
          rename_i dead cx hold hx
          cases hs1 : Nat.beq cx.size i.size with
          | false => rw [hs1] at h; cases h
          | true =>
            rw [hs1] at h
            have hs1 := Nat.eq_of_beq_eq_true hs1
            rcases br_some h with ⟨h1, hK⟩ | ⟨_, h⟩
            · have hlim := of_decide_eq_true h1
              unfold oldA at hold
              split at hold
              · cases hold
                refine ⟨_, hK, by simp, fun B0 w0 st hv hm hn => ?_⟩
                obtain ⟨hs', hx'⟩ := evs_two (x := s) (y := x) hv
                subst hn
                refine ok_append ht hi hz hzs hsz hby hm s x (by rw [hx']; exact hx) hs1 (n := 0) (dead := fun _ => False) (by rw [Nat.zero_add]; exact hlim) (by simp) hs1 (fun j b hj hb2 => ⟨hb2, fun h => h⟩) (fun E act w hR => ?_)
                have hv := hR.ev s
                rw [hs'] at hv
                simp only [RelV] at hv
                refine ⟨[], by rw [hv]; exact World.ownsRow_nil w B0 e i.size, by simp, fun j y hy => by simpa using hy, fun k hk => by rw [hv] at hk; cases hk⟩
              · split at hold
                · cases hq2 : Nat.beq e _ with
                  | false => rw [hq2] at hold; cases hold
                  | true => rw [hq2] at hold; cases hold
                · cases hold
              · split at hold
                · cases hq2 : Nat.beq e _ with
                  | false => rw [hq2] at hold; cases hold
                  | true => rw [hq2] at hold; cases hold
                · cases hold
              · cases hold
            · cases h
        · cases h
    · cases h
  · cases h
end
end Go.Abs
