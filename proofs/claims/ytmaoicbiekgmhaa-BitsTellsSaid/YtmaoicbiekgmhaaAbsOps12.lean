import Derived.Test.YtmaoicbiekgmhaaAbsOps11
namespace Go.Abs
open Go Go.RowKit
set_option linter.unusedVariables false
set_option linter.unusedSimpArgs false

theorem run_storeAt {P : Program} {w : World} {t : TypeId} {sz : Nat} (hs : cellsT P t = some sz) {kb o : Nat} {e : TypeId} {cur : Array Value} (hh : w.heap[kb]? = some (.cells cur e (0, 0))) (u : Value) (hu : u.cells.size = sz) (h1 : ∀ v ∈ u.cells.toList, v.oneCell' = true)
    (hle : o + sz ≤ cur.size) : (Instr.storeAt t (.pointer (some ⟨kb, o, none⟩)) u).run P w = .ok () (w.setRow kb (cur.toList.take o ++ u.cells.toList ++ cur.toList.drop (o + sz)).toArray) := by
  have hst := run_storeCells_at P kb o e u.cells.toList 0 cur w hh (by simp; omega) h1
  simp only [Nat.add_zero, Array.length_toList, hu] at hst
  simp only [Instr.storeAt, Instr.sureAddr, storeVar, Sem.run_bind, Sem.run_pure, Result.andThen_ok, run_sizeOf hs, hu]
  simp [hst]

theorem below_setRow {B : Nat} {w : World} {g : Nat} (hg : B ≤ g) (cs : Array Value) : Below B w (w.setRow g cs) :=
  ⟨rfl, rfl, rfl, by simp [World.setRow], fun k hk => setRow_other w g k cs (by omega)⟩

section
variable {D : Ctx} {B0 : Nat} {w0 : W0} {st : ASt} {dst : Option Tmp} {type : TypeId} {pos : String} {after : Array Edge} {guard : Option (Nat × Bool)}

/-- a block of one's own is written; values that it takes in are frozen ahead -/
theorem opOk_upd {op : Op} {id : Nat} {b b' : Bk} (hid : hlook st.h id = some ⟨b, false⟩) {hl : Nat → Option Blk} (hm : ∀ id b, hl id = some b → hlook st.h id = some b) (ids : List Nat)
    (h : ∀ E act w, Rel D B0 w0 E st act w → ∀ E1, E1.ρ = E.ρ → Up E E1 w w → (∀ id, id ∈ ids → ∀ b u k, hl id = some b → E.ρ id = some u → vBlock u = some k → E1.S k) →
      ∃ kb new u, E.ρ id = some u ∧ vBlock u = some kb ∧ (execOp act.eval ⟨dst, op, type, pos, after, guard⟩).run D.P w = .ok .skip (w.setRow kb new) ∧
        ((∀ j, E1.S j → j ≠ kb) → BlkR E1 (w.setRow kb new) B0 id ⟨b', false⟩))
    (hni : id ∉ ids) :
    OpOk D B0 w0 st ⟨dst, op, type, pos, after, guard⟩ ⟨.bot, (id, some ⟨b', false⟩) :: freeze hl ids [], st.n⟩ := by
  intro E act w hR hnew next Q hnext
  obtain ⟨E1, hρ1, up1, hR1, hS1, hsame⟩ := rel_freeze hm ids hR
  obtain ⟨kb, new, u, hu, hkb, hrun, hB⟩ := h E act w hR E1 hρ1 up1 hS1
  -- id is not frozen by the freeze
  have hid1 : hlook (lcat (freeze hl ids []) st.h) id = some ⟨b, false⟩ := by
    have key : ∀ (ids : List Nat), id ∉ ids → hlook (lcat (freeze hl ids []) st.h) id = hlook st.h id := by
      intro ids
      induction ids with
      | nil => exact fun _ => rfl
      | cons y r ih =>
        intro hn
        simp only [List.mem_cons, not_or] at hn
        simp only [freeze]
        cases hy : hl y with
        | none => exact ih hn.2
        | some c =>
          simp only [lcat]
          rw [hlook_cons_ne hn.1]
          exact ih hn.2
    rw [key ids hni]; exact hid
  have hBid := hR1.heap id _ hid1
  have hlt := hBid.lt (by rw [hρ1]; exact hu) hkb
  have hnS : ∀ j, E1.S j → j ≠ kb := by
    rintro j hj rfl
    obtain ⟨u', hu', _, hns, _⟩ := hBid
    rw [hρ1, hu] at hu'
    cases hu'
    exact hns rfl j hkb hj
  have hB' := hB hnS
  obtain ⟨hR', up⟩ := rel_upd hR1 (E' := E1) (w' := w.setRow kb new) rfl (fun _ _ h => h) (x := id) (fun i u hu => .inr hu) (below_setRow hlt.1 new) (b := ⟨b', false⟩) (dead := fun _ => False)
    (h' := (id, some ⟨b', false⟩) :: lcat (freeze hl ids []) st.h) hlook_cons_eq
    (fun i c hi hc => ⟨by rw [hlook_cons_ne hi] at hc; exact hc, fun h => h⟩) hB' rfl
    (fun k hk => by
      by_cases e : k = kb
      · subst e; exact .inr ⟨id, _, u, .inr rfl, hid1, rfl, by rw [hρ1]; exact hu, hkb⟩
      · exact .inl (setRow_other w kb k new e))
    (fun u' k hu' hk => .inr ⟨id, _, u', .inr rfl, hid1, rfl, hu', hk⟩) st.n
  unfold Oper.wp
  rw [hrun, Oper.upon_skip]
  exact hnext E1 _ undef (up1.trans up) (fun i x hx => .inl (by rw [hρ1] at hx; exact hx)) (Rel.put hR' (a := .bot) (by simp only [RelV]) dst)

theorem relF_cells_one {E : Env} {w : World} : ∀ (l : List AVal) (cs : List Value), RelF E w l cs → ∀ v ∈ cs, v.oneCell' = true
  | [], cs, h => by simp only [RelF] at h; subst h; simp
  | a :: r, cs, h => by
    rcases relF_cons h with ⟨k', n, l, cs', rfl, h1, rfl, h3⟩ | ⟨ha, u, cs', rfl, h2, h3, h4⟩
    · intro v hv
      rcases List.mem_append.1 hv with hv | hv
      · obtain ⟨z, _, rfl⟩ := List.mem_map.1 hv; rfl
      · exact relF_cells_one r cs' h3 v hv
    · intro v hv
      rcases List.mem_cons.1 hv with rfl | hv
      · exact h2
      · exact relF_cells_one r cs' h4 v hv

theorem ok_store_ptr {t : TypeId} {sz : Nat} (hs : cellsT D.P t = some sz) (x y : Operand) {id off : Nat} (hx : ev st.f x = .ptr id off) {e : TypeId} {l p pre mid post : List AVal} (hid : hlook st.h id = some ⟨.box e l, false⟩) (hp : partsOf (ev st.f y) = some p)
    (hg : getC l off sz = some (pre, mid, post)) (hps : (p.map asize).sum = sz) :
    OpOk D B0 w0 st ⟨dst, .store t x y, type, pos, after, guard⟩ ⟨.bot, [(id, some ⟨.box e (lcat pre (lcat p post)), false⟩)], st.n⟩ :=
  opOk_upd hid (hl := fun _ => none) (fun _ _ h => by cases h) [] (fun E act w hR E1 hρ1 up1 _ => by
    have hX := hR.ev x
    rw [hx] at hX
    simp only [RelV] at hX
    obtain ⟨b, hρ, hu⟩ := hX
    obtain ⟨v, hv, ⟨kb, cs, rfl, hB, hh, hl⟩, _⟩ := hR.heap _ _ hid
    rw [hρ] at hv
    cases hv
    obtain ⟨c1, c2, c3, he, g1, g2, g3, l1, l2⟩ := relF_mid hg hl
    have hpr := parts_rel hR hp (hR.ev y)
    have hpl : (act.eval y).cells.size = sz := by have := relF_len _ _ hpr; rw [hps] at this; simpa using this
    have hcs : cs.size = off + sz + c3.length := by have : cs.toList.length = (c1 ++ (c2 ++ c3)).length := by rw [he]
                                                    simp at this; omega
    have hst := run_storeAt (P := D.P) (w := w) hs (o := off) hh (act.eval y) hpl (relF_cells_one _ _ hpr) (by omega)
    refine ⟨b, _, _, hρ, rfl, by simp only [execOp, hu, Sem.run_bind, hst, Result.andThen_ok, Sem.run_pure]; rfl, fun hns => ?_⟩
    have up : Up E E1 w (w.setRow b (cs.toList.take off ++ (act.eval y).cells.toList ++ cs.toList.drop (off + sz)).toArray) :=
      ⟨⟨up1.keeps.sub, fun k hk => setRow_other w b k _ (hns k (up1.keeps.sub k hk))⟩, fun i u hu => by rw [hρ1]; exact hu⟩
    refine ⟨_, by rw [hρ1]; exact hρ, ⟨b, _, rfl, hB, setRow_heap w b cs _ e (0, 0) hh, ?_⟩, fun _ k hk hS => ?_, fun hf => by cases hf⟩
    · have h1 : cs.toList.take off = c1 := by rw [he, ← l1]; simp
      have h3 : cs.toList.drop (off + sz) = c3 := by
        rw [he, ← l1, ← l2, ← List.append_assoc, ← List.length_append]
        exact List.drop_left
      have hL : (cs.toList.take off ++ (act.eval y).cells.toList ++ cs.toList.drop (off + sz)).toArray.toList = c1 ++ ((act.eval y).cells.toList ++ c3) := by
        rw [h1, h3, List.append_assoc]
      rw [hL]
      exact relF_join _ _ _ _ (RelF.mono up _ _ g1) (relF_join _ _ _ _ (RelF.mono up _ _ hpr) (RelF.mono up _ _ g3))
    · simp [vBlock] at hk
      exact hns k hS hk.symm) (by simp)

theorem ok_store_apel {t : TypeId} (hs : cellsT D.P t = some 1) (x y : Operand) {id off m i : Nat} (hx : ev st.f x = .apel id off m i) {e : TypeId} {l pre post : List AVal} {k : IntKind} {z : List Int} {a : Int} (hid : hlook st.h id = some ⟨.box e l, false⟩) (hy : ev st.f y = .v (.int k a))
    (hg : splitC l off = some (pre, .arr k m z :: post)) :
    OpOk D B0 w0 st ⟨dst, .store t x y, type, pos, after, guard⟩ ⟨.bot, [(id, some ⟨.box e (lcat pre (.arr k m (z.set i a) :: post)), false⟩)], st.n⟩ :=
  opOk_upd hid (hl := fun _ => none) (fun _ _ h => by cases h) [] (fun E act w hR E1 hρ1 up1 _ => by
    have hX := hR.ev x
    have hY := hR.ev y
    rw [hx] at hX
    rw [hy] at hY
    simp only [RelV] at hX hY
    obtain ⟨b, hρ, hi, hu⟩ := hX
    obtain ⟨v, hv, ⟨kb, cs, rfl, hB, hh, hl⟩, _⟩ := hR.heap _ _ hid
    rw [hρ] at hv
    cases hv
    obtain ⟨c1, c2, he, g1, g2, l1⟩ := relF_at hg hl
    obtain ⟨cs', hz, rfl, g3⟩ := relF_arr_head g2
    have hcs : cs.size = off + (m + cs'.length) := by
      have : cs.toList.length = (c1 ++ (z.map (Value.int k) ++ cs')).length := by rw [he]
      simp at this; omega
    have hst := run_storeAt (P := D.P) (w := w) hs (o := off + i) hh (.int k a) rfl (by simp [Value.cells, Value.oneCell']) (by omega)
    refine ⟨b, _, _, hρ, rfl, by simp only [execOp, hu, hY, Sem.run_bind, hst, Result.andThen_ok, Sem.run_pure]; rfl, fun hns => ?_⟩
    have up : Up E E1 w (w.setRow b (cs.toList.take (off + i) ++ (Value.int k a).cells.toList ++ cs.toList.drop (off + i + 1)).toArray) :=
      ⟨⟨up1.keeps.sub, fun k hk => setRow_other w b k _ (hns k (up1.keeps.sub k hk))⟩, fun i u hu => by rw [hρ1]; exact hu⟩
    refine ⟨_, by rw [hρ1]; exact hρ, ⟨b, _, rfl, hB, setRow_heap w b cs _ e (0, 0) hh, ?_⟩, fun _ k hk hS => ?_, fun hf => by cases hf⟩
    · have h2 : cs.toList.take (off + i) ++ (Value.int k a).cells.toList ++ cs.toList.drop (off + i + 1) = c1 ++ ((z.set i a).map (Value.int k) ++ cs') := by
        have hset : cs.toList.take (off + i) ++ (Value.int k a).cells.toList ++ cs.toList.drop (off + i + 1) = cs.toList.set (off + i) (.int k a) := by
          rw [List.set_eq_take_append_cons_drop, if_pos (by simp; omega)]
          simp [Value.cells]
        rw [hset, he, List.set_append_right _ _ (by omega), List.set_append_left _ _ (by simp; omega), List.map_set]
        congr 3
        omega
      have hL : (cs.toList.take (off + i) ++ (Value.int k a).cells.toList ++ cs.toList.drop (off + i + 1)).toArray.toList = c1 ++ ((z.set i a).map (Value.int k) ++ cs') := h2
      rw [hL]
      exact relF_join _ _ _ _ (RelF.mono up _ _ g1) (relF_arr (by simp [hz]) (RelF.mono up _ _ g3))
    · simp [vBlock] at hk
      exact hns k hS hk.symm) (by simp)

/-- one element of a row written -/
theorem Cont.set_spec {c c' : Cont} {i : Nat} {a : AVal} (h : c.set i a = some c') : c'.len = c.len ∧ c'.size = 1 ∧ c.size = 1 ∧
    (∀ (S : Nat → Prop) (w : World) (u : Value), RelV ⟨S, fun _ => none⟩ w a u → i < c.len → u.oneCell' = true ∧ cellC S w c' i u) ∧
    (∀ (S : Nat → Prop) (w : World) (j : Nat) (x : Value), j ≠ i → cellC S w c j x → cellC S w c' j x) := by
  unfold Cont.set at h
  split at h
  · rename_i k l k' z
    cases hk : beqK k k' with
    | false => rw [hk] at h; cases h
    | true =>
      rw [hk] at h
      cases h
      have := beqK_eq hk
      subst this
      refine ⟨by simp [Cont.len], rfl, rfl, fun S w u hu hi => ?_, fun S w j x hj hx => ?_⟩
      · simp only [RelV] at hu
        subst hu
        simp only [Cont.len] at hi
        refine ⟨rfl, ?_⟩
        simp only [cellC, cell1, cellI]
        simp [List.getD_eq_getElem?_getD, List.getElem?_set, hi]
      · simp only [cellC, cell1, cellI] at hx ⊢
        rw [hx]
        simp [List.getD_eq_getElem?_getD, List.getElem?_set, Ne.symm hj]
  · rename_i k l k' z
    cases hk : beqK k k' with
    | false => rw [hk] at h; cases h
    | true =>
      rw [hk] at h
      cases h
      have := beqK_eq hk
      subst this
      refine ⟨by simp [Cont.len], rfl, rfl, fun S w u hu hi => ?_, fun S w j x hj hx => ?_⟩
      · simp only [Cont.len] at hi
        have : cellC S w (.rows k (l.set i z)) i u := by
          simp only [RelV] at hu
          simp only [cellC, cell1, cellR]
          rw [show (l.set i z).getD i [] = z from by simp [List.getD_eq_getElem?_getD, List.getElem?_set, hi]]
          exact hu
        exact ⟨cellC_one this, this⟩
      · simp only [cellC, cell1, cellR] at hx ⊢
        rw [show (l.set i z).getD j [] = l.getD j [] from by simp [List.getD_eq_getElem?_getD, List.getElem?_set, Ne.symm hj]]
        exact hx
  · cases h

theorem ownsRow_set {w : World} {base : Nat} {e : TypeId} {n : Nat} {v : Value} {xs : List Value} (h : w.ownsRow base e 1 v n xs) {g : Nat} {cap : Nat} {cur : Array Value} (hv : v = .slice (some ⟨g, 0, none⟩) n cap) (hg : w.heap[g]? = some (.cells cur e (0, 0)))
    (hcap : cap ≤ maxLen) (hsz : cur.size = cap) (hn : n ≤ cap) (hb : base ≤ g) (ht : cur.toList.take n = xs) {i : Nat} (hi : i < n) (u : Value) :
    (w.setRow g (cur.toList.take i ++ u.cells.toList ++ cur.toList.drop (i + 1)).toArray).ownsRow base e 1 v n (xs.set i u) ∨ u.oneCell' = false := by
  cases hu : u.oneCell' with
  | false => exact .inr rfl
  | true =>
    refine .inl ?_
    have hc : u.cells.toList = [u] := by cases u <;> first | rfl | cases hu
    have hset : cur.toList.take i ++ u.cells.toList ++ cur.toList.drop (i + 1) = cur.toList.set i u := by
      rw [List.set_eq_take_append_cons_drop, if_pos (by simp; omega), hc]
      simp
    rw [hset]
    refine ⟨by have := h.1; simpa using this, .inr ⟨g, cap, (cur.toList.set i u).toArray, hv, hb, setRow_heap w g cur _ e (0, 0) hg, hn, hcap, by simp [hsz], ?_⟩⟩
    rw [Nat.mul_one, ← ht]
    simp [List.take_set]

theorem ok_store_pel {t : TypeId} (hs : cellsT D.P t = some 1) (x y : Operand) {id i : Nat} (hx : ev st.f x = .pel id 1 i) {e : TypeId} {c c' : Cont} (hid : hlook st.h id = some ⟨.row e c, false⟩) {hl : Nat → Option Blk} (hm : ∀ id b, hl id = some b → hlook st.h id = some b)
    (hc : c.set i (xport hl (ev st.f y)) = some c') (hni : id ∉ rowIds (ev st.f y)) :
    OpOk D B0 w0 st ⟨dst, .store t x y, type, pos, after, guard⟩ ⟨.bot, (id, some ⟨.row e c', false⟩) :: freeze hl (rowIds (ev st.f y)) [], st.n⟩ :=
  opOk_upd hid hm (rowIds (ev st.f y)) (fun E act w hR E1 hρ1 up1 hS1 => by
    have hX := hR.ev x
    have hY := hR.ev y
    rw [hx] at hX
    simp only [RelV] at hX
    obtain ⟨a, n, cap, hρ, hi, hu⟩ := hX
    obtain ⟨v, hv, ⟨xs, ho, hxs⟩, _⟩ := hR.heap _ _ hid
    rw [hρ] at hv
    cases hv
    obtain ⟨c1, c2, c3, hcell, hoth⟩ := Cont.set_spec hc
    rcases (show _ from ho.2) with ⟨h1, _⟩ | ⟨g, cap', cur, h1, hB, hh, hn, hcm, hcs, ht⟩
    · cases h1
    · cases h1
      rw [c3, Nat.mul_one] at hcs
      rw [c3, Nat.mul_one] at ht
      have hxr := xport_rel hR hm (S' := E1.S) up1.keeps.sub (ev st.f y) (act.eval y) hY (fun id hid b v k hb hv hk => hS1 id hid b v k hb hv hk)
      obtain ⟨hone, hci⟩ := hcell E1.S w (act.eval y) hxr hi
      have hcl : (act.eval y).cells.toList = [act.eval y] := by cases hv : act.eval y <;> rw [hv] at hone <;> first | rfl | cases hone
      have hst := run_storeAt (P := D.P) (w := w) hs (o := i) hh (act.eval y) (by rw [← Array.length_toList, hcl]; rfl) (by rw [hcl]; simpa using hone) (by omega)
      refine ⟨g, _, _, hρ, rfl, by simp only [execOp, hu, add_none, Nat.mul_one, Nat.zero_add, Sem.run_bind, hst, Result.andThen_ok, Sem.run_pure]; rfl, fun hns => ?_⟩
      have kp : Keeps E1.S E1.S w (w.setRow g (cur.toList.take i ++ (act.eval y).cells.toList ++ cur.toList.drop (i + 1)).toArray) :=
        ⟨fun _ h => h, fun k hk => setRow_other w g k _ (hns k hk)⟩
      refine ⟨_, by rw [hρ1]; exact hρ, ⟨xs.set i (act.eval y), ?_, fun j z hj => ?_⟩, fun _ k hk hS => ?_, fun hf => by cases hf⟩
      · rw [c1, c2]
        rcases ownsRow_set (by rw [c3] at ho; exact ho) rfl hh hcm hcs hn hB ht hi (act.eval y) with h | h
        · exact h
        · rw [hone] at h; cases h
      · rw [List.getElem?_set] at hj
        split at hj
        · rename_i hij
          subst hij
          split at hj
          · cases hj
            exact ⟨hone, cellC.mono kp hci⟩
          · cases hj
        · rename_i hij
          have := hxs j z hj
          exact ⟨this.1, cellC.mono kp (cellC.mono ⟨up1.keeps.sub, fun _ _ => rfl⟩ (hoth E.S w j z (Ne.symm hij) this.2))⟩
      · simp [vBlock] at hk
        exact hns k hS hk.symm) hni
end
end Go.Abs
