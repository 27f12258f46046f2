import Derived.Test.YtmaoicbiekgmhaaAbsOps7
namespace Go.Abs
open Go Go.RowKit
set_option linter.unusedVariables false
set_option linter.unusedSimpArgs false

theorem bytes_of {P : Program} {t : TypeId} {b : Nat} (h : bytesT P t = some b) : ∃ i, P.info? t = some i ∧ i.bytes = b := by
  unfold bytesT at h
  cases hi : P.info? t with
  | none => rw [hi] at h; cases h
  | some i => rw [hi] at h; cases h; exact ⟨i, rfl, rfl⟩

/-- append to an own row, or to nil: the result's block is the row's, or a new one -/
theorem run_app {P : Program} (w : World) (base : Nat) (t ty e : TypeId) (i : TypeInfo) (z : Value) (ht : P.underlying t = some (.slice e)) (hi : P.info? e = some i) (hz : i.zero = some z) (hzs : z.cells.size = i.size) (hsz : 0 < i.size)
    (v : Value) (n : Nat) (xs : List Value) (hown : w.ownsRow base e i.size v n xs) (a : Addr) (m c : Nat) (news : List Value) (hl : news.length = m * i.size) (hnews : ∀ j u, news[j]? = some u → w.cell? (a.add j) = some u)
    (h1 : ∀ u ∈ news, u.oneCell' = true) (h63 : n + m ≤ maxLen) (hbytes : (n + m) * i.bytes ≤ 140737488355328) (hbase : base ≤ w.heap.size) :
    ∃ v' w', (Builtin.append_ #[t, t] ty #[v, .slice (some a) m c]).run P w = .ok v' w' ∧ w'.ownsRow base e i.size v' (n + m) (xs ++ news) ∧ w.grownBy w' (vBlock v) ∧
      (∀ k, vBlock v' = some k → vBlock v = some k ∨ k = w.heap.size) := by
  obtain ⟨v', w', hr, ho, hg, _⟩ := run_append_own (P := P) w base t ty e i z i.size i.bytes ht hi hz rfl rfl hzs hsz v n xs hown a m c news hl hnews h1 h63 hbytes hbase
  have hvb : v.ownBlock = vBlock v := by
    rcases hown.2 with ⟨rfl, _⟩ | ⟨g, cap, cur, rfl, _⟩ <;> rfl
  rw [hvb] at hg
  refine ⟨v', w', hr, ho, hg, fun k hk => ?_⟩
  -- the result, written out
  have hsmall : n + m ≤ 9223372036854775807 := by simp only [maxLen] at h63; omega
  rcases hown.2 with ⟨rfl, rfl⟩ | ⟨g, cap, cur, rfl, hbg, hgr, hnc, hcm, hcs, htake⟩
  · by_cases hm : m = 0
    · subst hm
      have hn : news = [] := List.eq_nil_of_length_eq_zero (by simpa using hl)
      subst hn
      have : (Builtin.append_ #[t, t] ty #[Value.slice none 0 0, .slice (some a) 0 c]).run P w = .ok (.slice none 0 0) w := by
        simp [Builtin.append_, run_underlying ht, sizeOf, typeInfo, hi, Builtin.lenOf, Builtin.firstCells, loadCells, loadCellsFrom]
      rw [this] at hr
      cases hr
      cases hk
    · have hr2 := run_append_nil (P := P) w t ty e i z ht hi hz a m c news hl hnews (by omega) (by omega) (by have hb := hbytes; simp only [Nat.zero_add] at hb; omega)
      rw [hr2] at hr
      cases hr
      cases hk
      exact .inr rfl
  · by_cases hroom : n + m ≤ cap
    · have hfit : n * i.size + news.length ≤ cur.size := by rw [hl, hcs, ← Nat.add_mul]; exact Nat.mul_le_mul_right _ hroom
      have hr2 := run_append_room (P := P) w t ty e i ht hi g n cap cur hgr a m c news hl hnews h1 hroom hfit
      rw [hr2] at hr
      cases hr
      exact .inl hk
    · have holds : ∀ j u, xs[j]? = some u → w.cell? ((⟨g, 0, none⟩ : Addr).add j) = some u := hown.cells (g := g) rfl
      have hr2 := run_append_grow (P := P) w t ty e i z ht hi hz ⟨g, 0, none⟩ n cap xs hown.1 holds a m c news hl hnews (by omega) (by omega) (growslice_fits (by omega) hbytes)
      rw [hr2] at hr
      cases hr
      cases hk
      exact .inr rfl

theorem ownsRow_prefix {w : World} {base : Nat} {e : TypeId} {size n : Nat} {v : Value} {xs : List Value} (h : w.ownsRow base e size v n xs) {A : Option Addr} {cap m : Nat} (hv : v = .slice A n cap) (hm : m ≤ n) :
    w.ownsRow base e size (.slice A m cap) m (xs.take (m * size)) := by
  have hlen : (xs.take (m * size)).length = m * size := by
    rw [List.length_take, h.1, Nat.min_eq_left (Nat.mul_le_mul_right _ hm)]
  refine ⟨hlen, ?_⟩
  rcases h.2 with ⟨hn, h0⟩ | ⟨g, cap', cur, hv', hb, hg, hn, hcm, hc, ht⟩
  · rw [hv] at hn
    cases hn
    have : m = 0 := by omega
    subst this
    exact .inl ⟨rfl, rfl⟩
  · rw [hv] at hv'
    cases hv'
    exact .inr ⟨g, _, cur, rfl, hb, hg, by omega, hcm, hc, by rw [← ht, List.take_take, Nat.min_eq_left (Nat.mul_le_mul_right _ hm)]⟩

/-- the prefix of a content -/
theorem Cont.take_spec {c : Cont} {m : Nat} (hm : m ≤ c.len) : (c.take m).len = m ∧ (c.take m).size = c.size ∧ ∀ S w j x, j < m * c.size → cellC S w c j x → cellC S w (c.take m) j x := by
  cases c with
  | ints k l =>
    simp only [Cont.len] at hm
    refine ⟨by simp [Cont.take, Cont.take1, Cont.len]; omega, rfl, fun S w j x hj hx => ?_⟩
    simp only [Cont.size, Nat.mul_one] at hj
    simp only [Cont.take, Cont.take1, cellC, cell1, cellI] at hx ⊢
    rw [hx]; congr 1
    simp only [List.getD_eq_getElem?_getD, List.getElem?_take, if_pos hj]
  | rows k l =>
    simp only [Cont.len] at hm
    refine ⟨by simp [Cont.take, Cont.take1, Cont.len]; omega, rfl, fun S w j x hj hx => ?_⟩
    simp only [Cont.size, Nat.mul_one] at hj
    simp only [Cont.take, Cont.take1, cellC, cell1, cellR] at hx ⊢
    have : (l.take m).getD j [] = l.getD j [] := by simp only [List.getD_eq_getElem?_getD, List.getElem?_take, if_pos hj]
    rw [this]; exact hx
  | rows2 k l =>
    simp only [Cont.len] at hm
    refine ⟨by simp [Cont.take, Cont.take1, Cont.len]; omega, rfl, fun S w j x hj hx => ?_⟩
    simp only [Cont.size, Nat.mul_one] at hj
    simp only [Cont.take, Cont.take1, cellC, cell1, cellR2] at hx ⊢
    have : (l.take m).getD j [] = l.getD j [] := by simp only [List.getD_eq_getElem?_getD, List.getElem?_take, if_pos hj]
    rw [this]; exact hx
  | cols n cs =>
    simp only [Cont.len] at hm
    have hl : (Cont.takes m cs).length = cs.length := by
      clear hm
      induction cs with
      | nil => rfl
      | cons c r ih => simp [Cont.takes, ih]
    refine ⟨by simp [Cont.take, Cont.len]; omega, by simp [Cont.take, Cont.size, hl], fun S w j x hj hx => ?_⟩
    simp only [Cont.size] at hj
    simp only [Cont.take, cellC, hl] at hx ⊢
    obtain ⟨c, hc, hx⟩ := hx
    have hget : ∀ (cs : List Cont) (i : Nat) (c : Cont), cs[i]? = some c → (Cont.takes m cs)[i]? = some (c.take1 m) := by
      intro cs
      induction cs with
      | nil => intro i c h; simp at h
      | cons d r ih =>
        intro i c h
        cases i with
        | zero => simp at h; subst h; rfl
        | succ i => simp at h; simp [Cont.takes, ih i c h]
    refine ⟨_, hget _ _ _ hc, ?_⟩
    have hd : j / cs.length < m := Nat.div_lt_of_lt_mul (by rw [Nat.mul_comm]; exact hj)
    cases c with
    | ints k l =>
      simp only [Cont.take1, cell1, cellI] at hx ⊢
      rw [hx]; congr 1
      simp only [List.getD_eq_getElem?_getD, List.getElem?_take, if_pos hd]
    | rows k l =>
      simp only [Cont.take1, cell1, cellR] at hx ⊢
      have : (l.take m).getD (j / cs.length) [] = l.getD (j / cs.length) [] := by simp only [List.getD_eq_getElem?_getD, List.getElem?_take, if_pos hd]
      rw [this]; exact hx
    | rows2 k l =>
      simp only [Cont.take1, cell1, cellR2] at hx ⊢
      have : (l.take m).getD (j / cs.length) [] = l.getD (j / cs.length) [] := by simp only [List.getD_eq_getElem?_getD, List.getElem?_take, if_pos hd]
      rw [this]; exact hx
    | cols n cs => exact hx.elim

section
variable {D : Ctx} {B0 : Nat} {w0 : W0} {st : ASt} {dst : Option Tmp} {type : TypeId} {pos : String} {after : Array Edge} {guard : Option (Nat × Bool)}

/-- append: to a row of one's own (id), or to nil -/
theorem ok_append {t e : TypeId} {i : TypeInfo} {z : Value} (ht : D.P.underlying t = some (.slice e)) (hi : D.P.info? e = some i) (hz : i.zero = some z) (hzs : z.cells.size = i.size) (hsz : 0 < i.size) (hby : 0 < i.bytes)
    {hl : Nat → Option Blk} (hm : ∀ id b, hl id = some b → hlook st.h id = some b) (s x : Operand) {cx c' : Cont} (hx : contA hl (ev st.f x) = some cx) (hcx : cx.size = i.size) {n : Nat} {dead : Nat → Prop} {puts : Hp}
    (hlim : (n + cx.len) * i.bytes ≤ limit) (hc' : c'.len = n + cx.len) (hcs : c'.size = i.size)
    (hputs : ∀ id c, id ≠ st.n → hlook (lcat puts st.h) id = some c → hlook st.h id = some c ∧ ¬ dead id)
    (hs : ∀ E act w, Rel D B0 w0 E st act w → ∃ xs, w.ownsRow B0 e i.size (act.eval s) n xs ∧
      (∀ j y, xs[j]? = some y → y.oneCell' = true ∧ cellC E.S w c' j y) ∧ (∀ j y, cellC E.S w cx j y → cellC E.S w c' (n * i.size + j) y) ∧
      (∀ k, vBlock (act.eval s) = some k → Owned E st.h dead k)) :
    OpOk D B0 w0 st ⟨dst, .call ⟨.builtin .append, #[s, x], #[t, t]⟩, type, pos, after, guard⟩ ⟨.own st.n, (st.n, some ⟨.row e c', false⟩) :: puts, st.n + 1⟩ := by
  intro E act w hR hn next Q hnext
  obtain ⟨xs, hown, hcell, hcell2, hblk⟩ := hs E act w hR
  have hxn : E.ρ st.n = none := hn st.n (Nat.le_refl _) (by simp)
  obtain ⟨A, cap, hu, hcap, hrd⟩ := contA_reads hR hm hx (hR.ev x)
  have hlim' : (n + cx.len) * i.bytes ≤ 140737488355328 := hlim
  have h63 : n + cx.len ≤ maxLen := by
    have := Nat.le_trans (Nat.le_mul_of_pos_right (n + cx.len) hby) hlim'
    simp only [maxLen]; omega
  -- the run
  have hrun : ∃ v' w' news, (Builtin.append_ #[t, t] type #[act.eval s, act.eval x]).run D.P w = .ok v' w' ∧ w'.ownsRow B0 e i.size v' (n + cx.len) (xs ++ news) ∧ w.grownBy w' (vBlock (act.eval s)) ∧
      (∀ k, vBlock v' = some k → vBlock (act.eval s) = some k ∨ k = w.heap.size) ∧ (∀ j y, news[j]? = some y → y.oneCell' = true ∧ cellC E.S w cx j y) := by
    by_cases hne : 0 < cx.len
    · obtain ⟨a, rfl, hrd2⟩ := hrd hne
      have hex : ∀ m, m ≤ cx.len * cx.size → ∃ ns : List Value, ns.length = m ∧ ∀ j y, ns[j]? = some y → w.cell? (a.add j) = some y ∧ y.oneCell' = true ∧ cellC E.S w cx j y := by
        intro m
        induction m with
        | zero => exact fun _ => ⟨[], rfl, by simp⟩
        | succ m ih =>
          intro hm'
          obtain ⟨ns, h1, h2⟩ := ih (by omega)
          obtain ⟨y, g1, g2, g3⟩ := hrd2 m (by omega)
          refine ⟨ns ++ [y], by simp [h1], fun j y' hy => ?_⟩
          by_cases hj : j < m
          · rw [List.getElem?_append_left (by omega)] at hy; exact h2 j y' hy
          · have hjm : j = m := by
              have := (List.getElem?_eq_some_iff.1 hy).1
              simp at this
              omega
            subst hjm
            rw [List.getElem?_append_right (by omega)] at hy
            simp [h1] at hy
            subst hy
            exact ⟨g1, g2, g3⟩
      obtain ⟨news, hnl, hnews⟩ := hex _ (Nat.le_refl _)
      obtain ⟨v', w', hr, ho, hg, hb⟩ := run_app (P := D.P) w B0 t type e i z ht hi hz hzs hsz (act.eval s) n xs hown a cx.len cap news (by rw [hnl, hcx]) (fun j u hj => (hnews j u hj).1)
        (fun u hu => by obtain ⟨j, hj⟩ := List.getElem?_of_mem hu; exact (hnews j u hj).2.1) h63 hlim' hR.base
      exact ⟨v', w', news, by rw [hu]; exact hr, ho, hg, hb, fun j y hj => (hnews j y hj).2⟩
    · have h0 : cx.len = 0 := by omega
      rw [h0] at hu
      cases A with
      | none =>
        have hr : (Builtin.append_ #[t, t] type #[act.eval s, .slice none 0 cap]).run D.P w = .ok (act.eval s) w := by
          rcases (show _ from hown.2) with ⟨h1, rfl⟩ | ⟨g, cap', cur, h1, _, _, hnc, _⟩
          · rw [h1]; simp [Builtin.append_, run_underlying ht, sizeOf, typeInfo, hi, Builtin.lenOf, Builtin.firstCells]
          · rw [h1]; simp [Builtin.append_, run_underlying ht, sizeOf, typeInfo, hi, Builtin.lenOf, Builtin.firstCells, hnc, storeCells]
        exact ⟨_, w, [], by rw [hu]; exact hr, by rw [h0]; simpa using hown, ⟨rfl, rfl, rfl, Nat.le_refl _, fun _ _ _ => rfl⟩, fun k hk => .inl hk, by simp⟩
      | some a =>
        obtain ⟨v', w', hr, ho, hg, hb⟩ := run_app (P := D.P) w B0 t type e i z ht hi hz hzs hsz (act.eval s) n xs hown a 0 cap [] (by simp) (by simp) (by simp) (by omega) (by rw [h0] at hlim'; exact hlim') hR.base
        exact ⟨v', w', [], by rw [hu]; exact hr, by rw [h0]; exact ho, hg, hb, by simp⟩
  obtain ⟨v', w', news, hr, ho, hg, hb, hnews⟩ := hrun
  have hbel : Below B0 w w' := ⟨hg.os, hg.tape, hg.output, hg.size, fun k hk => hg.block k (Nat.lt_of_lt_of_le hk hR.base) (fun he => by
    obtain ⟨d, c, u, _, hd, _, hu2, hv2⟩ := hblk k he.symm
    have := ((hR.heap d c hd).lt hu2 hv2).1
    omega)⟩
  have hold : ∀ k, k < w.heap.size → w'.heap[k]? = w.heap[k]? ∨ Owned E st.h (fun d => dead d ∨ d = st.n) k := by
    intro k hk
    by_cases he : vBlock (act.eval s) = some k
    · obtain ⟨d, c, u, hd, rest⟩ := hblk k he
      exact .inr ⟨d, c, u, .inl hd, rest⟩
    · exact .inl (hg.block k hk (fun h => he h.symm))
  have hSk : ∀ b, E.S b → w'.heap[b]? = w.heap[b]? := by
    intro b hb'
    refine hg.block b (hR.sOld b hb') (fun he => ?_)
    obtain ⟨d, c, u, _, hd, hf, hu2, hv2⟩ := hblk b he.symm
    obtain ⟨u', hu', _, hns, _⟩ := hR.heap d c hd
    rw [hu2] at hu'
    cases hu'
    exact hns hf b hv2 hb'
  have kp : Keeps E.S E.S w w' := ⟨fun _ h => h, hSk⟩
  have hB : BlkR ⟨E.S, upd E.ρ st.n v'⟩ w' B0 st.n ⟨.row e c', false⟩ := by
    refine ⟨v', upd_same _ _ _, ⟨xs ++ news, by rw [hcs, hc']; exact ho, fun j y hj => ?_⟩, fun _ k hk hs' => ?_, fun hf => by cases hf⟩
    · by_cases hjx : j < xs.length
      · rw [List.getElem?_append_left hjx] at hj
        exact ⟨(hcell j y hj).1, cellC.mono kp (hcell j y hj).2⟩
      · rw [List.getElem?_append_right (by omega)] at hj
        have := hnews _ y hj
        refine ⟨this.1, cellC.mono kp ?_⟩
        have h2 := hcell2 _ y this.2
        rw [hown.1] at h2 hjx
        rw [show n * i.size + (j - n * i.size) = j from by omega] at h2
        exact h2
    · rcases hb k hk with h | h
      · obtain ⟨d, c, u, _, hd, hf, hu2, hv2⟩ := hblk k h
        obtain ⟨u', hu', _, hns, _⟩ := hR.heap d c hd
        rw [hu2] at hu'
        cases hu'
        exact hns hf k hv2 hs'
      · exact absurd (hR.sOld k hs') (by omega)
  obtain ⟨hR', up⟩ := rel_upd hR (E' := ⟨E.S, upd E.ρ st.n v'⟩) rfl (upd_ext hxn) (x := st.n) (fun id u hu => by
      by_cases e : id = st.n
      · exact .inl e
      · simp only [upd, if_neg e] at hu; exact .inr hu) hbel (b := ⟨.row e c', false⟩) (dead := dead) (h' := (st.n, some ⟨.row e c', false⟩) :: lcat puts st.h) hlook_cons_eq
      (fun id c hid hc => hputs id c hid (by rw [hlook_cons_ne hid] at hc; exact hc)) hB rfl hold
      (fun u k hu hk => by
        simp only [upd_same] at hu
        cases hu
        rcases hb k hk with h | h
        · obtain ⟨d, c, u, hd, rest⟩ := hblk k h
          exact .inr ⟨d, c, u, .inl hd, rest⟩
        · exact .inl (by omega)) (st.n + 1)
  have hexec : (execOp act.eval ⟨dst, .call ⟨.builtin .append, #[s, x], #[t, t]⟩, type, pos, after, guard⟩).run D.P w = .ok (.value v') w' := by
    simp [execOp, resolve, invoke, builtin, hr]
  unfold Oper.wp
  rw [hexec, Oper.upon_value]
  refine hnext _ _ _ up (fun id y hy => ?_) (Rel.put hR' (a := .own st.n) (by simp only [RelV]; exact upd_same _ _ _) dst)
  by_cases hid : id = st.n
  · exact .inr ⟨by omega, by simp only; omega⟩
  · simp only [upd, if_neg hid] at hy; exact .inl hy
end
end Go.Abs
