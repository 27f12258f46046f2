/-
  XmssHypers, part 12: an interpreter of my own over abstract values, the pure functions, the walks and the plain law.
-/

import Derived.Test.YtjhnljhjpnjieaaGreatDoorXmssHypersG
import Derived.Test.YtjhnljhjpnjieaaGreatDoorXmssHypersD

/- Functions that hand back a beginning of a row of their own; slices.Clone. -/
namespace Go.Abs
open Go Go.RowKit
set_option linter.unusedVariables false
set_option linter.unusedSimpArgs false
def bxp (D : Ctx) (e : TypeId) (c0 : Cont) (fn : Func) (st : ASt) (K : AVal → Option R) : Option R :=
 match bo8 D st fn.results.toList with
 | some [.win id 0 len] => match iw st.h id with
  | some ⟨.row e' c, false⟩ => bif Nat.beq e e' then K (.fr e (c.take len)) else none
  | _ => none
 | some [.own id] => match iw st.h id with
  | some ⟨.row e' c, false⟩ => bif Nat.beq e e' then K (.fr e c) else none
  | _ => none
 | some [.v (.slice none 0 0)] => bif Nat.beq c0.len 0 then K (.fr e c0) else none
 | _ => none
def bsf (D : Ctx) (fn : Func) (e : TypeId) (c0 : Cont) (args : List AVal) (K : AVal → Option R) : Option R :=
 match fn.body with
 | none => none
 | some c => bif Nat.ble args.length fn.ntmps then
     aex D c ⟨arf 0 args, [], 0, fn.ntmps⟩ fun ex st => match ex with
      | .exit _ => none
      | .normal => bxp D e c0 fn st K
      | .ret => bxp D e c0 fn st K
  else none
theorem bkb {D : Ctx} {S : Nat → Prop} {w : World} {args : List AVal} {cargs : List Value} {m : Nat} (hSw : ∀ b, S b → b < w.heap.size) (hgl : aoy D.globs S w) (hargs : lg (tq S) w args cargs) (hle : args.length ≤ m) :
    Rel D w.heap.size ⟨w, S, none⟩ (tq S) ⟨arf 0 args, [], 0, m⟩ { tmps := cargs.toArray ++ Array.replicate (m - cargs.toArray.size) undef, defers := [] } w := by
 have hlen := aiu _ _ hargs
 refine ⟨Below.refl _ _, Nat.le_refl _, by simp; omega, fun _ => rfl, trivial, auf rfl, fun t => bj3 hargs hle t, fun id b hb => by simp [iw] at hb, fun id id' b b' u u' k hb => by simp [iw] at hb, hSw, fun b hb => .inl hb, fun id u hu => by simp [tq] at hu, hgl⟩
theorem blo {D : Ctx} {e : TypeId} {c0 : Cont} {fn : Func} {st : ASt} {K : AVal → Option R} {r : R} (h : bxp D e c0 fn st K = some r) : ∃ y, K y = some r ∧ ∀ (S : Nat → Prop) (w : World) (E : Env) (a : Act) (w' : World), Rel D w.heap.size ⟨w, S, none⟩ E st a w' →
    ∃ v, (results fn a.tmps).run D.P w' = .ok v w' ∧ ∃ Sn bs, Below w.heap.size w w' ∧ (∀ b, Sn b → S b ∨ (w.heap.size ≤ b ∧ b < w'.heap.size)) ∧ ze Sn w' w.heap.size y v bs ∧ bs.Nodup ∧ ∀ b, b ∈ bs → ¬ Sn b := by
 have one : ∀ (x : AVal) (y : AVal), bo8 D st fn.results.toList = some [x] → K y = some r → (∀ (S : Nat → Prop) (w : World) (E : Env) (a : Act) (w' : World), Rel D w.heap.size ⟨w, S, none⟩ E st a w' → ∀ u, gy E w' x u → ∃ bs, ze E.S w' w.heap.size y u bs ∧ bs.Nodup ∧ ∀ b, b ∈ bs → ¬ E.S b) →
     ∃ y, K y = some r ∧ ∀ (S : Nat → Prop) (w : World) (E : Env) (a : Act) (w' : World), Rel D w.heap.size ⟨w, S, none⟩ E st a w' →
      ∃ v, (results fn a.tmps).run D.P w' = .ok v w' ∧ ∃ Sn bs, Below w.heap.size w w' ∧ (∀ b, Sn b → S b ∨ (w.heap.size ≤ b ∧ b < w'.heap.size)) ∧ ze Sn w' w.heap.size y v bs ∧ bs.Nodup ∧ ∀ b, b ∈ bs → ¬ Sn b := by
  intro x y hl hK hx
  refine ⟨y, hK, fun S w E a w' hR => ?_⟩
  obtain ⟨vs, hvs, hrun⟩ := ax6 hR _ _ hl
  simp only [lg] at hvs
  obtain ⟨u, us, rfl, h1, rfl⟩ := hvs
  obtain ⟨bs, k1, k2, k3⟩ := hx S w E a w' hR u h1
  refine ⟨u, ?_, E.S, bs, hR.below, fun b hb => ?_, k1, k2, k3⟩
  ·unfold results
   rw [Array.mapM_eq_mapM_toList]
   simp only [Sem.run_bind, Sem.run_map]
   rw [hrun _ (fun _ => rfl) (fun _ _ => rfl)]
   rfl
  ·rcases hR.sNew b hb with h | h
   ·exact .inl h
   ·exact .inr ⟨h, hR.sOld b hb⟩
 have fin : ∀ (S : Nat → Prop) (w : World) (E : Env) (a : Act) (w' : World), Rel D w.heap.size ⟨w, S, none⟩ E st a w' → ∀ (id : Nat) (e' : TypeId) (c c' : Cont) (u v : Value) (xs' : List Value), iw st.h id = some ⟨.row e' c, false⟩ → E.ρ id = some v → (∀ k, jd u = some k → jd v = some k) →
     w'.ownsRow w.heap.size e' c'.size u c'.len xs' → (∀ j x, xs'[j]? = some x → x.oneCell' = true ∧ cellC E.S w' c' j x) → ∃ bs, ze E.S w' w.heap.size (.fr e' c') u bs ∧ bs.Nodup ∧ ∀ b, b ∈ bs → ¬ E.S b := by
  intro S w E a w' hR id e' c c' u v xs' hb hv hvb ho hxs
  refine ⟨(jd u).toList, by simp only [ze]; exact ⟨⟨xs', ho, hxs⟩, trivial⟩, by cases jd u <;> simp, fun b hb' => ?_⟩
  obtain ⟨v', hv', _, hns, _⟩ := hR.heap id _ hb
  rw [hv] at hv'
  cases hv'
  cases hvu : jd u with
  | none => rw [hvu] at hb'; simp at hb'
  | some k =>
   rw [hvu] at hb'
   simp at hb'
   subst hb'
   exact hns rfl b (hvb b hvu)
 unfold bxp at h
 split at h
 ·rename_i id len hl
  split at h
  ·rename_i e' c hb
   cases hq : Nat.beq e e' with
   | false => rw [hq] at h; cases h
   | true =>
    rw [hq] at h
    have := Nat.eq_of_beq_eq_true hq
    subst this
    refine one _ _ hl h (fun S w E a w' hR u hu => ?_)
    simp only [gy] at hu
    obtain ⟨A, q, cap, hρ', hle, A', _, hA', hu⟩ := hu
    obtain ⟨v, hρ, ⟨xs, ho, hxs⟩, _⟩ := hR.heap _ _ hb
    rw [hρ] at hρ'
    cases hρ'
    rw [show A' = A from hA' trivial, Nat.sub_zero] at hu
    have hq : q = c.len := by
     rcases (show _ from ho.2) with ⟨h1, h2⟩ | ⟨g, cap', cur, h1, _⟩
     ·cases h1; exact h2.symm
     ·cases h1; rfl
    obtain ⟨t1, t2, t3⟩ := Cont.ar8 (c := c) (m := len) (by omega)
    rw [← hq] at ho
    have ho' := agm (m := len) ho rfl (by omega)
    refine fin S w E a w' hR id e c (c.take len) u _ _ hb hρ (fun k hk => by rw [hu] at hk; cases A <;> exact hk) (by rw [t1, t2, hu]; exact ho') (fun j y hj => ?_)
    have hlt := (List.getElem?_eq_some_iff.1 hj).1
    rw [ho'.1] at hlt
    rw [List.getElem?_take, if_pos hlt] at hj
    exact ⟨(hxs j y hj).1, t3 _ _ _ _ hlt (hxs j y hj).2⟩
  ·cases h
 ·rename_i id hl
  split at h
  ·rename_i e' c hb
   cases hq : Nat.beq e e' with
   | false => rw [hq] at h; cases h
   | true =>
    rw [hq] at h
    have := Nat.eq_of_beq_eq_true hq
    subst this
    refine one _ _ hl h (fun S w E a w' hR u hu => ?_)
    simp only [gy] at hu
    obtain ⟨v, hρ, ⟨xs, ho, hxs⟩, _⟩ := hR.heap _ _ hb
    rw [hu] at hρ
    cases hρ
    exact fin S w E a w' hR id e c c u u xs hb hu (fun k hk => hk) ho hxs
  ·cases h
 ·rename_i hl
  cases hq : Nat.beq c0.len 0 with
  | false => rw [hq] at h; cases h
  | true =>
   rw [hq] at h
   have hc := Nat.eq_of_beq_eq_true hq
   refine one _ _ hl h (fun S w E a w' hR u hu => ?_)
   simp only [gy] at hu
   subst hu
   exact ⟨[], by simp only [ze]; exact ⟨⟨[], ownsRow_nil hc, by simp⟩, rfl⟩, by simp, by simp⟩
 ·cases h
theorem bh2 {D : Ctx} (hG : GOk D) (hG2 : nu D) (hI : InlOk D) (hmix : D.P.follows .mixedOrders = true) {f : FuncId} {fn : Func} (hf : D.P.funcs[f]? = some fn) (hL : ∀ c, fn.body = some c → ∀ c', c' ∈ d9 c → jl D c') (hrng : D.rng = []) (htop : D.top = false) (e : TypeId) (c0 : Cont) :
    ayj D.P D.globs f (bsf D fn e c0) := by
 intro args K r h
 unfold bsf at h
 split at h
 ·cases h
 ·rename_i c hb
  cases hle : Nat.ble args.length fn.ntmps with
  | false => rw [hle] at h; cases h
  | true =>
   rw [hle] at h
   simp only [cond_true] at h
   have hle := Nat.le_of_ble_eq_true hle
   obtain ⟨ex, st, hK, hm, hcode⟩ := azl hG hG2 hI hmix c (hL c hb) (fun c _ => ajb hrng c) _ _ r h
   have hout : (ex = .normal ∨ ex = .ret) ∧ bxp D e c0 fn st K = some r := by
    cases ex with
    | normal => exact ⟨.inl rfl, hK⟩
    | ret => exact ⟨.inr rfl, hK⟩
    | exit j => cases hK
   obtain ⟨hex, hout⟩ := hout
   obtain ⟨y, hKy, hy⟩ := blo (D := D) hout
   refine ⟨y, hKy, fun S w cargs hSw hgl hargs => ?_⟩
   refine ah7.1 (callsIn_of_wp (F := FR none) (n := 0) hf hb trivial (wpIn_mono (hcode none 0 _ _ (tq S) _ w (fun _ => rfl) (bkb hSw hgl hargs hle) (fun id u hu => by simp [tq] at hu)) (fun e a w' hL => ?_)))
   obtain ⟨rfl, E', hup, hR, hD⟩ := hL
   obtain ⟨v, hrun, Sn, bs, k⟩ := hy S w E' a w' hR
   rcases hex with rfl | rfl
   ·exact ⟨hR.idle htop, v, hrun, v, Sn, bs, rfl, k⟩
   ·exact ⟨hR.idle htop, v, hrun, v, Sn, bs, rfl, k⟩
theorem aup {D : Ctx} {f : FuncId} {fn : Func} {c : Code} {s : Spec} (e : TypeId) (c0 : Cont) (hmix : D.P.follows .mixedOrders = true) (hgl : nu D) (hf : D.P.funcs[f]? = some fn) (hn : (fn.name == "runtime.NumGoroutine") = false) (hb : fn.body = some c)
    (hG : bsp D.P D.globs D.G) (hI : bup D D.inl) (hL : as5 D (d9 c)) (h : ∀ args K r, s args K = some r → bsf D fn e c0 args K = some r) (hrng : D.rng = [] := by rfl) (htop : D.top = false := by rfl) (hY : D.ys = none := by rfl) : Proved D.P D.globs f s := by
 refine ⟨⟨fn, hf, hn, by rw [hb]; rfl⟩, fun args K r hs => ?_⟩
 exact bh2 (bbs hG) hgl (bbp hI (aus hY)) hmix hf (fun c' hc' => by rw [hb] at hc'; cases hc'; exact ajm _ hL) hrng htop e c0 args K r (h args K r hs)
def sq1 : Code → Code
 | .seq a _ => a
 | c => c
def sq2 : Code → Code
 | .seq _ b => b
 | c => c
def bjd : Code → Array Oper
 | .region _ ops _ => ops
 | _ => #[]
def b50 : Code → Code
 | .cond _ x _ => x
 | c => c
def bjs : Oper := ⟨none, .move (.tmp 0), 0, "", #[], none⟩
def b99 : AVal → Option R := fun x => some x
def cd9 (D : Ctx) (sig : List Sh) (fn : Func) : AExit → ASt → Option R := fun ex st => match ex with
 | .exit _ => none
 | .normal => brl D sig fn st b99
 | .ret => brl D sig fn st b99
theorem bj9 {P : Program} {o : Oper} {a : Act} {w : World} {v : Value} {next : Act → World → Prop} {Q : Exit → Act → World → Prop} (hr : (execOp a.eval o).run P w = .ok (.value v) w) (h : next (a.put o.dst v) w) : o.wp P a w next Q := by
 unfold Oper.wp
 rw [hr, Oper.upon_value]
 exact h
set_option maxHeartbeats 2000000 in
theorem bph {D : Ctx} {f : FuncId} {fn : Func} {t e : TypeId} {c : Cont} (hG : bsp D.P D.globs D.G) (hgl : nu D) (hI : bup D D.inl) (hmix : D.P.follows .mixedOrders = true) (hf : D.P.funcs[f]? = some fn)
    {o0 o1 o2 : Oper} {i0 i1 : Nat} {X rest : Code} (hb : fn.body = some (.seq (.region i0 #[o0] false) (.seq (.seq (.region i1 #[o1, o2] false) (.cond (.tmp 4) X .skip)) rest)))
    (h0 : o0.op = .assign (.const (.slice none 0 0)) ∧ o0.dst = some 2 ∧ o0.guard = none) (h1 : o1.op = .move (.tmp 0) ∧ o1.dst = some 3 ∧ o1.guard = none)
    (h2 : o2.op = .binOp .eql t (.tmp 3) (.const (.slice none 0 0)) t ∧ o2.dst = some 4 ∧ o2.guard = none) (ht : D.P.underlying t = some (.slice e)) (hm : 5 ≤ fn.ntmps)
    (hLX : d9 X = []) (hLr : d9 rest = []) (hX2 : ∃ i o, X = .seq (.region i #[o] false) .ret ∧ o.op = .assign (.const (.slice none 0 0)) ∧ o.dst = some 2 ∧ o.guard = none) (hres : fn.results = #[.tmp 2])
    (hrng : D.rng = []) (htop : D.top = false) (hY : D.ys = none) (hr : aex D rest ⟨[(0, .sl c), (2, .v (.slice none 0 0))], [], 0, fn.ntmps⟩ (cd9 D [.fr e c] fn) = some (.fr e c)) :
    ∀ (S : Nat → Prop) (w : World) (cargs : List Value), (∀ b, S b → b < w.heap.size) → aoy D.globs S w → lg (tq S) w [.sl c] cargs →
     Calls D.P f cargs.toArray w fun e' w' => ∃ v Sn bs, e' = .returned v ∧ Below w.heap.size w w' ∧ (∀ b, Sn b → S b ∨ (w.heap.size ≤ b ∧ b < w'.heap.size)) ∧ ze Sn w' w.heap.size (.fr e c) v bs ∧ bs.Nodup ∧ ∀ b, b ∈ bs → ¬ Sn b := by
 intro S w cargs hSw hgl' hargs
 have hR0 := bkb (m := fn.ntmps) hSw hgl' hargs (by simp; omega)
 simp only [lg] at hargs
 obtain ⟨u, us, rfl, hu, rfl⟩ := hargs
 refine ah7.1 (callsIn_of_wp_marks (F := FR none) (n := 0) hf hb trivial (wpIn_wide.2 (wp_seq (wp_region ?_))))
 obtain ⟨dst0, op0, ty0, pos0, after0, g0⟩ := o0
 obtain ⟨dst1, op1, ty1, pos1, after1, g1⟩ := o1
 obtain ⟨dst2, op2, ty2, pos2, after2, g2⟩ := o2
 simp only at h0 h1 h2
 obtain ⟨rfl, rfl, rfl⟩ := h0
 obtain ⟨rfl, rfl, rfl⟩ := h1
 obtain ⟨rfl, rfl, rfl⟩ := h2
 have hu0 := hu
 simp only [gy] at hu
 obtain ⟨A, cap, hu1, hcap, hrd⟩ := hu
 -- the first region
 show wpOps D.P _ _ [0] _ _
 simp only [wpOps, List.getElem?_toArray, List.getElem?_cons_zero, Region.wanted, if_true]
 refine .inl (bj9 (v := .slice none 0 0) rfl ?_)
 have hR1 := Rel.put (a := .v (.slice none 0 0)) (u := .slice none 0 0) hR0 (by simp only [gy]) (some 2)
 simp only [Exit.then]
 refine wp_seq (wp_seq (wp_region ?_))
 show wpOps D.P _ _ [0, 1] _ _
 simp only [wpOps, List.getElem?_toArray, List.getElem?_cons_zero, List.getElem?_cons_succ, Region.wanted, if_true]
 have hev : ∀ t, t ≠ 2 → (Act.put { tmps := [u].toArray ++ Array.replicate (fn.ntmps - [u].toArray.size) undef, defers := [] } (some 2) (.slice none 0 0)).tmps.getD t undef = (([u].toArray ++ Array.replicate (fn.ntmps - [u].toArray.size) undef : Array Value)).getD t undef := by
  intro t ht
  simp only [Act.put]
  rw [Array.getD_eq_getD_getElem?, Array.getD_eq_getD_getElem?, Array.getElem?_setIfInBounds_ne (by omega)]
 have hr3 : gy (tq S) w (.sl c) ((Act.put { tmps := [u].toArray ++ Array.replicate (fn.ntmps - [u].toArray.size) undef, defers := [] } (some 2) (.slice none 0 0)).eval (.tmp 0)) := by
  have h1 := hR1.tmps 0
  have e1 : look (ASt.put ⟨arf 0 [.sl c], [], 0, fn.ntmps⟩ (some 2) (.v (.slice none 0 0))).f 0 = .sl c := by simp [ASt.put, abz, arf, look]
  rw [e1] at h1
  exact h1
 have hu3 : (Act.put { tmps := [u].toArray ++ Array.replicate (fn.ntmps - [u].toArray.size) undef, defers := [] } (some 2) (.slice none 0 0)).eval (.tmp 0) = u := by
  show (Act.put _ (some 2) _).tmps.getD 0 undef = u
  rw [hev 0 (by omega), Array.getD_eq_getD_getElem?, Array.getElem?_append_left (by simp)]
  rfl
 rw [hu3] at hr3
 refine .inl (bj9 (v := u) (by simp only [execOp, hu3]; rfl) ?_)
 have hR2 := Rel.put (a := .sl c) (u := u) hR1 hr3 (some 3)
 have he3 : (Act.put (Act.put { tmps := [u].toArray ++ Array.replicate (fn.ntmps - [u].toArray.size) undef, defers := [] } (some 2) (.slice none 0 0)) (some 3) u).eval (.tmp 3) = u := by
  show (Act.put _ (some 3) _).tmps.getD 3 undef = u
  simp only [Act.put]
  rw [Array.getD_eq_getD_getElem?, Array.getElem?_setIfInBounds_self_of_lt (by simp; omega)]
  rfl
 generalize hact2 : (Act.put (Act.put { tmps := [u].toArray ++ Array.replicate (fn.ntmps - [u].toArray.size) undef, defers := [] } (some 2) (.slice none 0 0)) (some 3) u) = a2 at hR2 he3 ⊢
 refine .inl (bj9 (v := .bool A.isNone) (by
  have hcn : a2.eval (.const (.slice none 0 0)) = .slice none 0 0 := rfl
  simp only [execOp, he3, hcn]
  rw [hu1]
  simp [eqGuard, binOp, run_equal_slice_nil w t e A c.len cap ht]) ?_)
 have hR3 := Rel.put (a := .v (.bool A.isNone)) (u := .bool A.isNone) hR2 (by simp only [gy]) (some 4)
 simp only [Exit.then]
 generalize hact : Act.put a2 (some 4) (.bool A.isNone) = act at hR3 ⊢
 have hc4 : act.eval (.tmp 4) = .bool A.isNone := by
  have := hR3.tmps 4
  simp only [ASt.put, abz] at this
  rw [if_pos ⟨trivial, by omega⟩] at this
  simp only [gy] at this
  exact this
 have hk : ∀ t, look ([(0, AVal.sl c), (2, AVal.v (.slice none 0 0))] : List (Nat × AVal)) t = .bot ∨ gy (tq S) w (look [(0, .sl c), (2, .v (.slice none 0 0))] t) (act.tmps.getD t undef) := by
  intro t
  by_cases h0 : t = 0
  ·subst h0
   right
   have := hR3.tmps 0
   simpa [ASt.put, abz, arf, look] using this
  ·by_cases h2 : t = 2
   ·subst h2
    right
    have h3 := hR3.tmps 2
    have e2 : look (ASt.put (ASt.put (ASt.put ⟨arf 0 [.sl c], [], 0, fn.ntmps⟩ (some 2) (.v (.slice none 0 0))) (some 3) (.sl c)) (some 4) (.v (.bool A.isNone))).f 2 = .v (.slice none 0 0) := by
     simp only [ASt.put, abz]
     rw [if_neg (by simp), if_neg (by simp), if_pos ⟨trivial, by omega⟩]
    rw [e2] at h3
    exact h3
   ·left
    have a0 : Nat.beq 0 t = false := by cases hq : Nat.beq 0 t with
     | false => rfl
     | true => exact absurd (Nat.eq_of_beq_eq_true hq).symm h0
    have a2 : Nat.beq 2 t = false := by cases hq : Nat.beq 2 t with
     | false => rfl
     | true => exact absurd (Nat.eq_of_beq_eq_true hq).symm h2
    simp only [look, a0, a2, cond_false]
 have htm : ∀ t, gy (tq S) w (look [(0, .sl c), (2, .v (.slice none 0 0))] t) (act.tmps.getD t undef) := by
  intro t
  rcases hk t with h | h
  ·rw [h]; exact aji _
  ·exact h
 have hR4 : Rel D w.heap.size ⟨w, S, none⟩ (tq S) ⟨[(0, .sl c), (2, .v (.slice none 0 0))], [], 0, fn.ntmps⟩ act w :=
  { hR3 with tmps := htm }
 have hD0 : Dom (tq S) 0 := fun id u hu => by simp [tq] at hu
 refine wp_cond hc4 ?_
 cases A with
 | some a =>
  simp only [Option.isNone_some, Bool.false_eq_true, if_false]
  refine wp_skip ?_
  simp only [Exit.then]
  obtain ⟨y, hy, hrest⟩ := bm3 (bbs hG) hgl (bbp hI (aus hY)) hmix (fn := fn) (c := rest) (fun c' hc => by rw [hLr] at hc; cases hc) (fun c _ => ajb hrng c) [.fr e c] (K := b99) (r := .fr e c) hr
  cases hy
  exact wpIn_wide.1 (hrest S w act w (tq S) hR4 hD0)
 | none =>
  simp only [Option.isNone_none, if_true]
  have hc0 : c.len = 0 := by
   refine Nat.eq_zero_of_not_pos (fun h => ?_)
   obtain ⟨a, ha, _⟩ := hrd h
   cases ha
  obtain ⟨ix, ox, rfl, ho, hod, hog⟩ := hX2
  obtain ⟨dstx, opx, tyx, posx, afterx, gx⟩ := ox
  simp only at ho hod hog
  subst ho
  subst hod
  subst hog
  refine wp_seq (wp_region ?_)
  show wpOps D.P _ _ [0] _ _
  simp only [wpOps, List.getElem?_toArray, List.getElem?_cons_zero, Region.wanted, if_true]
  refine .inl (bj9 (v := .slice none 0 0) rfl ?_)
  simp only [Exit.then]
  refine wp_ret ?_
  simp only [Exit.then]
  have hR5 := Rel.put (a := .v (.slice none 0 0)) (u := .slice none 0 0) hR4 (by simp only [gy]) (some 2)
  show LeavesInM _ _ _ _ _ _ (Act.put act (some 2) (.slice none 0 0)).defers _ _
  rw [hR5.idle htop]
  refine ⟨.slice none 0 0, ?_, _, S, [], rfl, hR5.below, fun b hb => .inl hb, by simp only [ze]; exact ⟨⟨[], ownsRow_nil hc0, by simp⟩, rfl⟩, by simp, by simp⟩
  have h2 := hR5.tmps 2
  simp only [ASt.put, abz] at h2
  rw [if_pos ⟨trivial, by omega⟩] at h2
  simp only [gy] at h2
  unfold results
  rw [hres]
  simp
  rw [← Array.getD_eq_getD_getElem?]
  exact h2
end Go.Abs
