/-
  ForsSigns, part 6: an interpreter of my own over abstract values, the pure functions, the walks and the plain law.
-/

import Derived.Test.YtjhnljhjpnjieaaGreatDoorForsSignsE
import Derived.OrdersIn
import Derived.LoopNIn
import Derived.RangeFuncCalls
import Derived.RangeFuncRecord

section
namespace Go.Abs
open Go Go.RowKit
set_option linter.unusedVariables false
set_option linter.unusedSimpArgs false
def FR (r : Option Nat) : Fence := { Fence.wide with round := r }
theorem ag3 {r : Option Nat} {n : Nat} {P : Program} {f : FuncId} {args : Array Value} {w : World} {R : Ending → World → Prop} : CallsIn (FR r) n P f args w R ↔ Calls P f args w R :=
 callsIn_wide (n := n)
theorem bgi {r : Option Nat} {Q : Prop} (h : (FR r).depth.isSome = true) : Q := by simp [FR, Fence.wide] at h
theorem bqc {r : Option Nat} {n : Nat} {P : Program} {o : Oper} {a : Act} {w : World} {K : Act → World → Prop} {Q : Exit → Act → World → Prop} (hd : ∀ c, o.op ≠ .defer c) (h : o.wp P a w K Q) : o.wpIn (FR r) n P a w K Q := by
 unfold Oper.wp at h
 unfold Oper.wpIn
 refine ⟨fun _ _ => trivial, ?_⟩
 rw [Oper.semAt_eq _ _ _ hd]
 generalize (execOp a.eval o).run P w = x at h ⊢
 cases x with
 | ok y w' =>
  cases y <;> simp only [Oper.upon, Oper.uponIn] at h ⊢ <;> first
   | exact h
   | exact ⟨fun h => bgi h, ag3.2 h⟩
   | exact ⟨fun h => bgi h, fun c cs _ => let ⟨v, w', r, s⟩ := h c cs; ⟨v, w', r, stepsIn_wide.2 s⟩⟩
 | halt x w' => cases x <;> simp only [Oper.upon, Oper.uponIn] at h ⊢ <;> exact h
structure EqS (a b : ASt) : Prop where
 f : ∀ t, look a.f t = look b.f t
 h : ∀ id, fq a.h id = fq b.h id
 m : a.m = b.m
theorem EqS.refl (a : ASt) : EqS a a := ⟨fun _ => rfl, fun _ => rfl, rfl⟩
theorem EqS.symm {a b : ASt} (h : EqS a b) : EqS b a := ⟨fun t => (h.f t).symm, fun t => (h.h t).symm, h.m.symm⟩
theorem EqS.trans {a b c : ASt} (h : EqS a b) (k : EqS b c) : EqS a c := ⟨fun t => (h.f t).trans (k.f t), fun t => (h.h t).trans (k.h t), h.m.trans k.m⟩
def Dom (E : Env) (n : Nat) : Prop := ∀ id u, E.ρ id = some u → id < n
section
variable {D : Ctx} {B0 : Nat} {w0 : W0} {E : Env} {act : Act} {w : World} {ops : Array Oper}
theorem Rel.eqS {a b : ASt} (h : Rel D B0 w0 E a act w) (e : EqS a b) : Rel D B0 w0 E b act w where
 below := h.below
 base := h.base
 size := h.size.trans e.m
 idle := h.idle
 marks := h.marks
 recs := h.recs
 tmps := fun t => by rw [← e.f t]; exact h.tmps t
 heap := fun id b hb => h.heap id b (by rw [e.h id]; exact hb)
 apart := fun id id' b b' u u' k h1 h2 h3 h4 => h.apart id id' b b' u u' k (by rw [e.h id]; exact h1) h2 (by rw [e.h id']; exact h3) h4
 sOld := h.sOld
 sNew := h.sNew
 form := h.form
 globs := h.globs
theorem atv {st : ASt} {t : Nat} {a : AVal} (h : look st.f t = a) : EqS st (st.put (some t) a) := by
 refine ⟨fun t' => ?_, fun _ => rfl, rfl⟩
 simp only [ASt.put]
 rw [aa3]
 split
 ·rename_i hc
  cases hc.1
  exact h
 ·rfl
def ab5 (ops : Array Oper) (o : Oper) (st : ASt) (q : Bool) : Prop :=
 match o.guard with
 | none => q = true
 | some (j, want) => ∃ t, avb ops j = some t ∧ ((∃ b, look st.f t = .v (.bool b) ∧ q = (b == want)) ∨ (∃ x, look st.f t = .v (.tuple x) ∧ q = false))
theorem awc {o : Oper} {st : ASt} {F S : ASt → Option R} {r : R} (h : bgq ops o st F S = some r) :
    ∃ st', EqS st st' ∧ st'.n = st.n ∧ ((ab5 ops o st true ∧ F st' = some r) ∨ (ab5 ops o st false ∧ S st' = some r)) := by
 unfold bgq at h
 unfold ab5
 split at h
 ·rename_i hg
  rw [hg]
  exact ⟨st, EqS.refl _, rfl, .inl ⟨rfl, h⟩⟩
 ·rename_i j want hg
  rw [hg]
  split at h
  ·cases h
  ·rename_i t ht
   split at h
   ·rename_i b hb
    rcases z8 h with ⟨rfl, h4⟩ | ⟨rfl, h4⟩
    ·cases want with
     | true => exact ⟨_, atv hb, rfl, .inl ⟨⟨t, ht, .inl ⟨true, hb, rfl⟩⟩, h4⟩⟩
     | false => exact ⟨_, atv hb, rfl, .inr ⟨⟨t, ht, .inl ⟨true, hb, rfl⟩⟩, h4⟩⟩
    ·cases want with
     | true => exact ⟨_, atv hb, rfl, .inr ⟨⟨t, ht, .inl ⟨false, hb, rfl⟩⟩, h4⟩⟩
     | false => exact ⟨_, atv hb, rfl, .inl ⟨⟨t, ht, .inl ⟨false, hb, rfl⟩⟩, h4⟩⟩
   ·rename_i x hx
    exact ⟨st, EqS.refl _, rfl, .inr ⟨⟨t, ht, .inr ⟨x, hx, rfl⟩⟩, h⟩⟩
   ·cases h
theorem ab5.wanted {o : Oper} {st : ASt} {q : Bool} (h : ab5 ops o st q) (hR : Rel D B0 w0 E st act w) : Region.wanted o (yielded ops act.tmps) = q := by
 unfold ab5 at h
 unfold Region.wanted
 split at h
 ·rename_i hg
  rw [hg]
  exact h.symm
 ·rename_i j want hg
  rw [hg]
  obtain ⟨t, ht, ⟨b, hb, rfl⟩ | ⟨x, hb, rfl⟩⟩ := h
  ·have h1 := hR.tmps t
   rw [hb] at h1
   simp only [eu] at h1
   have h2 : yielded ops act.tmps j = some b := by
    unfold yielded
    unfold avb at ht
    rw [ht]
    simp only [Option.bind_some]
    rw [Array.getD_eq_getD_getElem?] at h1
    cases hx : act.tmps[t]? with
    | none => rw [hx] at h1; simp [undef] at h1
    | some x => rw [hx] at h1; simp at h1; subst h1; rfl
   simp only [h2]
   cases b <;> cases want <;> rfl
  ·have h1 := hR.tmps t
   rw [hb] at h1
   simp only [eu] at h1
   have h2 : yielded ops act.tmps j = none := by
    unfold yielded
    unfold avb at ht
    rw [ht]
    simp only [Option.bind_some]
    rw [Array.getD_eq_getD_getElem?] at h1
    cases hx : act.tmps[t]? with
    | none => rfl
    | some y => rw [hx] at h1; simp at h1; subst h1; rfl
   simp only [h2]
   cases want <;> rfl
theorem aip (u : Value) : eu E w .bot u := by simp only [eu]
theorem axp : eu E w (.v undef) undef := by simp only [eu]
theorem Up.dom {E E' : Env} {n n' : Nat} {st : ASt} (hd : Dom E n) (hle : n ≤ n') (h : ∀ id x, E'.ρ id = some x → E.ρ id = some x ∨ (n ≤ id ∧ id < n')) : Dom E' n' := by
 intro id u hu
 rcases h id u hu with h | h
 ·exact Nat.lt_of_lt_of_le (hd id u h) hle
 ·exact h.2
def bfb (D : Ctx) (g : FuncId) (s : awx) : Prop :=
 ∀ (args : List AVal) (h : Hp) (n : Nat) (K : AVal → Hp → Nat → Option R) (r : R), s args h n K = some r → ∃ v h' n', K v h' n' = some r ∧
  ∀ (B0 : Nat) (w0 : W0) (E : Env) (f : List (Nat × AVal)) (m : Nat) (act : Act) (w : World) (cargs : List Value), Rel D B0 w0 E ⟨f, h, n, m⟩ act w → Dom E n → jl E w args cargs →
   Calls D.P g cargs.toArray w fun e w' => ∃ u E', e = .returned u ∧ Up E E' w w' ∧ Rel D B0 w0 E' ⟨f, h', n', m⟩ act w' ∧ Dom E' n' ∧ eu E' w' v u
def aoi (D : Ctx) (s : bqy) : Prop :=
 ∀ (ts : List Nat) (vs args : List AVal) (h : Hp) (n : Nat) (K : Hp → Nat → Option R) (r : R), s ts vs args h n K = some r → ∃ h' n', K h' n' = some r ∧
  ∀ (B0 : Nat) (w0 : W0) (E : Env) (f : List (Nat × AVal)) (m : Nat) (act : Act) (w : World) (cargs : List Value) (id l : Nat) (T : Array Value), Rel D B0 w0 E ⟨f, h, n, m⟩ act w → Dom E n → jl E w args cargs →
   E.ρ id = some (mark l T) → jl E w vs (ts.map fun t => T.getD t undef) →
   ∃ r0, w.heap[l]? = some (.loop r0) ∧ cargs.toArray.size = r0.params.size ∧ ∀ (n0 : Nat) (q : Option Nat), RoundIn (FR q) n0 D.P l r0.fn ((r0.params.zip cargs.toArray).foldl (fun tmps (t, a) => tmps.setIfInBounds t a) r0.tmps) r0.assign r0.body w
    fun e w' => ∃ E', e = .returned (.bool true) ∧ Up E E' w w' ∧ Rel D B0 w0 E' ⟨f, h', n', m⟩ act w' ∧ Dom E' n'
structure InlOk (D : Ctx) : Prop where
 run : ∀ g s, axz D.inl g = some s → Enters D.P g ∧ bfb D g s
 yld : ∀ s, D.ys = some s → aoi D s
theorem bg3 {f : List (Nat × AVal)} {op : Op} {ts : List Nat} {vs as : List AVal} (h : bqn f op = some (ts, vs, as)) :
    ∃ x xs at_ id, op = .call ⟨.value x, xs, at_⟩ ∧ ev f x = .yld id ts vs ∧ as = evs f xs.toList := by
 unfold bqn at h
 split at h
 ·split at h
  ·rename_i hx
   cases h
   exact ⟨_, _, _, _, rfl, hx, rfl⟩
  ·cases h
 ·cases h
theorem bje {f : List (Nat × AVal)} {op : Op} {g : Nat} {as : List AVal} (h : b5i f op = some (g, as)) :
    ∃ x xs at_ first caps, op = .call ⟨.value x, xs, at_⟩ ∧ ev f x = .fn (.func g) first caps ∧ as = oo first (oo (evs f xs.toList) caps) := by
 unfold b5i at h
 split at h
 ·split at h
  ·rename_i hx
   cases h
   exact ⟨_, _, _, _, _, rfl, hx, rfl⟩
  ·cases h
 ·cases h
theorem biu {op : Op} {vs : List AVal} {hl : Nat → Option Blk} {n : Nat} {K : Eff → Option R} {r : R} (h : core D op vs hl n K = some r) : ∀ c, op ≠ .defer c := by
 rintro c rfl
 simp [core] at h
theorem boi (hG : GOk D) (hG2 : l7 D) (hI : InlOk D) {o : Oper} {st : ASt} {K : ASt → Option R} {r : R} (h : doA D o st K = some r) :
    ∃ st', K st' = some r ∧ st'.m = st.m ∧ ∀ (q : Option Nat) (n0 B0 : Nat) (w0 : W0) E act w (next : Act → World → Prop) (Q : Exit → Act → World → Prop), Rel D B0 w0 E st act w → Dom E st.n →
     (∀ E' act' w', Up E E' w w' → Rel D B0 w0 E' st' act' w' → Dom E' st'.n → next act' w') → o.wpIn (FR q) n0 D.P act w next Q := by
 unfold doA at h
 split at h
 ·rename_i ts vs as hy
  split at h
  ·rename_i s hs
   obtain ⟨x, xs, at_, id, hop, hx, rfl⟩ := bg3 hy
   obtain ⟨h', n', hK, hrnd⟩ := hI.yld s hs _ _ _ _ _ _ r h
   refine ⟨_, hK, rfl, fun q n0 B0 w0 E act w next Q hR hD hnext => ?_⟩
   have hX := hR.ev x
   rw [hx] at hX
   simp only [eu] at hX
   obtain ⟨l, T, hρ, hfn, hvs⟩ := hX
   obtain ⟨r0, hl, hsz, hround⟩ := hrnd B0 w0 E st.f st.m act w _ id l T hR hD (hR.evs _) hρ hvs
   have hexec : (execOp act.eval o).run D.P w = .ok (.round l r0.fn ((r0.params.zip (xs.toList.map act.eval).toArray).foldl (fun tmps (t, a) => tmps.setIfInBounds t a) r0.tmps) r0.assign r0.body) w := by
    have e1 : (#[] : Array Value) ++ Array.map act.eval xs = (xs.toList.map act.eval).toArray := by
     apply Array.ext'
     simp
    obtain ⟨dst, op, type, pos, after, guard⟩ := o
    simp only at hop
    subst hop
    simp only [execOp, resolve, hfn, Deferred.ofValue, invoke, Sem.run_bind, Sem.run_pure, Result.andThen_ok, e1, run_yield hl hsz]
   unfold Oper.wpIn
   refine ⟨fun _ _ => trivial, ?_⟩
   rw [Oper.semAt_eq _ _ _ (by rw [hop]; intro c hc; cases hc), hexec, Oper.uponIn_round]
   refine ⟨fun h => bgi h, (hround (n0 - 1) q).mono ?_⟩
   rintro e w' ⟨E', rfl, k1, k2, k3⟩
   exact hnext E' _ w' k1 (Rel.put (st := ⟨st.f, h', n', st.m⟩) (a := .v (.bool true)) k2 (by simp only [eu]) o.dst) k3
  ·cases h
 ·split at h
  ·rename_i s as hi
   unfold bl8 at hi
   split at hi
   ·rename_i g as' hd
    split at hi
    ·rename_i s' hs
     cases hi
     obtain ⟨x, xs, at_, first, caps, hop, hx, rfl⟩ := bje hd
     obtain ⟨hent, hrun⟩ := hI.run g s hs
     obtain ⟨v, h', n', hK, hcall⟩ := hrun _ _ _ _ r h
     refine ⟨_, hK, rfl, fun q n0 B0 w0 E act w next Q hR hD hnext => bqc (by rw [hop]; intro c hc; cases hc) ?_⟩
     have hX := hR.ev x
     rw [hx] at hX
     simp only [eu] at hX
     obtain ⟨fv, cv, hfn, hrf, hrc⟩ := hX
     have hargs : jl E w (oo first (oo (evs st.f xs.toList) caps)) (fv ++ (xs.toList.map act.eval ++ cv)) := by
      rw [agi, agi]
      exact ag4 _ _ _ _ hrf (ag4 _ _ _ _ (hR.evs _) hrc)
     have hc := hcall B0 w0 E st.f st.m act w _ hR hD hargs
     have hexec : (execOp act.eval o).run D.P w = .ok (.enter g (fv ++ (xs.toList.map act.eval ++ cv)).toArray) w := by
      have e1 : (fv.toArray ++ Array.map act.eval xs) ++ cv.toArray = (fv ++ (xs.toList.map act.eval ++ cv)).toArray := by
       apply Array.ext'
       simp
      obtain ⟨dst, op, type, pos, after, guard⟩ := o
      simp only at hop
      subst hop
      simp only [execOp, resolve, hfn, Deferred.ofValue, invoke, Sem.run_bind, Sem.run_pure, Result.andThen_ok, e1, amc hent]
     unfold Oper.wp
     rw [hexec, Oper.upon_enter]
     refine hc.mono ?_
     rintro e w' ⟨u, E', rfl, k1, k2, k3, k4⟩
     exact hnext E' _ w' k1 (Rel.put (st := ⟨st.f, h', n', st.m⟩) k2 k4 o.dst) k3
    ·cases hi
   ·cases hi
  ·unfold opA at h
   have hnd := biu h
   obtain ⟨eff, hK, hle, hok⟩ := bkg (dst := o.dst) (type := o.type) (pos := o.pos) (after := o.after) (guard := o.guard) hG hG2 h
   refine ⟨_, hK, rfl, fun q n0 B0 w0 E act w next Q hR hD hnext => bqc hnd ?_⟩
   refine hok B0 w0 st rfl (fun id b hb => ?_) rfl E act w hR (fun id h1 h2 => ?_) _ Q (fun E' w' u k1 k2 k3 => ?_)
   ·unfold mask at hb
    cases hm : mo id (evs st.f (ali o.op)) with
    | true => rw [hm] at hb; exact hb
    | false => rw [hm] at hb; cases hb
   ·cases hx : E.ρ id with
    | none => rfl
    | some x => have := hD id x hx; omega
   ·exact hnext E' _ w' k1 k3 (Up.dom (st := st) (n := st.n) hD hle k2)
theorem be8 (hG : GOk D) (hG2 : l7 D) (hI : InlOk D) : ∀ (rest : List Oper) (i : Nat) (st : ASt) (K : ASt → Option R) (r : R), ops.toList.drop i = rest → brm D ops rest st K = some r →
    ∃ st', K st' = some r ∧ st'.m = st.m ∧ ∀ (q : Option Nat) (n0 B0 : Nat) (w0 : W0) E act w Q, Rel D B0 w0 E st act w → Dom E st.n →
     (∀ E' act' w', Up E E' w w' → Rel D B0 w0 E' st' act' w' → Dom E' st'.n → Q Exit.normal act' w') → wpOpsIn (FR q) n0 D.P ops Q (List.range' i rest.length) act w
 | [], i, st, K, r, hd, h => ⟨st, h, rfl, fun q n0 B0 w0 E act w Q hR hD hQ => hQ E act w (Up.refl _ _) hR hD⟩
 | o :: rest, i, st, K, r, hd, h => by
  have hoi : ops[i]? = some o := by
   have : (ops.toList.drop i)[0]? = some o := by rw [hd]; rfl
   simpa using this
  have hd' : ops.toList.drop (i + 1) = rest := by
   rw [← List.drop_drop, hd]; rfl
  unfold brm at h
  obtain ⟨s1, e1, hn1, hc⟩ := awc h
  rcases hc with ⟨hg, h⟩ | ⟨hg, h⟩
  ·obtain ⟨s2, hK, hm2, hok⟩ := boi hG hG2 hI h
   obtain ⟨st', h1, h2, h4⟩ := be8 hG hG2 hI rest (i + 1) _ K r hd' hK
   refine ⟨st', h1, h2.trans (hm2.trans e1.m.symm), fun q n0 B0 w0 E act w Q hR hD hQ => ?_⟩
   simp only [List.length_cons, List.range'_succ, wpOpsIn, hoi]
   rw [if_pos (hg.wanted hR)]
   refine hok q n0 B0 w0 E act w _ Q (hR.eqS e1) (by rw [hn1]; exact hD) (fun E' a' w' k1 k2 k3 => ?_)
   exact h4 q n0 B0 w0 E' a' w' Q k2 k3 (fun E2 a2 w2 k4 k5 k6 => hQ E2 a2 w2 (k1.trans k4) k5 k6)
  ·obtain ⟨st', h1, h2, h4⟩ := be8 hG hG2 hI rest (i + 1) _ K r hd' h
   refine ⟨st', h1, h2.trans e1.m.symm, fun q n0 B0 w0 E act w Q hR hD hQ => ?_⟩
   simp only [List.length_cons, List.range'_succ, wpOpsIn, hoi]
   rw [if_neg (by rw [hg.wanted hR]; simp)]
   refine ⟨fun _ _ => trivial, ?_⟩
   refine h4 q n0 B0 w0 E _ w Q ((hR.eqS e1).put axp _) ?_ hQ
   simp only [ASt.put]
   rw [hn1]
   exact hD
theorem bi3 (hG : GOk D) (hG2 : l7 D) (hI : InlOk D) {id : Nat} {st : ASt} {K : ASt → Option R} {r : R} (h : brm D ops ops.toList st K = some r) :
    ∃ st', K st' = some r ∧ st'.m = st.m ∧ ∀ (q : Option Nat) (n0 B0 : Nat) (w0 : W0) E act w Q, Rel D B0 w0 E st act w → Dom E st.n →
     (∀ E' act' w', Up E E' w w' → Rel D B0 w0 E' st' act' w' → Dom E' st'.n → Q Exit.normal act' w') → (Code.region id ops false).wpIn (FR q) n0 D.P Q act w := by
 obtain ⟨st', h1, h2, h4⟩ := be8 hG hG2 hI ops.toList 0 st K r rfl h
 refine ⟨st', h1, h2, fun q n0 B0 w0 E act w Q hR hD hQ => wpIn_region ?_⟩
 have := h4 q n0 B0 w0 E act w Q hR hD hQ
 rw [List.range_eq_range']
 simpa using this
end
end Go.Abs
end

section
namespace Go.Abs
open Go Go.RowKit
set_option linter.unusedVariables false
set_option linter.unusedSimpArgs false
structure Stp where
 o : Oper
 i : Info
 n : Nat
 n' : Nat
 val : AVal
 skip : Bool
def Stp.eff (s : Stp) : Eff := ⟨s.val, s.i.puts, s.n'⟩
def aff (st0 : ASt) (L : Nat → Bool) : List Stp → ASt
 | [] => st0
 | s :: r => bif L r.length then (aff st0 L r).app s.eff s.o.dst else aff st0 L r
def ane (st0 : ASt) : List Stp → Nat
 | [] => st0.n
 | s :: _ => s.n'
def bas : Nat → Bool := fun _ => true
def be7 (D : Ctx) (ops : Array Oper) (st0 : ASt) : List Stp → Prop
 | [] => True
 | s :: r => be7 D ops st0 r ∧ ops[r.length]? = some s.o ∧ s.i.dst = s.o.dst ∧ bm7 (r.map (·.i)) r.length s.o.after.toList = some s.i.cl ∧ bbh (r.map (·.i)) r.length s.i = true ∧
     s.n = ane st0 r ∧ s.n ≤ s.n' ∧ ab5 ops s.o (aff st0 bas r) (!s.skip) ∧ (∀ j want t, s.o.guard = some (j, want) → avb ops j = some t → t ∈ s.i.looks) ∧
     (s.skip = true → s.val = .v undef ∧ s.i.puts = [] ∧ s.n' = s.n) ∧
     (s.skip = false → (∀ c, s.o.op ≠ .defer c) ∧ (∀ t, t ∈ tmpsOf (ali s.o.op) → t ∈ s.i.looks) ∧
      ∀ (B0 : Nat) (w0 : W0) (st : ASt), evs st.f (ali s.o.op) = evs (aff st0 bas r).f (ali s.o.op) → (∀ id b, mask s.i.vs (aff st0 bas r).h id = some b → fq st.h id = some b) → st.n = s.n → adu D B0 w0 st s.o s.eff)
section
variable {D : Ctx} {B0 : Nat} {w0 : W0} {ops : Array Oper} {st0 : ASt}
theorem EqS.app {a b : ASt} (h : EqS a b) (e : Eff) (d : Option Nat) : EqS (a.app e d) (b.app e d) := by
 refine ⟨fun t => ?_, fun id => ?_, h.m⟩
 ·simp only [ASt.app, aa3, h.m, h.f]
 ·simp only [ASt.app, acr, h.h]
theorem bmz {a : ASt} {e e' : Eff} {d d' : Option Nat} (hd : av4 d d' = false) (hp : ∀ id, (assoc e.puts id).isSome = true → (assoc e'.puts id).isSome = true → False) :
    EqS ((a.app e d).app e' d') ((a.app e' d').app e d) := by
 refine ⟨fun t => ?_, fun id => ?_, rfl⟩
 ·simp only [ASt.app, aa3]
  by_cases h1 : d = some t
  ·by_cases h2 : d' = some t
   ·subst h1; subst h2
    simp [av4] at hd
   ·simp [h1, h2]
  ·simp [h1]
 ·simp only [ASt.app, acr]
  have := hp id
  cases h1 : assoc e.puts id with
  | none => rfl
  | some b =>
   cases h2 : assoc e'.puts id with
   | none => rfl
   | some b' => rw [h1, h2] at this; exact (this rfl rfl).elim
theorem av2 {f f' : List (Nat × AVal)} : ∀ (xs : List Operand), (∀ t, t ∈ tmpsOf xs → look f t = look f' t) → evs f xs = evs f' xs
 | [], _ => rfl
 | x :: r, h => by
  have ih := av2 r (fun t ht => h t (by cases x <;> simp [tmpsOf, ht]))
  simp only [evs, ih]
  congr 1
  cases x with
  | tmp t => exact h t (by simp [tmpsOf])
  | _ => rfl
theorem ab5.congr {a b : ASt} {o : Oper} {q : Bool} (he : ∀ t, look a.f t = look b.f t) (h : ab5 ops o b q) : ab5 ops o a q := by
 unfold ab5 at *
 cases hg : o.guard with
 | none => simp only [hg] at h ⊢; exact h
 | some jw =>
  obtain ⟨j, want⟩ := jw
  simp only [hg] at h ⊢
  obtain ⟨t, h1, ⟨b, h2, h3⟩ | ⟨x, h2, h3⟩⟩ := h
  ·exact ⟨t, h1, .inl ⟨b, by rw [he]; exact h2, h3⟩⟩
  ·exact ⟨t, h1, .inr ⟨x, by rw [he]; exact h2, h3⟩⟩
theorem acd {x : Nat} : ∀ {l : List Nat}, atj x l = true ↔ x ∈ l
 | [] => by simp [atj]
 | y :: r => by
  simp only [atj, Bool.or_eq_true, acd (l := r), List.mem_cons]
  constructor
  ·rintro (h | h)
   ·exact .inl (Nat.eq_of_beq_eq_true h)
   ·exact .inr h
  ·rintro (rfl | h)
   ·exact .inl (Nat.beq_refl _)
   ·exact .inr h
theorem at6 {acc : List Info} {i : Nat} {I : Info} {F : List Info → Option R} {r : R} (h : bfs acc i I F = some r) : bbh acc i I = true ∧ F (I :: acc) = some r := by
 unfold bfs at h
 cases hf : bbh acc i I with
 | false => rw [hf] at h; cases h
 | true => rw [hf] at h; exact ⟨rfl, h⟩
theorem akq (hG : GOk D) (hG2 : l7 D) : ∀ (rest : List Oper) (i : Nat) (acc : List Info) (st : ASt) (K : List Info → ASt → Option R) (r : R) (steps : List Stp), (∃ tl, ops.toList.drop i = rest ++ tl) → steps.length = i →
    acc = steps.map (·.i) → be7 D ops st0 steps → EqS (aff st0 bas steps) st → st.n = ane st0 steps → azc D ops rest i acc st K = some r →
    ∃ steps' st', K (steps'.map (·.i)) st' = some r ∧ be7 D ops st0 steps' ∧ steps'.length = i + rest.length ∧ EqS (aff st0 bas steps') st' ∧ st'.n = ane st0 steps'
 | [], i, acc, st, K, r, steps, hd, hl, ha, ht, he, hn, h => ⟨steps, st, by rw [← ha]; exact h, ht, by simp [hl], he, hn⟩
 | o :: rest, i, acc, st, K, r, steps, hd, hl, ha, ht, he, hn, h => by
  obtain ⟨tl, hd⟩ := hd
  have hoi : ops[i]? = some o := by
   have : (ops.toList.drop i)[0]? = some o := by rw [hd]; rfl
   simpa using this
  have hd' : ∃ tl, ops.toList.drop (i + 1) = rest ++ tl := ⟨tl, by rw [← List.drop_drop, hd]; rfl⟩
  unfold azc at h
  split at h
  ·cases h
  ·rename_i cl hcl
   obtain ⟨s1, e1, hn1, hc⟩ := awc h
   have es1 : EqS (aff st0 bas steps) s1 := he.trans e1
   have gcongr : ∀ q, ab5 ops o st q → ab5 ops o (aff st0 bas steps) q := fun q hg => hg.congr he.f
   rcases hc with ⟨hg, h⟩ | ⟨hg, h⟩
   ·unfold opD at h
    have hnd := biu h
    obtain ⟨eff, hK, hle, hok⟩ := bkg (dst := o.dst) (type := o.type) (pos := o.pos) (after := o.after) (guard := o.guard) hG hG2 h
    obtain ⟨hf, hK⟩ := at6 hK
    have hev : evs (aff st0 bas steps).f (ali o.op) = evs s1.f (ali o.op) := av2 _ (fun t _ => es1.f t)
    obtain ⟨steps', st', k1, k2, k3, k4, k5⟩ := akq hG hG2 rest (i + 1) _ _ K r (⟨o, bof ops o (azo o.op (evs s1.f (ali o.op))) eff.puts cl, s1.n, eff.n, eff.val, false⟩ :: steps) hd' (by simp [hl]) (by simp [ha])
     (by
      refine ⟨ht, by rw [hl]; exact hoi, rfl, ?_, ?_, by rw [hn1, hn], hle, gcongr _ hg, ?_, (fun h => by cases h), fun _ => ⟨hnd, ?_, ?_⟩⟩
      ·rw [← ha, hl]; exact hcl
      ·rw [← ha, hl]; exact hf
      ·intro j want t hgd hgt
       refine jh.2 (.inl ?_)
       simp only at hgd
       simp only [bfh, hgd, hgt]
       simp
      ·intro t ht'
       exact jh.2 (.inr ht')
      ·intro B0 w0 s hs hh hsn
       refine hok B0 w0 s (hs.trans hev) (fun id b hb => hh id b ?_) hsn
       unfold mask at hb ⊢
       rw [es1.h]
       exact hb) (es1.app _ _) rfl hK
    exact ⟨steps', st', k1, k2, by rw [k3]; simp; omega, k4, k5⟩
   ·obtain ⟨hf, hK⟩ := at6 h
    obtain ⟨steps', st', k1, k2, k3, k4, k5⟩ := akq hG hG2 rest (i + 1) _ _ K r (⟨o, azq ops o cl, s1.n, s1.n, .v undef, true⟩ :: steps) hd' (by simp [hl]) (by simp [ha])
     (by
      refine ⟨ht, by rw [hl]; exact hoi, rfl, ?_, ?_, by rw [hn1, hn], Nat.le_refl _, gcongr _ hg, ?_, (fun _ => ⟨rfl, rfl, rfl⟩), fun h => by cases h⟩
      ·rw [← ha, hl]; exact hcl
      ·rw [← ha, hl]; exact hf
      ·intro j want t hgd hgt
       simp only at hgd
       simp only [azq, bfh, hgd, hgt]
       simp) ((es1.app ⟨.v undef, [], s1.n⟩ o.dst).trans ⟨fun _ => rfl, fun _ => rfl, rfl⟩) rfl hK
    exact ⟨steps', st', k1, k2, by rw [k3]; simp; omega, k4, k5⟩
end
end Go.Abs
end

section
namespace Go.Abs
open Go Go.RowKit
set_option linter.unusedVariables false
set_option linter.unusedSimpArgs false
section
variable {D : Ctx} {B0 : Nat} {w0 : W0} {ops : Array Oper} {st0 : ASt}
theorem y9 : ∀ (p : List Stp) {r : List Stp}, be7 D ops st0 (p ++ r) → be7 D ops st0 r
 | [], r, h => h
 | s :: p, r, h => y9 p h.1
theorem bbq (L : Nat → Bool) : ∀ (l : List Stp), (aff st0 L l).m = st0.m
 | [] => rfl
 | s :: r => by
  simp only [aff]
  cases L r.length with
  | true => exact bbq L r
  | false => exact bbq L r
theorem ajl {L L' : Nat → Bool} : ∀ (l : List Stp), (∀ j, j < l.length → L j = L' j) → aff st0 L l = aff st0 L' l
 | [], _ => rfl
 | s :: r, h => by
  simp only [aff, h r.length (by simp)]
  rw [ajl r (fun j hj => h j (by simp; omega))]
theorem ax1 {L : Nat → Bool} {t : Nat} : ∀ (r : List Stp), (∀ p x q, r = p ++ x :: q → L q.length = false → x.o.dst ≠ some t) →
    look (aff st0 L r).f t = look (aff st0 bas r).f t
 | [], _ => rfl
 | s :: r, h => by
  have ih := ax1 r (fun p x q hx => h (s :: p) x q (by rw [hx]; rfl))
  simp only [aff, bas, cond_true]
  cases hl : L r.length with
  | true =>
   simp only [cond_true, ASt.app, aa3, bbq, ih]
  | false =>
   have := h [] s r rfl hl
   simp only [cond_false, ASt.app, aa3, this, false_and, if_false, ih]
theorem auw {L : Nat → Bool} {id : Nat} : ∀ (r : List Stp), (∀ p x q, r = p ++ x :: q → L q.length = false → assoc x.i.puts id = none) →
    fq (aff st0 L r).h id = fq (aff st0 bas r).h id
 | [], _ => rfl
 | s :: r, h => by
  have ih := auw r (fun p x q hx => h (s :: p) x q (by rw [hx]; rfl))
  simp only [aff, bas, cond_true]
  cases hl : L r.length with
  | true =>
   simp only [cond_true, ASt.app, acr, ih]
  | false =>
   have := h [] s r rfl hl
   simp only [cond_false, ASt.app, acr, Stp.eff, this, ih]
theorem axy {L : Nat → Bool} {t : Nat} : ∀ (p r : List Stp), (∀ p1 x q, p ++ r = p1 ++ x :: (q ++ r) → L (q ++ r).length = true → x.o.dst ≠ some t) →
    look (aff st0 L (p ++ r)).f t = look (aff st0 L r).f t
 | [], r, _ => rfl
 | s :: p, r, h => by
  have ih := axy p r (fun p1 x q hx => h (s :: p1) x q (by rw [List.cons_append, hx]; rfl))
  simp only [List.cons_append, aff]
  cases hl : L (p ++ r).length with
  | true =>
   have := h [] s p rfl hl
   simp only [cond_true, ASt.app, aa3, this, false_and, if_false, ih]
  | false => simp only [cond_false, ih]
theorem avo {L : Nat → Bool} {id : Nat} : ∀ (p r : List Stp), (∀ p1 x q, p ++ r = p1 ++ x :: (q ++ r) → L (q ++ r).length = true → assoc x.i.puts id = none) →
    fq (aff st0 L (p ++ r)).h id = fq (aff st0 L r).h id
 | [], r, _ => rfl
 | s :: p, r, h => by
  have ih := avo p r (fun p1 x q hx => h (s :: p1) x q (by rw [List.cons_append, hx]; rfl))
  simp only [List.cons_append, aff]
  cases hl : L (p ++ r).length with
  | true =>
   have := h [] s p rfl hl
   simp only [cond_true, ASt.app, acr, Stp.eff, this, ih]
  | false => simp only [cond_false, ih]
theorem awo {L : Nat → Bool} {s : Stp} {r : List Stp} (hL : L r.length = false) : ∀ (p : List Stp),
    (∀ p1 x q, p = p1 ++ x :: q → L (q ++ s :: r).length = true → av4 s.o.dst x.o.dst = false ∧ ∀ id, (assoc s.i.puts id).isSome = true → (assoc x.i.puts id).isSome = true → False) →
    EqS (aff st0 (fun j => Nat.beq j r.length || L j) (p ++ s :: r)) ((aff st0 L (p ++ s :: r)).app s.eff s.o.dst)
 | [], _ => by
  simp only [List.nil_append, aff, Nat.beq_refl, Bool.true_or, cond_true, hL, cond_false]
  rw [ajl (L := fun j => Nat.beq j r.length || L j) (L' := L) r (fun j hj => by
   have : Nat.beq j r.length = false := by
    cases hb : Nat.beq j r.length with
    | false => rfl
    | true => have := Nat.eq_of_beq_eq_true hb; omega
   simp [this])]
  exact EqS.refl _
 | x :: p, h => by
  have ih := awo hL p (fun p1 y q hy => h (x :: p1) y q (by rw [hy]; rfl))
  simp only [List.cons_append, aff]
  have hne : Nat.beq (p ++ s :: r).length r.length = false := by
   cases hb : Nat.beq (p ++ s :: r).length r.length with
   | false => rfl
   | true => have := Nat.eq_of_beq_eq_true hb; simp at this; omega
  rw [hne, Bool.false_or]
  cases hl : L (p ++ s :: r).length with
  | false => simp only [cond_false]; exact ih
  | true =>
   simp only [cond_true]
   obtain ⟨h1, h2⟩ := h [] x p rfl hl
   exact (ih.app _ _).trans (bmz h1 (fun id a b => h2 id a b))
theorem ba0 {α : Type} : ∀ (l : List α) (n : Nat) (x : α), nth l n = some x → ∃ p q, l = p ++ x :: q ∧ p.length = n
 | [], n, x, h => by simp [nth] at h
 | a :: r, 0, x, h => by simp [nth] at h; subst h; exact ⟨[], r, rfl, rfl⟩
 | a :: r, n + 1, x, h => by
  simp only [nth] at h
  obtain ⟨p, q, h1, h2⟩ := ba0 r n x h
  exact ⟨a :: p, q, by rw [h1]; rfl, by simp [h2]⟩
theorem be2 {k : Nat} : ∀ {a l : List Nat}, k ∈ lun a l → k ∈ a ∨ k ∈ l
 | [], l, h => .inr h
 | x :: r, l, h => by
  simp only [lun] at h
  cases hm : atj x l with
  | true =>
   rw [hm] at h
   exact (be2 h).imp (List.mem_cons_of_mem _) id
  | false =>
   rw [hm] at h
   rcases List.mem_cons.1 h with rfl | h
   ·exact .inl (List.mem_cons_self ..)
   ·exact (be2 h).imp (List.mem_cons_of_mem _) id
theorem ahk {acc : List Info} {i : Nat} (hi : acc.length = i) : ∀ (es : List Edge) (cl : List Nat), bm7 acc i es = some cl →
    (∀ e, e ∈ es → Region.binds .any e = true → e.on < i) ∧
    ∀ k, k ∈ cl → ∃ e, e ∈ es ∧ Region.binds .any e = true ∧ (k = e.on ∨ ∃ p x q, acc = p ++ x :: q ∧ q.length = e.on ∧ k ∈ x.cl)
 | [], cl, h => by
  simp only [bm7] at h
  cases h
  exact ⟨fun e he => by simp at he, fun k hk => by simp at hk⟩
 | e :: es, cl, h => by
  simp only [bm7] at h
  cases hb : Region.binds .any e with
  | false =>
   rw [hb] at h
   simp only [cond_false] at h
   obtain ⟨h1, h2⟩ := ahk hi es cl h
   refine ⟨fun e' he' hb' => ?_, fun k hk => ?_⟩
   ·rcases List.mem_cons.1 he' with rfl | he'
    ·rw [hb] at hb'; cases hb'
    ·exact h1 e' he' hb'
   ·obtain ⟨e', he', rest⟩ := h2 k hk
    exact ⟨e', List.mem_cons_of_mem _ he', rest⟩
  | true =>
   rw [hb] at h
   simp only [cond_true] at h
   cases hlt : Nat.blt e.on i with
   | false => rw [hlt] at h; cases h
   | true =>
    rw [hlt] at h
    simp only [cond_true] at h
    have hlt' : e.on < i := by simpa using hlt
    split at h
    ·rename_i x l hx hl
     cases h
     obtain ⟨h1, h2⟩ := ahk hi es l hl
     obtain ⟨p, q, hacc, hp⟩ := ba0 _ _ _ hx
     refine ⟨fun e' he' hb' => ?_, fun k hk => ?_⟩
     ·rcases List.mem_cons.1 he' with rfl | he'
      ·exact hlt'
      ·exact h1 e' he' hb'
     ·rcases be2 hk with hk | hk
      ·rcases List.mem_cons.1 hk with rfl | hk
       ·exact ⟨e, List.mem_cons_self .., hb, .inl rfl⟩
       ·refine ⟨e, List.mem_cons_self .., hb, .inr ⟨p, x, q, hacc, ?_, hk⟩⟩
        have : acc.length = p.length + (q.length + 1) := by rw [hacc]; simp
        omega
      ·obtain ⟨e', he', rest⟩ := h2 k hk
       exact ⟨e', List.mem_cons_of_mem _ he', rest⟩
    ·cases h
theorem aw8 : ∀ (acc : List Info) (y : Info), bbh acc acc.length y = true → ∀ p x q, acc = p ++ x :: q → q.length ∈ y.cl ∨ avj x y = true
 | [], y, h, p, x, q, hx => by simp at hx
 | a :: r, y, h, p, x, q, hx => by
  simp only [bbh, Bool.and_eq_true, Bool.or_eq_true, List.length_cons, Nat.add_sub_cancel] at h
  cases p with
  | nil =>
   simp only [List.nil_append, List.cons.injEq] at hx
   obtain ⟨rfl, rfl⟩ := hx
   exact h.1.imp acd.1 id
  | cons b p =>
   simp only [List.cons_append, List.cons.injEq] at hx
   exact aw8 r y h.2 p x q hx.2
theorem aez {x y : Info} (h : avj x y = true) : (∀ d, x.dst = some d → d ∉ y.looks) ∧ (∀ d, y.dst = some d → d ∉ x.looks) ∧ av4 x.dst y.dst = false ∧ aoz x.puts y.vs y.puts = false ∧ aoz y.puts x.vs x.puts = false := by
 simp only [avj, Bool.not_eq_true', Bool.or_eq_false_iff] at h
 obtain ⟨⟨⟨⟨h1, h2⟩, h3⟩, h4⟩, h5⟩ := h
 have key : ∀ {d l}, azy d l = false → ∀ e, d = some e → e ∉ l := by
  rintro d l hd e rfl hm
  simp only [azy] at hd
  rw [acd.2 hm] at hd
  cases hd
 exact ⟨key h1, key h2, h3, h4, h5⟩
theorem ain : ∀ (p : Hp) {vs : List AVal} {h : Hp}, aoz p vs h = false → ∀ id, (assoc p id).isSome = true → mo id vs = false ∧ assoc h id = none
 | [], vs, h, hp, id, hs => by simp [assoc] at hs
 | (k, b) :: r, vs, h, hp, id, hs => by
  simp only [aoz, Bool.or_eq_false_iff] at hp
  simp only [assoc] at hs
  cases hb : Nat.beq k id with
  | true =>
   have := Nat.eq_of_beq_eq_true hb
   subst this
   refine ⟨hp.1.1, ?_⟩
   cases h1 : assoc h k with
   | none => rfl
   | some _ => rw [h1] at hp; simp at hp
  | false =>
   rw [hb] at hs
   exact ain r hp.2 id hs
theorem bda {p : List Stp} {y : Stp} {m : List Stp} {x : Stp} {q : List Stp} (h : be7 D ops st0 (p ++ y :: (m ++ x :: q))) : q.length ∈ y.i.cl ∨ avj x.i y.i = true := by
 have h1 := y9 p h
 obtain ⟨_, _, _, _, hf, _⟩ := h1
 have hf' : bbh ((m ++ x :: q).map (·.i)) ((m ++ x :: q).map (·.i)).length y.i = true := by rw [List.length_map]; exact hf
 have := aw8 _ _ hf' (m.map (·.i)) x.i (q.map (·.i)) (by simp)
 simpa using this
theorem acu : ∀ (p : List Stp) {r : List Stp}, be7 D ops st0 (p ++ r) → ane st0 r ≤ ane st0 (p ++ r)
 | [], r, h => Nat.le_refl _
 | s :: p, r, h => by
  have h3 := acu p h.1
  obtain ⟨_, _, _, _, _, h1, h2, _⟩ := h
  have h1 : s.n = ane st0 (p ++ r) := h1
  show ane st0 r ≤ s.n'
  omega
theorem b2x : ∀ (l : List Stp), be7 D ops st0 l → ∀ p s r, l = p ++ s :: r → ∀ k, k ∈ s.i.cl → k < r.length := by
 intro l h p s r hl k hk
 have h1 : be7 D ops st0 (s :: r) := y9 p (hl ▸ h)
 have key : ∀ (n : Nat) (s : Stp) (r : List Stp), r.length = n → be7 D ops st0 (s :: r) → ∀ k, k ∈ s.i.cl → k < r.length := by
  intro n
  induction n using Nat.strongRecOn with
  | _ n ih =>
   intro s r hn h k hk
   obtain ⟨h0, _, _, hc, _⟩ := h
   obtain ⟨g1, g2⟩ := ahk (by simp) _ _ hc
   obtain ⟨e, he, hb, rfl | ⟨p, x, q, hx, hq, hk'⟩⟩ := g2 k hk
   ·exact g1 e he hb
   ·have hlt := g1 e he hb
    obtain ⟨p', q0, hpq, hp1, hp2⟩ := List.map_eq_append_iff.1 hx
    obtain ⟨x', q', hq0, hx1, hx2⟩ := List.map_eq_cons_iff.1 hp2
    subst hq0
    subst hpq
    subst hx1
    have hq' : q'.length = e.on := by rw [← hq, ← hx2]; simp
    have := ih q'.length (by rw [← hn]; simp; omega) x' q' rfl (y9 p' h0) k hk'
    simp; omega
 exact key _ s r rfl h1 k hk
end
end Go.Abs
end

section
namespace Go.Abs
open Go Go.RowKit
set_option linter.unusedVariables false
set_option linter.unusedSimpArgs false
section
variable {D : Ctx} {B0 : Nat} {w0 : W0} {ops : Array Oper} {st0 : ASt}
structure Under (D : Ctx) (B0 : Nat) (w0 : W0) (st0 : ASt) (steps : List Stp) (E0 : Env) (w00 : World) (L : Nat → Bool) (E : Env) (act : Act) (w : World) : Prop where
 up : Up E0 E w00 w
 rel : Rel D B0 w0 E (aff st0 L steps) act w
 dom : ∀ id u, E.ρ id = some u → id < st0.n ∨ ∃ p s r, steps = p ++ s :: r ∧ L r.length = true ∧ s.n ≤ id ∧ id < s.n'
 closed : ∀ p s r, steps = p ++ s :: r → L r.length = true → ∀ k, k ∈ s.i.cl → L k = true
theorem ab5.congr' {a b : ASt} {o : Oper} {q : Bool} (he : ∀ j want t, o.guard = some (j, want) → avb ops j = some t → look a.f t = look b.f t) (h : ab5 ops o b q) : ab5 ops o a q := by
 unfold ab5 at *
 cases hg : o.guard with
 | none => simp only [hg] at h ⊢; exact h
 | some jw =>
  obtain ⟨j, want⟩ := jw
  simp only [hg] at h ⊢
  obtain ⟨t, h1, ⟨b, h2, h3⟩ | ⟨x, h2, h3⟩⟩ := h
  ·exact ⟨t, h1, .inl ⟨b, by rw [he j want t hg h1]; exact h2, h3⟩⟩
  ·exact ⟨t, h1, .inr ⟨x, by rw [he j want t hg h1]; exact h2, h3⟩⟩
theorem ajp {h : Hp} {id : Nat} (hn : (assoc h id).isSome = true → False) : assoc h id = none := by
 cases hx : assoc h id with
 | none => rfl
 | some _ => rw [hx] at hn; exact (hn rfl).elim
theorem bft {p : List Stp} {s : Stp} {r : List Stp} (h : be7 D ops st0 (p ++ s :: r)) : s.i.dst = s.o.dst := (y9 p h).2.2.1
theorem aex {α : Type} : ∀ (l : List α) (i : Nat), i < l.length → ∃ p s r, l = p ++ s :: r ∧ r.length = i
 | [], i, h => by simp at h
 | a :: l, i, h => by
  by_cases he : i = l.length
  ·exact ⟨[], a, l, rfl, he.symm⟩
  ·simp only [List.length_cons] at h
   obtain ⟨p, s, r, h1, h2⟩ := aex l i (by omega)
   exact ⟨a :: p, s, r, by rw [h1]; rfl, h2⟩
theorem aer {α : Type} {p p' : List α} {s s' : α} {r r' : List α} (h : p ++ s :: r = p' ++ s' :: r') (hl : r.length = r'.length) : s = s' ∧ r = r' := by
 have h1 : (p ++ s :: r).length = (p' ++ s' :: r').length := by rw [h]
 have h2 : p.length = p'.length := by simp at h1; omega
 have h3 := List.append_inj h h2
 simp only [List.cons.injEq] at h3
 exact h3.2
theorem axj {steps p r : List Stp} {s : Stp} (hT : be7 D ops st0 steps) (hs : steps = p ++ s :: r) {E0 : Env} {w00 : World} {L : Nat → Bool} {E : Env} {act : Act} {w : World} (hU : Under D B0 w0 st0 steps E0 w00 L E act w)
    (hL : L r.length = false) (hready : ∀ e, e ∈ s.o.after → Region.binds .any e = true → L e.on = true) {q : Option Nat} {n0 : Nat} {Q : Exit → Act → World → Prop} {K : Act → World → Prop}
    (hK : ∀ E' a' w', Under D B0 w0 st0 steps E0 w00 (fun j => Nat.beq j r.length || L j) E' a' w' → K a' w') : wpOpIn (FR q) n0 D.P ops Q r.length K act w := by
 subst hs
 obtain ⟨hT0, hop, hdst, hcl, hfit, hn, hle, hguard, hglook, hskip, hdo⟩ := y9 p hT
 -- all ahead has been done
 have hahead : ∀ k, k ∈ s.i.cl → L k = true := by
  intro k hk
  obtain ⟨g1, g2⟩ := ahk (by simp) _ _ hcl
  obtain ⟨e, he, hb, rfl | ⟨p1, x, q, hx, hq, hk'⟩⟩ := g2 k hk
  ·exact hready e (by simpa using he) hb
  ·obtain ⟨p', q0, hpq, hp1, hp2⟩ := List.map_eq_append_iff.1 hx
   obtain ⟨x', q', hq0, hx1, hx2⟩ := List.map_eq_cons_iff.1 hp2
   subst hq0
   subst hx1
   refine hU.closed (p ++ s :: p') x' q' (by rw [hpq]; simp) ?_ k hk'
   have : q'.length = e.on := by rw [← hq, ← hx2]; simp
   rw [this]
   exact hready e (by simpa using he) hb
 -- the later ones that have been done are apart from this one
 have later : ∀ p1 x q, p ++ s :: r = p1 ++ x :: (q ++ s :: r) → L (q ++ s :: r).length = true → avj s.i x.i = true ∧ x.i.dst = x.o.dst := by
  intro p1 x q hx hLx
  refine ⟨?_, bft (hx ▸ hT)⟩
  rcases bda (hx ▸ hT) with h | h
  ·have := hU.closed p1 x (q ++ s :: r) hx hLx _ h
   rw [hL] at this
   cases this
  ·exact h
 have earlier : ∀ p1 x q, r = p1 ++ x :: q → L q.length = false → avj x.i s.i = true ∧ x.i.dst = x.o.dst := by
  intro p1 x q hx hLx
  refine ⟨?_, bft (hx ▸ hT0)⟩
  rcases bda (p := p) (y := s) (m := p1) (x := x) (q := q) (hx ▸ hT) with h | h
  ·have := hahead _ h
   rw [hLx] at this
   cases this
  ·exact h
 have hlk : ∀ t, t ∈ s.i.looks → look (aff st0 L (p ++ s :: r)).f t = look (aff st0 bas r).f t := by
  intro t ht
  rw [axy p (s :: r) (fun p1 x q hx hLx => ?_)]
  ·have : aff st0 L (s :: r) = aff st0 L r := by simp only [aff, hL, cond_false]
   rw [this]
   refine ax1 r (fun p1 x q hx hLx hd => ?_)
   obtain ⟨ha, hxd⟩ := earlier p1 x q hx hLx
   exact (aez ha).1 t (by rw [hxd]; exact hd) ht
  ·intro hd
   obtain ⟨ha, hxd⟩ := later p1 x q hx hLx
   exact (aez ha).2.1 t (by rw [hxd]; exact hd) ht
 have hhlook : ∀ id, mo id s.i.vs = true → fq (aff st0 L (p ++ s :: r)).h id = fq (aff st0 bas r).h id := by
  intro id hid
  rw [avo p (s :: r) (fun p1 x q hx hLx => ?_)]
  ·have : aff st0 L (s :: r) = aff st0 L r := by simp only [aff, hL, cond_false]
   rw [this]
   refine auw r (fun p1 x q hx hLx => ajp fun hd => ?_)
   obtain ⟨ha, hxd⟩ := earlier p1 x q hx hLx
   have := (ain _ (aez ha).2.2.2.1 id hd).1
   rw [hid] at this
   cases this
  ·refine ajp fun hd => ?_
   obtain ⟨ha, hxd⟩ := later p1 x q hx hLx
   have := (ain _ (aez ha).2.2.2.2 id hd).1
   rw [hid] at this
   cases this
 have hins := awo (st0 := st0) hL p (s := s) (fun p1 x q hx hLx => by
  obtain ⟨ha, hxd⟩ := later p1 x q (by rw [hx]; simp) hLx
  refine ⟨by rw [← hdst, ← hxd]; exact (aez ha).2.2.1, fun id h1 h2 => ?_⟩
  have := (ain _ (aez ha).2.2.2.1 id h1).2
  rw [this] at h2
  cases h2)
 have hclosed : ∀ p1 x q, p ++ s :: r = p1 ++ x :: q → (Nat.beq q.length r.length || L q.length) = true → ∀ k, k ∈ x.i.cl → (Nat.beq k r.length || L k) = true := by
  intro p1 x q hx hLx k hk
  cases hb : Nat.beq q.length r.length with
  | true =>
   have hql := Nat.eq_of_beq_eq_true hb
   obtain ⟨rfl, rfl⟩ := aer hx hql.symm
   rw [hahead k hk]
   simp
  | false =>
   rw [hb, Bool.false_or] at hLx
   rw [hU.closed p1 x q hx hLx k hk]
   simp
 have hwant := (hguard.congr' (a := aff st0 L (p ++ s :: r)) (fun j want t h1 h2 => hlk t (hglook j want t h1 h2))).wanted hU.rel
 unfold wpOpIn
 rw [hop]
 simp only [hwant]
 cases hsk : s.skip with
 | true =>
  obtain ⟨hv, hp, hn'⟩ := hskip hsk
  simp only [Bool.not_true, Bool.false_eq_true, if_false]
  refine ⟨fun _ _ => trivial, ?_⟩
  refine hK E _ w ⟨hU.up, ?_, fun id u hu => ?_, hclosed⟩
  ·have h1 := hU.rel.put axp s.o.dst
   refine h1.eqS (EqS.trans ?_ hins.symm)
   have : s.eff = ⟨.v undef, [], s.n'⟩ := by unfold Stp.eff; rw [hv, hp]
   rw [this]
   exact ⟨fun _ => rfl, fun _ => rfl, rfl⟩
  ·rcases hU.dom id u hu with h | ⟨p1, x, q, h1, h2, h3⟩
   ·exact .inl h
   ·exact .inr ⟨p1, x, q, h1, by simp only [h2, Bool.or_true], h3⟩
 | false =>
  obtain ⟨hnd, htm, hok⟩ := hdo hsk
  simp only [Bool.not_false, if_true]
  refine bqc hnd ?_
  refine hok B0 w0 { aff st0 L (p ++ s :: r) with n := s.n } ?_ (fun id b hb => ?_) rfl E act w (hU.rel.bn5 _) (fun id h1 h2 => ?_) K Q (fun E' w' u k1 k2 k3 => ?_)
  ·exact av2 _ (fun t ht => hlk t (htm t ht))
  ·unfold mask at hb
   cases hm : mo id s.i.vs with
   | false => rw [hm] at hb; cases hb
   | true => rw [hm] at hb; simp only [cond_true] at hb; rw [hhlook id hm]; exact hb
  ·cases hx : E.ρ id with
   | none => rfl
   | some x =>
    exfalso
    simp only [Stp.eff] at h2
    simp only at h1
    rcases hU.dom id x hx with h | ⟨p1, y, q, e1, e2, e3, e4⟩
    ·have := acu r (r := []) (by simpa using hT0)
     simp only [List.append_nil] at this
     have h5 : ane st0 ([] : List Stp) = st0.n := rfl
     omega
    ·-- two operations' numbers
     rcases Nat.lt_trichotomy q.length r.length with hlt | heq | hgt
     ·-- earlier
      obtain ⟨p2, y', q', f1, f2⟩ := aex r q.length hlt
      have f3 : (p ++ s :: p2) ++ y' :: q' = p1 ++ y :: q := by rw [← e1, f1]; simp
      obtain ⟨rfl, rfl⟩ := aer f3 f2
      have := acu p2 (r := y' :: q') (by rw [← f1]; exact hT0)
      rw [← f1] at this
      have h5 : ane st0 (y' :: q') = y'.n' := rfl
      omega
     ·obtain ⟨rfl, rfl⟩ := aer e1 heq.symm
      rw [hL] at e2
      cases e2
     ·-- later
      have hlen : (p ++ s :: r).length = p1.length + (q.length + 1) := by rw [e1]; simp
      have : ∃ q0, q = q0 ++ s :: r := by
       obtain ⟨q0, t0, h5, h6⟩ : ∃ q0 t0, q = q0 ++ t0 ∧ t0.length = r.length + 1 := ⟨q.take (q.length - (r.length + 1)), q.drop (q.length - (r.length + 1)), (List.take_append_drop _ _).symm, by rw [List.length_drop]; omega⟩
       refine ⟨q0, ?_⟩
       have h7 : p ++ s :: r = (p1 ++ y :: q0) ++ t0 := by rw [e1, h5]; simp
       have h8 : p.length = (p1 ++ y :: q0).length := by
        have := congrArg List.length h7
        simp only [List.length_append, List.length_cons] at this ⊢
        omega
       have := (List.append_inj h7 h8).2
       rw [h5, this]
      obtain ⟨q0, rfl⟩ := this
      have h9 := y9 p1 (e1 ▸ hT)
      obtain ⟨h10, _, _, _, _, h11, _⟩ := h9
      have := acu q0 h10
      have h5 : ane st0 (s :: r) = s.n' := rfl
      omega
  ·refine hK E' _ w' ⟨hU.up.trans k1, k3.eqS (EqS.trans ?_ hins.symm), fun id x hx => ?_, hclosed⟩
   ·exact ⟨fun _ => rfl, fun _ => rfl, rfl⟩
   ·rcases k2 id x hx with h | h
    ·rcases hU.dom id x h with h | ⟨p1, y, q, h1, h2, h3⟩
     ·exact .inl h
     ·exact .inr ⟨p1, y, q, h1, by simp only [h2, Bool.or_true], h3⟩
    ·exact .inr ⟨p, s, r, rfl, by simp, h⟩
def unl (L : Nat → Bool) : Nat → Nat
 | 0 => 0
 | n + 1 => unl L n + (bif L n then 0 else 1)
theorem bal {L : Nat → Bool} : ∀ (n : Nat), unl L n = 0 → ∀ j, j < n → L j = true
 | 0, _, j, hj => by omega
 | n + 1, h, j, hj => by
  simp only [unl] at h
  by_cases he : j = n
  ·subst he
   cases hl : L j with
   | true => rfl
   | false => rw [hl] at h; simp at h
  ·exact bal n (by omega) j (by omega)
theorem bej {L : Nat → Bool} {i : Nat} (hi : L i = false) : ∀ (n : Nat), unl L n = unl (fun j => Nat.beq j i || L j) n + (if i < n then 1 else 0)
 | 0 => by simp [unl]
 | n + 1 => by
  simp only [unl, bej hi n]
  by_cases he : n = i
  ·subst he
   simp [hi]
  ·have : Nat.beq n i = false := by
     cases hb : Nat.beq n i with
     | false => rfl
     | true => exact absurd (Nat.eq_of_beq_eq_true hb) he
   rw [this, Bool.false_or]
   by_cases h2 : i < n
   ·rw [if_pos h2, if_pos (by omega)]; omega
   ·rw [if_neg h2, if_neg (by omega)]; omega
theorem azp {L : Nat → Bool} (hL : ∀ j, L j = false) : ∀ n, unl L n = n
 | 0 => rfl
 | n + 1 => by simp [unl, hL, azp hL n]
theorem avt {steps : List Stp} {E0 : Env} {w00 : World} {L L' : Nat → Bool} {E : Env} {act : Act} {w : World} (h : ∀ j, j < steps.length → L j = L' j) (hT : be7 D ops st0 steps) (hU : Under D B0 w0 st0 steps E0 w00 L E act w) : Under D B0 w0 st0 steps E0 w00 L' E act w := by
 have hlt : ∀ {p : List Stp} {s : Stp} {r : List Stp}, steps = p ++ s :: r → r.length < steps.length := by intro p s r h; rw [h]; simp; omega
 refine ⟨hU.up, by rw [← ajl steps h]; exact hU.rel, fun id u hu => ?_, fun p s r hs hl k hk => ?_⟩
 ·rcases hU.dom id u hu with h1 | ⟨p, s, r, h1, h2, h3⟩
  ·exact .inl h1
  ·exact .inr ⟨p, s, r, h1, by rw [← h _ (hlt h1)]; exact h2, h3⟩
 ·have hk' := b2x steps hT p s r hs k hk
  have := hlt hs
  rw [← h k (by omega)]
  exact hU.closed p s r hs (by rw [h _ (hlt hs)]; exact hl) k hk
theorem bnl {steps : List Stp} (hT : be7 D ops st0 steps) (hlen : steps.length = ops.size) {E0 : Env} {w00 : World} {st' : ASt} (he : EqS (aff st0 bas steps) st') (hn' : st'.n = ane st0 steps) {q : Option Nat} {n0 : Nat} {Q : Exit → Act → World → Prop}
    (hQ : ∀ E' a' w', Up E0 E' w00 w' → Rel D B0 w0 E' st' a' w' → Dom E' st'.n → Q .normal a' w') :
    ∀ (fuel : Nat) (listed : Array Bool) (E : Env) (act : Act) (w : World), listed.size = ops.size → unl (fun j => listed.getD j false) ops.size = fuel → Under D B0 w0 st0 steps E0 w00 (fun j => listed.getD j false) E act w →
     wpAnyIn (FR q) n0 D.P .any ops Q fuel listed act w := by
 have edges : ∀ p s r, steps = p ++ s :: r → ∀ e, e ∈ s.o.after → Region.binds .any e = true → e.on < r.length := by
  intro p s r hs e hmem hb
  obtain ⟨_, _, _, hc, _⟩ := y9 p (hs ▸ hT)
  exact (ahk (by simp) _ _ hc).1 e (by simpa using hmem) hb
 have opAt : ∀ p s r, steps = p ++ s :: r → ops[r.length]? = some s.o := fun p s r hs => by
  obtain ⟨_, h, _⟩ := y9 p (hs ▸ hT)
  exact h
 have done : ∀ (listed : Array Bool) E act w, listed.size = ops.size → Region.ready .any ops listed = [] → Under D B0 w0 st0 steps E0 w00 (fun j => listed.getD j false) E act w → Q .normal act w := by
  intro listed E act w hsz hr hU
  have hall : ∀ j, j < ops.size → listed.getD j false = true := by
   intro j
   induction j using Nat.strongRecOn with
   | _ j ih =>
    intro hj
    cases hl : listed.getD j false with
    | true => rfl
    | false =>
     exfalso
     obtain ⟨p, s, r, hs, hrl⟩ := aex steps j (by omega)
     have : j ∈ Region.ready .any ops listed := by
      refine mem_ready.2 ⟨?_, s.o, by rw [← hrl]; exact opAt p s r hs, fun e hmem hb => ?_⟩
      ·rw [Array.getD_eq_getD_getElem?] at hl ⊢
       rw [Array.getElem?_eq_getElem (by omega)] at hl ⊢
       exact hl
      ·have := edges p s r hs e hmem hb
       exact ih e.on (by omega) (by omega)
     rw [hr] at this
     cases this
  have hrun : aff st0 (fun j => listed.getD j false) steps = aff st0 bas steps := ajl steps (fun j hj => hall j (by omega))
  refine hQ E act w hU.up ?_ ?_
  ·have := hU.rel
   rw [hrun] at this
   exact this.eqS he
  ·intro id u hu
   rcases hU.dom id u hu with h | ⟨p, s, r, hs, _, _, h⟩
   ·have := acu steps (r := []) (by simpa using hT)
    simp only [List.append_nil] at this
    have h5 : ane st0 ([] : List Stp) = st0.n := rfl
    omega
   ·have := acu p (r := s :: r) (hs ▸ hT)
    rw [← hs] at this
    have h5 : ane st0 (s :: r) = s.n' := rfl
    omega
 intro fuel
 induction fuel with
 | zero =>
  intro listed E act w hsz hun hU
  have hr : Region.ready .any ops listed = [] := by
   cases h : Region.ready .any ops listed with
   | nil => rfl
   | cons i rest =>
    exfalso
    have hi : i ∈ Region.ready .any ops listed := by rw [h]; exact List.mem_cons_self ..
    obtain ⟨h1, o, ho, _⟩ := mem_ready.1 hi
    have hlt := (Array.getElem?_eq_some_iff.1 ho).1
    have := bal _ hun i hlt
    rw [Array.getD_eq_getD_getElem?, Array.getElem?_eq_getElem (by omega)] at this h1
    simp at this h1
    rw [this] at h1
    cases h1
  exact ⟨hr, done listed E act w hsz hr hU⟩
 | succ fuel ih =>
  intro listed E act w hsz hun hU
  refine ⟨fun hr => done listed E act w hsz hr hU, fun i hi => ?_⟩
  obtain ⟨h1, o, ho, hedge⟩ := mem_ready.1 hi
  have hlt := (Array.getElem?_eq_some_iff.1 ho).1
  obtain ⟨p, s, r, hs, hrl⟩ := aex steps i (by omega)
  have hso : s.o = o := by
   have := opAt p s r hs
   rw [hrl, ho] at this
   cases this
   rfl
  have hLi : listed.getD i false = false := by
   rw [Array.getD_eq_getD_getElem?, Array.getElem?_eq_getElem (by omega)] at h1 ⊢
   exact h1
  subst hrl
  refine axj hT hs hU hLi (fun e he hb => hedge e (by rw [← hso]; exact he) hb) (fun E' a' w' hU' => ?_)
  have hset : ∀ j, j < ops.size → (Nat.beq j r.length || listed.getD j false) = (listed.setIfInBounds r.length true).getD j false := by
   intro j hj
   rw [Array.getD_eq_getD_getElem?, Array.getD_eq_getD_getElem?, Array.getElem?_setIfInBounds]
   by_cases he : r.length = j
   ·subst he
    simp [hsz, hj]
   ·have : Nat.beq j r.length = false := by
      cases hb : Nat.beq j r.length with
      | false => rfl
      | true => exact absurd (Nat.eq_of_beq_eq_true hb).symm he
    rw [this, if_neg he]
    simp
  refine ih _ E' a' w' (by simp [hsz]) ?_ (avt (fun j hj => hset j (by omega)) hT hU')
  have h5 := bej (L := fun j => listed.getD j false) hLi ops.size
  rw [if_pos hlt, hun] at h5
  have h6 : unl (fun j => Nat.beq j r.length || listed.getD j false) ops.size = unl (fun j => (listed.setIfInBounds r.length true).getD j false) ops.size := by
   have : ∀ n, n ≤ ops.size → unl (fun j => Nat.beq j r.length || listed.getD j false) n = unl (fun j => (listed.setIfInBounds r.length true).getD j false) n := by
    intro n
    induction n with
    | zero => intro _; rfl
    | succ n ih2 =>
     intro hle
     simp only [unl]
     rw [ih2 (by omega), hset n (by omega)]
   exact this _ (Nat.le_refl _)
  omega
theorem av7 {α : Type} : ∀ {l x : List α} {y : α}, bbe l = some (x, y) → l = x ++ [y]
 | [], x, y, h => by cases h
 | a :: r, x, y, h => by
  simp only [bbe] at h
  split at h
  ·rename_i x' y' hr
   cases h
   rw [av7 hr]
   rfl
  ·rename_i hr
   cases h
   cases r with
   | nil => rfl
   | cons b r => simp only [bbe] at hr; split at hr <;> cases hr
theorem bbd : ∀ {n : Nat} {l : List Nat}, allIn n l = true → ∀ j, j < n → j ∈ l
 | n + 1, l, h, j, hj => by
  simp only [allIn, Bool.and_eq_true] at h
  by_cases he : j = n
  ·subst he; exact acd.1 h.1
  ·exact bbd h.2 j (by omega)
theorem bi4 {steps : List Stp} (hT : be7 D ops st0 steps) (hlen : steps.length + 1 = ops.size) {o : Oper} (ho : ops[steps.length]? = some o) (hg : o.guard = none) {cl : List Nat} (hcl : bm7 (steps.map (·.i)) steps.length o.after.toList = some cl)
    (hall : ∀ j, j < steps.length → j ∈ cl) {E0 : Env} {w00 : World} {st1 st' : ASt} (he : EqS (aff st0 bas steps) st1) (hn' : st1.n = ane st0 steps) {q : Option Nat} {n0 : Nat} {Q : Exit → Act → World → Prop}
    (hrun : ∀ E act w (next : Act → World → Prop), Rel D B0 w0 E st1 act w → Dom E st1.n → (∀ E' act' w', Up E E' w w' → Rel D B0 w0 E' st' act' w' → Dom E' st'.n → next act' w') → o.wpIn (FR q) n0 D.P act w next Q)
    (hQ : ∀ E' a' w', Up E0 E' w00 w' → Rel D B0 w0 E' st' a' w' → Dom E' st'.n → Q .normal a' w') :
    ∀ (fuel : Nat) (listed : Array Bool) (E : Env) (act : Act) (w : World), listed.size = ops.size → listed.getD steps.length false = false → unl (fun j => listed.getD j false) ops.size = fuel → Under D B0 w0 st0 steps E0 w00 (fun j => listed.getD j false) E act w →
     wpAnyIn (FR q) n0 D.P .any ops Q fuel listed act w := by
 obtain ⟨ce, cc⟩ := ahk (by simp) _ _ hcl
 have edges : ∀ p s r, steps = p ++ s :: r → ∀ e, e ∈ s.o.after → Region.binds .any e = true → e.on < r.length := by
  intro p s r hs e hmem hb
  obtain ⟨_, _, _, hc, _⟩ := y9 p (hs ▸ hT)
  exact (ahk (by simp) _ _ hc).1 e (by simpa using hmem) hb
 have opAt : ∀ p s r, steps = p ++ s :: r → ops[r.length]? = some s.o := fun p s r hs => by
  obtain ⟨_, h, _⟩ := y9 p (hs ▸ hT)
  exact h
 have nready : ∀ (listed : Array Bool), listed.size = ops.size → listed.getD steps.length false = false → Region.ready .any ops listed = [] → False := by
  intro listed hsz hlast hr
  have hal : ∀ j, j < steps.length → listed.getD j false = true := by
   intro j
   induction j using Nat.strongRecOn with
   | _ j ih =>
    intro hj
    cases hl : listed.getD j false with
    | true => rfl
    | false =>
     exfalso
     obtain ⟨p, s, r, hs, hrl⟩ := aex steps j (by omega)
     have : j ∈ Region.ready .any ops listed := by
      refine mem_ready.2 ⟨?_, s.o, by rw [← hrl]; exact opAt p s r hs, fun e hmem hb => ?_⟩
      ·rw [Array.getD_eq_getD_getElem?] at hl ⊢
       rw [Array.getElem?_eq_getElem (by omega)] at hl ⊢
       exact hl
      ·have := edges p s r hs e hmem hb
       exact ih e.on (by omega) (by omega)
     rw [hr] at this
     cases this
  have : steps.length ∈ Region.ready .any ops listed := by
   refine mem_ready.2 ⟨?_, o, ho, fun e hmem hb => hal _ (ce e (by simpa using hmem) hb)⟩
   rw [Array.getD_eq_getD_getElem?] at hlast ⊢
   rw [Array.getElem?_eq_getElem (by omega)] at hlast ⊢
   exact hlast
  rw [hr] at this
  cases this
 intro fuel
 induction fuel with
 | zero =>
  intro listed E act w hsz hlast hun hU
  have := bal _ hun steps.length (by omega)
  rw [hlast] at this
  cases this
 | succ fuel ih =>
  intro listed E act w hsz hlast hun hU
  refine ⟨fun hr => (nready listed hsz hlast hr).elim, fun i hi => ?_⟩
  obtain ⟨h1, o', ho', hedge⟩ := mem_ready.1 hi
  have hlt := (Array.getElem?_eq_some_iff.1 ho').1
  have hLi : listed.getD i false = false := by
   rw [Array.getD_eq_getD_getElem?, Array.getElem?_eq_getElem (by omega)] at h1 ⊢
   exact h1
  by_cases hil : i = steps.length
  ·-- the call
   subst hil
   obtain rfl : o' = o := Option.some.inj (ho'.symm.trans ho)
   have hal : ∀ j, j < steps.length → listed.getD j false = true := by
    intro j hj
    obtain ⟨e, hemem, hb, hk⟩ := cc j (hall j hj)
    have hon := hedge e (by simpa using hemem) hb
    rcases hk with rfl | ⟨p, x, q', hacc, hql, hjx⟩
    ·exact hon
    ·obtain ⟨p', s, r, hs, hrl⟩ := aex steps e.on (ce e hemem hb)
     have hm : (steps.map (·.i)) = p'.map (·.i) ++ s.i :: r.map (·.i) := by rw [hs]; simp
     have h2 := hm.symm.trans hacc
     have h3 : (p'.map (·.i)).length = p.length := by
      have e1 := congrArg List.length h2
      simp only [List.length_append, List.length_cons, List.length_map] at e1 ⊢
      omega
     have h4 := (List.append_inj h2 h3).2
     simp only [List.cons.injEq] at h4
     exact hU.closed p' s r hs (by rw [hrl]; exact hon) j (by rw [h4.1]; exact hjx)
   have hrel : Rel D B0 w0 E st1 act w := by
    have := hU.rel
    rw [ajl steps (fun j hj => hal j hj : ∀ j, j < steps.length → (fun j => listed.getD j false) j = bas j)] at this
    exact this.eqS he
   have hdom : Dom E st1.n := by
    intro id u hu
    rcases hU.dom id u hu with h | ⟨p, s, r, hs, _, _, h⟩
    ·have := acu steps (r := []) (by simpa using hT)
     simp only [List.append_nil] at this
     have h5 : ane st0 ([] : List Stp) = st0.n := rfl
     omega
    ·have := acu p (r := s :: r) (hs ▸ hT)
     rw [← hs] at this
     have h5 : ane st0 (s :: r) = s.n' := rfl
     omega
   unfold wpOpIn
   rw [ho']
   simp only
   rw [if_pos (by simp [Region.wanted, hg])]
   refine hrun E act w _ hrel hdom (fun E' a' w' k1 k2 k3 => ?_)
   have hal2 : ∀ j, j < ops.size → (listed.setIfInBounds steps.length true).getD j false = true := by
    intro j hj
    rw [Array.getD_eq_getD_getElem?, Array.getElem?_setIfInBounds]
    by_cases hje : steps.length = j
    ·subst hje
     simp [hsz, hj]
    ·rw [if_neg hje]
     have := hal j (by omega)
     rwa [Array.getD_eq_getD_getElem?] at this
   have hr0 : Region.ready .any ops (listed.setIfInBounds steps.length true) = [] := by
    cases h : Region.ready .any ops (listed.setIfInBounds steps.length true) with
    | nil => rfl
    | cons a rest =>
     exfalso
     have ha : a ∈ Region.ready .any ops (listed.setIfInBounds steps.length true) := by rw [h]; exact List.mem_cons_self ..
     obtain ⟨g1, o2, g2, _⟩ := mem_ready.1 ha
     have hlt2 := (Array.getElem?_eq_some_iff.1 g2).1
     have := hal2 a hlt2
     rw [Array.getD_eq_getD_getElem?, Array.getElem?_eq_getElem (by simp [hsz, hlt2])] at this g1
     simp at this g1
     rw [this] at g1
     cases g1
   have hfin : Q .normal a' w' := hQ E' a' w' (hU.up.trans k1) k2 k3
   cases fuel with
   | zero => exact ⟨hr0, hfin⟩
   | succ fuel =>
    refine ⟨fun _ => hfin, fun i2 hi2 => ?_⟩
    rw [hr0] at hi2
    cases hi2
  ·obtain ⟨p, s, r, hs, hrl⟩ := aex steps i (by omega)
   have hso : s.o = o' := by
    have := opAt p s r hs
    rw [hrl, ho'] at this
    cases this
    rfl
   subst hrl
   refine axj hT hs hU hLi (fun e he hb => hedge e (by rw [← hso]; exact he) hb) (fun E' a' w' hU' => ?_)
   have hset : ∀ j, j < ops.size → (Nat.beq j r.length || listed.getD j false) = (listed.setIfInBounds r.length true).getD j false := by
    intro j hj
    rw [Array.getD_eq_getD_getElem?, Array.getD_eq_getD_getElem?, Array.getElem?_setIfInBounds]
    by_cases he : r.length = j
    ·subst he
     simp [hsz, hj]
    ·have : Nat.beq j r.length = false := by
       cases hb : Nat.beq j r.length with
       | false => rfl
       | true => exact absurd (Nat.eq_of_beq_eq_true hb).symm he
     rw [this, if_neg he]
     simp
   refine ih _ E' a' w' (by simp [hsz]) ?_ ?_ (avt (fun j hj => hset j (by omega)) hT hU')
   ·rw [Array.getD_eq_getD_getElem?, Array.getElem?_setIfInBounds, if_neg hil]
    rwa [Array.getD_eq_getD_getElem?] at hlast
   have h5 := bej (L := fun j => listed.getD j false) hLi ops.size
   rw [if_pos hlt, hun] at h5
   have h6 : unl (fun j => Nat.beq j r.length || listed.getD j false) ops.size = unl (fun j => (listed.setIfInBounds r.length true).getD j false) ops.size := by
    have : ∀ n, n ≤ ops.size → unl (fun j => Nat.beq j r.length || listed.getD j false) n = unl (fun j => (listed.setIfInBounds r.length true).getD j false) n := by
     intro n
     induction n with
     | zero => intro _; rfl
     | succ n ih2 =>
      intro hle
      simp only [unl]
      rw [ih2 (by omega), hset n (by omega)]
    exact this _ (Nat.le_refl _)
   omega
theorem bpb (hG : GOk D) (hG2 : l7 D) (hmix : D.P.follows .mixedOrders = true) {id : Nat} {st : ASt} {K : ASt → Option R} {r : R} (h : (azc D ops ops.toList 0 [] st fun _ => K) = some r) :
    ∃ st', K st' = some r ∧ st'.m = st.m ∧ st.n ≤ st'.n ∧ ∀ (q : Option Nat) (n0 B0 : Nat) (w0 : W0) E act w Q, Rel D B0 w0 E st act w → Dom E st.n →
     (∀ E' act' w', Up E E' w w' → Rel D B0 w0 E' st' act' w' → Dom E' st'.n → Q Exit.normal act' w') → (Code.region id ops true).wpIn (FR q) n0 D.P Q act w := by
 obtain ⟨steps, st', h1, hT, hlen, he, hn⟩ := akq (st0 := st) hG hG2 ops.toList 0 [] st (fun _ => K) r [] ⟨[], by simp⟩ rfl rfl trivial (EqS.refl _) rfl h
 have hlen' : steps.length = ops.size := by rw [hlen]; simp
 refine ⟨st', h1, he.m.symm.trans (bbq _ _), ?_, fun q n0 B0 w0 E act w Q hR hD hQ => wpIn_region_any hmix ?_⟩
 ·have := acu steps (r := []) (by simpa using hT)
  simp only [List.append_nil] at this
  rw [hn]
  exact this
 ·refine bnl hT hlen' he hn (E0 := E) (w00 := w) (fun E' a' w' k1 k2 k3 => hQ E' a' w' k1 k2 k3) ops.size _ E act _ (by simp) (azp (fun j => ?_) _) ⟨?_, ?_, fun id u hu => .inl (hD id u hu), fun p s r hs hl => ?_⟩
  ·rw [Array.getD_eq_getD_getElem?, Array.getElem?_replicate]
   split <;> rfl
  ·exact ⟨⟨fun _ h => h, fun _ _ => rfl⟩, fun _ _ h => h⟩
  ·have hz : aff st (fun j => (Array.replicate ops.size false).getD j false) steps = st := by
     have : ∀ l : List Stp, aff st (fun j => (Array.replicate ops.size false).getD j false) l = st := by
      intro l
      induction l with
      | nil => rfl
      | cons s r ih =>
       simp only [aff]
       have : (Array.replicate ops.size false).getD r.length false = false := by
        rw [Array.getD_eq_getD_getElem?, Array.getElem?_replicate]
        split <;> rfl
       rw [this]
       exact ih
     exact this steps
   rw [hz]
   have up : Up E E w w.drew := ⟨⟨fun _ h => h, fun _ _ => rfl⟩, fun _ _ h => h⟩
   exact hR.step up (Below.refl _ _).drew st.n (fun id b hb => (hR.heap id b hb).mono up (fun _ _ _ _ => rfl) (fun _ _ _ _ _ h => h)) hR.apart (fun _ h => .inl h) hR.form
  ·exfalso
   rw [Array.getD_eq_getD_getElem?, Array.getElem?_replicate] at hl
   split at hl <;> cases hl
theorem bnv (hG : GOk D) (hG2 : l7 D) (hI : InlOk D) (hmix : D.P.follows .mixedOrders = true) {id : Nat} {st : ASt} {K : ASt → Option R} {r : R} (h : bq6 D ops st K = some r) :
    ∃ st', K st' = some r ∧ st'.m = st.m ∧ ∀ (q : Option Nat) (n0 B0 : Nat) (w0 : W0) E act w Q, Rel D B0 w0 E st act w → Dom E st.n →
     (∀ E' act' w', Up E E' w w' → Rel D B0 w0 E' st' act' w' → Dom E' st'.n → Q Exit.normal act' w') → (Code.region id ops true).wpIn (FR q) n0 D.P Q act w := by
 unfold bq6 at h
 have plain : (azc D ops ops.toList 0 [] st fun _ => K) = some r → ∃ st', K st' = some r ∧ st'.m = st.m ∧ ∀ (q : Option Nat) (n0 B0 : Nat) (w0 : W0) E act w Q, Rel D B0 w0 E st act w → Dom E st.n →
     (∀ E' act' w', Up E E' w w' → Rel D B0 w0 E' st' act' w' → Dom E' st'.n → Q Exit.normal act' w') → (Code.region id ops true).wpIn (FR q) n0 D.P Q act w := fun h => by
  obtain ⟨st', h1, h2, _, h4⟩ := bpb (id := id) hG hG2 hmix h
  exact ⟨st', h1, h2, h4⟩
 split at h
 ·rename_i l0 o hsp
  cases hc : (bl8 D [] o.op).isSome && o.guard.isNone with
  | false => rw [hc] at h; exact plain h
  | true =>
   rw [hc] at h
   simp only [cond_true] at h
   simp only [Bool.and_eq_true, Option.isNone_iff_eq_none] at hc
   have hops := av7 hsp
   obtain ⟨steps, st1, h1, hT, hlen, he, hn⟩ := akq (st0 := st) hG hG2 l0 0 [] st _ r [] ⟨[o], by simpa using hops⟩ rfl rfl trivial (EqS.refl _) rfl h
   have hlen' : steps.length = l0.length := by rw [hlen]; simp
   split at h1
   ·rename_i cl hcl
    cases hal : allIn l0.length cl with
    | false => rw [hal] at h1; cases h1
    | true =>
     rw [hal] at h1
     simp only [cond_true] at h1
     obtain ⟨st', hK, hm, hok⟩ := boi hG hG2 hI h1
     have hsize : steps.length + 1 = ops.size := by
      have := congrArg List.length hops
      simp at this
      omega
     have hlast : ops[steps.length]? = some o := by
      rw [← Array.getElem?_toList, hops, hlen', List.getElem?_append_right (Nat.le_refl _)]
      simp
     refine ⟨st', hK, hm.trans (he.m.symm.trans (bbq _ _)), fun q n0 B0 w0 E act w Q hR hD hQ => wpIn_region_any hmix ?_⟩
     refine bi4 hT hsize hlast hc.2 (by rw [hlen']; exact hcl) (fun j hj => bbd hal j (by omega)) he hn (E0 := E) (w00 := w) (fun E1 a1 w1 next r1 d1 hnext => hok q n0 B0 w0 E1 a1 w1 next Q r1 d1 hnext) (fun E' a' w' k1 k2 k3 => hQ E' a' w' k1 k2 k3) ops.size _ E act _ (by simp) ?_ (azp (fun j => ?_) _) ⟨?_, ?_, fun id u hu => .inl (hD id u hu), fun p s r hs hl => ?_⟩
     ·rw [Array.getD_eq_getD_getElem?, Array.getElem?_replicate]
      split <;> rfl
     ·rw [Array.getD_eq_getD_getElem?, Array.getElem?_replicate]
      split <;> rfl
     ·exact ⟨⟨fun _ h => h, fun _ _ => rfl⟩, fun _ _ h => h⟩
     ·have hz : aff st (fun j => (Array.replicate ops.size false).getD j false) steps = st := by
        have : ∀ l : List Stp, aff st (fun j => (Array.replicate ops.size false).getD j false) l = st := by
         intro l
         induction l with
         | nil => rfl
         | cons s r ih =>
          simp only [aff]
          have : (Array.replicate ops.size false).getD r.length false = false := by
           rw [Array.getD_eq_getD_getElem?, Array.getElem?_replicate]
           split <;> rfl
          rw [this]
          exact ih
        exact this steps
      rw [hz]
      have up : Up E E w w.drew := ⟨⟨fun _ h => h, fun _ _ => rfl⟩, fun _ _ h => h⟩
      exact hR.step up (Below.refl _ _).drew st.n (fun id b hb => (hR.heap id b hb).mono up (fun _ _ _ _ => rfl) (fun _ _ _ _ _ h => h)) hR.apart (fun _ h => .inl h) hR.form
     ·exfalso
      rw [Array.getD_eq_getD_getElem?, Array.getElem?_replicate] at hl
      split at hl <;> cases hl
   ·cases h1
 ·exact plain h
end
end Go.Abs
end

section
namespace Go.Abs
open Go Go.RowKit
set_option linter.unusedVariables false
set_option linter.unusedSimpArgs false
theorem bdo {h : Hp} {id : Nat} {b : Blk} : fq h id = some b ↔ assoc h id = some (some b) := by
 induction h with
 | nil => simp [fq, assoc]
 | cons x r ih =>
  obtain ⟨k, y⟩ := x
  simp only [fq, assoc]
  cases Nat.beq k id with
  | true => simp
  | false => simpa using ih
theorem ba3 (a b : List (Nat × AVal)) (t : Nat) : look (oo a b) t = (match assoc a t with | some x => x | none => look b t) := by
 induction a with
 | nil => rfl
 | cons x r ih =>
  obtain ⟨k, y⟩ := x
  simp only [oo, look, assoc]
  cases Nat.beq k t <;> simp [ih]
theorem bhl (a : List (Nat × AVal)) (t : Nat) : look a t = (match assoc a t with | some x => x | none => .bot) := by
 induction a with
 | nil => rfl
 | cons x r ih =>
  obtain ⟨k, y⟩ := x
  simp only [look, assoc]
  cases Nat.beq k t <;> simp [ih]
def adx (tv : Nat → Value) : Nat → List (Nat × TypeId × Cont) → Nat → Option Value
 | _, [], _ => none
 | n, (t, _, _) :: r, id => bif Nat.beq n id then some (tv t) else adx tv (n + 1) r id
theorem am9 {tv : Nat → Value} : ∀ (rows : List (Nat × TypeId × Cont)) (n id : Nat) (u : Value), adx tv n rows id = some u → n ≤ id ∧ id < n + rows.length
 | [], n, id, u, h => by simp [adx] at h
 | (t, e, c) :: r, n, id, u, h => by
  simp only [adx] at h
  cases hb : Nat.beq n id with
  | true => have := Nat.eq_of_beq_eq_true hb; simp; omega
  | false =>
   rw [hb] at h
   have := am9 r (n + 1) id u h
   simp; omega
def Slf (u : Value) : Prop := (∃ A n c, u = .slice A n c) ∨ ∃ a, u = .pointer (some a)
structure Rows (E : Env) (w : World) (B0 : Nat) (h : Hp) (tv : Nat → Value) (n : Nat) (rows : List (Nat × TypeId × Cont)) (fs : List (Nat × AVal)) (hs : Hp) (us : List Nat) : Prop where
 slots : ∀ t x, assoc fs t = some x → ∃ id, x = .own id ∧ adx tv n rows id = some (tv t)
 blks : ∀ id b, assoc hs id = some b → ∃ e c u, b = some ⟨.row e c, false⟩ ∧ n ≤ id ∧ adx tv n rows id = some u ∧ (∃ xs, w.ownsRow B0 e c.size u c.len xs ∧ ∀ j x, xs[j]? = some x → x.oneCell' = true ∧ cellC E.S w c j x) ∧
  (∀ k, gu u = some k → ¬ E.S k ∧ ∃ id0, id0 ∈ us ∧ ∃ b0, fq h id0 = some b0 ∧ b0.frz = false ∧ ∃ u0, E.ρ id0 = some u0 ∧ gu u0 = some k)
 apart : ∀ id id' b b' u u' k, assoc hs id = some b → assoc hs id' = some b' → id ≠ id' → adx tv n rows id = some u → adx tv n rows id' = some u' → gu u = some k → gu u' ≠ some k
 form : ∀ id u, adx tv n rows id = some u → Slf u
section
variable {D : Ctx} {B0 : Nat} {w0 : W0} {E : Env} {st : ASt} {act : Act} {w : World}
theorem ownsRow_nil {B0 : Nat} {e : TypeId} {c : Cont} (hc : c.len = 0) : w.ownsRow B0 e c.size (.slice none 0 0) c.len [] := by
 refine ⟨by simp [hc], .inl ?_⟩
 simp [hc]
theorem bf1 (hR : Rel D B0 w0 E st act w) {g : Nat → AVal} {tv : Nat → Value} (hg : ∀ t, eu E w (g t) (tv t)) : ∀ (rows : List (Nat × TypeId × Cont)) (n : Nat) (fs : List (Nat × AVal)) (hs : Hp) (us : List Nat), keepR g st.h n rows = some (fs, hs, us) →
    Rows E w B0 st.h tv n rows fs hs us
 | [], n, fs, hs, us, h => by
  simp only [keepR] at h
  cases h
  exact ⟨fun t x h => by simp [assoc] at h, fun id b h => by simp [assoc] at h, fun id id' b b' u u' k h => by simp [assoc] at h, fun id u h => by simp [adx] at h⟩
 | (t, e, c0) :: rows, n, fs, hs, us, h => by
  simp only [keepR] at h
  split at h
  ·cases h
  ·rename_i fs1 hs1 us1 hkr
   have ih := bf1 hR hg rows (n + 1) _ _ _ hkr
   have htv := hg t
   -- one more
   have build : ∀ (u : Value) (c : Cont) (us2 : List Nat), tv t = u → (∃ xs, w.ownsRow B0 e c.size u c.len xs ∧ ∀ j x, xs[j]? = some x → x.oneCell' = true ∧ cellC E.S w c j x) → Slf u →
       (∀ id0, id0 ∈ us1 → id0 ∈ us2) → (∀ k, gu u = some k → ¬ E.S k ∧ ∃ id0, id0 ∈ us2 ∧ id0 ∉ us1 ∧ ∃ b0, fq st.h id0 = some b0 ∧ b0.frz = false ∧ ∃ u0, E.ρ id0 = some u0 ∧ gu u0 = some k) →
       Rows E w B0 st.h tv n ((t, e, c0) :: rows) ((t, .own n) :: fs1) ((n, some ⟨.row e c, false⟩) :: hs1) us2 := by
    intro u c us2 hu hrow hform hsub hor
    have rv : adx tv n ((t, e, c0) :: rows) n = some u := by simp [adx, hu]
    have rv' : ∀ id, id ≠ n → adx tv n ((t, e, c0) :: rows) id = adx tv (n + 1) rows id := by
     intro id hid
     simp only [adx]
     cases hb : Nat.beq n id with
     | true => exact absurd (Nat.eq_of_beq_eq_true hb).symm hid
     | false => rfl
    have as' : ∀ id b, assoc ((n, some ⟨.row e c, false⟩) :: hs1) id = some b → (id = n ∧ b = some ⟨.row e c, false⟩) ∨ (id ≠ n ∧ assoc hs1 id = some b) := by
     intro id b hb
     simp only [assoc] at hb
     cases hq : Nat.beq n id with
     | true => rw [hq] at hb; cases hb; exact .inl ⟨(Nat.eq_of_beq_eq_true hq).symm, rfl⟩
     | false => rw [hq] at hb; exact .inr ⟨fun he => Nat.ne_of_beq_eq_false hq he.symm, hb⟩
    refine ⟨fun t' x hx => ?_, fun id b hb => ?_, fun id id' b b' v v' k hb hb' hne hv hv' hk hk' => ?_, fun id v hv => ?_⟩
    ·simp only [assoc] at hx
     cases hq : Nat.beq t t' with
     | true =>
      rw [hq] at hx
      cases hx
      have := Nat.eq_of_beq_eq_true hq
      subst this
      exact ⟨n, rfl, by rw [rv, hu]⟩
     | false =>
      rw [hq] at hx
      obtain ⟨id, h1, h2⟩ := ih.slots t' x hx
      have := (am9 _ _ _ _ h2).1
      exact ⟨id, h1, by rw [rv' id (by omega)]; exact h2⟩
    ·rcases as' id b hb with ⟨rfl, rfl⟩ | ⟨hid, hb⟩
     ·exact ⟨e, c, u, rfl, Nat.le_refl _, rv, hrow, fun k hk => by
        obtain ⟨h1, id0, h2, _, h3⟩ := hor k hk
        exact ⟨h1, id0, h2, h3⟩⟩
     ·obtain ⟨e1, c1, u1, h1, h2, h3, h4, h5⟩ := ih.blks id b hb
      exact ⟨e1, c1, u1, h1, by omega, by rw [rv' id hid]; exact h3, h4, fun k hk => by
       obtain ⟨h6, id0, h7, h8⟩ := h5 k hk
       exact ⟨h6, id0, hsub _ h7, h8⟩⟩
    ·have key : ∀ j b v' k, j ≠ n → assoc hs1 j = some b → adx tv (n + 1) rows j = some v' → gu u = some k → gu v' ≠ some k := by
       intro j b v' k hj hb hv' hk hk'
       obtain ⟨e1, c1, u1, h1, h2, h3, h4, h5⟩ := ih.blks j b hb
       rw [hv'] at h3
       cases h3
       obtain ⟨_, id1, g1, b1, g2, g3, u1, g4, g5⟩ := h5 k hk'
       obtain ⟨_, id0, f1, f2, b0, f3, f4, u0, f5, f6⟩ := hor k hk
       exact hR.apart id0 id1 b0 b1 u0 u1 k f3 f4 g2 g3 (by rintro rfl; exact f2 g1) f5 g4 f6 g5
     rcases as' id b hb with ⟨rfl, rfl⟩ | ⟨hid, hb1⟩
     ·rcases as' id' b' hb' with ⟨rfl, rfl⟩ | ⟨hid', hb1'⟩
      ·exact hne rfl
      ·rw [rv] at hv
       cases hv
       rw [rv' id' hid'] at hv'
       exact key id' b' v' k hid' hb1' hv' hk hk'
     ·rw [rv' id hid] at hv
      rcases as' id' b' hb' with ⟨rfl, rfl⟩ | ⟨hid', hb1'⟩
      ·rw [rv] at hv'
       cases hv'
       exact key id b v k hid hb1 hv hk' hk
      ·rw [rv' id' hid'] at hv'
       exact ih.apart id id' b b' v v' k hb1 hb1' hne hv hv' hk hk'
    ·by_cases hid : id = n
     ·subst hid
      rw [rv] at hv
      cases hv
      exact hform
     ·rw [rv' id hid] at hv
      exact ih.form id v hv
   split at h
   ·rename_i id0 hlk
    split at h
    ·rename_i e' c hb
     cases hq : Nat.beq e e' && !atj id0 us1 with
     | false => rw [hq] at h; cases h
     | true =>
      rw [hq] at h
      cases h
      simp only [Bool.and_eq_true, Bool.not_eq_true'] at hq
      have := Nat.eq_of_beq_eq_true hq.1
      subst this
      rw [hlk] at htv
      simp only [eu] at htv
      obtain ⟨u, hu, hrow, hns, _⟩ := hR.heap _ _ hb
      rw [htv] at hu
      refine build _ c (id0 :: us1) rfl (by cases hu; exact hrow) ((hR.heap _ _ hb).form htv) (fun _ h => List.mem_cons_of_mem _ h) (fun k hk => ⟨by cases hu; exact hns rfl k hk, id0, List.mem_cons_self .., ?_, _, hb, rfl, _, htv, hk⟩)
      intro hm
      rw [acd.2 hm] at hq
      cases hq.2
    ·cases h
   ·rename_i id0 len hlk
    split at h
    ·rename_i e' c hb
     cases hq : Nat.beq e e' && !atj id0 us1 with
     | false => rw [hq] at h; cases h
     | true =>
      rw [hq] at h
      cases h
      simp only [Bool.and_eq_true, Bool.not_eq_true'] at hq
      have := Nat.eq_of_beq_eq_true hq.1
      subst this
      rw [hlk] at htv
      simp only [eu] at htv
      obtain ⟨A, q, cap, hρ', hle, A', _, hA', htv⟩ := htv
      rw [show A' = A from hA' trivial, Nat.sub_zero] at htv
      obtain ⟨u, hu, ⟨xs, ho, hxs⟩, hns, _⟩ := hR.heap _ _ hb
      rw [hρ'] at hu
      cases hu
      have hq' : q = c.len := by
       rcases (show _ from ho.2) with ⟨h1, h2⟩ | ⟨g, cap', cur, h1, _⟩
       ·cases h1; exact h2.symm
       ·cases h1; rfl
      obtain ⟨t1, t2, t3⟩ := Cont.aq2 (c := c) (m := len) (by omega)
      rw [← hq'] at ho
      have ho' := afh (m := len) ho rfl (by omega)
      refine build _ (c.take len) (id0 :: us1) htv ⟨_, by rw [t1, t2]; exact ho', fun j x hj => ?_⟩ (.inl ⟨_, _, _, rfl⟩) (fun _ h => List.mem_cons_of_mem _ h) (fun k hk => ⟨hns rfl k (by cases A <;> exact hk), id0, List.mem_cons_self .., ?_, _, hb, rfl, _, hρ', by cases A <;> exact hk⟩)
      ·have hlt := (List.getElem?_eq_some_iff.1 hj).1
       rw [ho'.1] at hlt
       rw [List.getElem?_take, if_pos hlt] at hj
       exact ⟨(hxs j x hj).1, t3 _ _ _ _ hlt (hxs j x hj).2⟩
      ·intro hm
       rw [acd.2 hm] at hq
       cases hq.2
    ·cases h
   ·rename_i hlk
    cases hq : Nat.beq c0.len 0 with
    | false => rw [hq] at h; cases h
    | true =>
     rw [hq] at h
     cases h
     have hc0 := Nat.eq_of_beq_eq_true hq
     rw [hlk] at htv
     simp only [eu] at htv
     exact build _ c0 _ htv ⟨[], ownsRow_nil hc0, fun j x h => by simp at h⟩ (.inl ⟨_, _, _, rfl⟩) (fun _ h => h) (fun k hk => by simp [gu] at hk)
   ·cases h
theorem bf5 {f : List (Nat × AVal)} {n : Nat} : ∀ (ts : List Nat) (l : List (Nat × AVal)), biv f n ts = some l → ∀ t x, assoc l t = some x → x = look f t ∧ bnd n x = true
 | [], l, h, t, x, hx => by simp only [biv] at h; cases h; simp [assoc] at hx
 | a :: ts, l, h, t, x, hx => by
  simp only [biv] at h
  cases hb : bnd n (look f a) with
  | false => rw [hb] at h; cases h
  | true =>
   rw [hb] at h
   simp only [cond_true] at h
   split at h
   ·rename_i l' hl'
    cases h
    simp only [assoc] at hx
    cases hq : Nat.beq a t with
    | true =>
     rw [hq] at hx
     cases hx
     have := Nat.eq_of_beq_eq_true hq
     subst this
     exact ⟨rfl, hb⟩
    | false => rw [hq] at hx; exact bf5 ts l' hl' t x hx
   ·cases h
theorem bgg {h : Hp} {n : Nat} {us : List Nat} : ∀ (ids : List Nat) (l : Hp), bc6 h n us ids = some l → ∀ id b, assoc l id = some (some b) → fq h id = some b ∧ id ∉ us ∧ bvi n b.b = true ∧ id < n
 | [], l, hk, id, b, hx => by simp only [bc6] at hk; cases hk; simp [assoc] at hx
 | a :: ids, l, hk, id, b, hx => by
  simp only [bc6] at hk
  split at hk
  ·cases hk
  ·rename_i l' hl'
   have ih := bgg ids l' hl' id b
   cases hm : atj a us with
   | true =>
    rw [hm] at hk
    cases hk
    simp only [assoc] at hx
    cases hq : Nat.beq a id with
    | true => rw [hq] at hx; cases hx
    | false => rw [hq] at hx; exact ih hx
   | false =>
    rw [hm] at hk
    simp only [cond_false] at hk
    split at hk
    ·cases hk
     simp only [assoc] at hx
     cases hq : Nat.beq a id with
     | true => rw [hq] at hx; cases hx
     | false => rw [hq] at hx; exact ih hx
    ·rename_i b1 hb1
     cases hq2 : bvi n b1.b && Nat.blt a n with
     | false => rw [hq2] at hk; cases hk
     | true =>
      rw [hq2] at hk
      cases hk
      simp only [assoc] at hx
      cases hq : Nat.beq a id with
      | true =>
       rw [hq] at hx
       cases hx
       have := Nat.eq_of_beq_eq_true hq
       subst this
       simp only [Bool.and_eq_true] at hq2
       exact ⟨hb1, (fun hm' => by rw [acd.2 hm'] at hm; cases hm), hq2.1, by simpa using hq2.2⟩
      | false => rw [hq] at hx; exact ih hx
theorem bcm {f : Nat → AVal} {h : Hp} : ∀ (rows : List (Nat × TypeId × Cont)) (n : Nat) (fs : List (Nat × AVal)) (hs : Hp) (us : List Nat), keepR f h n rows = some (fs, hs, us) → hs.length = rows.length
 | [], n, fs, hs, us, hk => by simp only [keepR] at hk; cases hk; rfl
 | (t, e, c0) :: rows, n, fs, hs, us, hk => by
  simp only [keepR] at hk
  split at hk
  ·cases hk
  ·rename_i fs1 hs1 us1 h1
   have ih := bcm rows _ _ _ _ h1
   split at hk
   ·split at hk
    ·cases hq : Nat.beq e _ && !atj _ us1 with
     | false => rw [hq] at hk; cases hk
     | true => rw [hq] at hk; cases hk; simp [ih]
    ·cases hk
   ·split at hk
    ·cases hq : Nat.beq e _ && !atj _ us1 with
     | false => rw [hq] at hk; cases hk
     | true => rw [hq] at hk; cases hk; simp [ih]
    ·cases hk
   ·cases hq : Nat.beq c0.len 0 with
    | false => rw [hq] at hk; cases hk
    | true => rw [hq] at hk; cases hk; simp [ih]
   ·cases hk
theorem ayp {h : Hp} {n : Nat} {us : List Nat} : ∀ (ids : List Nat) (l : Hp), bc6 h n us ids = some l → keysOf l = ids
 | [], l, hk => by simp only [bc6] at hk; cases hk; rfl
 | a :: ids, l, hk => by
  simp only [bc6] at hk
  split at hk
  ·cases hk
  ·rename_i l' hl'
   have ih := ayp ids l' hl'
   cases hm : atj a us with
   | true => rw [hm] at hk; cases hk; simp [keysOf, ih]
   | false =>
    rw [hm] at hk
    simp only [cond_false] at hk
    split at hk
    ·cases hk; simp [keysOf, ih]
    ·rename_i b1 hb1
     cases hq2 : bvi n b1.b && Nat.blt a n with
     | false => rw [hq2] at hk; cases hk
     | true => rw [hq2] at hk; cases hk; simp [keysOf, ih]
theorem ayq {α : Type} : ∀ (l r : List α), aul l.length (oo l r) = r
 | [], r => by cases r <;> rfl
 | a :: l, r => by simp only [List.length_cons, oo, aul]; exact ayq l r
theorem avf (fs : List (Nat × AVal)) : ∀ h : Hp, keysOf (bhx fs h) = keysOf h
 | [] => rfl
 | (id, b) :: r => by simp only [bhx, keysOf, avf fs r]
theorem bd9 (fs : List (Nat × AVal)) (l : List Nat) (h : Hp) : keysOf (bn2 fs l h) = keysOf h := by
 unfold bn2
 split
 ·rfl
 ·exact avf fs h
theorem ayk (fs : List (Nat × AVal)) : ∀ (n : Nat) (h : Hp), aul n (bhx fs h) = bhx fs (aul n h)
 | 0, h => by cases h <;> rfl
 | n + 1, [] => rfl
 | n + 1, (id, b) :: r => by simp only [bhx, aul, ayk fs n r]
theorem bhu (fs : List (Nat × AVal)) (l : List Nat) (n : Nat) (h : Hp) : aul n (bn2 fs l h) = bn2 fs l (aul n h) := by
 unfold bn2
 split
 ·rfl
 ·exact ayk fs n h
theorem ba2 {h : Hint} {n : Nat} {ids : List Nat} {st st1 : ASt} (hn : norm h n ids st = some st1) : st1.n - h.rows.length = n ∧ keysOf (aul h.rows.length st1.h) = ids := by
 unfold norm at hn
 split at hn
 ·cases hn
 ·rename_i fs hs us hk
  split at hn
  ·rename_i f hh hf hhh
   cases hn
   refine ⟨by simp, ?_⟩
   simp only
   rw [← bcm _ _ _ _ _ hk, bhu, ayq, bd9]
   exact ayp _ _ hhh
  ·cases hn
theorem am3 (c : Cont) (y a : AVal) : (a = .v (.slice none 0 0) ∧ c.len = 0 ∧ bde c y a = y) ∨ bde c y a = a := by
 unfold bde
 split
 ·cases hq : Nat.beq c.len 0 with
  | false => exact .inr rfl
  | true => exact .inl ⟨rfl, Nat.eq_of_beq_eq_true hq, rfl⟩
 ·exact .inr rfl
theorem blc {S : Nat → Prop} {w : World} {c : Cont} (hc : c.len = 0) : SlC S w c (.slice none 0 0) :=
 ⟨none, 0, by rw [hc], by rw [hc]; exact Nat.le_refl _, fun h => by rw [hc] at h; cases h⟩
theorem bcz {f g : Fn} (h : ayd f g = true) : f = g := by
 unfold ayd at h
 split at h
 ·rw [Nat.eq_of_beq_eq_true h]
 ·cases h
theorem az4 (f : Fn) (fa fc : List AVal) (g : Fn) (ga gc : List AVal) (a : AVal) : (a = .v .nilFunc ∧ auo f fa fc g ga gc a = .alt 0 f fa fc g ga gc) ∨ (∃ x y, a = .fn f x y ∧ auo f fa fc g ga gc a = .alt 1 f x y g ga gc) ∨
    (∃ x y, a = .fn g x y ∧ auo f fa fc g ga gc a = .alt 2 f fa fc g x y) ∨ auo f fa fc g ga gc a = a := by
 unfold auo
 split
 ·rename_i h x y
  cases hq : ayd h f with
  | true => rw [bcz hq]; exact .inr (.inl ⟨_, _, rfl, rfl⟩)
  | false =>
   cases hq' : ayd h g with
   | true => rw [bcz hq']; exact .inr (.inr (.inl ⟨_, _, rfl, rfl⟩))
   | false => exact .inr (.inr (.inr rfl))
 ·exact .inl ⟨rfl, rfl⟩
 ·exact .inr (.inr (.inr rfl))
theorem bim {E : Env} {w : World} {f : Fn} {fa fc : List AVal} {g : Fn} {ga gc : List AVal} {a : AVal} {u : Value} (h : eu E w a u) : eu E w (auo f fa fc g ga gc a) u := by
 rcases az4 f fa fc g ga gc a with ⟨rfl, e⟩ | ⟨x, y, rfl, e⟩ | ⟨x, y, rfl, e⟩ | e
 ·rw [e]; exact anb.2 (.inl ⟨rfl, by simpa only [eu] using h⟩)
 ·rw [e]; exact anb.2 (.inr (.inl ⟨rfl, h⟩))
 ·rw [e]; exact anb.2 (.inr (.inr ⟨rfl, h⟩))
 ·rw [e]; exact h
theorem bcn {f : Fn} {fa fc : List AVal} {g : Fn} {ga gc : List AVal} {a : AVal} (ha : ∀ k n l, a ≠ .arr k n l) : ∀ k n l, auo f fa fc g ga gc a ≠ .arr k n l := by
 intro k n l he
 rcases az4 f fa fc g ga gc a with ⟨rfl, e⟩ | ⟨x, y, rfl, e⟩ | ⟨x, y, rfl, e⟩ | e <;> rw [e] at he <;> first | (cases he; done) | exact ha _ _ _ he
mutual
theorem av8 {E : Env} {w : World} : ∀ (s : Sh) (a : AVal) (u : Value), eu E w a u → eu E w (alg s a) u
 | .any, a, u, h => by simpa only [alg] using h
 | .fr e c, a, u, h => by simpa only [alg] using h
 | .alt f fa fc g ga gc, a, u, h => by simp only [alg]; exact bim h
 | .sl c, a, u, h => by
  simp only [alg]
  rcases am3 c (.sl c) a with ⟨rfl, hc, e⟩ | e
  ·rw [e]
   simp only [eu] at h ⊢
   subst h
   exact blc hc
  ·rw [e]; exact h
 | .agg ss, a, u, h => by
  cases a with
  | agg l =>
   simp only [alg, eu] at h ⊢
   obtain ⟨cs, h1, h2⟩ := h
   exact ⟨cs, h1, amk ss l cs h2⟩
  | sta l =>
   simp only [alg, eu] at h ⊢
   obtain ⟨a, cs, h1, h2, h3, h4⟩ := h
   exact ⟨a, cs, h1, h2, amk ss l cs h3, h4⟩
  | fn f a c =>
   simp only [alg, eu] at h ⊢
   obtain ⟨x, y, h1, h2, h3⟩ := h
   exact ⟨x, y, h1, h2, aqn ss c y h3⟩
  | _ => simpa only [alg] using h
theorem aqn {E : Env} {w : World} : ∀ (ss : List Sh) (l : List AVal) (vs : List Value), jl E w l vs → jl E w (ou ss l) vs
 | [], [], vs, h => by simpa only [ou] using h
 | s :: ss, [], vs, h => by simpa only [ou] using h
 | [], a :: r, vs, h => by simpa only [ou] using h
 | s :: ss, a :: r, vs, h => by
  simp only [ou, jl] at h ⊢
  obtain ⟨u, us, h1, h2, h3⟩ := h
  exact ⟨u, us, h1, av8 s a u h2, aqn ss r us h3⟩
theorem amk {E : Env} {w : World} : ∀ (ss : List Sh) (l : List AVal) (vs : List Value), ng E w l vs → ng E w (ou ss l) vs
 | [], [], vs, h => by simpa only [ou] using h
 | s :: ss, [], vs, h => by simpa only [ou] using h
 | [], a :: r, vs, h => by simpa only [ou] using h
 | s :: ss, a :: r, vs, h => by
  simp only [ou]
  rcases sj h with ⟨k, n, l, cs', rfl, h1, rfl, h3⟩ | ⟨ha, u, cs', rfl, h2, h3, h4⟩
  ·have e : alg s (.arr k n l) = .arr k n l := by cases s <;> simp only [alg, bde, auo]
   rw [e]
   exact aaf h1 (amk ss r cs' h3)
  ·refine j6 (fun k n l he => ?_) h2 (av8 s a u h3) (amk ss r cs' h4)
   cases s with
   | sl c => 
    simp only [alg] at he
    rcases am3 c (.sl c) a with ⟨rfl, hc, e⟩ | e
    ·rw [e] at he; cases he
    ·rw [e] at he; exact ha _ _ _ he
   | agg ss => cases a <;> simp only [alg] at he <;> first | (cases he; done) | exact ha _ _ _ he
   | alt f fa fc g ga gc => simp only [alg] at he; exact bcn ha _ _ _ he
   | _ => simp only [alg] at he; exact ha _ _ _ he
end
theorem auj (hl : Nat → Option Blk) (f : List (Nat × AVal)) : ∀ (l : List (Nat × Sh)) (t : Nat) (x : AVal), assoc (ayj hl f l) t = some x → ∃ s, x = alg s (w9 hl (look f t)) ∧ ∀ id, id ∈ qj (look f t) → id ∈ ayb f l
 | [], t, x, h => by simp [ayj, assoc] at h
 | (a, s) :: r, t, x, h => by
  simp only [ayj, assoc] at h
  cases hb : Nat.beq a t with
  | true =>
   rw [hb] at h
   cases h
   have := Nat.eq_of_beq_eq_true hb
   subst this
   exact ⟨s, rfl, fun id hid => by simp only [ayb]; exact jh.2 (.inl hid)⟩
  | false =>
   rw [hb] at h
   obtain ⟨s', h1, h2⟩ := auj hl f r t x h
   exact ⟨s', h1, fun id hid => by simp only [ayb]; exact jh.2 (.inr (h2 id hid))⟩
theorem bm6 (l : List (Nat × Sh)) (hR : Rel D B0 w0 E st act w) : ∃ E', E'.ρ = E.ρ ∧ Up E E' w w ∧ Rel D B0 w0 E' (apc l st) act w := by
 unfold apc
 split
 ·exact ⟨E, rfl, Up.refl _ _, hR⟩
 ·obtain ⟨E1, hρ, up, hR1, hS, hsame⟩ := aa5 (hl := fq st.h) (fun _ _ h => h) (ayb st.f l) hR
  refine ⟨E1, hρ, up, { hR1 with tmps := fun t => ?_ }⟩
  show eu E1 w (look (oo (ayj (fq st.h) st.f l) st.f) t) _
  rw [ba3]
  split
  ·rename_i x hx
   obtain ⟨s, rfl, hid⟩ := auj _ _ _ _ _ hx
   refine av8 s _ _ ?_
   have := wz hR (fun _ _ h => h) (S' := E1.S) up.keeps.sub (look st.f t) (act.tmps.getD t undef) (hR.tmps t) (fun id hid' b v k hb hv hk => hS id (hid id hid') b v k hb hv hk)
   exact p9 this
  ·exact hR1.tmps t
theorem axe {a : AVal} (h : bhi a = true) : (∃ id, a = .own id) ∨ ∃ id o l, a = .win id o l := by
 cases a <;> simp only [bhi] at h <;> first
  | exact .inl ⟨_, rfl⟩
  | exact .inr ⟨_, _, _, rfl⟩
  | cases h
theorem am2 (hR : Rel D B0 w0 E st act w) {E1 : Env} (hρ : E1.ρ = E.ρ) (hS : ∀ b, E.S b → E1.S b) : ∀ (l : List AVal) (cs : List Value),
    (∀ id, id ∈ as7 l → ∀ b v k, fq st.h id = some b → E.ρ id = some v → gu v = some k → E1.S k) → ng E1 w l cs → ng E1 w (axa (fq st.h) l) cs
 | [], cs, _, h => h
 | a :: r, cs, hi, h => by
  have hi2 : ∀ id, id ∈ as7 r → ∀ b v k, fq st.h id = some b → E.ρ id = some v → gu v = some k → E1.S k := fun id hid => hi id (by
   simp only [as7]
   cases bhi a with
   | true => exact jh.2 (.inr hid)
   | false => exact hid)
  simp only [axa]
  rcases sj h with ⟨k', n, l, cs', rfl, h1, rfl, h3⟩ | ⟨ha, u, cs', rfl, h2, h3, h4⟩
  ·exact aaf h1 (am2 hR hρ hS r cs' hi2 h3)
  ·cases hq : bhi a with
   | false =>
    have e : bkw (fq st.h) a = a := by unfold bkw; rw [hq]; rfl
    rw [e]
    exact j6 ha h2 h3 (am2 hR hρ hS r cs' hi2 h4)
   | true =>
    have e : bkw (fq st.h) a = w9 (fq st.h) a := by unfold bkw; rw [hq]; rfl
    rw [e]
    have hrel : eu E w a u := by
     rcases axe hq with ⟨id, rfl⟩ | ⟨id, o, l, rfl⟩
     ·simp only [eu] at h3 ⊢; rw [← hρ]; exact h3
     ·simp only [eu] at h3 ⊢; rw [← hρ]; exact h3
    refine j6 (fun k n l he => ?_) h2 (p9 (wz hR (fun _ _ h => h) (S' := E1.S) hS a u hrel (fun id hid => hi id (by
     simp only [as7, hq, cond_true]; exact jh.2 (.inl hid))))) (am2 hR hρ hS r cs' hi2 h4)
    rcases axe hq with ⟨id, rfl⟩ | ⟨id, o, l, rfl⟩ <;> (simp only [w9] at he; split at he <;> cases he)
theorem amf (hl : Nat → Option Blk) (h : Hp) : ∀ (ids : List Nat) (id : Nat) (x : Option Blk), assoc (amw hl h ids) id = some x → ∃ e l f, fq h id = some ⟨.box e l, f⟩ ∧ x = some ⟨.box e (axa hl l), f⟩ ∧ id ∈ ids
 | [], id, x, hx => by simp [amw, assoc] at hx
 | a :: r, id, x, hx => by
  simp only [amw] at hx
  split at hx
  ·rename_i e l f hb
   simp only [assoc] at hx
   cases hq : Nat.beq a id with
   | true =>
    rw [hq] at hx
    have := Nat.eq_of_beq_eq_true hq
    subst this
    cases hx
    exact ⟨e, l, f, hb, rfl, List.mem_cons_self ..⟩
   | false =>
    rw [hq] at hx
    obtain ⟨e', l', f', h1, h2, h3⟩ := amf hl h r id x hx
    exact ⟨e', l', f', h1, h2, List.mem_cons_of_mem _ h3⟩
  ·obtain ⟨e', l', f', h1, h2, h3⟩ := amf hl h r id x hx
   exact ⟨e', l', f', h1, h2, List.mem_cons_of_mem _ h3⟩
theorem bbo (h : Hp) {e : TypeId} {l : List AVal} {f : Bool} {q : Nat} (hq : q ∈ as7 l) : ∀ (ids : List Nat) (id : Nat), id ∈ ids → fq h id = some ⟨.box e l, f⟩ → q ∈ aq0 h ids
 | a :: r, id, hid, hb => by
  simp only [aq0]
  rcases List.mem_cons.1 hid with rfl | hid
  ·rw [hb]
   exact jh.2 (.inl hq)
  ·have ih := bbo h hq r id hid hb
   split
   ·exact jh.2 (.inr ih)
   ·exact ih
theorem bdc (ids : List Nat) (hR : Rel D B0 w0 E st act w) : ∃ E', E'.ρ = E.ρ ∧ Up E E' w w ∧ Rel D B0 w0 E' (ap3 ids st) act w := by
 unfold ap3
 split
 ·exact ⟨E, rfl, Up.refl _ _, hR⟩
 ·obtain ⟨E1, hρ, up, hR1, hS, hsame⟩ := aa5 (hl := fq st.h) (fun _ _ h => h) (aq0 st.h ids) hR
  have key : ∀ id b, fq (oo (amw (fq st.h) (oo (freeze (fq st.h) (aq0 st.h ids) []) st.h) ids) (oo (freeze (fq st.h) (aq0 st.h ids) []) st.h)) id = some b →
      fq (oo (freeze (fq st.h) (aq0 st.h ids) []) st.h) id = some b ∨ ∃ e l f, fq (oo (freeze (fq st.h) (aq0 st.h ids) []) st.h) id = some ⟨.box e l, f⟩ ∧ b = ⟨.box e (axa (fq st.h) l), f⟩ ∧ id ∈ ids := by
   intro id b hb
   rw [acr] at hb
   split at hb
   ·rename_i x hx
    obtain ⟨e, l, f, h1, h2, h3⟩ := amf _ _ _ _ _ hx
    rw [h2] at hb
    cases hb
    exact .inr ⟨e, l, f, h1, rfl, h3⟩
   ·exact .inl hb
  refine ⟨E1, hρ, up, { hR1 with heap := fun id b hb => ?_, apart := fun id id' b b' u u' k hb hf hb' hf' hne hu hu' hk => ?_ }⟩
  ·rcases key id b hb with h | ⟨e, l, f, h1, rfl, h3⟩
   ·exact hR1.heap id b h
   ·obtain ⟨u, hu, ⟨k, cs, g1, g2, g3, g4⟩, hf1, hf2⟩ := hR1.heap id _ h1
    obtain ⟨b0, hb0, he0⟩ := hsame id _ h1
    refine ⟨u, hu, ⟨k, cs, g1, g2, g3, ?_⟩, hf1, hf2⟩
    refine am2 hR hρ up.keeps.sub l _ (fun q hq b v k hb hv hk => ?_) g4
    obtain ⟨bb, ff⟩ := b0
    simp only at he0
    subst he0
    exact hS q (bbo st.h hq _ id h3 hb0) b v k hb hv hk
  ·have g : ∀ id b, fq (oo (amw (fq st.h) (oo (freeze (fq st.h) (aq0 st.h ids) []) st.h) ids) (oo (freeze (fq st.h) (aq0 st.h ids) []) st.h)) id = some b → b.frz = false →
       ∃ c, fq (oo (freeze (fq st.h) (aq0 st.h ids) []) st.h) id = some c ∧ c.frz = false := by
     intro id b hb hf
     rcases key id b hb with h | ⟨e, l, f, h1, rfl, h3⟩
     ·exact ⟨b, h, hf⟩
     ·exact ⟨_, h1, hf⟩
   obtain ⟨c, hc, hcf⟩ := g id b hb hf
   obtain ⟨c', hc', hcf'⟩ := g id' b' hb' hf'
   exact hR1.apart id id' c c' u u' k hc hcf hc' hcf' hne hu hu' hk
theorem az2 (h : Hp) : ∀ (ids : List (Nat × List Sh)) (id : Nat) (x : Option Blk), assoc (coB h ids) id = some x → ∃ e l f s, fq h id = some ⟨.box e l, f⟩ ∧ x = some ⟨.box e (ou s l), f⟩
 | [], id, x, hx => by simp [coB, assoc] at hx
 | (a, s) :: r, id, x, hx => by
  simp only [coB] at hx
  split at hx
  ·rename_i e l f hb
   simp only [assoc] at hx
   cases hq : Nat.beq a id with
   | true =>
    rw [hq] at hx
    have := Nat.eq_of_beq_eq_true hq
    subst this
    cases hx
    exact ⟨e, l, f, s, hb, rfl⟩
   | false =>
    rw [hq] at hx
    exact az2 h r id x hx
  ·exact az2 h r id x hx
theorem blm (ids : List (Nat × List Sh)) (hR : Rel D B0 w0 E st act w) : Rel D B0 w0 E (bnu ids st) act w := by
 unfold bnu
 split
 ·exact hR
 ·have key : ∀ id b, fq (oo (coB st.h ids) st.h) id = some b → fq st.h id = some b ∨ ∃ e l f s, fq st.h id = some ⟨.box e l, f⟩ ∧ b = ⟨.box e (ou s l), f⟩ := by
    intro id b hb
    rw [acr] at hb
    split at hb
    ·rename_i x hx
     obtain ⟨e, l, f, s, h1, h2⟩ := az2 _ _ _ _ hx
     rw [h2] at hb
     cases hb
     exact .inr ⟨e, l, f, s, h1, rfl⟩
    ·exact .inl hb
  refine { hR with heap := fun id b hb => ?_, apart := fun id id' b b' u u' k hb hf hb' hf' hne hu hu' hk => ?_ }
  ·rcases key id b hb with h | ⟨e, l, f, s, h1, rfl⟩
   ·exact hR.heap id b h
   ·obtain ⟨u, hu, ⟨k, cs, g1, g2, g3, g4⟩, hf1, hf2⟩ := hR.heap id _ h1
    exact ⟨u, hu, ⟨k, cs, g1, g2, g3, amk _ _ _ g4⟩, hf1, hf2⟩
  ·have g : ∀ id b, fq (oo (coB st.h ids) st.h) id = some b → b.frz = false → ∃ c, fq st.h id = some c ∧ c.frz = false := by
     intro id b hb hf
     rcases key id b hb with h | ⟨e, l, f, s, h1, rfl⟩
     ·exact ⟨b, h, hf⟩
     ·exact ⟨_, h1, hf⟩
   obtain ⟨c, hc, hcf⟩ := g id b hb hf
   obtain ⟨c', hc', hcf'⟩ := g id' b' hb' hf'
   exact hR.apart id id' c c' u u' k hc hcf hc' hcf' hne hu hu' hk
theorem bb5 (id : Nat) (l : List AVal) : ∀ (f : List (Nat × AVal)) (t : Nat), look (buc id l f) t = b1n id l (look f t)
 | [], t => rfl
 | (k, a) :: r, t => by
  simp only [buc, look]
  cases Nat.beq k t with
  | true => rfl
  | false => exact bb5 id l r t
theorem biq (id : Nat) (hR : Rel D B0 w0 E st act w) : (as2 id st).m = st.m ∧ (as2 id st).n = st.n ∧ ∃ E', E'.ρ = E.ρ ∧ Up E E' w w ∧ Rel D B0 w0 E' (as2 id st) act w := by
 unfold as2
 split
 ·rename_i e l f hb
  cases hc : au9 0 l with
  | false => exact ⟨rfl, rfl, E, rfl, Up.refl _ _, hR⟩
  | true =>
   obtain ⟨E1, hρ, up, hR1, hS, hsame⟩ := aa5 (hl := fq st.h) (fun _ _ h => h) [id] hR
   refine ⟨rfl, rfl, E1, hρ, up, { hR1 with tmps := fun t => ?_ }⟩
   show eu E1 w (look (buc id l st.f) t) _
   rw [bb5]
   have h0 : eu E1 w (look st.f t) (act.tmps.getD t undef) := hR1.tmps t
   revert h0
   generalize look st.f t = a
   generalize act.tmps.getD t undef = u
   intro h0
   unfold b1n
   split
   ·rename_i j
    cases hq : Nat.beq id j with
    | false => exact h0
    | true =>
     have := Nat.eq_of_beq_eq_true hq
     subst this
     have hf : fq (oo (freeze (fq st.h) [id] []) st.h) id = some ⟨.box e l, true⟩ := by
      simp only [freeze, hb, oo, fq, Nat.beq_refl, cond_true]
     obtain ⟨v, hv, ⟨k, cs, rfl, g2, g3, g4⟩, hf1, hf2⟩ := hR1.heap id _ hf
     simp only [eu] at h0
     obtain ⟨b, h1, rfl⟩ := h0
     rw [hv] at h1
     cases h1
     simp only [cond_true, eu]
     refine ⟨⟨k, 0, none⟩, cs.toList, rfl, hf2 rfl k rfl, g4, fun j hj => ?_⟩
     rw [uj, Nat.zero_add]
     simp only [World.cell?, g3]
     simp
   ·exact h0
 ·exact ⟨rfl, rfl, E, rfl, Up.refl _ _, hR⟩
theorem ba5 : ∀ (ids : List Nat) {E : Env} {st : ASt}, Rel D B0 w0 E st act w → (aur ids st).m = st.m ∧ (aur ids st).n = st.n ∧ ∃ E', E'.ρ = E.ρ ∧ Up E E' w w ∧ Rel D B0 w0 E' (aur ids st) act w
 | [], E, st, hR => ⟨rfl, rfl, E, rfl, Up.refl _ _, hR⟩
 | id :: r, E, st, hR => by
  obtain ⟨m1, n1, E1, h1, h2, h3⟩ := biq id hR
  obtain ⟨m2, n2, E2, k1, k2, k3⟩ := ba5 r h3
  exact ⟨m2.trans m1, n2.trans n1, E2, k1.trans h1, h2.trans k2, k3⟩
theorem biz (ops : List Oper) (hR : Rel D B0 w0 E st act w) : ∃ E', E'.ρ = E.ρ ∧ Up E E' w w ∧ Rel D B0 w0 E' (bpn D ops st) act w := by
 unfold bpn
 cases D.sta with
 | false => exact ⟨E, rfl, Up.refl _ _, hR⟩
 | true =>
  obtain ⟨E1, h1, h2, h3⟩ := bdc (axq st.f ops) hR
  obtain ⟨_, _, E2, k1, k2, k3⟩ := ba5 (axq st.f ops) h3
  exact ⟨E2, k1.trans h1, h2.trans k2, k3⟩
theorem bcq (id : Nat) (st : ASt) : (as2 id st).m = st.m ∧ (as2 id st).n = st.n := by
 unfold as2
 split
 ·rename_i e l f hb
  cases hc : au9 0 l <;> exact ⟨rfl, rfl⟩
 ·exact ⟨rfl, rfl⟩
theorem ap8 : ∀ (ids : List Nat) (st : ASt), (aur ids st).m = st.m ∧ (aur ids st).n = st.n
 | [], st => ⟨rfl, rfl⟩
 | id :: r, st => ⟨(ap8 r _).1.trans (bcq id st).1, (ap8 r _).2.trans (bcq id st).2⟩
theorem azj (D : Ctx) (ops : List Oper) (st : ASt) : (bpn D ops st).m = st.m ∧ (bpn D ops st).n = st.n := by
 have e : ∀ ids, (ap3 ids st).m = st.m ∧ (ap3 ids st).n = st.n := fun ids => by unfold ap3; split <;> exact ⟨rfl, rfl⟩
 unfold bpn
 cases D.sta with
 | false => exact ⟨rfl, rfl⟩
 | true => exact ⟨(ap8 _ _).1.trans (e _).1, (ap8 _ _).2.trans (e _).2⟩
theorem atx (h : Hp) : ∀ (l : List Nat) (id : Nat) (x : Option Blk), assoc (clr h l) id = some x → ∃ e a f, fq h id = some ⟨.box e [a], f⟩ ∧ (∀ k n l, a ≠ .arr k n l) ∧ x = some ⟨.box e [.bot], f⟩
 | [], id, x, hx => by simp [clr, assoc] at hx
 | b :: r, id, x, hx => by
  simp only [clr] at hx
  split at hx
  ·rename_i e j f hb
   simp only [assoc] at hx
   cases hq : Nat.beq b id with
   | true =>
    rw [hq] at hx
    have := Nat.eq_of_beq_eq_true hq
    subst this
    cases hx
    exact ⟨e, _, f, hb, (fun k n l h => by cases h), rfl⟩
   | false => rw [hq] at hx; exact atx h r id x hx
  ·rename_i e f hb
   simp only [assoc] at hx
   cases hq : Nat.beq b id with
   | true =>
    rw [hq] at hx
    have := Nat.eq_of_beq_eq_true hq
    subst this
    cases hx
    exact ⟨e, _, f, hb, (fun k n l h => by cases h), rfl⟩
   | false => rw [hq] at hx; exact atx h r id x hx
  ·exact atx h r id x hx
theorem bmw {E : Env} {w : World} {a : AVal} (ha : ∀ k n l, a ≠ .arr k n l) {vs : List Value} (h : ng E w [a] vs) : ng E w [.bot] vs := by
 rcases sj h with ⟨k, n, l, cs', rfl, h1, rfl, h3⟩ | ⟨_, u, cs', rfl, h2, h3, h4⟩
 ·exact absurd rfl (ha _ _ _)
 ·exact j6 (fun k n l he => by cases he) h2 (by simp only [eu]) h4
theorem bls (l : List Nat) (hR : Rel D B0 w0 E st act w) : Rel D B0 w0 E { st with h := brr st.h l } act w := by
 unfold brr
 split
 ·exact hR
 ·have key : ∀ id b, fq (oo (clr st.h l) st.h) id = some b → fq st.h id = some b ∨ ∃ e a f, fq st.h id = some ⟨.box e [a], f⟩ ∧ (∀ k n l, a ≠ .arr k n l) ∧ b = ⟨.box e [.bot], f⟩ := by
    intro id b hb
    rw [acr] at hb
    split at hb
    ·rename_i x hx
     obtain ⟨e, a, f, h1, h2, h3⟩ := atx _ _ _ _ hx
     rw [h3] at hb
     cases hb
     exact .inr ⟨e, a, f, h1, h2, rfl⟩
    ·exact .inl hb
  refine { hR with heap := fun id b hb => ?_, apart := fun id id' b b' u u' k hb hf hb' hf' hne hu hu' hk => ?_ }
  ·rcases key id b hb with h | ⟨e, a, f, h1, h2, rfl⟩
   ·exact hR.heap id b h
   ·obtain ⟨u, hu, ⟨k, cs, g1, g2, g3, g4⟩, hf1, hf2⟩ := hR.heap id _ h1
    exact ⟨u, hu, ⟨k, cs, g1, g2, g3, bmw h2 g4⟩, hf1, hf2⟩
  ·have g : ∀ id b, fq (oo (clr st.h l) st.h) id = some b → b.frz = false → ∃ c, fq st.h id = some c ∧ c.frz = false := by
     intro id b hb hf
     rcases key id b hb with h | ⟨e, a, f, h1, h2, rfl⟩
     ·exact ⟨b, h, hf⟩
     ·exact ⟨_, h1, hf⟩
   obtain ⟨c, hc, hcf⟩ := g id b hb hf
   obtain ⟨c', hc', hcf'⟩ := g id' b' hb' hf'
   exact hR.apart id id' c c' u u' k hc hcf hc' hcf' hne hu hu' hk
def bqd (E : Env) (w : World) (b : Nat) : Value := match E.ρ b with
 | some (.pointer (some a)) => match w.heap[a.block]? with
  | some (.cells cs _ _) => match cs.toList with
   | v :: _ => v
   | [] => undef
  | _ => undef
 | _ => undef
def bm3 (E : Env) (w : World) (act : Act) (t : Nat) : Value := bif Nat.blt t 1000000 then act.tmps.getD t undef else bqd E w (t - 1000000)
theorem bkp {id k : Nat} {cs : Array Value} {e : TypeId} {v : Value} {r : List Value} (hu : E.ρ id = some (.pointer (some ⟨k, 0, none⟩))) (hc : w.heap[k]? = some (.cells cs e (0, 0))) (hv : cs.toList = v :: r) : bqd E w id = v := by
 unfold bqd
 rw [hu]
 simp only [hc, hv]
theorem bh9 {a : AVal} {e : TypeId} {f : Bool} {b : Nat} (ha : ∀ k n l, a ≠ .arr k n l) (hR : Rel D B0 w0 E st act w) (hb : fq st.h b = some ⟨.box e [a], f⟩) : eu E w a (bqd E w b) := by
 obtain ⟨u, hu, ⟨k, cs, g1, g2, g3, g4⟩, hf1, hf2⟩ := hR.heap b _ hb
 rcases sj g4 with ⟨k, n, l, cs', h0, h1, h2, h3⟩ | ⟨_, v, cs', hcs, h2, h3, h4⟩
 ·exact absurd h0 (ha _ _ _)
 ·rw [bkp (by rw [hu, g1]) g3 hcs]
  exact h3
theorem bhr (hR : Rel D B0 w0 E st act w) (t : Nat) : eu E w (bjs st t) (bm3 E w act t) := by
 unfold bjs bm3
 cases Nat.blt t 1000000 with
 | true => exact hR.tmps t
 | false =>
  simp only [cond_false]
  unfold bj2
  split
  ·rename_i hb
   exact bh9 (fun k n l h => by cases h) hR hb
  ·rename_i hb
   exact bh9 (fun k n l h => by cases h) hR hb
  ·simp only [eu]
theorem ah8 : ∀ (fs : List (Nat × AVal)) (t : Nat) (x : AVal), assoc (slotsOf fs) t = some x → Nat.blt t 1000000 = true ∧ assoc fs t = some x
 | [], t, x, h => by simp [slotsOf, assoc] at h
 | (a, y) :: r, t, x, h => by
  simp only [slotsOf] at h
  simp only [assoc]
  cases hq : Nat.beq a t with
  | true =>
   have := Nat.eq_of_beq_eq_true hq
   subst this
   cases hb : Nat.blt a 1000000 with
   | true => rw [hb] at h; simp only [cond_true, assoc, hq] at h; exact ⟨rfl, h⟩
   | false =>
    rw [hb] at h
    obtain ⟨h1, _⟩ := ah8 r a x h
    rw [hb] at h1
    cases h1
  | false =>
   cases hb : Nat.blt a 1000000 with
   | true => rw [hb] at h; simp only [cond_true, assoc, hq] at h; exact ah8 r t x h
   | false => rw [hb] at h; exact ah8 r t x h
theorem bdf (fs : List (Nat × AVal)) : ∀ (h : Hp) (id : Nat) (b : Blk), fq (bhx fs h) id = some b → ∃ b0, fq h id = some b0 ∧ bw5 fs id (some b0) = some b
 | [], id, b, h => by simp [bhx, fq] at h
 | (a, y) :: r, id, b, h => by
  simp only [bhx, fq] at h ⊢
  cases hq : Nat.beq a id with
  | true =>
   rw [hq] at h
   have := Nat.eq_of_beq_eq_true hq
   subst this
   cases y with
   | none => simp [bw5] at h
   | some b0 => exact ⟨b0, rfl, h⟩
  | false => rw [hq] at h; exact bdf fs r id b h
theorem bmx {fs : List (Nat × AVal)} (l : List Nat) (hR : Rel D B0 w0 E st act w) (hfs : ∀ id x, assoc fs (id + 1000000) = some x → ∀ e f, fq st.h id = some ⟨.box e [.bot], f⟩ → ∃ j, x = .own j ∧ E.ρ j = some (bqd E w id)) :
    Rel D B0 w0 E { st with h := bn2 fs l st.h } act w := by
 unfold bn2
 split
 ·exact hR
 ·have key : ∀ id b, fq (bhx fs st.h) id = some b → fq st.h id = some b ∨ ∃ e f x, fq st.h id = some ⟨.box e [.bot], f⟩ ∧ assoc fs (id + 1000000) = some x ∧ b = ⟨.box e [x], f⟩ := by
    intro id b hb
    obtain ⟨b0, h1, h2⟩ := bdf _ _ _ _ hb
    unfold bw5 at h2
    split at h2
    ·rename_i e f he
     cases he
     split at h2
     ·rename_i x hx
      cases h2
      exact .inr ⟨_, _, x, h1, hx, rfl⟩
     ·cases h2
      exact .inl h1
    ·cases h2
     exact .inl h1
  refine { hR with heap := fun id b hb => ?_, apart := fun id id' b b' u u' k hb hf hb' hf' hne hu hu' hk => ?_ }
  ·rcases key id b hb with h | ⟨e, f, x, h1, h2, rfl⟩
   ·exact hR.heap id b h
   ·obtain ⟨j, rfl, hj⟩ := hfs id x h2 e f h1
    obtain ⟨u, hu, ⟨k, cs, g1, g2, g3, g4⟩, hf1, hf2⟩ := hR.heap id _ h1
    refine ⟨u, hu, ⟨k, cs, g1, g2, g3, ?_⟩, hf1, hf2⟩
    rcases sj g4 with ⟨k, n, l, cs', h0, _, _, _⟩ | ⟨_, v, cs', hcs, h2, h3, h4⟩
    ·cases h0
    ·rw [bkp (by rw [hu, g1]) g3 hcs] at hj
     rw [hcs]
     exact j6 (fun k n l he => by cases he) h2 (by simp only [eu]; exact hj) h4
  ·have g : ∀ id b, fq (bhx fs st.h) id = some b → b.frz = false → ∃ c, fq st.h id = some c ∧ c.frz = false := by
     intro id b hb hf
     rcases key id b hb with h | ⟨e, f, x, h1, h2, rfl⟩
     ·exact ⟨b, h, hf⟩
     ·exact ⟨_, h1, hf⟩
   obtain ⟨c, hc, hcf⟩ := g id b hb hf
   obtain ⟨c', hc', hcf'⟩ := g id' b' hb' hf'
   exact hR.apart id id' c c' u u' k hc hcf hc' hcf' hne hu hu' hk
theorem bo3 (hG2 : l7 D) {h : Hint} {n : Nat} {ids : List Nat} {st1 : ASt} (hn : norm h n ids st = some st1) :
    st1.m = st.m ∧ n ≤ st1.n ∧ ∀ (B0 : Nat) (w0 : W0) E act w, Rel D B0 w0 E st act w → ∃ E', E'.S = E.S ∧ (∀ id, id < n → E'.ρ id = E.ρ id) ∧ Rel D B0 w0 E' st1 act w ∧ Dom E' st1.n := by
 unfold norm at hn
 split at hn
 ·cases hn
 ·rename_i fs hs us hk
  split at hn
  ·rename_i f hh hf hhh
   cases hn
   refine ⟨rfl, by simp, fun B0 w0 E act w hR => ?_⟩
   have hsrc := bhr hR
   have hR0 := hR
   replace hR := bls (bqm h.rows) hR
   have hrows := bf1 hR hsrc _ _ _ _ _ hk
   simp only at hrows
   have hfs := bf5 _ _ hf
   have hhs := bgg _ _ hhh
   let E' : Env := ⟨E.S, fun id => if id < n then E.ρ id else adx (bm3 E w act) n h.rows id⟩
   have hlow : ∀ id, id < n → E'.ρ id = E.ρ id := fun id hid => by simp only [E', if_pos hid]
   have hhigh : ∀ id u, adx (bm3 E w act) n h.rows id = some u → E'.ρ id = some u := fun id u hu => by
    have := (am9 _ _ _ _ hu).1
    simp only [E', if_neg (show ¬ id < n by omega)]
    exact hu
   have hheap : ∀ id b, fq (oo hs hh) id = some b → (∃ u, assoc hs id = some (some b) ∧ n ≤ id ∧ adx (bm3 E w act) n h.rows id = some u) ∨ (id < n ∧ fq (brr st.h (bqm h.rows)) id = some b ∧ id ∉ us ∧ bvi n b.b = true) := by
    intro id b hb
    rw [acr] at hb
    split at hb
    ·rename_i b' hb'
     subst hb
     obtain ⟨e, c, u, h1, h2, h3, _⟩ := hrows.blks id _ hb'
     exact .inl ⟨u, hb', h2, h3⟩
    ·rw [bdo] at hb
     obtain ⟨h1, h2, h3, h4⟩ := hhs id b hb
     exact .inr ⟨h4, h1, h2, h3⟩
   refine ⟨E', rfl, hlow, bmx (st := { f := oo (slotsOf fs) f, h := oo hs hh, n := n + h.rows.length, m := st.m }) _ ?_ (fun id x hx e fz hb => ?_), fun id u hu => ?_⟩
   ·refine ⟨hR.below, hR.base, hR.size, hR.idle, hR.marks.keeps (E' := E') (Keeps.refl E.S w), hR.recs.keeps (E' := E') (Keeps.refl E.S w), fun t => ?_, fun id b hb => ?_, fun id id' b b' u u' k hb hfr hb' hfr' hne hu hu' hk1 hk2 => ?_, hR.sOld, hR.sNew, fun id u hu => ?_, fun g l hg => ?_⟩
    ·show eu E' w (look (oo (slotsOf fs) f) t) _
     rw [ba3]
     split
     ·rename_i x hx
      obtain ⟨ht, hx⟩ := ah8 _ _ _ hx
      obtain ⟨id, rfl, hv⟩ := hrows.slots t x hx
      simp only [eu]
      have e0 : bm3 E w act t = act.tmps.getD t undef := by unfold bm3; rw [ht]; rfl
      rw [e0] at hv
      exact hhigh id _ hv
     ·rw [bhl]
      split
      ·rename_i x hx
       obtain ⟨rfl, hb⟩ := hfs t x hx
       exact at0 (E := E) (E' := E') rfl hlow _ _ hb (hR.tmps t)
      ·simp only [eu]
    ·rcases hheap id b hb with ⟨u, h1, h2, h3⟩ | ⟨h1, h2, h3, h4⟩
     ·obtain ⟨e, c, u', g1, g2, g3, g4, g5⟩ := hrows.blks id _ h1
      cases g1
      rw [h3] at g3
      cases g3
      exact ⟨u, hhigh id u h3, g4, fun _ k hk => (g5 k hk).1, fun hf => by cases hf⟩
     ·obtain ⟨u, hu, hbb, hf1, hf2⟩ := hR.heap id b h2
      refine ⟨u, by rw [hlow id h1]; exact hu, ?_, hf1, hf2⟩
      cases hbk : b.b with
      | row e c => rw [hbk] at hbb; exact hbb
      | box e l =>
       rw [hbk] at hbb h4
       obtain ⟨k, cs, g1, g2, g3, g4⟩ := hbb
       exact ⟨k, cs, g1, g2, g3, amy (E := E) (E' := E') rfl hlow _ _ h4 g4⟩
    ·rcases hheap id b hb with ⟨v, h1, h2, h3⟩ | ⟨h1, h2, h3, h4⟩
     ·have e1 := hhigh id v h3
      rw [hu] at e1
      cases e1
      rcases hheap id' b' hb' with ⟨v', h1', h2', h3'⟩ | ⟨h1', h2', h3', h4'⟩
      ·have e2 := hhigh id' v' h3'
       rw [hu'] at e2
       cases e2
       exact hrows.apart id id' _ _ u u' k h1 h1' hne h3 h3' hk1 hk2
      ·rw [hlow id' h1'] at hu'
       obtain ⟨e, c, u2, g1, g2, g3, g4, g5⟩ := hrows.blks id _ h1
       rw [h3] at g3
       cases g3
       obtain ⟨_, id0, f1, b0, f2, f3, u0, f4, f5⟩ := g5 k hk1
       exact hR.apart id0 id' b0 b' u0 u' k f2 f3 h2' hfr' (by rintro rfl; exact h3' f1) f4 hu' f5 hk2
     ·rw [hlow id h1] at hu
      rcases hheap id' b' hb' with ⟨v', h1', h2', h3'⟩ | ⟨h1', h2', h3', h4'⟩
      ·have e2 := hhigh id' v' h3'
       rw [hu'] at e2
       cases e2
       obtain ⟨e, c, u2, g1, g2, g3, g4, g5⟩ := hrows.blks id' _ h1'
       rw [h3'] at g3
       cases g3
       obtain ⟨_, id0, f1, b0, f2, f3, u0, f4, f5⟩ := g5 k hk2
       exact hR.apart id id0 b b0 u u0 k h2 hfr f2 f3 (by rintro rfl; exact h3 f1) hu f4 hk1 f5
      ·rw [hlow id' h1'] at hu'
       exact hR.apart id id' b b' u u' k h2 hfr h2' hfr' hne hu hu' hk1 hk2
    ·simp only [E'] at hu
     split at hu
     ·exact hR.form id u hu
     ·exact .inl (hrows.form id u hu)
    ·obtain ⟨h1, cs, e, fz, h2, h3⟩ := hR.globs g l hg
     exact ⟨h1, cs, e, fz, h2, hG2 g l hg E E' w _ h3 rfl⟩
   ·obtain ⟨j, rfl, hv⟩ := hrows.slots _ x hx
    refine ⟨j, rfl, ?_⟩
    have e0 : bm3 E w act (id + 1000000) = bqd E w id := by
     unfold bm3
     rw [show Nat.blt (id + 1000000) 1000000 = false by rw [← Bool.not_eq_true, Nat.blt_eq]; omega, Nat.add_sub_cancel]
     rfl
    rw [e0] at hv
    have hid : E'.ρ id = E.ρ id := by
     rcases hheap id _ hb with ⟨u, h1, h2, h3⟩ | ⟨h1, _⟩
     ·obtain ⟨e', c, u', g1, _⟩ := hrows.blks id _ h1
      cases g1
     ·exact hlow id h1
    rw [hhigh j _ hv]
    unfold bqd
    rw [hid]
   ·simp only [E'] at hu
    split at hu
    ·simp; omega
    ·have := (am9 _ _ _ _ hu).2
     simpa using this
  ·cases hn
theorem azw (hG2 : l7 D) {h : Hint} {n : Nat} {ids : List Nat} {st1 : ASt} (hn : norm h n ids (aso h st) = some st1) :
    st1.m = st.m ∧ n ≤ st1.n ∧ ∀ (B0 : Nat) (w0 : W0) E act w, Rel D B0 w0 E st act w → ∃ E', (∀ b, E.S b → E'.S b) ∧ (∀ id, id < n → E'.ρ id = E.ρ id) ∧ Rel D B0 w0 E' st1 act w ∧ Dom E' st1.n := by
 obtain ⟨h1, h2, h3⟩ := bo3 (st := aso h st) hG2 hn
 have hm : (aso h st).m = st.m := by
  have e : (apc h.sls st).m = st.m := by unfold apc; split <;> rfl
  have e2 : (ap3 h.shb (apc h.sls st)).m = (apc h.sls st).m := by unfold ap3; split <;> rfl
  rw [← e, ← e2]
  unfold aso bnu
  split <;> rfl
 refine ⟨by rw [h1, hm], h2, fun B0 w0 E act w hR => ?_⟩
 obtain ⟨E0, i1, i2, i3⟩ := bm6 h.sls hR
 obtain ⟨E1, k1, k2, k3⟩ := bdc h.shb i3
 replace k3 := blm h.shc k3
 obtain ⟨E2, j1, j2, j3, j4⟩ := h3 B0 w0 E1 act w k3
 exact ⟨E2, fun b hb => by rw [j1]; exact k2.keeps.sub b (i2.keeps.sub b hb), fun id hid => by rw [j2 id hid, k1, i1], j3, j4⟩
end
end Go.Abs
end
