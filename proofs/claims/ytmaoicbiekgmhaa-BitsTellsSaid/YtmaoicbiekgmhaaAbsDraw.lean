import Derived.Test.YtmaoicbiekgmhaaAbsSeq
namespace Go.Abs
open Go Go.RowKit
set_option linter.unusedVariables false
set_option linter.unusedSimpArgs false

/-- an operation that has been done in the run -/
structure Stp where
  o : Oper
  i : Info
  n : Nat
  n' : Nat
  val : AVal
  skip : Bool

def Stp.eff (s : Stp) : Eff := ⟨s.val, s.i.puts, s.n'⟩

/-- the state behind some of the operations -/
def runR (st0 : ASt) (L : Nat → Bool) : List Stp → ASt
  | [] => st0
  | s :: r => bif L r.length then (runR st0 L r).app s.eff s.o.dst else runR st0 L r

def lastN (st0 : ASt) : List Stp → Nat
  | [] => st0.n
  | s :: _ => s.n'

def allL : Nat → Bool := fun _ => true

def TrOk (D : Ctx) (ops : Array Oper) (st0 : ASt) : List Stp → Prop
  | [] => True
  | s :: r => TrOk D ops st0 r ∧ ops[r.length]? = some s.o ∧ s.i.dst = s.o.dst ∧ cloA (r.map (·.i)) r.length s.o.after.toList = some s.i.cl ∧ fitsA (r.map (·.i)) r.length s.i = true ∧
      s.n = lastN st0 r ∧ s.n ≤ s.n' ∧ GuardIs ops s.o (runR st0 allL r) (!s.skip) ∧ (∀ j want t, s.o.guard = some (j, want) → guardT ops j = some t → t ∈ s.i.looks) ∧
      (s.skip = true → s.val = .v undef ∧ s.i.puts = [] ∧ s.n' = s.n) ∧
      (s.skip = false → (∀ t, t ∈ tmpsOf (opnds s.o.op) → t ∈ s.i.looks) ∧
        ∀ (B0 : Nat) (w0 : W0) (st : ASt), evs st.f (opnds s.o.op) = evs (runR st0 allL r).f (opnds s.o.op) → (∀ id b, mask s.i.vs (runR st0 allL r).h id = some b → hlook st.h id = some b) → st.n = s.n → OpOk D B0 w0 st s.o s.eff)

section
variable {D : Ctx} {B0 : Nat} {w0 : W0} {ops : Array Oper} {st0 : ASt}

theorem EqS.app {a b : ASt} (h : EqS a b) (e : Eff) (d : Option Nat) : EqS (a.app e d) (b.app e d) := by
  refine ⟨fun t => ?_, fun id => ?_, h.m⟩
  · simp only [ASt.app, look_putF, h.m, h.f]
  · simp only [ASt.app, hlook_lcat, h.h]

theorem app_comm {a : ASt} {e e' : Eff} {d d' : Option Nat} (hd : dstSame d d' = false) (hp : ∀ id, (assoc e.puts id).isSome = true → (assoc e'.puts id).isSome = true → False) :
    EqS ((a.app e d).app e' d') ((a.app e' d').app e d) := by
  refine ⟨fun t => ?_, fun id => ?_, rfl⟩
  · simp only [ASt.app, look_putF]
    by_cases h1 : d = some t
    · by_cases h2 : d' = some t
      · subst h1; subst h2
        simp [dstSame] at hd
      · simp [h1, h2]
    · simp [h1]
  · simp only [ASt.app, hlook_lcat]
    have := hp id
    cases h1 : assoc e.puts id with
    | none => rfl
    | some b =>
      cases h2 : assoc e'.puts id with
      | none => rfl
      | some b' => rw [h1, h2] at this; exact (this rfl rfl).elim

theorem evs_congr {f f' : List (Nat × AVal)} : ∀ (xs : List Operand), (∀ t, t ∈ tmpsOf xs → look f t = look f' t) → evs f xs = evs f' xs
  | [], _ => rfl
  | x :: r, h => by
    have ih := evs_congr r (fun t ht => h t (by cases x <;> simp [tmpsOf, ht]))
    simp only [evs, ih]
    congr 1
    cases x with
    | tmp t => exact h t (by simp [tmpsOf])
    | _ => rfl

theorem GuardIs.congr {a b : ASt} {o : Oper} {q : Bool} (he : ∀ t, look a.f t = look b.f t) (h : GuardIs ops o b q) : GuardIs ops o a q := by
  unfold GuardIs at *
  cases hg : o.guard with
  | none => simp only [hg] at h ⊢; exact h
  | some jw =>
    obtain ⟨j, want⟩ := jw
    simp only [hg] at h ⊢
    obtain ⟨t, h1, ⟨b, h2, h3⟩ | ⟨x, h2, h3⟩⟩ := h
    · exact ⟨t, h1, .inl ⟨b, by rw [he]; exact h2, h3⟩⟩
    · exact ⟨t, h1, .inr ⟨x, by rw [he]; exact h2, h3⟩⟩

theorem memN_true {x : Nat} : ∀ {l : List Nat}, memN x l = true ↔ x ∈ l
  | [] => by simp [memN]
  | y :: r => by
    simp only [memN, Bool.or_eq_true, memN_true (l := r), List.mem_cons]
    constructor
    · rintro (h | h)
      · exact .inl (Nat.eq_of_beq_eq_true h)
      · exact .inr h
    · rintro (rfl | h)
      · exact .inl (Nat.beq_refl _)
      · exact .inr h

theorem drawIf_some {acc : List Info} {i : Nat} {I : Info} {F : List Info → Option R} {r : R} (h : drawIf acc i I F = some r) : fitsA acc i I = true ∧ F (I :: acc) = some r := by
  unfold drawIf at h
  cases hf : fitsA acc i I with
  | false => rw [hf] at h; cases h
  | true => rw [hf] at h; exact ⟨rfl, h⟩

/-- THE TRACE of a region's run. -/
theorem drawA_trace (hG : GOk D) (hG2 : GlobsPlain D) : ∀ (rest : List Oper) (i : Nat) (acc : List Info) (st : ASt) (K : ASt → Option R) (r : R) (steps : List Stp), ops.toList.drop i = rest → steps.length = i →
    acc = steps.map (·.i) → TrOk D ops st0 steps → EqS (runR st0 allL steps) st → st.n = lastN st0 steps → drawA D ops rest i acc st K = some r →
    ∃ steps' st', K st' = some r ∧ TrOk D ops st0 steps' ∧ steps'.length = i + rest.length ∧ EqS (runR st0 allL steps') st' ∧ st'.n = lastN st0 steps'
  | [], i, acc, st, K, r, steps, hd, hl, ha, ht, he, hn, h => ⟨steps, st, h, ht, by simp [hl], he, hn⟩
  | o :: rest, i, acc, st, K, r, steps, hd, hl, ha, ht, he, hn, h => by
    have hoi : ops[i]? = some o := by
      have : (ops.toList.drop i)[0]? = some o := by rw [hd]; rfl
      simpa using this
    have hd' : ops.toList.drop (i + 1) = rest := by
      rw [← List.drop_drop, hd]; rfl
    unfold drawA at h
    split at h
    · cases h
    · rename_i cl hcl
      obtain ⟨s1, e1, hn1, hc⟩ := guardA_some h
      have es1 : EqS (runR st0 allL steps) s1 := he.trans e1
      have gcongr : ∀ q, GuardIs ops o st q → GuardIs ops o (runR st0 allL steps) q := fun q hg => hg.congr he.f
      rcases hc with ⟨hg, h⟩ | ⟨hg, h⟩
      · unfold opD at h
        obtain ⟨eff, hK, hle, hok⟩ := core_ok (dst := o.dst) (type := o.type) (pos := o.pos) (after := o.after) (guard := o.guard) hG hG2 h
        obtain ⟨hf, hK⟩ := drawIf_some hK
        have hev : evs (runR st0 allL steps).f (opnds o.op) = evs s1.f (opnds o.op) := evs_congr _ (fun t _ => es1.f t)
        obtain ⟨steps', st', k1, k2, k3, k4, k5⟩ := drawA_trace hG hG2 rest (i + 1) _ _ K r (⟨o, infoDo ops o (heapVals o.op (evs s1.f (opnds o.op))) eff.puts cl, s1.n, eff.n, eff.val, false⟩ :: steps) hd' (by simp [hl]) (by simp [ha])
          (by
            refine ⟨ht, by rw [hl]; exact hoi, rfl, ?_, ?_, by rw [hn1, hn], hle, gcongr _ hg, ?_, (fun h => by cases h), fun _ => ⟨?_, ?_⟩⟩
            · rw [← ha, hl]; exact hcl
            · rw [← ha, hl]; exact hf
            · intro j want t hgd hgt
              refine mem_lcat.2 (.inl ?_)
              simp only at hgd
              simp only [gLooks, hgd, hgt]
              simp
            · intro t ht'
              exact mem_lcat.2 (.inr ht')
            · intro B0 w0 s hs hh hsn
              refine hok B0 w0 s (hs.trans hev) (fun id b hb => hh id b ?_) hsn
              unfold mask at hb ⊢
              rw [es1.h]
              exact hb) (es1.app _ _) rfl hK
        exact ⟨steps', st', k1, k2, by rw [k3]; simp; omega, k4, k5⟩
      · obtain ⟨hf, hK⟩ := drawIf_some h
        obtain ⟨steps', st', k1, k2, k3, k4, k5⟩ := drawA_trace hG hG2 rest (i + 1) _ _ K r (⟨o, infoSkip ops o cl, s1.n, s1.n, .v undef, true⟩ :: steps) hd' (by simp [hl]) (by simp [ha])
          (by
            refine ⟨ht, by rw [hl]; exact hoi, rfl, ?_, ?_, by rw [hn1, hn], Nat.le_refl _, gcongr _ hg, ?_, (fun _ => ⟨rfl, rfl, rfl⟩), fun h => by cases h⟩
            · rw [← ha, hl]; exact hcl
            · rw [← ha, hl]; exact hf
            · intro j want t hgd hgt
              simp only at hgd
              simp only [infoSkip, gLooks, hgd, hgt]
              simp) ((es1.app ⟨.v undef, [], s1.n⟩ o.dst).trans ⟨fun _ => rfl, fun _ => rfl, rfl⟩) rfl hK
        exact ⟨steps', st', k1, k2, by rw [k3]; simp; omega, k4, k5⟩
end
end Go.Abs
