/-
  LmsGrows, part 5: an interpreter of my own over abstract values, the pure functions, the walks and the plain law.
-/

import Derived.Test.YtmipokjdajiimaaGreatDoorLmsGrowsD

namespace Go.Abs
open Go Go.RowKit
set_option linter.unusedVariables false
set_option linter.unusedSimpArgs false
def as2 (ops : Array Oper) (j : Nat) : Option Nat := (ops[j]?).bind (·.dst)
def bek (ops : Array Oper) (o : Oper) (st : ASt) (F : ASt → Option R) (S : ASt → Option R) : Option R :=
 match o.guard with
 | none => F st
 | some (j, want) => match as2 ops j with
  | none => none
  | some t => match look st.f t with
   | .v (.bool b) => br b (bif want then F (st.put (some t) (.v (.bool true))) else S (st.put (some t) (.v (.bool true)))) (bif want then S (st.put (some t) (.v (.bool false))) else F (st.put (some t) (.v (.bool false))))
   | .v (.tuple _) => S st
   | _ => none
def aui : List (Nat × auv) → Nat → Option auv
 | [], _ => none
 | (k, s) :: r, t => bif Nat.beq k t then some s else aui r t
def btk (f : List (Nat × AVal)) : Op → Option (Nat × List AVal)
 | .call { callee := .value x, args, .. } => match ev f x with
  | .fn (.func g) first caps => some (g, l9 first (l9 (evs f args.toList) caps))
  | _ => none
 | _ => none
def bj1 (D : Ctx) (f : List (Nat × AVal)) (op : Op) : Option (auv × List AVal) :=
 match btk f op with
 | some (g, as) => match aui D.inl g with
  | some s => some (s, as)
  | none => none
 | none => none
def bna (f : List (Nat × AVal)) : Op → Option (List Nat × List AVal × List AVal)
 | .call { callee := .value x, args, .. } => match ev f x with
  | .yld _ ts vs => some (ts, vs, evs f args.toList)
  | _ => none
 | _ => none
def doA (D : Ctx) (o : Oper) (st : ASt) (K : ASt → Option R) : Option R :=
 match bna st.f o.op with
 | some (ts, vs, as) => match D.ys with
  | some s => s ts vs as st.h st.n fun h n => K { f := bos st.m o.dst (.v (.bool true)) st.f, h := h, n := n, m := st.m }
  | none => none
 | none => match bj1 D st.f o.op with
 | some (s, as) => s as st.h st.n fun v h n => K { f := bos st.m o.dst v st.f, h := h, n := n, m := st.m }
 | none => opA D o st fun e => K (st.app e o.dst)
def bo0 (D : Ctx) (ops : Array Oper) : List Oper → ASt → (ASt → Option R) → Option R
 | [], st, K => K st
 | o :: rest, st, K => bek ops o st (fun st => doA D o st fun st => bo0 D ops rest st K) (fun st => bo0 D ops rest (st.put o.dst (.v undef)) K)
structure Info where
 looks : List Nat
 dst : Option Nat
 vs : List AVal
 puts : Hp
 cl : List Nat
def tmpsOf : List Operand → List Nat
 | [] => []
 | .tmp t :: r => t :: tmpsOf r
 | _ :: r => tmpsOf r
def nth {α : Type} : List α → Nat → Option α
 | [], _ => none
 | a :: _, 0 => some a
 | _ :: r, n + 1 => nth r n
def lun : List Nat → List Nat → List Nat
 | [], l => l
 | a :: r, l => bif arf a l then lun r l else a :: lun r l
def bj8 (acc : List Info) (i : Nat) : List Edge → Option (List Nat)
 | [] => some []
 | e :: r => bif Region.binds .any e then
     bif Nat.blt e.on i then
      match nth acc (i - 1 - e.on), bj8 acc i r with
      | some x, some l => some (lun (e.on :: x.cl) l)
      | _, _ => none
     else none
  else bj8 acc i r
def axm (d : Option Nat) (l : List Nat) : Bool :=
 match d with
 | none => false
 | some d => arf d l
def att (d d' : Option Nat) : Bool :=
 match d, d' with
 | some d, some d' => Nat.beq d d'
 | _, _ => false
def aly : Hp → List AVal → Hp → Bool
 | [], _, _ => false
 | (id, _) :: r, vs, h => lq id vs || (assoc h id).isSome || aly r vs h
def aun (x y : Info) : Bool :=
 !(axm x.dst y.looks || axm y.dst x.looks || att x.dst y.dst || aly x.puts y.vs y.puts || aly y.puts x.vs x.puts)
def azp : List Info → Nat → Info → Bool
 | [], _, _ => true
 | x :: r, n, y => (arf (n - 1) y.cl || aun x y) && azp r (n - 1) y
def bfc (ops : Array Oper) (o : Oper) : List Nat :=
 match o.guard with
 | some (j, _) => (as2 ops j).toList
 | none => []
def bmg (ops : Array Oper) (o : Oper) (vs : List AVal) (puts : Hp) (cl : List Nat) : Info := ⟨l9 (bfc ops o) (tmpsOf (ajb o.op)), o.dst, vs, puts, cl⟩
def axa (ops : Array Oper) (o : Oper) (cl : List Nat) : Info := ⟨bfc ops o, o.dst, [], [], cl⟩
def be7 (acc : List Info) (i : Nat) (I : Info) (F : List Info → Option R) : Option R := bif azp acc i I then F (I :: acc) else none
def ayb (op : Op) (vs : List AVal) : List AVal :=
 match op with
 | .move _ | .assign _ | .pick _ _ _ | .nilCheck _ | .makeFunc _ _ _ | .makeInterface _ _ | .fieldAddr _ _ _ | .box _ _ => []
 | _ => vs
def opD (D : Ctx) (o : Oper) (st : ASt) (K : Eff → Option R) : Option R :=
 core D o.op (evs st.f (ajb o.op)) (mask (ayb o.op (evs st.f (ajb o.op))) st.h) st.n K
def axk (D : Ctx) (ops : Array Oper) : List Oper → Nat → List Info → ASt → (List Info → ASt → Option R) → Option R
 | [], _, acc, st, K => K acc st
 | o :: rest, i, acc, st, K =>
  match bj8 acc i o.after.toList with
  | none => none
  | some cl =>
   bek ops o st
    (fun st => opD D o st fun e => be7 acc i (bmg ops o (ayb o.op (evs st.f (ajb o.op))) e.puts cl) fun acc => axk D ops rest (i + 1) acc (st.app e o.dst) K)
    (fun st => be7 acc i (axa ops o cl) fun acc => axk D ops rest (i + 1) acc (st.put o.dst (.v undef)) K)
def bal {α : Type} : List α → Option (List α × α)
 | [] => none
 | a :: r => match bal r with
  | some (x, y) => some (a :: x, y)
  | none => some ([], a)
def allIn : Nat → List Nat → Bool
 | 0, _ => true
 | n + 1, l => arf n l && allIn n l
def bov (D : Ctx) (ops : Array Oper) (st : ASt) (K : ASt → Option R) : Option R :=
 match bal ops.toList with
 | some (l0, o) => bif (bj1 D [] o.op).isSome && o.guard.isNone then
     axk D ops l0 0 [] st fun acc st => match bj8 acc l0.length o.after.toList with
      | some cl => bif allIn l0.length cl then doA D o st K else none
      | none => none
  else axk D ops ops.toList 0 [] st fun _ => K
 | none => axk D ops ops.toList 0 [] st fun _ => K
def iq : Code → Nat
 | .region id _ _ => id
 | .seq a _ => iq a
 | .block _ b => iq b
 | .loop b => iq b
 | .scope b => iq b
 | _ => 0
def hintOf : List (Nat × Hint) → Nat → Hint
 | [], _ => ⟨[], [], [], [], none, [], [], []⟩
 | (k, h) :: r, t => bif Nat.beq k t then h else hintOf r t
def brw (n : Nat) : Bk → Bool
 | .row _ _ => true
 | .box _ l => ams n l
def biz (f : List (Nat × AVal)) (n : Nat) : List Nat → Option (List (Nat × AVal))
 | [] => some []
 | t :: r => bif bnd n (look f t) then
     match biz f n r with
     | some l => some ((t, look f t) :: l)
     | none => none
  else none
def keepR (g : Nat → AVal) (h : Hp) : Nat → List (Nat × TypeId × Cont) → Option (List (Nat × AVal) × Hp × List Nat)
 | _, [] => some ([], [], [])
 | n, (t, e, c0) :: r => match keepR g h (n + 1) r with
  | none => none
  | some (fs, hs, us) => match g t with
   | .own id => match dw h id with
    | some ⟨.row e' c, false⟩ => bif Nat.beq e e' && !arf id us then some ((t, .own n) :: fs, (n, some ⟨.row e c, false⟩) :: hs, id :: us) else none
    | _ => none
   | .win id 0 len => match dw h id with
    | some ⟨.row e' c, false⟩ => bif Nat.beq e e' && !arf id us then some ((t, .own n) :: fs, (n, some ⟨.row e (c.take len), false⟩) :: hs, id :: us) else none
    | _ => none
   | .v (.slice none 0 0) => bif Nat.beq c0.len 0 then some ((t, .own n) :: fs, (n, some ⟨.row e c0, false⟩) :: hs, us) else none
   | _ => none
def bbe (h : Hp) (n : Nat) (us : List Nat) : List Nat → Option Hp
 | [] => some []
 | id :: r => match bbe h n us r with
  | none => none
  | some l => bif arf id us then some ((id, none) :: l) else
   match dw h id with
   | none => some ((id, none) :: l)
   | some b => bif brw n b.b && Nat.blt id n then some ((id, some b) :: l) else none
def bn2 : Hp → List Nat → List Nat
 | [], acc => acc
 | (id, _) :: r, acc => bif arf id acc then bn2 r acc else bn2 r (id :: acc)
def awe (hl : Nat → Option Blk) (f : List (Nat × AVal)) : List (Nat × Sh) → List (Nat × AVal)
 | [] => []
 | (t, s) :: r => (t, ai9 s (su hl (look f t))) :: awe hl f r
def av1 (f : List (Nat × AVal)) : List (Nat × Sh) → List Nat
 | [] => []
 | (t, _) :: r => l9 (oq (look f t)) (av1 f r)
def amq (l : List (Nat × Sh)) (st : ASt) : ASt :=
 match l with
 | [] => st
 | l => { st with f := l9 (awe (dw st.h) st.f l) st.f, h := l9 (freeze (dw st.h) (av1 st.f l) []) st.h }
def bft : AVal → Bool
 | .own _ | .win _ _ _ => true
 | _ => false
def bgu (hl : Nat → Option Blk) (a : AVal) : AVal := bif bft a then su hl a else a
def avk (hl : Nat → Option Blk) : List AVal → List AVal
 | [] => []
 | a :: r => bgu hl a :: avk hl r
def aqn : List AVal → List Nat
 | [] => []
 | a :: r => bif bft a then l9 (oq a) (aqn r) else aqn r
def aog (h : Hp) : List Nat → List Nat
 | [] => []
 | id :: r => match dw h id with
  | some ⟨.box _ l, _⟩ => l9 (aqn l) (aog h r)
  | _ => aog h r
def akj (hl : Nat → Option Blk) (h : Hp) : List Nat → Hp
 | [] => []
 | id :: r => match dw h id with
  | some ⟨.box e l, f⟩ => (id, some ⟨.box e (avk hl l), f⟩) :: akj hl h r
  | _ => akj hl h r
def zo (ids : List Nat) (st : ASt) : ASt :=
 match ids with
 | [] => st
 | ids => { st with h := l9 (akj (dw st.h) (l9 (freeze (dw st.h) (aog st.h ids) []) st.h) ids) (l9 (freeze (dw st.h) (aog st.h ids) []) st.h) }
def ayx : List AVal → List Nat
 | [] => []
 | .ptr j 0 :: r => j :: ayx r
 | _ :: r => ayx r
def bo1 (f : List (Nat × AVal)) : List Oper → List (Nat × AVal)
 | [] => f
 | o :: r => match o.dst, o.op with
  | some d, .move x => bo1 ((d, ev f x) :: f) r
  | _, _ => bo1 f r
def aot (D : Ctx) (f : List (Nat × AVal)) : List Oper → List Nat
 | [] => []
 | o :: r => match o.op with
  | .makeFunc _ first captured => lun (l9 (ayx (evs f first.toList)) (ayx (evs f captured.toList))) (aot D f r)
  | .call _ => match btk f o.op with
   | some (g, as) => match aui D.inl g with
    | some _ => aot D f r
    | none => lun (ayx as) (aot D f r)
   | none => aot D f r
  | _ => aot D f r
def bv7 (id : Nat) (l : List AVal) : AVal → AVal
 | .ptr j 0 => bif Nat.beq id j then .sta l else .ptr j 0
 | a => a
def bpo (id : Nat) (l : List AVal) : List (Nat × AVal) → List (Nat × AVal)
 | [] => []
 | (t, a) :: r => (t, bv7 id l a) :: bpo id l r
def aqz (id : Nat) (st : ASt) : ASt :=
 match dw st.h id with
 | some ⟨.box _ l, _⟩ => bif ams 0 l then { st with f := bpo id l st.f, h := l9 (freeze (dw st.h) [id] []) st.h } else st
 | _ => st
def ath : List Nat → ASt → ASt
 | [], st => st
 | id :: r, st => ath r (aqz id st)
def boh (D : Ctx) (ops : List Oper) (st : ASt) : ASt := bif D.sta then ath (aot D (bo1 st.f ops) ops) (zo (aot D (bo1 st.f ops) ops) st) else st
def coB (h : Hp) : List (Nat × List Sh) → Hp
 | [] => []
 | (id, s) :: r => match dw h id with
  | some ⟨.box e l, f⟩ => (id, some ⟨.box e (l7 s l), f⟩) :: coB h r
  | _ => coB h r
def bkn (l : List (Nat × List Sh)) (st : ASt) : ASt :=
 match l with
 | [] => st
 | l => { st with h := l9 (coB st.h l) st.h }
def bjd (id : Nat) (d : List AVal) (st : ASt) : ASt :=
 match dw st.h id with
 | some ⟨.box e [.v (.pointer none)], f⟩ => { st with h := (id, some ⟨.box e [.osta 0 d], f⟩) :: st.h }
 | some ⟨.box _ [.ptr j 0], _⟩ => match dw (zo [j] st).h id, dw (zo [j] st).h j with
  | some ⟨.box e [.ptr j' 0], f⟩, some ⟨.box _ l, _⟩ => bif Nat.beq j' j && ams 0 l && !Nat.beq id j then
      { zo [j] st with h := (id, some ⟨.box e [.osta 1 l], f⟩) :: l9 (freeze (dw (zo [j] st).h) [j] []) (zo [j] st).h } else zo [j] st
  | _, _ => zo [j] st
 | _ => st
def bgq : List (Nat × List AVal) → ASt → ASt
 | [], st => st
 | (id, d) :: r, st => bgq r (bjd id d st)
def aqw (h : Hint) (st : ASt) : ASt := bgq h.osb (bkn h.shc (zo h.shb (amq h.sls st)))
def bno (h : Hint) (st : ASt) : List Nat :=
 match h.gc with
 | none => bn2 st.h []
 | some (_, l) => l
def bld (h : Hint) (n : Nat) : Nat :=
 match h.gc with
 | none => n
 | some (m, _) => bif Nat.ble n m then m else n
def bgk (h : Hp) (b : Nat) : AVal := match dw h b with
 | some ⟨.box _ [.own j], _⟩ => .own j
 | some ⟨.box _ [.v (.slice none 0 0)], _⟩ => .v (.slice none 0 0)
 | _ => .bot
def bhe (st : ASt) (t : Nat) : AVal := bif Nat.blt t 1000000 then look st.f t else bgk st.h (t - 1000000)
def bms : List (Nat × TypeId × Cont) → List Nat
 | [] => []
 | (t, _, _) :: r => bif Nat.blt t 1000000 then bms r else (t - 1000000) :: bms r
def clr (h : Hp) : List Nat → Hp
 | [] => []
 | b :: r => match dw h b with
  | some ⟨.box e [.own _], f⟩ => (b, some ⟨.box e [.bot], f⟩) :: clr h r
  | some ⟨.box e [.v (.slice none 0 0)], f⟩ => (b, some ⟨.box e [.bot], f⟩) :: clr h r
  | _ => clr h r
def bqn (h : Hp) (l : List Nat) : Hp := match l with
 | [] => h
 | l => l9 (clr h l) h
def slotsOf : List (Nat × AVal) → List (Nat × AVal)
 | [] => []
 | (t, x) :: r => bif Nat.blt t 1000000 then (t, x) :: slotsOf r else slotsOf r
def btv (fs : List (Nat × AVal)) (id : Nat) (b : Option Blk) : Option Blk := match b with
 | some ⟨.box e [.bot], f⟩ => match assoc fs (id + 1000000) with
  | some x => some ⟨.box e [x], f⟩
  | none => b
 | _ => b
def bgb (fs : List (Nat × AVal)) : Hp → Hp
 | [] => []
 | (id, b) :: r => (id, btv fs id b) :: bgb fs r
def bme (fs : List (Nat × AVal)) (l : List Nat) (h : Hp) : Hp := match l with
 | [] => h
 | _ => bgb fs h
def norm (h : Hint) (n : Nat) (ids : List Nat) (st : ASt) : Option ASt :=
 match keepR (bhe st) (bqn st.h (bms h.rows)) n h.rows with
 | none => none
 | some (fs, hs, us) => match biz st.f n h.keep, bbe (bqn st.h (bms h.rows)) n us ids with
  | some f, some hh => some { f := l9 (slotsOf fs) f, h := bme fs (bms h.rows) (l9 hs hh), n := n + h.rows.length, m := st.m }
  | _, _ => none
def avy : List (Nat × ru) → Nat → Option ru
 | [], _ => none
 | (k, s) :: r, t => bif Nat.beq k t then some s else avy r t
def bkf (f : List (Nat × AVal)) : List Nat → List (Nat × AVal)
 | [] => []
 | t :: r => (t, look f t) :: bkf f r
def bn9 (h : Hint) (n : Nat) (ids : List Nat) (K : AExit → ASt → Option R) (next : ASt → Option R) (ex : AExit) (st : ASt) : Option R :=
 match ex with
 | .normal => match norm h n ids (aqw h st) with
  | some st => next st
  | none => none
 | .exit id => match norm h n ids (aqw h st) with
  | some st => K (.exit id) st
  | none => none
 | .ret => K .ret { st with f := bkf st.f h.boxes }
def iter (h : Hint) (n : Nat) (ids : List Nat) (F : ASt → (AExit → ASt → Option R) → Option R) (K : AExit → ASt → Option R) : Nat → ASt → Option R
 | 0, st => F st (bn9 h n ids K fun _ => none)
 | k + 1, st => F st (bn9 h n ids K (iter h n ids F K k))
def keysOf : Hp → List Nat
 | [] => []
 | (id, _) :: r => id :: keysOf r
def ar0 {α : Type} : Nat → List α → List α
 | 0, l => l
 | _ + 1, [] => []
 | n + 1, _ :: r => ar0 n r
def avu : List (Nat × RngE) → Nat → Option RngE
 | [], _ => none
 | (k, s) :: r, t => bif Nat.beq k t then some s else avu r t
def looks (f : List (Nat × AVal)) : List Nat → List AVal
 | [] => []
 | t :: r => look f t :: looks f r
def azl (id : Nat) : Hp → Bool
 | [] => true
 | (_, some ⟨.box _ l, _⟩) :: r => !lq id l && azl id r
 | _ :: r => azl id r
def noY : Option YCtx → Bool
 | none => true
 | some _ => false
def bm7 (D : Ctx) (st : ASt) (g : Operand) (body : Code) : Option (RngE × List AVal × List AVal) :=
 match ev st.f g with
 | .fn (.func gid) first caps => match avu D.rng (iq body) with
  | some e => bif D.top && noY D.y && Nat.beq gid e.g && Nat.beq st.m e.m then some (e, first, caps) else none
  | none => none
 | _ => none
def ada (D : Ctx) : Code → ASt → (AExit → ASt → Option R) → Option R
 | .skip, st, K => K .normal st
 | .label _, st, K => K .normal st
 | .region _ ops false, st, K => bo0 D ops ops.toList (boh D ops.toList st) fun st => K .normal st
 | .region _ ops true, st, K => bov D ops (boh D ops.toList st) fun st => K .normal st
 | .seq a b, st, K => ada D a st fun ex st' => match ex with
  | .normal => ada D b st' K
  | .exit id => K (.exit id) st'
  | .ret => K .ret st'
 | .cond c x y, st, K => match ev st.f c with
  | .v (.bool b) => br b (ada D x st K) (ada D y st K)
  | _ => none
 | .block id c, st, K => ada D c st fun ex st' => match ex with
  | .normal => K .normal st'
  | .exit j => bif Nat.beq j id then K .normal st' else K (.exit j) st'
  | .ret => K .ret st'
 | .loop c, st, K => match norm (hintOf D.hints (iq c)) (bld (hintOf D.hints (iq c)) st.n) (bno (hintOf D.hints (iq c)) (aqw (hintOf D.hints (iq c)) st)) (aqw (hintOf D.hints (iq c)) st) with
  | none => none
  | some st => match avy D.loops (iq c) with
   | some s => s st K
   | none => none
 | .exit id, st, K => K (.exit id) st
 | .ret, st, K => K .ret st
 | .rangeFunc g _ _ body, st, K => match bm7 D st g body with
  | some (e, first, caps) => e.s (l9 first (.yld st.n e.ts (looks st.f e.ts) :: caps)) st.h (st.n + 1) fun _ h n => bif azl st.n h then K .normal { f := st.f, h := h, n := n, m := st.m } else none
  | none => none
 | _, _, _ => none
def bg : Code → List Code
 | .seq a b => bg a ++ bg b
 | .cond _ a b => bg a ++ bg b
 | .block _ c => bg c
 | .loop c => c :: bg c
 | _ => []
def qm : Code → List Code
 | .seq a b => qm a ++ qm b
 | .cond _ a b => qm a ++ qm b
 | .block _ c => qm c
 | .loop c => qm c
 | .rangeFunc g ps a b => [.rangeFunc g ps a b]
 | _ => []
def bf9 : List Nat → List AVal → List (Nat × AVal)
 | t :: ts, a :: r => (t, a) :: bf9 ts r
 | _, _ => []
def bgx (m : Nat) : List Nat → Bool
 | [] => true
 | t :: r => Nat.blt t m && bgx m r
def itA (D : Ctx) (c : Code) (K : AExit → ASt → Option R) (k : Nat) (st : ASt) : Option R :=
 iter (hintOf D.hints (iq c)) (st.n - (hintOf D.hints (iq c)).rows.length) (keysOf (ar0 (hintOf D.hints (iq c)).rows.length st.h)) (ada D c) K k st
def j5 (D : Ctx) (c : Code) : Prop := ∀ s, avy D.loops (iq c) = some s → ∀ st K r, s st K = some r → ∃ k, itA D c K k st = some r
mutual
def aou : AVal → List Nat
 | .win j _ _ | .awin j _ _ _ _ => [j]
 | .agg l | .tuple l => adv l
 | .fn _ a b => l9 (ku a) (ku b)
 | .alt _ _ a b _ c d => l9 (l9 (ku a) (ku b)) (l9 (ku c) (ku d))
 | .iface _ x => oq x
 | _ => []
def adv : List AVal → List Nat
 | [] => []
 | a :: r => l9 (aou a) (adv r)
end
mutual
def arq (hl : Nat → Option Blk) : AVal → AVal
 | .own id => match hl id with
  | some ⟨.row e c, false⟩ => .fr e c
  | some ⟨.row _ c, true⟩ => .sl c
  | _ => .bot
 | .agg l => .agg (aob hl l)
 | .tuple l => .tuple (aob hl l)
 | a => su hl a
def aob (hl : Nat → Option Blk) : List AVal → List AVal
 | [] => []
 | a :: r => arq hl a :: aob hl r
end
mutual
def an1 : AVal → List Nat
 | .own j => [j]
 | .agg l | .tuple l => ahl l
 | _ => []
def ahl : List AVal → List Nat
 | [] => []
 | a :: r => l9 (an1 a) (ahl r)
end
def af8 : List Nat → Bool
 | [] => true
 | a :: r => !arf a r && af8 r
mutual
def ayv : Sh → AVal → AVal
 | .sl c, a => bao c (.sl c) a
 | .fr e c, a => bao c (.fr e c) a
 | .agg ss, .agg l => .agg (bbm ss l)
 | .agg ss, .fn f a c => .fn f a (l7 ss c)
 | .alt f fa fc g ga gc, a => asw f fa fc g ga gc a
 | _, a => a
def bbm : List Sh → List AVal → List AVal
 | s :: ss, a :: r => ayv s a :: bbm ss r
 | _, l => l
end
mutual
def boi : Sh → AVal → List Nat
 | .sl _, .own j => [j]
 | .agg ss, .agg l => ae9 ss l
 | _, _ => []
def ae9 : List Sh → List AVal → List Nat
 | s :: ss, a :: r => l9 (boi s a) (ae9 ss r)
 | _, _ => []
end
def cellV (D : Ctx) (st : ASt) (t : Nat) (ty : TypeId) : Option AVal :=
 match ac0 D.P ty, jm D.P ty with
 | some g, some sz => match placeOf D (dw st.h) (look st.f t) sz with
  | some mid => bif g then some (arb mid) else match mid with
   | [.arr ..] => none
   | [a] => some a
   | _ => none
  | none => none
 | _, _ => none
def bjs (D : Ctx) (st : ASt) : List ResultVar → Option (List AVal)
 | [] => some []
 | .tmp t :: r => match bjs D st r with
  | some l => some (look st.f t :: l)
  | none => none
 | .cell t ty :: r => match cellV D st t ty, bjs D st r with
  | some a, some l => some (a :: l)
  | _, _ => none
def oneOf : List AVal → AVal
 | [a] => a
 | l => .tuple l
def bl4 (D : Ctx) (sig : List Sh) (fn : Func) (st : ASt) (K : AVal → Option R) : Option R :=
 match bjs D st fn.results.toList with
 | none => none
 | some l =>
  bif af8 (ahl l) then K (oneOf (bbm sig (aob (dw (l9 (freeze (dw st.h) (l9 (adv l) (ae9 sig l)) []) st.h)) l))) else none
def aqa (D : Ctx) (Y : YCtx) : bmu := fun ts vs args h n K =>
 bif Nat.beq args.length Y.ps.size && af8 Y.ps.toList && bgx Y.m Y.ps.toList then
  ada D Y.assign ⟨l9 (bf9 Y.ps.toList args) (bf9 ts vs), h, n, Y.m⟩ fun ex st => match ex with
   | .normal => ada D Y.body st fun ex st => match ex with
    | .normal => K st.h st.n
    | _ => none
   | _ => none
 else none
def als : Nat → List AVal → List (Nat × AVal)
 | _, [] => []
 | i, a :: r => (i, a) :: als (i + 1) r
def bk6 (D : Ctx) (fn : Func) (sig : List Sh) (args : List AVal) (K : AVal → Option R) : Option R :=
 match fn.body with
 | none => none
 | some c => bif Nat.ble args.length fn.ntmps then
     ada D c ⟨als 0 args, [], 0, fn.ntmps⟩ fun ex st => match ex with
      | .exit _ => none
      | .normal => bl4 D sig fn st K
      | .ret => bl4 D sig fn st K
  else none
def ai0 (D : Ctx) (fn : Func) : auv := fun args h n K =>
 match fn.body with
 | none => none
 | some c => bif Nat.ble args.length fn.ntmps then
     ada D c ⟨als 0 args, h, n, fn.ntmps⟩ fun ex st => match ex with
      | .exit _ => none
      | .normal => outIn D fn st K
      | .ret => outIn D fn st K
  else none
 where outIn (D : Ctx) (fn : Func) (st : ASt) (K : AVal → Hp → Nat → Option R) : Option R :=
 match bjs D st fn.results.toList with
 | none => none
 | some l => K (oneOf l) st.h st.n
end Go.Abs
