/-
  LmsRight, part 5: an interpreter of my own over abstract values, the pure functions, the walks and the plain law.
-/

import Derived.Test.YtmipokjdajiimaaDoorLmsRightD

namespace Go.Abs
open Go Go.RowKit
set_option linter.unusedVariables false
set_option linter.unusedSimpArgs false
def ang (ops : Array Oper) (j : Nat) : Option Nat := (ops[j]?).bind (·.dst)
def awx (ops : Array Oper) (o : Oper) (st : ASt) (F : ASt → Option R) (S : ASt → Option R) : Option R :=
 match o.guard with
 | none => F st
 | some (j, want) => match ang ops j with
  | none => none
  | some t => match look st.f t with
   | .v (.bool b) => br b (bif want then F (st.put (some t) (.v (.bool true))) else S (st.put (some t) (.v (.bool true)))) (bif want then S (st.put (some t) (.v (.bool false))) else F (st.put (some t) (.v (.bool false))))
   | .v (.tuple _) => S st
   | _ => none
def ana : List (Nat × ao2) → Nat → Option ao2
 | [], _ => none
 | (k, s) :: r, t => bif Nat.beq k t then some s else ana r t
def bkk (f : List (Nat × AVal)) : Op → Option (Nat × List AVal)
 | .call { callee := .value x, args, .. } => match ev f x with
  | .fn (.func g) first caps => some (g, ku first (ku (evs f args.toList) caps))
  | _ => none
 | _ => none
def bc4 (D : Ctx) (f : List (Nat × AVal)) (op : Op) : Option (ao2 × List AVal) :=
 match bkk f op with
 | some (g, as) => match ana D.inl g with
  | some s => some (s, as)
  | none => none
 | none => none
def bgo (f : List (Nat × AVal)) : Op → Option (List Nat × List AVal × List AVal)
 | .call { callee := .value x, args, .. } => match ev f x with
  | .yld _ ts vs => some (ts, vs, evs f args.toList)
  | _ => none
 | _ => none
def doA (D : Ctx) (o : Oper) (st : ASt) (K : ASt → Option R) : Option R :=
 match bgo st.f o.op with
 | some (ts, vs, as) => match D.ys with
  | some s => s ts vs as st.h st.n fun h n => K { f := bfe st.m o.dst (.v (.bool true)) st.f, h := h, n := n, m := st.m }
  | none => none
 | none => match bc4 D st.f o.op with
 | some (s, as) => s as st.h st.n fun v h n => K { f := bfe st.m o.dst v st.f, h := h, n := n, m := st.m }
 | none => opA D o st fun e => K (st.app e o.dst)
def bhf (D : Ctx) (ops : Array Oper) : List Oper → ASt → (ASt → Option R) → Option R
 | [], st, K => K st
 | o :: rest, st, K => awx ops o st (fun st => doA D o st fun st => bhf D ops rest st K) (fun st => bhf D ops rest (st.put o.dst (.v undef)) K)
structure Info where
 looks : List Nat
 dst : Option Nat
 vs : List AVal
 puts : Hp
 cl : List Nat
def tmpsOf : List Operand → List Nat
 | [] => []
 | .tmp t :: r => t :: tmpsOf r
 | _ :: r => tmpsOf r
def nth {α : Type} : List α → Nat → Option α
 | [], _ => none
 | a :: _, 0 => some a
 | _ :: r, n + 1 => nth r n
def lun : List Nat → List Nat → List Nat
 | [], l => l
 | a :: r, l => bif ami a l then lun r l else a :: lun r l
def bdn (acc : List Info) (i : Nat) : List Edge → Option (List Nat)
 | [] => some []
 | e :: r => bif Region.binds .any e then
     bif Nat.blt e.on i then
      match nth acc (i - 1 - e.on), bdn acc i r with
      | some x, some l => some (lun (e.on :: x.cl) l)
      | _, _ => none
     else none
  else bdn acc i r
def ar2 (d : Option Nat) (l : List Nat) : Bool :=
 match d with
 | none => false
 | some d => ami d l
def aou (d d' : Option Nat) : Bool :=
 match d, d' with
 | some d, some d' => Nat.beq d d'
 | _, _ => false
def aib : Hp → List AVal → Hp → Bool
 | [], _, _ => false
 | (id, _) :: r, vs, h => j6 id vs || (assoc h id).isSome || aib r vs h
def an4 (x y : Info) : Bool :=
 !(ar2 x.dst y.looks || ar2 y.dst x.looks || aou x.dst y.dst || aib x.puts y.vs y.puts || aib y.puts x.vs x.puts)
def ate : List Info → Nat → Info → Bool
 | [], _, _ => true
 | x :: r, n, y => (ami (n - 1) y.cl || an4 x y) && ate r (n - 1) y
def axb (ops : Array Oper) (o : Oper) : List Nat :=
 match o.guard with
 | some (j, _) => (ang ops j).toList
 | none => []
def be2 (ops : Array Oper) (o : Oper) (vs : List AVal) (puts : Hp) (cl : List Nat) : Info := ⟨ku (axb ops o) (tmpsOf (agp o.op)), o.dst, vs, puts, cl⟩
def ar8 (ops : Array Oper) (o : Oper) (cl : List Nat) : Info := ⟨axb ops o, o.dst, [], [], cl⟩
def axq (acc : List Info) (i : Nat) (I : Info) (F : List Info → Option R) : Option R := bif ate acc i I then F (I :: acc) else none
def ar0 (op : Op) (vs : List AVal) : List AVal :=
 match op with
 | .move _ | .assign _ | .pick _ _ _ | .nilCheck _ | .makeFunc _ _ _ | .makeInterface _ _ | .fieldAddr _ _ _ | .box _ _ => []
 | _ => vs
def opD (D : Ctx) (o : Oper) (st : ASt) (K : Eff → Option R) : Option R :=
 core D o.op (evs st.f (agp o.op)) (mask (ar0 o.op (evs st.f (agp o.op))) st.h) st.n K
def ar1 (D : Ctx) (ops : Array Oper) : List Oper → Nat → List Info → ASt → (List Info → ASt → Option R) → Option R
 | [], _, acc, st, K => K acc st
 | o :: rest, i, acc, st, K =>
  match bdn acc i o.after.toList with
  | none => none
  | some cl =>
   awx ops o st
    (fun st => opD D o st fun e => axq acc i (be2 ops o (ar0 o.op (evs st.f (agp o.op))) e.puts cl) fun acc => ar1 D ops rest (i + 1) acc (st.app e o.dst) K)
    (fun st => axq acc i (ar8 ops o cl) fun acc => ar1 D ops rest (i + 1) acc (st.put o.dst (.v undef)) K)
def auz {α : Type} : List α → Option (List α × α)
 | [] => none
 | a :: r => match auz r with
  | some (x, y) => some (a :: x, y)
  | none => some ([], a)
def allIn : Nat → List Nat → Bool
 | 0, _ => true
 | n + 1, l => ami n l && allIn n l
def bfx (D : Ctx) (ops : Array Oper) (st : ASt) (K : ASt → Option R) : Option R :=
 match auz ops.toList with
 | some (l0, o) => bif (bc4 D [] o.op).isSome && o.guard.isNone then
     ar1 D ops l0 0 [] st fun acc st => match bdn acc l0.length o.after.toList with
      | some cl => bif allIn l0.length cl then doA D o st K else none
      | none => none
  else ar1 D ops ops.toList 0 [] st fun _ => K
 | none => ar1 D ops ops.toList 0 [] st fun _ => K
def gy : Code → Nat
 | .region id _ _ => id
 | .seq a _ => gy a
 | .block _ b => gy b
 | .loop b => gy b
 | .scope b => gy b
 | _ => 0
def hintOf : List (Nat × Hint) → Nat → Hint
 | [], _ => ⟨[], [], [], [], none, [], [], []⟩
 | (k, h) :: r, t => bif Nat.beq k t then h else hintOf r t
def bjw (n : Nat) : Bk → Bool
 | .row _ _ => true
 | .box _ l => aja n l
def ba8 (f : List (Nat × AVal)) (n : Nat) : List Nat → Option (List (Nat × AVal))
 | [] => some []
 | t :: r => bif bnd n (look f t) then
     match ba8 f n r with
     | some l => some ((t, look f t) :: l)
     | none => none
  else none
def keepR (g : Nat → AVal) (h : Hp) : Nat → List (Nat × TypeId × Cont) → Option (List (Nat × AVal) × Hp × List Nat)
 | _, [] => some ([], [], [])
 | n, (t, e, c0) :: r => match keepR g h (n + 1) r with
  | none => none
  | some (fs, hs, us) => match g t with
   | .own id => match bf h id with
    | some ⟨.row e' c, false⟩ => bif Nat.beq e e' && !ami id us then some ((t, .own n) :: fs, (n, some ⟨.row e c, false⟩) :: hs, id :: us) else none
    | _ => none
   | .win id 0 len => match bf h id with
    | some ⟨.row e' c, false⟩ => bif Nat.beq e e' && !ami id us then some ((t, .own n) :: fs, (n, some ⟨.row e (c.take len), false⟩) :: hs, id :: us) else none
    | _ => none
   | .v (.slice none 0 0) => bif Nat.beq c0.len 0 then some ((t, .own n) :: fs, (n, some ⟨.row e c0, false⟩) :: hs, us) else none
   | _ => none
def atm (h : Hp) (n : Nat) (us : List Nat) : List Nat → Option Hp
 | [] => some []
 | id :: r => match atm h n us r with
  | none => none
  | some l => bif ami id us then some ((id, none) :: l) else
   match bf h id with
   | none => some ((id, none) :: l)
   | some b => bif bjw n b.b && Nat.blt id n then some ((id, some b) :: l) else none
def bgh : Hp → List Nat → List Nat
 | [], acc => acc
 | (id, _) :: r, acc => bif ami id acc then bgh r acc else bgh r (id :: acc)
def aqk (hl : Nat → Option Blk) (f : List (Nat × AVal)) : List (Nat × Sh) → List (Nat × AVal)
 | [] => []
 | (t, s) :: r => (t, agn s (qx hl (look f t))) :: aqk hl f r
def apt (f : List (Nat × AVal)) : List (Nat × Sh) → List Nat
 | [] => []
 | (t, _) :: r => ku (ny (look f t)) (apt f r)
def ai3 (l : List (Nat × Sh)) (st : ASt) : ASt :=
 match l with
 | [] => st
 | l => { st with f := ku (aqk (bf st.h) st.f l) st.f, h := ku (freeze (bf st.h) (apt st.f l) []) st.h }
def aym : AVal → Bool
 | .own _ | .win _ _ _ => true
 | _ => false
def azs (hl : Nat → Option Blk) (a : AVal) : AVal := bif aym a then qx hl a else a
def aph (hl : Nat → Option Blk) : List AVal → List AVal
 | [] => []
 | a :: r => azs hl a :: aph hl r
def alv : List AVal → List Nat
 | [] => []
 | a :: r => bif aym a then ku (ny a) (alv r) else alv r
def ajy (h : Hp) : List Nat → List Nat
 | [] => []
 | id :: r => match bf h id with
  | some ⟨.box _ l, _⟩ => ku (alv l) (ajy h r)
  | _ => ajy h r
def agz (hl : Nat → Option Blk) (h : Hp) : List Nat → Hp
 | [] => []
 | id :: r => match bf h id with
  | some ⟨.box e l, f⟩ => (id, some ⟨.box e (aph hl l), f⟩) :: agz hl h r
  | _ => agz hl h r
def yj (ids : List Nat) (st : ASt) : ASt :=
 match ids with
 | [] => st
 | ids => { st with h := ku (agz (bf st.h) (ku (freeze (bf st.h) (ajy st.h ids) []) st.h) ids) (ku (freeze (bf st.h) (ajy st.h ids) []) st.h) }
def auk : List AVal → List Nat
 | [] => []
 | .ptr j 0 :: r => j :: auk r
 | _ :: r => auk r
def bhi (f : List (Nat × AVal)) : List Oper → List (Nat × AVal)
 | [] => f
 | o :: r => match o.dst, o.op with
  | some d, .move x => bhi ((d, ev f x) :: f) r
  | _, _ => bhi f r
def ajx (D : Ctx) (f : List (Nat × AVal)) : List Oper → List Nat
 | [] => []
 | o :: r => match o.op with
  | .makeFunc _ first captured => lun (ku (auk (evs f first.toList)) (auk (evs f captured.toList))) (ajx D f r)
  | .call _ => match bkk f o.op with
   | some (g, as) => match ana D.inl g with
    | some _ => ajx D f r
    | none => lun (auk as) (ajx D f r)
   | none => ajx D f r
  | _ => ajx D f r
def bmv (id : Nat) (l : List AVal) : AVal → AVal
 | .ptr j 0 => bif Nat.beq id j then .sta l else .ptr j 0
 | a => a
def bi0 (id : Nat) (l : List AVal) : List (Nat × AVal) → List (Nat × AVal)
 | [] => []
 | (t, a) :: r => (t, bmv id l a) :: bi0 id l r
def alo (id : Nat) (st : ASt) : ASt :=
 match bf st.h id with
 | some ⟨.box _ l, _⟩ => bif aja 0 l then { st with f := bi0 id l st.f, h := ku (freeze (bf st.h) [id] []) st.h } else st
 | _ => st
def aom : List Nat → ASt → ASt
 | [], st => st
 | id :: r, st => aom r (alo id st)
def bgs (D : Ctx) (ops : List Oper) (st : ASt) : ASt := bif D.sta then aom (ajx D (bhi st.f ops) ops) (yj (ajx D (bhi st.f ops) ops) st) else st
def coB (h : Hp) : List (Nat × List Sh) → Hp
 | [] => []
 | (id, s) :: r => match bf h id with
  | some ⟨.box e l, f⟩ => (id, some ⟨.box e (qb s l), f⟩) :: coB h r
  | _ => coB h r
def bdx (l : List (Nat × List Sh)) (st : ASt) : ASt :=
 match l with
 | [] => st
 | l => { st with h := ku (coB st.h l) st.h }
def azg (id : Nat) (d : List AVal) (st : ASt) : ASt :=
 match bf st.h id with
 | some ⟨.box e [.v (.pointer none)], f⟩ => { st with h := (id, some ⟨.box e [.osta 0 d], f⟩) :: st.h }
 | some ⟨.box _ [.ptr j 0], _⟩ => match bf (yj [j] st).h id, bf (yj [j] st).h j with
  | some ⟨.box e [.ptr j' 0], f⟩, some ⟨.box _ l, _⟩ => bif Nat.beq j' j && aja 0 l && !Nat.beq id j then
      { yj [j] st with h := (id, some ⟨.box e [.osta 1 l], f⟩) :: ku (freeze (bf (yj [j] st).h) [j] []) (yj [j] st).h } else yj [j] st
  | _, _ => yj [j] st
 | _ => st
def bb4 : List (Nat × List AVal) → ASt → ASt
 | [], st => st
 | (id, d) :: r, st => bb4 r (azg id d st)
def alk (h : Hint) (st : ASt) : ASt := bb4 h.osb (bdx h.shc (yj h.shb (ai3 h.sls st)))
def bgk (h : Hint) (st : ASt) : List Nat :=
 match h.gc with
 | none => bgh st.h []
 | some (_, l) => l
def bep (h : Hint) (n : Nat) : Nat :=
 match h.gc with
 | none => n
 | some (m, _) => bif Nat.ble n m then m else n
def azq (h : Hp) (b : Nat) : AVal := match bf h b with
 | some ⟨.box _ [.own j], _⟩ => .own j
 | some ⟨.box _ [.v (.slice none 0 0)], _⟩ => .v (.slice none 0 0)
 | _ => .bot
def bbk (st : ASt) (t : Nat) : AVal := bif Nat.blt t 1000000 then look st.f t else azq st.h (t - 1000000)
def bg8 : List (Nat × TypeId × Cont) → List Nat
 | [] => []
 | (t, _, _) :: r => bif Nat.blt t 1000000 then bg8 r else (t - 1000000) :: bg8 r
def clr (h : Hp) : List Nat → Hp
 | [] => []
 | b :: r => match bf h b with
  | some ⟨.box e [.own _], f⟩ => (b, some ⟨.box e [.bot], f⟩) :: clr h r
  | some ⟨.box e [.v (.slice none 0 0)], f⟩ => (b, some ⟨.box e [.bot], f⟩) :: clr h r
  | _ => clr h r
def bjp (h : Hp) (l : List Nat) : Hp := match l with
 | [] => h
 | l => ku (clr h l) h
def slotsOf : List (Nat × AVal) → List (Nat × AVal)
 | [] => []
 | (t, x) :: r => bif Nat.blt t 1000000 then (t, x) :: slotsOf r else slotsOf r
def bj6 (fs : List (Nat × AVal)) (id : Nat) (b : Option Blk) : Option Blk := match b with
 | some ⟨.box e [.bot], f⟩ => match assoc fs (id + 1000000) with
  | some x => some ⟨.box e [x], f⟩
  | none => b
 | _ => b
def azc (fs : List (Nat × AVal)) : Hp → Hp
 | [] => []
 | (id, b) :: r => (id, bj6 fs id b) :: azc fs r
def bew (fs : List (Nat × AVal)) (l : List Nat) (h : Hp) : Hp := match l with
 | [] => h
 | _ => azc fs h
def norm (h : Hint) (n : Nat) (ids : List Nat) (st : ASt) : Option ASt :=
 match keepR (bbk st) (bjp st.h (bg8 h.rows)) n h.rows with
 | none => none
 | some (fs, hs, us) => match ba8 st.f n h.keep, atm (bjp st.h (bg8 h.rows)) n us ids with
  | some f, some hh => some { f := ku (slotsOf fs) f, h := bew fs (bg8 h.rows) (ku hs hh), n := n + h.rows.length, m := st.m }
  | _, _ => none
def aqd : List (Nat × aat) → Nat → Option aat
 | [], _ => none
 | (k, s) :: r, t => bif Nat.beq k t then some s else aqd r t
def bdw (f : List (Nat × AVal)) : List Nat → List (Nat × AVal)
 | [] => []
 | t :: r => (t, look f t) :: bdw f r
def bgw (h : Hint) (n : Nat) (ids : List Nat) (K : AExit → ASt → Option R) (next : ASt → Option R) (ex : AExit) (st : ASt) : Option R :=
 match ex with
 | .normal => match norm h n ids (alk h st) with
  | some st => next st
  | none => none
 | .exit id => match norm h n ids (alk h st) with
  | some st => K (.exit id) st
  | none => none
 | .ret => K .ret { st with f := bdw st.f h.boxes }
def iter (h : Hint) (n : Nat) (ids : List Nat) (F : ASt → (AExit → ASt → Option R) → Option R) (K : AExit → ASt → Option R) : Nat → ASt → Option R
 | 0, st => F st (bgw h n ids K fun _ => none)
 | k + 1, st => F st (bgw h n ids K (iter h n ids F K k))
def keysOf : Hp → List Nat
 | [] => []
 | (id, _) :: r => id :: keysOf r
def aos {α : Type} : Nat → List α → List α
 | 0, l => l
 | _ + 1, [] => []
 | n + 1, _ :: r => aos n r
def ap1 : List (Nat × RngE) → Nat → Option RngE
 | [], _ => none
 | (k, s) :: r, t => bif Nat.beq k t then some s else ap1 r t
def looks (f : List (Nat × AVal)) : List Nat → List AVal
 | [] => []
 | t :: r => look f t :: looks f r
def au5 (id : Nat) : Hp → Bool
 | [] => true
 | (_, some ⟨.box _ l, _⟩) :: r => !j6 id l && au5 id r
 | _ :: r => au5 id r
def noY : Option YCtx → Bool
 | none => true
 | some _ => false
def bgx (D : Ctx) (st : ASt) (g : Operand) (body : Code) : Option (RngE × List AVal × List AVal) :=
 match ev st.f g with
 | .fn (.func gid) first caps => match ap1 D.rng (gy body) with
  | some e => bif D.top && noY D.y && Nat.beq gid e.g && Nat.beq st.m e.m then some (e, first, caps) else none
  | none => none
 | _ => none
def ab5 (D : Ctx) : Code → ASt → (AExit → ASt → Option R) → Option R
 | .skip, st, K => K .normal st
 | .label _, st, K => K .normal st
 | .region _ ops false, st, K => bhf D ops ops.toList (bgs D ops.toList st) fun st => K .normal st
 | .region _ ops true, st, K => bfx D ops (bgs D ops.toList st) fun st => K .normal st
 | .seq a b, st, K => ab5 D a st fun ex st' => match ex with
  | .normal => ab5 D b st' K
  | .exit id => K (.exit id) st'
  | .ret => K .ret st'
 | .cond c x y, st, K => match ev st.f c with
  | .v (.bool b) => br b (ab5 D x st K) (ab5 D y st K)
  | _ => none
 | .block id c, st, K => ab5 D c st fun ex st' => match ex with
  | .normal => K .normal st'
  | .exit j => bif Nat.beq j id then K .normal st' else K (.exit j) st'
  | .ret => K .ret st'
 | .loop c, st, K => match norm (hintOf D.hints (gy c)) (bep (hintOf D.hints (gy c)) st.n) (bgk (hintOf D.hints (gy c)) (alk (hintOf D.hints (gy c)) st)) (alk (hintOf D.hints (gy c)) st) with
  | none => none
  | some st => match aqd D.loops (gy c) with
   | some s => s st K
   | none => none
 | .exit id, st, K => K (.exit id) st
 | .ret, st, K => K .ret st
 | .rangeFunc g _ _ body, st, K => match bgx D st g body with
  | some (e, first, caps) => e.s (ku first (.yld st.n e.ts (looks st.f e.ts) :: caps)) st.h (st.n + 1) fun _ h n => bif au5 st.n h then K .normal { f := st.f, h := h, n := n, m := st.m } else none
  | none => none
 | _, _, _ => none
def bg : Code → List Code
 | .seq a b => bg a ++ bg b
 | .cond _ a b => bg a ++ bg b
 | .block _ c => bg c
 | .loop c => c :: bg c
 | _ => []
def p8 : Code → List Code
 | .seq a b => p8 a ++ p8 b
 | .cond _ a b => p8 a ++ p8 b
 | .block _ c => p8 c
 | .loop c => p8 c
 | .rangeFunc g ps a b => [.rangeFunc g ps a b]
 | _ => []
def azd : List Nat → List AVal → List (Nat × AVal)
 | t :: ts, a :: r => (t, a) :: azd ts r
 | _, _ => []
def bav (m : Nat) : List Nat → Bool
 | [] => true
 | t :: r => Nat.blt t m && bav m r
def itA (D : Ctx) (c : Code) (K : AExit → ASt → Option R) (k : Nat) (st : ASt) : Option R :=
 iter (hintOf D.hints (gy c)) (st.n - (hintOf D.hints (gy c)).rows.length) (keysOf (aos (hintOf D.hints (gy c)).rows.length st.h)) (ab5 D c) K k st
def oh (D : Ctx) (c : Code) : Prop := ∀ s, aqd D.loops (gy c) = some s → ∀ st K r, s st K = some r → ∃ k, itA D c K k st = some r
mutual
def aj0 : AVal → List Nat
 | .win j _ _ | .awin j _ _ _ _ => [j]
 | .agg l | .tuple l => acp l
 | .fn _ a b => ku (j5 a) (j5 b)
 | .alt _ _ a b _ c d => ku (ku (j5 a) (j5 b)) (ku (j5 c) (j5 d))
 | .iface _ x => ny x
 | _ => []
def acp : List AVal → List Nat
 | [] => []
 | a :: r => ku (aj0 a) (acp r)
end
mutual
def amu (hl : Nat → Option Blk) : AVal → AVal
 | .own id => match hl id with
  | some ⟨.row e c, false⟩ => .fr e c
  | some ⟨.row _ c, true⟩ => .sl c
  | _ => .bot
 | .agg l => .agg (ajg hl l)
 | .tuple l => .tuple (ajg hl l)
 | a => qx hl a
def ajg (hl : Nat → Option Blk) : List AVal → List AVal
 | [] => []
 | a :: r => amu hl a :: ajg hl r
end
mutual
def ajo : AVal → List Nat
 | .own j => [j]
 | .agg l | .tuple l => afk l
 | _ => []
def afk : List AVal → List Nat
 | [] => []
 | a :: r => ku (ajo a) (afk r)
end
def aeg : List Nat → Bool
 | [] => true
 | a :: r => !ami a r && aeg r
mutual
def asg : Sh → AVal → AVal
 | .sl c, a => as9 c (.sl c) a
 | .fr e c, a => as9 c (.fr e c) a
 | .agg ss, .agg l => .agg (au9 ss l)
 | .agg ss, .fn f a c => .fn f a (qb ss c)
 | .alt f fa fc g ga gc, a => aog f fa fc g ga gc a
 | _, a => a
def au9 : List Sh → List AVal → List AVal
 | s :: ss, a :: r => asg s a :: au9 ss r
 | _, l => l
end
mutual
def bfd : Sh → AVal → List Nat
 | .sl _, .own j => [j]
 | .agg ss, .agg l => adv ss l
 | _, _ => []
def adv : List Sh → List AVal → List Nat
 | s :: ss, a :: r => ku (bfd s a) (adv ss r)
 | _, _ => []
end
def cellV (D : Ctx) (st : ASt) (t : Nat) (ty : TypeId) : Option AVal :=
 match abu D.P ty, jk D.P ty with
 | some g, some sz => match placeOf D (bf st.h) (look st.f t) sz with
  | some mid => bif g then some (amn mid) else match mid with
   | [.arr ..] => none
   | [a] => some a
   | _ => none
  | none => none
 | _, _ => none
def bck (D : Ctx) (st : ASt) : List ResultVar → Option (List AVal)
 | [] => some []
 | .tmp t :: r => match bck D st r with
  | some l => some (look st.f t :: l)
  | none => none
 | .cell t ty :: r => match cellV D st t ty, bck D st r with
  | some a, some l => some (a :: l)
  | _, _ => none
def oneOf : List AVal → AVal
 | [a] => a
 | l => .tuple l
def bez (D : Ctx) (sig : List Sh) (fn : Func) (st : ASt) (K : AVal → Option R) : Option R :=
 match bck D st fn.results.toList with
 | none => none
 | some l =>
  bif aeg (afk l) then K (oneOf (au9 sig (ajg (bf (ku (freeze (bf st.h) (ku (acp l) (adv sig l)) []) st.h)) l))) else none
def al7 (D : Ctx) (Y : YCtx) : bfg := fun ts vs args h n K =>
 bif Nat.beq args.length Y.ps.size && aeg Y.ps.toList && bav Y.m Y.ps.toList then
  ab5 D Y.assign ⟨ku (azd Y.ps.toList args) (azd ts vs), h, n, Y.m⟩ fun ex st => match ex with
   | .normal => ab5 D Y.body st fun ex st => match ex with
    | .normal => K st.h st.n
    | _ => none
   | _ => none
 else none
def aia : Nat → List AVal → List (Nat × AVal)
 | _, [] => []
 | i, a :: r => (i, a) :: aia (i + 1) r
def bc9 (D : Ctx) (fn : Func) (sig : List Sh) (args : List AVal) (K : AVal → Option R) : Option R :=
 match fn.body with
 | none => none
 | some c => bif Nat.ble args.length fn.ntmps then
     ab5 D c ⟨aia 0 args, [], 0, fn.ntmps⟩ fun ex st => match ex with
      | .exit _ => none
      | .normal => bez D sig fn st K
      | .ret => bez D sig fn st K
  else none
def agk (D : Ctx) (fn : Func) : ao2 := fun args h n K =>
 match fn.body with
 | none => none
 | some c => bif Nat.ble args.length fn.ntmps then
     ab5 D c ⟨aia 0 args, h, n, fn.ntmps⟩ fun ex st => match ex with
      | .exit _ => none
      | .normal => outIn D fn st K
      | .ret => outIn D fn st K
  else none
 where outIn (D : Ctx) (fn : Func) (st : ASt) (K : AVal → Hp → Nat → Option R) : Option R :=
 match bck D st fn.results.toList with
 | none => none
 | some l => K (oneOf l) st.h st.n
end Go.Abs
