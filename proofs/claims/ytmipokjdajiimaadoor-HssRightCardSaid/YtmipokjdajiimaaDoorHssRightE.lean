/-
  HssRight, part 5: an interpreter of my own over abstract values, the pure functions, the walks and the plain law.
-/

import Derived.Test.YtmipokjdajiimaaDoorHssRightD

namespace Go.Abs
open Go Go.RowKit
set_option linter.unusedVariables false
set_option linter.unusedSimpArgs false
def avq (ops : Array Oper) (j : Nat) : Option Nat := (ops[j]?).bind (·.dst)
def bii (ops : Array Oper) (o : Oper) (st : ASt) (F : ASt → Option R) (S : ASt → Option R) : Option R :=
 match o.guard with
 | none => F st
 | some (j, want) => match avq ops j with
  | none => none
  | some t => match look st.f t with
   | .v (.bool b) => br b (bif want then F (st.put (some t) (.v (.bool true))) else S (st.put (some t) (.v (.bool true)))) (bif want then S (st.put (some t) (.v (.bool false))) else F (st.put (some t) (.v (.bool false))))
   | .v (.tuple _) => S st
   | _ => none
def awn : List (Nat × ayc) → Nat → Option ayc
 | [], _ => none
 | (k, s) :: r, t => bif Nat.beq k t then some s else awn r t
def byh (f : List (Nat × AVal)) : Op → Option (Nat × List AVal)
 | .call { callee := .value x, args, .. } => match ev f x with
  | .fn (.func g) first caps => some (g, mo first (mo (evs f args.toList) caps))
  | _ => none
 | _ => none
def bpp (D : Ctx) (f : List (Nat × AVal)) (op : Op) : Option (ayc × List AVal) :=
 match byh f op with
 | some (g, as) => match awn D.inl g with
  | some s => some (s, as)
  | none => none
 | none => none
def br2 (f : List (Nat × AVal)) : Op → Option (List Nat × List AVal × List AVal)
 | .call { callee := .value x, args, .. } => match ev f x with
  | .yld _ ts vs => some (ts, vs, evs f args.toList)
  | _ => none
 | _ => none
def doA (D : Ctx) (o : Oper) (st : ASt) (K : ASt → Option R) : Option R :=
 match br2 st.f o.op with
 | some (ts, vs, as) => match D.ys with
  | some s => s ts vs as st.h st.n fun h n => K { f := btw st.m o.dst (.v (.bool true)) st.f, h := h, n := n, m := st.m }
  | none => none
 | none => match bpp D st.f o.op with
 | some (s, as) => s as st.h st.n fun v h n => K { f := btw st.m o.dst v st.f, h := h, n := n, m := st.m }
 | none => opA D o st fun e => K (st.app e o.dst)
def bt8 (D : Ctx) (ops : Array Oper) : List Oper → ASt → (ASt → Option R) → Option R
 | [], st, K => K st
 | o :: rest, st, K => bii ops o st (fun st => doA D o st fun st => bt8 D ops rest st K) (fun st => bt8 D ops rest (st.put o.dst (.v undef)) K)
structure Info where
 looks : List Nat
 dst : Option Nat
 vs : List AVal
 puts : Hp
 cl : List Nat
def tmpsOf : List Operand → List Nat
 | [] => []
 | .tmp t :: r => t :: tmpsOf r
 | _ :: r => tmpsOf r
def nth {α : Type} : List α → Nat → Option α
 | [], _ => none
 | a :: _, 0 => some a
 | _ :: r, n + 1 => nth r n
def lun : List Nat → List Nat → List Nat
 | [], l => l
 | a :: r, l => bif auc a l then lun r l else a :: lun r l
def bp9 (acc : List Info) (i : Nat) : List Edge → Option (List Nat)
 | [] => some []
 | e :: r => bif Region.binds .any e then
     bif Nat.blt e.on i then
      match nth acc (i - 1 - e.on), bp9 acc i r with
      | some x, some l => some (lun (e.on :: x.cl) l)
      | _, _ => none
     else none
  else bp9 acc i r
def bb8 (d : Option Nat) (l : List Nat) : Bool :=
 match d with
 | none => false
 | some d => auc d l
def awy (d d' : Option Nat) : Bool :=
 match d, d' with
 | some d, some d' => Nat.beq d d'
 | _, _ => false
def anr : Hp → List AVal → Hp → Bool
 | [], _, _ => false
 | (id, _) :: r, vs, h => l6 id vs || (assoc h id).isSome || anr r vs h
def awq (x y : Info) : Bool :=
 !(bb8 x.dst y.looks || bb8 y.dst x.looks || awy x.dst y.dst || anr x.puts y.vs y.puts || anr y.puts x.vs x.puts)
def bdc : List Info → Nat → Info → Bool
 | [], _, _ => true
 | x :: r, n, y => (auc (n - 1) y.cl || awq x y) && bdc r (n - 1) y
def bij (ops : Array Oper) (o : Oper) : List Nat :=
 match o.guard with
 | some (j, _) => (avq ops j).toList
 | none => []
def brg (ops : Array Oper) (o : Oper) (vs : List AVal) (puts : Hp) (cl : List Nat) : Info := ⟨mo (bij ops o) (tmpsOf (akc o.op)), o.dst, vs, puts, cl⟩
def bao (ops : Array Oper) (o : Oper) (cl : List Nat) : Info := ⟨bij ops o, o.dst, [], [], cl⟩
def bh6 (acc : List Info) (i : Nat) (I : Info) (F : List Info → Option R) : Option R := bif bdc acc i I then F (I :: acc) else none
def bct (op : Op) (vs : List AVal) : List AVal :=
 match op with
 | .move _ | .assign _ | .pick _ _ _ | .nilCheck _ | .makeFunc _ _ _ | .makeInterface _ _ | .fieldAddr _ _ _ | .box _ _ => []
 | _ => vs
def opD (D : Ctx) (o : Oper) (st : ASt) (K : Eff → Option R) : Option R :=
 core D o.op (evs st.f (akc o.op)) (mask (bct o.op (evs st.f (akc o.op))) st.h) st.n K
def bbo (D : Ctx) (ops : Array Oper) : List Oper → Nat → List Info → ASt → (List Info → ASt → Option R) → Option R
 | [], _, acc, st, K => K acc st
 | o :: rest, i, acc, st, K =>
  match bp9 acc i o.after.toList with
  | none => none
  | some cl =>
   bii ops o st
    (fun st => opD D o st fun e => bh6 acc i (brg ops o (bct o.op (evs st.f (akc o.op))) e.puts cl) fun acc => bbo D ops rest (i + 1) acc (st.app e o.dst) K)
    (fun st => bh6 acc i (bao ops o cl) fun acc => bbo D ops rest (i + 1) acc (st.put o.dst (.v undef)) K)
def bfb {α : Type} : List α → Option (List α × α)
 | [] => none
 | a :: r => match bfb r with
  | some (x, y) => some (a :: x, y)
  | none => some ([], a)
def allIn : Nat → List Nat → Bool
 | 0, _ => true
 | n + 1, l => auc n l && allIn n l
def bty (D : Ctx) (ops : Array Oper) (st : ASt) (K : ASt → Option R) : Option R :=
 match bfb ops.toList with
 | some (l0, o) => bif (bpp D [] o.op).isSome && o.guard.isNone then
     bbo D ops l0 0 [] st fun acc st => match bp9 acc l0.length o.after.toList with
      | some cl => bif allIn l0.length cl then doA D o st K else none
      | none => none
  else bbo D ops ops.toList 0 [] st fun _ => K
 | none => bbo D ops ops.toList 0 [] st fun _ => K
def iy : Code → Nat
 | .region id _ _ => id
 | .seq a _ => iy a
 | .block _ b => iy b
 | .loop b => iy b
 | .scope b => iy b
 | _ => 0
def hintOf : List (Nat × Hint) → Nat → Hint
 | [], _ => ⟨[], [], [], [], none, [], [], []⟩
 | (k, h) :: r, t => bif Nat.beq k t then h else hintOf r t
def bvg (n : Nat) : Bk → Bool
 | .row _ _ => true
 | .box _ l => aoo n l
def bov (f : List (Nat × AVal)) (n : Nat) : List Nat → Option (List (Nat × AVal))
 | [] => some []
 | t :: r => bif bnd n (look f t) then
     match bov f n r with
     | some l => some ((t, look f t) :: l)
     | none => none
  else none
def keepR (g : Nat → AVal) (h : Hp) : Nat → List (Nat × TypeId × Cont) → Option (List (Nat × AVal) × Hp × List Nat)
 | _, [] => some ([], [], [])
 | n, (t, e, c0) :: r => match keepR g h (n + 1) r with
  | none => none
  | some (fs, hs, us) => match g t with
   | .own id => match dw h id with
    | some ⟨.row e' c, false⟩ => bif Nat.beq e e' && !auc id us then some ((t, .own n) :: fs, (n, some ⟨.row e c, false⟩) :: hs, id :: us) else none
    | _ => none
   | .win id 0 len => match dw h id with
    | some ⟨.row e' c, false⟩ => bif Nat.beq e e' && !auc id us then some ((t, .own n) :: fs, (n, some ⟨.row e (c.take len), false⟩) :: hs, id :: us) else none
    | _ => none
   | .v (.slice none 0 0) => bif Nat.beq c0.len 0 then some ((t, .own n) :: fs, (n, some ⟨.row e c0, false⟩) :: hs, us) else none
   | _ => none
def bd0 (h : Hp) (n : Nat) (us : List Nat) : List Nat → Option Hp
 | [] => some []
 | id :: r => match bd0 h n us r with
  | none => none
  | some l => bif auc id us then some ((id, none) :: l) else
   match dw h id with
   | none => some ((id, none) :: l)
   | some b => bif bvg n b.b && Nat.blt id n then some ((id, some b) :: l) else none
def btt : Hp → List Nat → List Nat
 | [], acc => acc
 | (id, _) :: r, acc => bif auc id acc then btt r acc else btt r (id :: acc)
def bae (hl : Nat → Option Blk) (f : List (Nat × AVal)) : List (Nat × Sh) → List (Nat × AVal)
 | [] => []
 | (t, s) :: r => (t, akh s (vv hl (look f t))) :: bae hl f r
def azf (f : List (Nat × AVal)) : List (Nat × Sh) → List Nat
 | [] => []
 | (t, _) :: r => mo (qc (look f t)) (azf f r)
def aof (l : List (Nat × Sh)) (st : ASt) : ASt :=
 match l with
 | [] => st
 | l => { st with f := mo (bae (dw st.h) st.f l) st.f, h := mo (freeze (dw st.h) (azf st.f l) []) st.h }
def bki : AVal → Bool
 | .own _ | .win _ _ _ => true
 | _ => false
def bn3 (hl : Nat → Option Blk) (a : AVal) : AVal := bif bki a then vv hl a else a
def azr (hl : Nat → Option Blk) : List AVal → List AVal
 | [] => []
 | a :: r => bn3 hl a :: azr hl r
def asw : List AVal → List Nat
 | [] => []
 | a :: r => bif bki a then mo (qc a) (asw r) else asw r
def aqw (h : Hp) : List Nat → List Nat
 | [] => []
 | id :: r => match dw h id with
  | some ⟨.box _ l, _⟩ => mo (asw l) (aqw h r)
  | _ => aqw h r
def akw (hl : Nat → Option Blk) (h : Hp) : List Nat → Hp
 | [] => []
 | id :: r => match dw h id with
  | some ⟨.box e l, f⟩ => (id, some ⟨.box e (azr hl l), f⟩) :: akw hl h r
  | _ => akw hl h r
def aaf (ids : List Nat) (st : ASt) : ASt :=
 match ids with
 | [] => st
 | ids => { st with h := mo (akw (dw st.h) (mo (freeze (dw st.h) (aqw st.h ids) []) st.h) ids) (mo (freeze (dw st.h) (aqw st.h ids) []) st.h) }
def bfk : List AVal → List Nat
 | [] => []
 | .ptr j 0 :: r => j :: bfk r
 | _ :: r => bfk r
def bt9 (f : List (Nat × AVal)) : List Oper → List (Nat × AVal)
 | [] => f
 | o :: r => match o.dst, o.op with
  | some d, .move x => bt9 ((d, ev f x) :: f) r
  | _, _ => bt9 f r
def apw (D : Ctx) (f : List (Nat × AVal)) : List Oper → List Nat
 | [] => []
 | o :: r => match o.op with
  | .makeFunc _ first captured => lun (mo (bfk (evs f first.toList)) (bfk (evs f captured.toList))) (apw D f r)
  | .call _ => match byh f o.op with
   | some (g, as) => match awn D.inl g with
    | some _ => apw D f r
    | none => lun (bfk as) (apw D f r)
   | none => apw D f r
  | _ => apw D f r
def b0a (id : Nat) (l : List AVal) : AVal → AVal
 | .ptr j 0 => bif Nat.beq id j then .sta l else .ptr j 0
 | a => a
def bvy (id : Nat) (l : List AVal) : List (Nat × AVal) → List (Nat × AVal)
 | [] => []
 | (t, a) :: r => (t, b0a id l a) :: bvy id l r
def asx (id : Nat) (st : ASt) : ASt :=
 match dw st.h id with
 | some ⟨.box _ l, _⟩ => bif aoo 0 l then { st with f := bvy id l st.f, h := mo (freeze (dw st.h) [id] []) st.h } else st
 | _ => st
def aw3 : List Nat → ASt → ASt
 | [], st => st
 | id :: r, st => aw3 r (asx id st)
def br1 (D : Ctx) (ops : List Oper) (st : ASt) : ASt := bif D.sta then aw3 (apw D (bt9 st.f ops) ops) (aaf (apw D (bt9 st.f ops) ops) st) else st
def coB (h : Hp) : List (Nat × List Sh) → Hp
 | [] => []
 | (id, s) :: r => match dw h id with
  | some ⟨.box e l, f⟩ => (id, some ⟨.box e (p9 s l), f⟩) :: coB h r
  | _ => coB h r
def bpd (l : List (Nat × List Sh)) (st : ASt) : ASt :=
 match l with
 | [] => st
 | l => { st with h := mo (coB st.h l) st.h }
def bow (id : Nat) (d : List AVal) (st : ASt) : ASt :=
 match dw st.h id with
 | some ⟨.box e [.v (.pointer none)], f⟩ => { st with h := (id, some ⟨.box e [.osta 0 d], f⟩) :: st.h }
 | some ⟨.box _ [.ptr j 0], _⟩ => match dw (aaf [j] st).h id, dw (aaf [j] st).h j with
  | some ⟨.box e [.ptr j' 0], f⟩, some ⟨.box _ l, _⟩ => bif Nat.beq j' j && aoo 0 l && !Nat.beq id j then
      { aaf [j] st with h := (id, some ⟨.box e [.osta 1 l], f⟩) :: mo (freeze (dw (aaf [j] st).h) [j] []) (aaf [j] st).h } else aaf [j] st
  | _, _ => aaf [j] st
 | _ => st
def bm4 : List (Nat × List AVal) → ASt → ASt
 | [], st => st
 | (id, d) :: r, st => bm4 r (bow id d st)
def ath (h : Hint) (st : ASt) : ASt := bm4 h.osb (bpd h.shc (aaf h.shb (aof h.sls st)))
def br9 (h : Hint) (st : ASt) : List Nat :=
 match h.gc with
 | none => btt st.h []
 | some (_, l) => l
def bpa (h : Hint) (n : Nat) : Nat :=
 match h.gc with
 | none => n
 | some (m, _) => bif Nat.ble n m then m else n
def bmc (h : Hp) (b : Nat) : AVal := match dw h b with
 | some ⟨.box _ [.own j], _⟩ => .own j
 | some ⟨.box _ [.v (.slice none 0 0)], _⟩ => .v (.slice none 0 0)
 | _ => .bot
def bon (st : ASt) (t : Nat) : AVal := bif Nat.blt t 1000000 then look st.f t else bmc st.h (t - 1000000)
def br5 : List (Nat × TypeId × Cont) → List Nat
 | [] => []
 | (t, _, _) :: r => bif Nat.blt t 1000000 then br5 r else (t - 1000000) :: br5 r
def clr (h : Hp) : List Nat → Hp
 | [] => []
 | b :: r => match dw h b with
  | some ⟨.box e [.own _], f⟩ => (b, some ⟨.box e [.bot], f⟩) :: clr h r
  | some ⟨.box e [.v (.slice none 0 0)], f⟩ => (b, some ⟨.box e [.bot], f⟩) :: clr h r
  | _ => clr h r
def bub (h : Hp) (l : List Nat) : Hp := match l with
 | [] => h
 | l => mo (clr h l) h
def slotsOf : List (Nat × AVal) → List (Nat × AVal)
 | [] => []
 | (t, x) :: r => bif Nat.blt t 1000000 then (t, x) :: slotsOf r else slotsOf r
def byj (fs : List (Nat × AVal)) (id : Nat) (b : Option Blk) : Option Blk := match b with
 | some ⟨.box e [.bot], f⟩ => match assoc fs (id + 1000000) with
  | some x => some ⟨.box e [x], f⟩
  | none => b
 | _ => b
def blc (fs : List (Nat × AVal)) : Hp → Hp
 | [] => []
 | (id, b) :: r => (id, byj fs id b) :: blc fs r
def brm (fs : List (Nat × AVal)) (l : List Nat) (h : Hp) : Hp := match l with
 | [] => h
 | _ => blc fs h
def norm (h : Hint) (n : Nat) (ids : List Nat) (st : ASt) : Option ASt :=
 match keepR (bon st) (bub st.h (br5 h.rows)) n h.rows with
 | none => none
 | some (fs, hs, us) => match bov st.f n h.keep, bd0 (bub st.h (br5 h.rows)) n us ids with
  | some f, some hh => some { f := mo (slotsOf fs) f, h := brm fs (br5 h.rows) (mo hs hh), n := n + h.rows.length, m := st.m }
  | _, _ => none
def azw : List (Nat × aah) → Nat → Option aah
 | [], _ => none
 | (k, s) :: r, t => bif Nat.beq k t then some s else azw r t
def bqh (f : List (Nat × AVal)) : List Nat → List (Nat × AVal)
 | [] => []
 | t :: r => (t, look f t) :: bqh f r
def bsc (h : Hint) (n : Nat) (ids : List Nat) (K : AExit → ASt → Option R) (next : ASt → Option R) (ex : AExit) (st : ASt) : Option R :=
 match ex with
 | .normal => match norm h n ids (ath h st) with
  | some st => next st
  | none => none
 | .exit id => match norm h n ids (ath h st) with
  | some st => K (.exit id) st
  | none => none
 | .ret => K .ret { st with f := bqh st.f h.boxes }
def iter (h : Hint) (n : Nat) (ids : List Nat) (F : ASt → (AExit → ASt → Option R) → Option R) (K : AExit → ASt → Option R) : Nat → ASt → Option R
 | 0, st => F st (bsc h n ids K fun _ => none)
 | k + 1, st => F st (bsc h n ids K (iter h n ids F K k))
def keysOf : Hp → List Nat
 | [] => []
 | (id, _) :: r => id :: keysOf r
def avy {α : Type} : Nat → List α → List α
 | 0, l => l
 | _ + 1, [] => []
 | n + 1, _ :: r => avy n r
def azh : List (Nat × RngE) → Nat → Option RngE
 | [], _ => none
 | (k, s) :: r, t => bif Nat.beq k t then some s else azh r t
def looks (f : List (Nat × AVal)) : List Nat → List AVal
 | [] => []
 | t :: r => look f t :: looks f r
def beg (id : Nat) : Hp → Bool
 | [] => true
 | (_, some ⟨.box _ l, _⟩) :: r => !l6 id l && beg id r
 | _ :: r => beg id r
def noY : Option YCtx → Bool
 | none => true
 | some _ => false
def bsy (D : Ctx) (st : ASt) (g : Operand) (body : Code) : Option (RngE × List AVal × List AVal) :=
 match ev st.f g with
 | .fn (.func gid) first caps => match azh D.rng (iy body) with
  | some e => bif D.top && noY D.y && Nat.beq gid e.g && Nat.beq st.m e.m then some (e, first, caps) else none
  | none => none
 | _ => none
def adq (D : Ctx) : Code → ASt → (AExit → ASt → Option R) → Option R
 | .skip, st, K => K .normal st
 | .label _, st, K => K .normal st
 | .region _ ops false, st, K => bt8 D ops ops.toList (br1 D ops.toList st) fun st => K .normal st
 | .region _ ops true, st, K => bty D ops (br1 D ops.toList st) fun st => K .normal st
 | .seq a b, st, K => adq D a st fun ex st' => match ex with
  | .normal => adq D b st' K
  | .exit id => K (.exit id) st'
  | .ret => K .ret st'
 | .cond c x y, st, K => match ev st.f c with
  | .v (.bool b) => br b (adq D x st K) (adq D y st K)
  | _ => none
 | .block id c, st, K => adq D c st fun ex st' => match ex with
  | .normal => K .normal st'
  | .exit j => bif Nat.beq j id then K .normal st' else K (.exit j) st'
  | .ret => K .ret st'
 | .loop c, st, K => match norm (hintOf D.hints (iy c)) (bpa (hintOf D.hints (iy c)) st.n) (br9 (hintOf D.hints (iy c)) (ath (hintOf D.hints (iy c)) st)) (ath (hintOf D.hints (iy c)) st) with
  | none => none
  | some st => match azw D.loops (iy c) with
   | some s => s st K
   | none => none
 | .exit id, st, K => K (.exit id) st
 | .ret, st, K => K .ret st
 | .rangeFunc g _ _ body, st, K => match bsy D st g body with
  | some (e, first, caps) => e.s (mo first (.yld st.n e.ts (looks st.f e.ts) :: caps)) st.h (st.n + 1) fun _ h n => bif beg st.n h then K .normal { f := st.f, h := h, n := n, m := st.m } else none
  | none => none
 | _, _, _ => none
def dh : Code → List Code
 | .seq a b => dh a ++ dh b
 | .cond _ a b => dh a ++ dh b
 | .block _ c => dh c
 | .loop c => c :: dh c
 | _ => []
def qx : Code → List Code
 | .seq a b => qx a ++ qx b
 | .cond _ a b => qx a ++ qx b
 | .block _ c => qx c
 | .loop c => qx c
 | .rangeFunc g ps a b => [.rangeFunc g ps a b]
 | _ => []
def bld : List Nat → List AVal → List (Nat × AVal)
 | t :: ts, a :: r => (t, a) :: bld ts r
 | _, _ => []
def bnl (m : Nat) : List Nat → Bool
 | [] => true
 | t :: r => Nat.blt t m && bnl m r
def itA (D : Ctx) (c : Code) (K : AExit → ASt → Option R) (k : Nat) (st : ASt) : Option R :=
 iter (hintOf D.hints (iy c)) (st.n - (hintOf D.hints (iy c)).rows.length) (keysOf (avy (hintOf D.hints (iy c)).rows.length st.h)) (adq D c) K k st
def pq (D : Ctx) (c : Code) : Prop := ∀ s, azw D.loops (iy c) = some s → ∀ st K r, s st K = some r → ∃ k, itA D c K k st = some r
mutual
def aqa : AVal → List Nat
 | .win j _ _ | .awin j _ _ _ _ => [j]
 | .agg l | .tuple l => ad5 l
 | .fn _ a b => mo (lu a) (lu b)
 | .alt _ _ a b _ c d => mo (mo (lu a) (lu b)) (mo (lu c) (lu d))
 | .iface _ x => qc x
 | _ => []
def ad5 : List AVal → List Nat
 | [] => []
 | a :: r => mo (aqa a) (ad5 r)
end
mutual
def aut (hl : Nat → Option Blk) : AVal → AVal
 | .own id => match hl id with
  | some ⟨.row e c, false⟩ => .fr e c
  | some ⟨.row _ c, true⟩ => .sl c
  | _ => .bot
 | .agg l => .agg (ap1 hl l)
 | .tuple l => .tuple (ap1 hl l)
 | a => vv hl a
def ap1 (hl : Nat → Option Blk) : List AVal → List AVal
 | [] => []
 | a :: r => aut hl a :: ap1 hl r
end
mutual
def ap5 : AVal → List Nat
 | .own j => [j]
 | .agg l | .tuple l => ah0 l
 | _ => []
def ah0 : List AVal → List Nat
 | [] => []
 | a :: r => mo (ap5 a) (ah0 r)
end
def af7 : List Nat → Bool
 | [] => true
 | a :: r => !auc a r && af7 r
mutual
def bcv : Sh → AVal → AVal
 | .sl c, a => beb c (.sl c) a
 | .fr e c, a => beb c (.fr e c) a
 | .agg ss, .agg l => .agg (bft ss l)
 | .agg ss, .fn f a c => .fn f a (p9 ss c)
 | .alt f fa fc g ga gc, a => avl f fa fc g ga gc a
 | _, a => a
def bft : List Sh → List AVal → List AVal
 | s :: ss, a :: r => bcv s a :: bft ss r
 | _, l => l
end
mutual
def bsj : Sh → AVal → List Nat
 | .sl _, .own j => [j]
 | .agg ss, .agg l => afy ss l
 | _, _ => []
def afy : List Sh → List AVal → List Nat
 | s :: ss, a :: r => mo (bsj s a) (afy ss r)
 | _, _ => []
end
def cellV (D : Ctx) (st : ASt) (t : Nat) (ty : TypeId) : Option AVal :=
 match ac7 D.P ty, jy D.P ty with
 | some g, some sz => match placeOf D (dw st.h) (look st.f t) sz with
  | some mid => bif g then some (atq mid) else match mid with
   | [.arr ..] => none
   | [a] => some a
   | _ => none
  | none => none
 | _, _ => none
def boz (D : Ctx) (st : ASt) : List ResultVar → Option (List AVal)
 | [] => some []
 | .tmp t :: r => match boz D st r with
  | some l => some (look st.f t :: l)
  | none => none
 | .cell t ty :: r => match cellV D st t ty, boz D st r with
  | some a, some l => some (a :: l)
  | _, _ => none
def oneOf : List AVal → AVal
 | [a] => a
 | l => .tuple l
def brh (D : Ctx) (sig : List Sh) (fn : Func) (st : ASt) (K : AVal → Option R) : Option R :=
 match boz D st fn.results.toList with
 | none => none
 | some l =>
  bif af7 (ah0 l) then K (oneOf (bft sig (ap1 (dw (mo (freeze (dw st.h) (mo (ad5 l) (afy sig l)) []) st.h)) l))) else none
def akx (D : Ctx) (Y : YCtx) : bta := fun ts vs args h n K =>
 bif Nat.beq args.length Y.ps.size && af7 Y.ps.toList && bnl Y.m Y.ps.toList then
  adq D Y.assign ⟨mo (bld Y.ps.toList args) (bld ts vs), h, n, Y.m⟩ fun ex st => match ex with
   | .normal => adq D Y.body st fun ex st => match ex with
    | .normal => K st.h st.n
    | _ => none
   | _ => none
 else none
def aom : Nat → List AVal → List (Nat × AVal)
 | _, [] => []
 | i, a :: r => (i, a) :: aom (i + 1) r
def bo8 (D : Ctx) (fn : Func) (sig : List Sh) (args : List AVal) (K : AVal → Option R) : Option R :=
 match fn.body with
 | none => none
 | some c => bif Nat.ble args.length fn.ntmps then
     adq D c ⟨aom 0 args, [], 0, fn.ntmps⟩ fun ex st => match ex with
      | .exit _ => none
      | .normal => brh D sig fn st K
      | .ret => brh D sig fn st K
  else none
def agn (D : Ctx) (fn : Func) : ayc := fun args h n K =>
 match fn.body with
 | none => none
 | some c => bif Nat.ble args.length fn.ntmps then
     adq D c ⟨aom 0 args, h, n, fn.ntmps⟩ fun ex st => match ex with
      | .exit _ => none
      | .normal => outIn D fn st K
      | .ret => outIn D fn st K
  else none
 where outIn (D : Ctx) (fn : Func) (st : ASt) (K : AVal → Hp → Nat → Option R) : Option R :=
 match boz D st fn.results.toList with
 | none => none
 | some l => K (oneOf l) st.h st.n
end Go.Abs
