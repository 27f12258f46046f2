/-
  LeaseSpent, part 5: an interpreter of my own over abstract values, the pure functions, the walks and the plain law.
-/

import Derived.Test.YtkfjafaabbmapaaDoorLeaseSpentD

namespace Go.Abs
open Go Go.RowKit
set_option linter.unusedVariables false
set_option linter.unusedSimpArgs false
def anq (ops : Array Oper) (j : Nat) : Option Nat := (ops[j]?).bind (·.dst)
def axj (ops : Array Oper) (o : Oper) (st : ASt) (F : ASt → Option R) (S : ASt → Option R) : Option R :=
 match o.guard with
 | none => F st
 | some (j, want) => match anq ops j with
  | none => none
  | some t => match look st.f t with
   | .v (.bool b) => br b (bif want then F (st.put (some t) (.v (.bool true))) else S (st.put (some t) (.v (.bool true)))) (bif want then S (st.put (some t) (.v (.bool false))) else F (st.put (some t) (.v (.bool false))))
   | .v (.tuple _) => S st
   | _ => none
def aq8 : List (Nat × ap2) → Nat → Option ap2
 | [], _ => none
 | (k, s) :: r, t => bif Nat.beq k t then some s else aq8 r t
def bn5 (f : List (Nat × AVal)) : Op → Option (Nat × List AVal)
 | .call { callee := .value x, args, .. } => match ev f x with
  | .fn (.func g) first caps => some (g, lu first (lu (evs f args.toList) caps))
  | _ => none
 | _ => none
def bdg (D : Ctx) (f : List (Nat × AVal)) (op : Op) : Option (ap2 × List AVal) :=
 match bn5 f op with
 | some (g, as) => match aq8 D.inl g with
  | some s => some (s, as)
  | none => none
 | none => none
def bgq (f : List (Nat × AVal)) : Op → Option (List Nat × List AVal × List AVal)
 | .call { callee := .value x, args, .. } => match ev f x with
  | .yld _ ts vs => some (ts, vs, evs f args.toList)
  | _ => none
 | _ => none
def doA (D : Ctx) (o : Oper) (st : ASt) (K : ASt → Option R) : Option R :=
 match bgq st.f o.op with
 | some (ts, vs, as) => match D.ys with
  | some s => s ts vs as st.h st.n fun h n => K { f := bfy st.m o.dst (.v (.bool true)) st.f, h := h, n := n, m := st.m }
  | none => none
 | none => match bdg D st.f o.op with
 | some (s, as) => s as st.h st.n fun v h n => K { f := bfy st.m o.dst v st.f, h := h, n := n, m := st.m }
 | none => opA D o st fun e => K (st.app e o.dst)
def bht (D : Ctx) (ops : Array Oper) : List Oper → ASt → (ASt → Option R) → Option R
 | [], st, K => K st
 | o :: rest, st, K => axj ops o st (fun st => doA D o st fun st => bht D ops rest st K) (fun st => bht D ops rest (st.put o.dst (.v undef)) K)
structure Info where
 looks : List Nat
 dst : Option Nat
 vs : List AVal
 puts : Hp
 cl : List Nat
def tmpsOf : List Operand → List Nat
 | [] => []
 | .tmp t :: r => t :: tmpsOf r
 | _ :: r => tmpsOf r
def nth {α : Type} : List α → Nat → Option α
 | [], _ => none
 | a :: _, 0 => some a
 | _ :: r, n + 1 => nth r n
def lun : List Nat → List Nat → List Nat
 | [], l => l
 | a :: r, l => bif am1 a l then lun r l else a :: lun r l
def bei (acc : List Info) (i : Nat) : List Edge → Option (List Nat)
 | [] => some []
 | e :: r => bif Region.binds .any e then
     bif Nat.blt e.on i then
      match nth acc (i - 1 - e.on), bei acc i r with
      | some x, some l => some (lun (e.on :: x.cl) l)
      | _, _ => none
     else none
  else bei acc i r
def as5 (d : Option Nat) (l : List Nat) : Bool :=
 match d with
 | none => false
 | some d => am1 d l
def ao2 (d d' : Option Nat) : Bool :=
 match d, d' with
 | some d, some d' => Nat.beq d d'
 | _, _ => false
def ai3 : Hp → List AVal → Hp → Bool
 | [], _, _ => false
 | (id, _) :: r, vs, h => lg id vs || (assoc h id).isSome || ai3 r vs h
def aov (x y : Info) : Bool :=
 !(as5 x.dst y.looks || as5 y.dst x.looks || ao2 x.dst y.dst || ai3 x.puts y.vs y.puts || ai3 y.puts x.vs x.puts)
def auu : List Info → Nat → Info → Bool
 | [], _, _ => true
 | x :: r, n, y => (am1 (n - 1) y.cl || aov x y) && auu r (n - 1) y
def ays (ops : Array Oper) (o : Oper) : List Nat :=
 match o.guard with
 | some (j, _) => (anq ops j).toList
 | none => []
def be6 (ops : Array Oper) (o : Oper) (vs : List AVal) (puts : Hp) (cl : List Nat) : Info := ⟨lu (ays ops o) (tmpsOf (ag2 o.op)), o.dst, vs, puts, cl⟩
def arz (ops : Array Oper) (o : Oper) (cl : List Nat) : Info := ⟨ays ops o, o.dst, [], [], cl⟩
def ax2 (acc : List Info) (i : Nat) (I : Info) (F : List Info → Option R) : Option R := bif auu acc i I then F (I :: acc) else none
def as4 (op : Op) (vs : List AVal) : List AVal :=
 match op with
 | .move _ | .assign _ | .pick _ _ _ | .nilCheck _ | .makeFunc _ _ _ | .makeInterface _ _ | .fieldAddr _ _ _ | .box _ _ => []
 | _ => vs
def opD (D : Ctx) (o : Oper) (st : ASt) (K : Eff → Option R) : Option R :=
 core D o.op (evs st.f (ag2 o.op)) (mask (as4 o.op (evs st.f (ag2 o.op))) st.h) st.n K
def aru (D : Ctx) (ops : Array Oper) : List Oper → Nat → List Info → ASt → (List Info → ASt → Option R) → Option R
 | [], _, acc, st, K => K acc st
 | o :: rest, i, acc, st, K =>
  match bei acc i o.after.toList with
  | none => none
  | some cl =>
   axj ops o st
    (fun st => opD D o st fun e => ax2 acc i (be6 ops o (as4 o.op (evs st.f (ag2 o.op))) e.puts cl) fun acc => aru D ops rest (i + 1) acc (st.app e o.dst) K)
    (fun st => ax2 acc i (arz ops o cl) fun acc => aru D ops rest (i + 1) acc (st.put o.dst (.v undef)) K)
def avo {α : Type} : List α → Option (List α × α)
 | [] => none
 | a :: r => match avo r with
  | some (x, y) => some (a :: x, y)
  | none => some ([], a)
def allIn : Nat → List Nat → Bool
 | 0, _ => true
 | n + 1, l => am1 n l && allIn n l
def bg5 (D : Ctx) (ops : Array Oper) (st : ASt) (K : ASt → Option R) : Option R :=
 match avo ops.toList with
 | some (l0, o) => bif (bdg D [] o.op).isSome && o.guard.isNone then
     aru D ops l0 0 [] st fun acc st => match bei acc l0.length o.after.toList with
      | some cl => bif allIn l0.length cl then doA D o st K else none
      | none => none
  else aru D ops ops.toList 0 [] st fun _ => K
 | none => aru D ops ops.toList 0 [] st fun _ => K
def jh : Code → Nat
 | .region id _ _ => id
 | .seq a _ => jh a
 | .block _ b => jh b
 | .loop b => jh b
 | .scope b => jh b
 | _ => 0
def hintOf : List (Nat × Hint) → Nat → Hint
 | [], _ => ⟨[], [], [], [], none, [], [], []⟩
 | (k, h) :: r, t => bif Nat.beq k t then h else hintOf r t
def bh2 (n : Nat) : Bk → Bool
 | .row _ _ => true
 | .box _ l => ajr n l
def bam (f : List (Nat × AVal)) (n : Nat) : List Nat → Option (List (Nat × AVal))
 | [] => some []
 | t :: r => bif bnd n (look f t) then
     match bam f n r with
     | some l => some ((t, look f t) :: l)
     | none => none
  else none
def keepR (g : Nat → AVal) (h : Hp) : Nat → List (Nat × TypeId × Cont) → Option (List (Nat × AVal) × Hp × List Nat)
 | _, [] => some ([], [], [])
 | n, (t, e, c0) :: r => match keepR g h (n + 1) r with
  | none => none
  | some (fs, hs, us) => match g t with
   | .own id => match dz h id with
    | some ⟨.row e' c, false⟩ => bif Nat.beq e e' && !am1 id us then some ((t, .own n) :: fs, (n, some ⟨.row e c, false⟩) :: hs, id :: us) else none
    | _ => none
   | .win id 0 len => match dz h id with
    | some ⟨.row e' c, false⟩ => bif Nat.beq e e' && !am1 id us then some ((t, .own n) :: fs, (n, some ⟨.row e (c.take len), false⟩) :: hs, id :: us) else none
    | _ => none
   | .v (.slice none 0 0) => bif Nat.beq c0.len 0 then some ((t, .own n) :: fs, (n, some ⟨.row e c0, false⟩) :: hs, us) else none
   | _ => none
def auw (h : Hp) (n : Nat) (us : List Nat) : List Nat → Option Hp
 | [] => some []
 | id :: r => match auw h n us r with
  | none => none
  | some l => bif am1 id us then some ((id, none) :: l) else
   match dz h id with
   | none => some ((id, none) :: l)
   | some b => bif bh2 n b.b && Nat.blt id n then some ((id, some b) :: l) else none
def bf0 : Hp → List Nat → List Nat
 | [], acc => acc
 | (id, _) :: r, acc => bif am1 id acc then bf0 r acc else bf0 r (id :: acc)
def aqc (hl : Nat → Option Blk) (f : List (Nat × AVal)) : List (Nat × Sh) → List (Nat × AVal)
 | [] => []
 | (t, s) :: r => (t, ag1 s (qy hl (look f t))) :: aqc hl f r
def aqn (f : List (Nat × AVal)) : List (Nat × Sh) → List Nat
 | [] => []
 | (t, _) :: r => lu (nu (look f t)) (aqn f r)
def ai9 (l : List (Nat × Sh)) (st : ASt) : ASt :=
 match l with
 | [] => st
 | l => { st with f := lu (aqc (dz st.h) st.f l) st.f, h := lu (freeze (dz st.h) (aqn st.f l) []) st.h }
def azl : AVal → Bool
 | .own _ | .win _ _ _ => true
 | _ => false
def bcj (hl : Nat → Option Blk) (a : AVal) : AVal := bif azl a then qy hl a else a
def arn (hl : Nat → Option Blk) : List AVal → List AVal
 | [] => []
 | a :: r => bcj hl a :: arn hl r
def amd : List AVal → List Nat
 | [] => []
 | a :: r => bif azl a then lu (nu a) (amd r) else amd r
def akq (h : Hp) : List Nat → List Nat
 | [] => []
 | id :: r => match dz h id with
  | some ⟨.box _ l, _⟩ => lu (amd l) (akq h r)
  | _ => akq h r
def ahs (hl : Nat → Option Blk) (h : Hp) : List Nat → Hp
 | [] => []
 | id :: r => match dz h id with
  | some ⟨.box e l, f⟩ => (id, some ⟨.box e (arn hl l), f⟩) :: ahs hl h r
  | _ => ahs hl h r
def yg (ids : List Nat) (st : ASt) : ASt :=
 match ids with
 | [] => st
 | ids => { st with h := lu (ahs (dz st.h) (lu (freeze (dz st.h) (akq st.h ids) []) st.h) ids) (lu (freeze (dz st.h) (akq st.h ids) []) st.h) }
def ayv : List AVal → List Nat
 | [] => []
 | .ptr j 0 :: r => j :: ayv r
 | _ :: r => ayv r
def aqp (f : List (Nat × AVal)) : List Oper → List Nat
 | [] => []
 | o :: r => match o.op with
  | .makeFunc _ first captured => lun (lu (ayv (evs f first.toList)) (ayv (evs f captured.toList))) (aqp f r)
  | _ => aqp f r
def bnm (id : Nat) (l : List AVal) : AVal → AVal
 | .ptr j 0 => bif Nat.beq id j then .sta l else .ptr j 0
 | a => a
def bjx (id : Nat) (l : List AVal) : List (Nat × AVal) → List (Nat × AVal)
 | [] => []
 | (t, a) :: r => (t, bnm id l a) :: bjx id l r
def amq (id : Nat) (st : ASt) : ASt :=
 match dz st.h id with
 | some ⟨.box _ l, _⟩ => bif ajr 0 l then { st with f := bjx id l st.f, h := lu (freeze (dz st.h) [id] []) st.h } else st
 | _ => st
def anj : List Nat → ASt → ASt
 | [], st => st
 | id :: r, st => anj r (amq id st)
def bf2 (D : Ctx) (ops : List Oper) (st : ASt) : ASt := bif D.sta then anj (aqp st.f ops) (yg (aqp st.f ops) st) else st
def coB (h : Hp) : List (Nat × List Sh) → Hp
 | [] => []
 | (id, s) :: r => match dz h id with
  | some ⟨.box e l, f⟩ => (id, some ⟨.box e (p9 s l), f⟩) :: coB h r
  | _ => coB h r
def beo (l : List (Nat × List Sh)) (st : ASt) : ASt :=
 match l with
 | [] => st
 | l => { st with h := lu (coB st.h l) st.h }
def bbk (id : Nat) (d : List AVal) (st : ASt) : ASt :=
 match dz st.h id with
 | some ⟨.box e [.v (.pointer none)], f⟩ => { st with h := (id, some ⟨.box e [.osta 0 d], f⟩) :: st.h }
 | some ⟨.box _ [.ptr j 0], _⟩ => match dz (yg [j] st).h id, dz (yg [j] st).h j with
  | some ⟨.box e [.ptr j' 0], f⟩, some ⟨.box _ l, _⟩ => bif Nat.beq j' j && ajr 0 l && !Nat.beq id j then
      { yg [j] st with h := (id, some ⟨.box e [.osta 1 l], f⟩) :: lu (freeze (dz (yg [j] st).h) [j] []) (yg [j] st).h } else yg [j] st
  | _, _ => yg [j] st
 | _ => st
def bav : List (Nat × List AVal) → ASt → ASt
 | [], st => st
 | (id, d) :: r, st => bav r (bbk id d st)
def al5 (h : Hint) (st : ASt) : ASt := bav h.osb (beo h.shc (yg h.shb (ai9 h.sls st)))
def bg4 (h : Hint) (st : ASt) : List Nat :=
 match h.gc with
 | none => bf0 st.h []
 | some (_, l) => l
def ber (h : Hint) (n : Nat) : Nat :=
 match h.gc with
 | none => n
 | some (m, _) => bif Nat.ble n m then m else n
def bby (h : Hp) (b : Nat) : AVal := match dz h b with
 | some ⟨.box _ [.own j], _⟩ => .own j
 | some ⟨.box _ [.v (.slice none 0 0)], _⟩ => .v (.slice none 0 0)
 | _ => .bot
def bcr (st : ASt) (t : Nat) : AVal := bif Nat.blt t 1000000 then look st.f t else bby st.h (t - 1000000)
def bgn : List (Nat × TypeId × Cont) → List Nat
 | [] => []
 | (t, _, _) :: r => bif Nat.blt t 1000000 then bgn r else (t - 1000000) :: bgn r
def clr (h : Hp) : List Nat → Hp
 | [] => []
 | b :: r => match dz h b with
  | some ⟨.box e [.own _], f⟩ => (b, some ⟨.box e [.bot], f⟩) :: clr h r
  | some ⟨.box e [.v (.slice none 0 0)], f⟩ => (b, some ⟨.box e [.bot], f⟩) :: clr h r
  | _ => clr h r
def bjp (h : Hp) (l : List Nat) : Hp := match l with
 | [] => h
 | l => lu (clr h l) h
def slotsOf : List (Nat × AVal) → List (Nat × AVal)
 | [] => []
 | (t, x) :: r => bif Nat.blt t 1000000 then (t, x) :: slotsOf r else slotsOf r
def blc (fs : List (Nat × AVal)) (id : Nat) (b : Option Blk) : Option Blk := match b with
 | some ⟨.box e [.bot], f⟩ => match assoc fs (id + 1000000) with
  | some x => some ⟨.box e [x], f⟩
  | none => b
 | _ => b
def azv (fs : List (Nat × AVal)) : Hp → Hp
 | [] => []
 | (id, b) :: r => (id, blc fs id b) :: azv fs r
def bfo (fs : List (Nat × AVal)) (l : List Nat) (h : Hp) : Hp := match l with
 | [] => h
 | _ => azv fs h
def norm (h : Hint) (n : Nat) (ids : List Nat) (st : ASt) : Option ASt :=
 match keepR (bcr st) (bjp st.h (bgn h.rows)) n h.rows with
 | none => none
 | some (fs, hs, us) => match bam st.f n h.keep, auw (bjp st.h (bgn h.rows)) n us ids with
  | some f, some hh => some { f := lu (slotsOf fs) f, h := bfo fs (bgn h.rows) (lu hs hh), n := n + h.rows.length, m := st.m }
  | _, _ => none
def aqu : List (Nat × yc) → Nat → Option yc
 | [], _ => none
 | (k, s) :: r, t => bif Nat.beq k t then some s else aqu r t
def bda (f : List (Nat × AVal)) : List Nat → List (Nat × AVal)
 | [] => []
 | t :: r => (t, look f t) :: bda f r
def bhc (h : Hint) (n : Nat) (ids : List Nat) (K : AExit → ASt → Option R) (next : ASt → Option R) (ex : AExit) (st : ASt) : Option R :=
 match ex with
 | .normal => match norm h n ids (al5 h st) with
  | some st => next st
  | none => none
 | .exit id => match norm h n ids (al5 h st) with
  | some st => K (.exit id) st
  | none => none
 | .ret => K .ret { st with f := bda st.f h.boxes }
def iter (h : Hint) (n : Nat) (ids : List Nat) (F : ASt → (AExit → ASt → Option R) → Option R) (K : AExit → ASt → Option R) : Nat → ASt → Option R
 | 0, st => F st (bhc h n ids K fun _ => none)
 | k + 1, st => F st (bhc h n ids K (iter h n ids F K k))
def keysOf : Hp → List Nat
 | [] => []
 | (id, _) :: r => id :: keysOf r
def aop {α : Type} : Nat → List α → List α
 | 0, l => l
 | _ + 1, [] => []
 | n + 1, _ :: r => aop n r
def aqj : List (Nat × RngE) → Nat → Option RngE
 | [], _ => none
 | (k, s) :: r, t => bif Nat.beq k t then some s else aqj r t
def looks (f : List (Nat × AVal)) : List Nat → List AVal
 | [] => []
 | t :: r => look f t :: looks f r
def auo (id : Nat) : Hp → Bool
 | [] => true
 | (_, some ⟨.box _ l, _⟩) :: r => !lg id l && auo id r
 | _ :: r => auo id r
def noY : Option YCtx → Bool
 | none => true
 | some _ => false
def bgy (D : Ctx) (st : ASt) (g : Operand) (body : Code) : Option (RngE × List AVal × List AVal) :=
 match ev st.f g with
 | .fn (.func gid) first caps => match aqj D.rng (jh body) with
  | some e => bif D.top && noY D.y && Nat.beq gid e.g && Nat.beq st.m e.m then some (e, first, caps) else none
  | none => none
 | _ => none
def abr (D : Ctx) : Code → ASt → (AExit → ASt → Option R) → Option R
 | .skip, st, K => K .normal st
 | .label _, st, K => K .normal st
 | .region _ ops false, st, K => bht D ops ops.toList (bf2 D ops.toList st) fun st => K .normal st
 | .region _ ops true, st, K => bg5 D ops (bf2 D ops.toList st) fun st => K .normal st
 | .seq a b, st, K => abr D a st fun ex st' => match ex with
  | .normal => abr D b st' K
  | .exit id => K (.exit id) st'
  | .ret => K .ret st'
 | .cond c x y, st, K => match ev st.f c with
  | .v (.bool b) => br b (abr D x st K) (abr D y st K)
  | _ => none
 | .block id c, st, K => abr D c st fun ex st' => match ex with
  | .normal => K .normal st'
  | .exit j => bif Nat.beq j id then K .normal st' else K (.exit j) st'
  | .ret => K .ret st'
 | .loop c, st, K => match norm (hintOf D.hints (jh c)) (ber (hintOf D.hints (jh c)) st.n) (bg4 (hintOf D.hints (jh c)) (al5 (hintOf D.hints (jh c)) st)) (al5 (hintOf D.hints (jh c)) st) with
  | none => none
  | some st => match aqu D.loops (jh c) with
   | some s => s st K
   | none => none
 | .exit id, st, K => K (.exit id) st
 | .ret, st, K => K .ret st
 | .rangeFunc g _ _ body, st, K => match bgy D st g body with
  | some (e, first, caps) => e.s (lu first (.yld st.n e.ts (looks st.f e.ts) :: caps)) st.h (st.n + 1) fun _ h n => bif auo st.n h then K .normal { f := st.f, h := h, n := n, m := st.m } else none
  | none => none
 | _, _, _ => none
def d9 : Code → List Code
 | .seq a b => d9 a ++ d9 b
 | .cond _ a b => d9 a ++ d9 b
 | .block _ c => d9 c
 | .loop c => c :: d9 c
 | _ => []
def qj : Code → List Code
 | .seq a b => qj a ++ qj b
 | .cond _ a b => qj a ++ qj b
 | .block _ c => qj c
 | .loop c => qj c
 | .rangeFunc g ps a b => [.rangeFunc g ps a b]
 | _ => []
def azu : List Nat → List AVal → List (Nat × AVal)
 | t :: ts, a :: r => (t, a) :: azu ts r
 | _, _ => []
def bax (m : Nat) : List Nat → Bool
 | [] => true
 | t :: r => Nat.blt t m && bax m r
def itA (D : Ctx) (c : Code) (K : AExit → ASt → Option R) (k : Nat) (st : ASt) : Option R :=
 iter (hintOf D.hints (jh c)) (st.n - (hintOf D.hints (jh c)).rows.length) (keysOf (aop (hintOf D.hints (jh c)).rows.length st.h)) (abr D c) K k st
def nk (D : Ctx) (c : Code) : Prop := ∀ s, aqu D.loops (jh c) = some s → ∀ st K r, s st K = some r → ∃ k, itA D c K k st = some r
mutual
def akc : AVal → List Nat
 | .win j _ _ | .awin j _ _ _ _ => [j]
 | .agg l | .tuple l => acn l
 | .fn _ a b => lu (kr a) (kr b)
 | .alt _ _ a b _ c d => lu (lu (kr a) (kr b)) (lu (kr c) (kr d))
 | .iface _ x => nu x
 | _ => []
def acn : List AVal → List Nat
 | [] => []
 | a :: r => lu (akc a) (acn r)
end
mutual
def ang (hl : Nat → Option Blk) : AVal → AVal
 | .own id => match hl id with
  | some ⟨.row e c, false⟩ => .fr e c
  | some ⟨.row _ c, true⟩ => .sl c
  | _ => .bot
 | .agg l => .agg (ako hl l)
 | .tuple l => .tuple (ako hl l)
 | a => qy hl a
def ako (hl : Nat → Option Blk) : List AVal → List AVal
 | [] => []
 | a :: r => ang hl a :: ako hl r
end
mutual
def ajy : AVal → List Nat
 | .own j => [j]
 | .agg l | .tuple l => aff l
 | _ => []
def aff : List AVal → List Nat
 | [] => []
 | a :: r => lu (ajy a) (aff r)
end
def aem : List Nat → Bool
 | [] => true
 | a :: r => !am1 a r && aem r
mutual
def atg : Sh → AVal → AVal
 | .sl c, a => auv c (.sl c) a
 | .fr e c, a => auv c (.fr e c) a
 | .agg ss, .agg l => .agg (avx ss l)
 | .agg ss, .fn f a c => .fn f a (p9 ss c)
 | .alt f fa fc g ga gc, a => ao0 f fa fc g ga gc a
 | _, a => a
def avx : List Sh → List AVal → List AVal
 | s :: ss, a :: r => atg s a :: avx ss r
 | _, l => l
end
mutual
def bfr : Sh → AVal → List Nat
 | .sl _, .own j => [j]
 | .agg ss, .agg l => ad1 ss l
 | _, _ => []
def ad1 : List Sh → List AVal → List Nat
 | s :: ss, a :: r => lu (bfr s a) (ad1 ss r)
 | _, _ => []
end
def cellV (D : Ctx) (st : ASt) (t : Nat) (ty : TypeId) : Option AVal :=
 match ab9 D.P ty, jy D.P ty with
 | some g, some sz => match placeOf D (dz st.h) (look st.f t) sz with
  | some mid => bif g then some (am4 mid) else match mid with
   | [.arr ..] => none
   | [a] => some a
   | _ => none
  | none => none
 | _, _ => none
def bcy (D : Ctx) (st : ASt) : List ResultVar → Option (List AVal)
 | [] => some []
 | .tmp t :: r => match bcy D st r with
  | some l => some (look st.f t :: l)
  | none => none
 | .cell t ty :: r => match cellV D st t ty, bcy D st r with
  | some a, some l => some (a :: l)
  | _, _ => none
def oneOf : List AVal → AVal
 | [a] => a
 | l => .tuple l
def bff (D : Ctx) (sig : List Sh) (fn : Func) (st : ASt) (K : AVal → Option R) : Option R :=
 match bcy D st fn.results.toList with
 | none => none
 | some l =>
  bif aem (aff l) then K (oneOf (avx sig (ako (dz (lu (freeze (dz st.h) (lu (acn l) (ad1 sig l)) []) st.h)) l))) else none
def au8 (D : Ctx) (Y : YCtx) : bf9 := fun ts vs args h n K =>
 bif Nat.beq args.length Y.ps.size && aem Y.ps.toList && bax Y.m Y.ps.toList then
  abr D Y.assign ⟨lu (azu Y.ps.toList args) (azu ts vs), h, n, Y.m⟩ fun ex st => match ex with
   | .normal => abr D Y.body st fun ex st => match ex with
    | .normal => K st.h st.n
    | _ => none
   | _ => none
 else none
def ajm : Nat → List AVal → List (Nat × AVal)
 | _, [] => []
 | i, a :: r => (i, a) :: ajm (i + 1) r
def bf8 (D : Ctx) (fn : Func) (sig : List Sh) (args : List AVal) (K : AVal → Option R) : Option R :=
 match fn.body with
 | none => none
 | some c => bif Nat.ble args.length fn.ntmps then
     abr D c ⟨ajm 0 args, [], 0, fn.ntmps⟩ fun ex st => match ex with
      | .exit _ => none
      | .normal => bff D sig fn st K
      | .ret => bff D sig fn st K
  else none
def aah (D : Ctx) (fn : Func) : ap2 := fun args h n K =>
 match fn.body with
 | none => none
 | some c => bif Nat.ble args.length fn.ntmps then
     abr D c ⟨ajm 0 args, h, n, fn.ntmps⟩ fun ex st => match ex with
      | .exit _ => none
      | .normal => outIn D fn st K
      | .ret => outIn D fn st K
  else none
 where outIn (D : Ctx) (fn : Func) (st : ASt) (K : AVal → Hp → Nat → Option R) : Option R :=
 match bcy D st fn.results.toList with
 | none => none
 | some l => K (oneOf l) st.h st.n
end Go.Abs
