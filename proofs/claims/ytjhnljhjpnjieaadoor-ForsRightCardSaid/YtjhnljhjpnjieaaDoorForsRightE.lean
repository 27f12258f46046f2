/-
  ForsRight, part 5: an interpreter of my own over abstract values, the pure functions, the walks and the plain law.
-/

import Derived.Test.YtjhnljhjpnjieaaDoorForsRightD

namespace Go.Abs
open Go Go.RowKit
set_option linter.unusedVariables false
set_option linter.unusedSimpArgs false
def ao4 (ops : Array Oper) (j : Nat) : Option Nat := (ops[j]?).bind (·.dst)
def aw8 (ops : Array Oper) (o : Oper) (st : ASt) (F : ASt → Option R) (S : ASt → Option R) : Option R :=
 match o.guard with
 | none => F st
 | some (j, want) => match ao4 ops j with
  | none => none
  | some t => match look st.f t with
   | .v (.bool b) => br b (bif want then F (st.put (some t) (.v (.bool true))) else S (st.put (some t) (.v (.bool true)))) (bif want then S (st.put (some t) (.v (.bool false))) else F (st.put (some t) (.v (.bool false))))
   | .v (.tuple _) => S st
   | _ => none
def ap9 : List (Nat × ap1) → Nat → Option ap1
 | [], _ => none
 | (k, s) :: r, t => bif Nat.beq k t then some s else ap9 r t
def bpt (f : List (Nat × AVal)) : Op → Option (Nat × List AVal)
 | .call { callee := .value x, args, .. } => match ev f x with
  | .fn (.func g) first caps => some (g, ny first (ny (evs f args.toList) caps))
  | _ => none
 | _ => none
def bdc (D : Ctx) (f : List (Nat × AVal)) (op : Op) : Option (ap1 × List AVal) :=
 match bpt f op with
 | some (g, as) => match ap9 D.inl g with
  | some s => some (s, as)
  | none => none
 | none => none
def bhg (f : List (Nat × AVal)) : Op → Option (List Nat × List AVal × List AVal)
 | .call { callee := .value x, args, .. } => match ev f x with
  | .yld _ ts vs => some (ts, vs, evs f args.toList)
  | _ => none
 | _ => none
def doA (D : Ctx) (o : Oper) (st : ASt) (K : ASt → Option R) : Option R :=
 match bhg st.f o.op with
 | some (ts, vs, as) => match D.ys with
  | some s => s ts vs as st.h st.n fun h n => K { f := bg3 st.m o.dst (.v (.bool true)) st.f, h := h, n := n, m := st.m }
  | none => none
 | none => match bdc D st.f o.op with
 | some (s, as) => s as st.h st.n fun v h n => K { f := bg3 st.m o.dst v st.f, h := h, n := n, m := st.m }
 | none => opA D o st fun e => K (st.app e o.dst)
def bie (D : Ctx) (ops : Array Oper) : List Oper → ASt → (ASt → Option R) → Option R
 | [], st, K => K st
 | o :: rest, st, K => aw8 ops o st (fun st => doA D o st fun st => bie D ops rest st K) (fun st => bie D ops rest (st.put o.dst (.v undef)) K)
structure Info where
 looks : List Nat
 dst : Option Nat
 vs : List AVal
 puts : Hp
 cl : List Nat
def tmpsOf : List Operand → List Nat
 | [] => []
 | .tmp t :: r => t :: tmpsOf r
 | _ :: r => tmpsOf r
def nth {α : Type} : List α → Nat → Option α
 | [], _ => none
 | a :: _, 0 => some a
 | _ :: r, n + 1 => nth r n
def lun : List Nat → List Nat → List Nat
 | [], l => l
 | a :: r, l => bif ane a l then lun r l else a :: lun r l
def bcs (acc : List Info) (i : Nat) : List Edge → Option (List Nat)
 | [] => some []
 | e :: r => bif Region.binds .any e then
     bif Nat.blt e.on i then
      match nth acc (i - 1 - e.on), bcs acc i r with
      | some x, some l => some (lun (e.on :: x.cl) l)
      | _, _ => none
     else none
  else bcs acc i r
def asf (d : Option Nat) (l : List Nat) : Bool :=
 match d with
 | none => false
 | some d => ane d l
def aou (d d' : Option Nat) : Bool :=
 match d, d' with
 | some d, some d' => Nat.beq d d'
 | _, _ => false
def ako : Hp → List AVal → Hp → Bool
 | [], _, _ => false
 | (id, _) :: r, vs, h => mg id vs || (assoc h id).isSome || ako r vs h
def aoc (x y : Info) : Bool :=
 !(asf x.dst y.looks || asf y.dst x.looks || aou x.dst y.dst || ako x.puts y.vs y.puts || ako y.puts x.vs x.puts)
def au2 : List Info → Nat → Info → Bool
 | [], _, _ => true
 | x :: r, n, y => (ane (n - 1) y.cl || aoc x y) && au2 r (n - 1) y
def aw2 (ops : Array Oper) (o : Oper) : List Nat :=
 match o.guard with
 | some (j, _) => (ao4 ops j).toList
 | none => []
def bfm (ops : Array Oper) (o : Oper) (vs : List AVal) (puts : Hp) (cl : List Nat) : Info := ⟨ny (aw2 ops o) (tmpsOf (ahz o.op)), o.dst, vs, puts, cl⟩
def asr (ops : Array Oper) (o : Oper) (cl : List Nat) : Info := ⟨aw2 ops o, o.dst, [], [], cl⟩
def axq (acc : List Info) (i : Nat) (I : Info) (F : List Info → Option R) : Option R := bif au2 acc i I then F (I :: acc) else none
def asu (op : Op) (vs : List AVal) : List AVal :=
 match op with
 | .move _ | .assign _ | .pick _ _ _ | .nilCheck _ | .makeFunc _ _ _ | .makeInterface _ _ | .fieldAddr _ _ _ | .box _ _ => []
 | _ => vs
def opD (D : Ctx) (o : Oper) (st : ASt) (K : Eff → Option R) : Option R :=
 core D o.op (evs st.f (ahz o.op)) (mask (asu o.op (evs st.f (ahz o.op))) st.h) st.n K
def asn (D : Ctx) (ops : Array Oper) : List Oper → Nat → List Info → ASt → (List Info → ASt → Option R) → Option R
 | [], _, acc, st, K => K acc st
 | o :: rest, i, acc, st, K =>
  match bcs acc i o.after.toList with
  | none => none
  | some cl =>
   aw8 ops o st
    (fun st => opD D o st fun e => axq acc i (bfm ops o (asu o.op (evs st.f (ahz o.op))) e.puts cl) fun acc => asn D ops rest (i + 1) acc (st.app e o.dst) K)
    (fun st => axq acc i (asr ops o cl) fun acc => asn D ops rest (i + 1) acc (st.put o.dst (.v undef)) K)
def as8 {α : Type} : List α → Option (List α × α)
 | [] => none
 | a :: r => match as8 r with
  | some (x, y) => some (a :: x, y)
  | none => some ([], a)
def allIn : Nat → List Nat → Bool
 | 0, _ => true
 | n + 1, l => ane n l && allIn n l
def bfw (D : Ctx) (ops : Array Oper) (st : ASt) (K : ASt → Option R) : Option R :=
 match as8 ops.toList with
 | some (l0, o) => bif (bdc D [] o.op).isSome && o.guard.isNone then
     asn D ops l0 0 [] st fun acc st => match bcs acc l0.length o.after.toList with
      | some cl => bif allIn l0.length cl then doA D o st K else none
      | none => none
  else asn D ops ops.toList 0 [] st fun _ => K
 | none => asn D ops ops.toList 0 [] st fun _ => K
def iq : Code → Nat
 | .region id _ _ => id
 | .seq a _ => iq a
 | .block _ b => iq b
 | .loop b => iq b
 | .scope b => iq b
 | _ => 0
def hintOf : List (Nat × Hint) → Nat → Hint
 | [], _ => ⟨[], [], [], [], none, [], []⟩
 | (k, h) :: r, t => bif Nat.beq k t then h else hintOf r t
def bj6 (n : Nat) : Bk → Bool
 | .row _ _ => true
 | .box _ l => aoo n l
def azj (f : List (Nat × AVal)) (n : Nat) : List Nat → Option (List (Nat × AVal))
 | [] => some []
 | t :: r => bif bnd n (look f t) then
     match azj f n r with
     | some l => some ((t, look f t) :: l)
     | none => none
  else none
def keepR (g : Nat → AVal) (h : Hp) : Nat → List (Nat × TypeId × Cont) → Option (List (Nat × AVal) × Hp × List Nat)
 | _, [] => some ([], [], [])
 | n, (t, e, c0) :: r => match keepR g h (n + 1) r with
  | none => none
  | some (fs, hs, us) => match g t with
   | .own id => match cu h id with
    | some ⟨.row e' c, false⟩ => bif Nat.beq e e' && !ane id us then some ((t, .own n) :: fs, (n, some ⟨.row e c, false⟩) :: hs, id :: us) else none
    | _ => none
   | .win id 0 len => match cu h id with
    | some ⟨.row e' c, false⟩ => bif Nat.beq e e' && !ane id us then some ((t, .own n) :: fs, (n, some ⟨.row e (c.take len), false⟩) :: hs, id :: us) else none
    | _ => none
   | .v (.slice none 0 0) => bif Nat.beq c0.len 0 then some ((t, .own n) :: fs, (n, some ⟨.row e c0, false⟩) :: hs, us) else none
   | _ => none
def atj (h : Hp) (n : Nat) (us : List Nat) : List Nat → Option Hp
 | [] => some []
 | id :: r => match atj h n us r with
  | none => none
  | some l => bif ane id us then some ((id, none) :: l) else
   match cu h id with
   | none => some ((id, none) :: l)
   | some b => bif bj6 n b.b && Nat.blt id n then some ((id, some b) :: l) else none
def bhz : Hp → List Nat → List Nat
 | [], acc => acc
 | (id, _) :: r, acc => bif ane id acc then bhz r acc else bhz r (id :: acc)
def ap4 (hl : Nat → Option Blk) (f : List (Nat × AVal)) : List (Nat × Sh) → List (Nat × AVal)
 | [] => []
 | (t, s) :: r => (t, ahw s (um hl (look f t))) :: ap4 hl f r
def ap2 (f : List (Nat × AVal)) : List (Nat × Sh) → List Nat
 | [] => []
 | (t, _) :: r => ny (pq (look f t)) (ap2 f r)
def akm (l : List (Nat × Sh)) (st : ASt) : ASt :=
 match l with
 | [] => st
 | l => { st with f := ny (ap4 (cu st.h) st.f l) st.f, h := ny (freeze (cu st.h) (ap2 st.f l) []) st.h }
def ay9 : AVal → Bool
 | .own _ | .win _ _ _ => true
 | _ => false
def az4 (hl : Nat → Option Blk) (a : AVal) : AVal := bif ay9 a then um hl a else a
def aqh (hl : Nat → Option Blk) : List AVal → List AVal
 | [] => []
 | a :: r => az4 hl a :: aqh hl r
def am9 : List AVal → List Nat
 | [] => []
 | a :: r => bif ay9 a then ny (pq a) (am9 r) else am9 r
def alq (h : Hp) : List Nat → List Nat
 | [] => []
 | id :: r => match cu h id with
  | some ⟨.box _ l, _⟩ => ny (am9 l) (alq h r)
  | _ => alq h r
def ah6 (hl : Nat → Option Blk) (h : Hp) : List Nat → Hp
 | [] => []
 | id :: r => match cu h id with
  | some ⟨.box e l, f⟩ => (id, some ⟨.box e (aqh hl l), f⟩) :: ah6 hl h r
  | _ => ah6 hl h r
def alo (ids : List Nat) (st : ASt) : ASt :=
 match ids with
 | [] => st
 | ids => { st with h := ny (ah6 (cu st.h) (ny (freeze (cu st.h) (alq st.h ids) []) st.h) ids) (ny (freeze (cu st.h) (alq st.h ids) []) st.h) }
def axp : List AVal → List Nat
 | [] => []
 | .ptr j 0 :: r => j :: axp r
 | _ :: r => axp r
def aqy (f : List (Nat × AVal)) : List Oper → List Nat
 | [] => []
 | o :: r => match o.op with
  | .makeFunc _ first captured => lun (ny (axp (evs f first.toList)) (axp (evs f captured.toList))) (aqy f r)
  | _ => aqy f r
def bqv (id : Nat) (l : List AVal) : AVal → AVal
 | .ptr j 0 => bif Nat.beq id j then .sta l else .ptr j 0
 | a => a
def bli (id : Nat) (l : List AVal) : List (Nat × AVal) → List (Nat × AVal)
 | [] => []
 | (t, a) :: r => (t, bqv id l a) :: bli id l r
def am3 (id : Nat) (st : ASt) : ASt :=
 match cu st.h id with
 | some ⟨.box _ l, _⟩ => bif aoo 0 l then { st with f := bli id l st.f, h := ny (freeze (cu st.h) [id] []) st.h } else st
 | _ => st
def aog : List Nat → ASt → ASt
 | [], st => st
 | id :: r, st => aog r (am3 id st)
def bgi (D : Ctx) (ops : List Oper) (st : ASt) : ASt := bif D.sta then aog (aqy st.f ops) (alo (aqy st.f ops) st) else st
def coB (h : Hp) : List (Nat × List Sh) → Hp
 | [] => []
 | (id, s) :: r => match cu h id with
  | some ⟨.box e l, f⟩ => (id, some ⟨.box e (tu s l), f⟩) :: coB h r
  | _ => coB h r
def bdh (l : List (Nat × List Sh)) (st : ASt) : ASt :=
 match l with
 | [] => st
 | l => { st with h := ny (coB st.h l) st.h }
def am5 (h : Hint) (st : ASt) : ASt := bdh h.shc (alo h.shb (akm h.sls st))
def bgv (h : Hint) (st : ASt) : List Nat :=
 match h.gc with
 | none => bhz st.h []
 | some (_, l) => l
def bdm (h : Hint) (n : Nat) : Nat :=
 match h.gc with
 | none => n
 | some (m, _) => bif Nat.ble n m then m else n
def bb6 (h : Hp) (b : Nat) : AVal := match cu h b with
 | some ⟨.box _ [.own j], _⟩ => .own j
 | some ⟨.box _ [.v (.slice none 0 0)], _⟩ => .v (.slice none 0 0)
 | _ => .bot
def ba7 (st : ASt) (t : Nat) : AVal := bif Nat.blt t 1000000 then look st.f t else bb6 st.h (t - 1000000)
def bge : List (Nat × TypeId × Cont) → List Nat
 | [] => []
 | (t, _, _) :: r => bif Nat.blt t 1000000 then bge r else (t - 1000000) :: bge r
def clr (h : Hp) : List Nat → Hp
 | [] => []
 | b :: r => match cu h b with
  | some ⟨.box e [.own _], f⟩ => (b, some ⟨.box e [.bot], f⟩) :: clr h r
  | some ⟨.box e [.v (.slice none 0 0)], f⟩ => (b, some ⟨.box e [.bot], f⟩) :: clr h r
  | _ => clr h r
def blb (h : Hp) (l : List Nat) : Hp := match l with
 | [] => h
 | l => ny (clr h l) h
def slotsOf : List (Nat × AVal) → List (Nat × AVal)
 | [] => []
 | (t, x) :: r => bif Nat.blt t 1000000 then (t, x) :: slotsOf r else slotsOf r
def bme (fs : List (Nat × AVal)) (id : Nat) (b : Option Blk) : Option Blk := match b with
 | some ⟨.box e [.bot], f⟩ => match assoc fs (id + 1000000) with
  | some x => some ⟨.box e [x], f⟩
  | none => b
 | _ => b
def aza (fs : List (Nat × AVal)) : Hp → Hp
 | [] => []
 | (id, b) :: r => (id, bme fs id b) :: aza fs r
def bfq (fs : List (Nat × AVal)) (l : List Nat) (h : Hp) : Hp := match l with
 | [] => h
 | _ => aza fs h
def norm (h : Hint) (n : Nat) (ids : List Nat) (st : ASt) : Option ASt :=
 match keepR (ba7 st) (blb st.h (bge h.rows)) n h.rows with
 | none => none
 | some (fs, hs, us) => match azj st.f n h.keep, atj (blb st.h (bge h.rows)) n us ids with
  | some f, some hh => some { f := ny (slotsOf fs) f, h := bfq fs (bge h.rows) (ny hs hh), n := n + h.rows.length, m := st.m }
  | _, _ => none
def aqe : List (Nat × xw) → Nat → Option xw
 | [], _ => none
 | (k, s) :: r, t => bif Nat.beq k t then some s else aqe r t
def bc9 (f : List (Nat × AVal)) : List Nat → List (Nat × AVal)
 | [] => []
 | t :: r => (t, look f t) :: bc9 f r
def bfs (h : Hint) (n : Nat) (ids : List Nat) (K : AExit → ASt → Option R) (next : ASt → Option R) (ex : AExit) (st : ASt) : Option R :=
 match ex with
 | .normal => match norm h n ids (am5 h st) with
  | some st => next st
  | none => none
 | .exit id => match norm h n ids (am5 h st) with
  | some st => K (.exit id) st
  | none => none
 | .ret => K .ret { st with f := bc9 st.f h.boxes }
def iter (h : Hint) (n : Nat) (ids : List Nat) (F : ASt → (AExit → ASt → Option R) → Option R) (K : AExit → ASt → Option R) : Nat → ASt → Option R
 | 0, st => F st (bfs h n ids K fun _ => none)
 | k + 1, st => F st (bfs h n ids K (iter h n ids F K k))
def keysOf : Hp → List Nat
 | [] => []
 | (id, _) :: r => id :: keysOf r
def an2 {α : Type} : Nat → List α → List α
 | 0, l => l
 | _ + 1, [] => []
 | n + 1, _ :: r => an2 n r
def ap5 : List (Nat × RngE) → Nat → Option RngE
 | [], _ => none
 | (k, s) :: r, t => bif Nat.beq k t then some s else ap5 r t
def looks (f : List (Nat × AVal)) : List Nat → List AVal
 | [] => []
 | t :: r => look f t :: looks f r
def atp (id : Nat) : Hp → Bool
 | [] => true
 | (_, some ⟨.box _ l, _⟩) :: r => !mg id l && atp id r
 | _ :: r => atp id r
def noY : Option YCtx → Bool
 | none => true
 | some _ => false
def bh0 (D : Ctx) (st : ASt) (g : Operand) (body : Code) : Option (RngE × List AVal × List AVal) :=
 match ev st.f g with
 | .fn (.func gid) first caps => match ap5 D.rng (iq body) with
  | some e => bif D.top && noY D.y && Nat.beq gid e.g && Nat.beq st.m e.m then some (e, first, caps) else none
  | none => none
 | _ => none
def acs (D : Ctx) : Code → ASt → (AExit → ASt → Option R) → Option R
 | .skip, st, K => K .normal st
 | .label _, st, K => K .normal st
 | .region _ ops false, st, K => bie D ops ops.toList (bgi D ops.toList st) fun st => K .normal st
 | .region _ ops true, st, K => bfw D ops (bgi D ops.toList st) fun st => K .normal st
 | .seq a b, st, K => acs D a st fun ex st' => match ex with
  | .normal => acs D b st' K
  | .exit id => K (.exit id) st'
  | .ret => K .ret st'
 | .cond c x y, st, K => match ev st.f c with
  | .v (.bool b) => br b (acs D x st K) (acs D y st K)
  | _ => none
 | .block id c, st, K => acs D c st fun ex st' => match ex with
  | .normal => K .normal st'
  | .exit j => bif Nat.beq j id then K .normal st' else K (.exit j) st'
  | .ret => K .ret st'
 | .loop c, st, K => match norm (hintOf D.hints (iq c)) (bdm (hintOf D.hints (iq c)) st.n) (bgv (hintOf D.hints (iq c)) (am5 (hintOf D.hints (iq c)) st)) (am5 (hintOf D.hints (iq c)) st) with
  | none => none
  | some st => match aqe D.loops (iq c) with
   | some s => s st K
   | none => none
 | .exit id, st, K => K (.exit id) st
 | .ret, st, K => K .ret st
 | .rangeFunc g _ _ body, st, K => match bh0 D st g body with
  | some (e, first, caps) => e.s (ny first (.yld st.n e.ts (looks st.f e.ts) :: caps)) st.h (st.n + 1) fun _ h n => bif atp st.n h then K .normal { f := st.f, h := h, n := n, m := st.m } else none
  | none => none
 | _, _, _ => none
def bq : Code → List Code
 | .seq a b => bq a ++ bq b
 | .cond _ a b => bq a ++ bq b
 | .block _ c => bq c
 | .loop c => c :: bq c
 | _ => []
def qy : Code → List Code
 | .seq a b => qy a ++ qy b
 | .cond _ a b => qy a ++ qy b
 | .block _ c => qy c
 | .loop c => qy c
 | .rangeFunc g ps a b => [.rangeFunc g ps a b]
 | _ => []
def azb : List Nat → List AVal → List (Nat × AVal)
 | t :: ts, a :: r => (t, a) :: azb ts r
 | _, _ => []
def ba2 (m : Nat) : List Nat → Bool
 | [] => true
 | t :: r => Nat.blt t m && ba2 m r
def itA (D : Ctx) (c : Code) (K : AExit → ASt → Option R) (k : Nat) (st : ASt) : Option R :=
 iter (hintOf D.hints (iq c)) (st.n - (hintOf D.hints (iq c)).rows.length) (keysOf (an2 (hintOf D.hints (iq c)).rows.length st.h)) (acs D c) K k st
def ou (D : Ctx) (c : Code) : Prop := ∀ s, aqe D.loops (iq c) = some s → ∀ st K r, s st K = some r → ∃ k, itA D c K k st = some r
mutual
def alh : AVal → List Nat
 | .win j _ _ | .awin j _ _ _ _ => [j]
 | .agg l | .tuple l => ac5 l
 | .fn _ a b => ny (l8 a) (l8 b)
 | .alt _ _ a b _ c d => ny (ny (l8 a) (l8 b)) (ny (l8 c) (l8 d))
 | .iface _ x => pq x
 | _ => []
def ac5 : List AVal → List Nat
 | [] => []
 | a :: r => ny (alh a) (ac5 r)
end
mutual
def apr (hl : Nat → Option Blk) : AVal → AVal
 | .own id => match hl id with
  | some ⟨.row e c, false⟩ => .fr e c
  | some ⟨.row _ c, true⟩ => .sl c
  | _ => .bot
 | .agg l => .agg (ak6 hl l)
 | .tuple l => .tuple (ak6 hl l)
 | a => um hl a
def ak6 (hl : Nat → Option Blk) : List AVal → List AVal
 | [] => []
 | a :: r => apr hl a :: ak6 hl r
end
mutual
def alk : AVal → List Nat
 | .own j => [j]
 | .agg l | .tuple l => agd l
 | _ => []
def agd : List AVal → List Nat
 | [] => []
 | a :: r => ny (alk a) (agd r)
end
def afd : List Nat → Bool
 | [] => true
 | a :: r => !ane a r && afd r
mutual
def as0 : Sh → AVal → AVal
 | .sl c, a => as1 c (.sl c) a
 | .fr e c, a => as1 c (.fr e c) a
 | .agg ss, .agg l => .agg (avh ss l)
 | .agg ss, .fn f a c => .fn f a (tu ss c)
 | .alt f fa fc g ga gc, a => ao8 f fa fc g ga gc a
 | _, a => a
def avh : List Sh → List AVal → List AVal
 | s :: ss, a :: r => as0 s a :: avh ss r
 | _, l => l
end
mutual
def bgt : Sh → AVal → List Nat
 | .sl _, .own j => [j]
 | .agg ss, .agg l => aeu ss l
 | _, _ => []
def aeu : List Sh → List AVal → List Nat
 | s :: ss, a :: r => ny (bgt s a) (aeu ss r)
 | _, _ => []
end
def cellV (D : Ctx) (st : ASt) (t : Nat) (ty : TypeId) : Option AVal :=
 match abq D.P ty, jy D.P ty with
 | some g, some sz => match placeOf D (cu st.h) (look st.f t) sz with
  | some mid => bif g then some (ana mid) else match mid with
   | [.arr ..] => none
   | [a] => some a
   | _ => none
  | none => none
 | _, _ => none
def bcm (D : Ctx) (st : ASt) : List ResultVar → Option (List AVal)
 | [] => some []
 | .tmp t :: r => match bcm D st r with
  | some l => some (look st.f t :: l)
  | none => none
 | .cell t ty :: r => match cellV D st t ty, bcm D st r with
  | some a, some l => some (a :: l)
  | _, _ => none
def oneOf : List AVal → AVal
 | [a] => a
 | l => .tuple l
def bfd (D : Ctx) (sig : List Sh) (fn : Func) (st : ASt) (K : AVal → Option R) : Option R :=
 match bcm D st fn.results.toList with
 | none => none
 | some l =>
  bif afd (agd l) then K (oneOf (avh sig (ak6 (cu (ny (freeze (cu st.h) (ny (ac5 l) (aeu sig l)) []) st.h)) l))) else none
def am2 (D : Ctx) (Y : YCtx) : bgx := fun ts vs args h n K =>
 bif Nat.beq args.length Y.ps.size && afd Y.ps.toList && ba2 Y.m Y.ps.toList then
  acs D Y.assign ⟨ny (azb Y.ps.toList args) (azb ts vs), h, n, Y.m⟩ fun ex st => match ex with
   | .normal => acs D Y.body st fun ex st => match ex with
    | .normal => K st.h st.n
    | _ => none
   | _ => none
 else none
def akl : Nat → List AVal → List (Nat × AVal)
 | _, [] => []
 | i, a :: r => (i, a) :: akl (i + 1) r
def bhi (D : Ctx) (fn : Func) (sig : List Sh) (args : List AVal) (K : AVal → Option R) : Option R :=
 match fn.body with
 | none => none
 | some c => bif Nat.ble args.length fn.ntmps then
     acs D c ⟨akl 0 args, [], 0, fn.ntmps⟩ fun ex st => match ex with
      | .exit _ => none
      | .normal => bfd D sig fn st K
      | .ret => bfd D sig fn st K
  else none
def aej (D : Ctx) (fn : Func) : ap1 := fun args h n K =>
 match fn.body with
 | none => none
 | some c => bif Nat.ble args.length fn.ntmps then
     acs D c ⟨akl 0 args, h, n, fn.ntmps⟩ fun ex st => match ex with
      | .exit _ => none
      | .normal => outIn D fn st K
      | .ret => outIn D fn st K
  else none
 where outIn (D : Ctx) (fn : Func) (st : ASt) (K : AVal → Hp → Nat → Option R) : Option R :=
 match bcm D st fn.results.toList with
 | none => none
 | some l => K (oneOf l) st.h st.n
end Go.Abs
