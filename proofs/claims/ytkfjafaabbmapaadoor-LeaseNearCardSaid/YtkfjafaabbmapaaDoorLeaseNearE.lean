/-
  LeaseNear, part 5: an interpreter of my own over abstract values, the pure functions, the walks and the plain law.
-/

import Derived.Test.YtkfjafaabbmapaaDoorLeaseNearD

namespace Go.Abs
open Go Go.RowKit
set_option linter.unusedVariables false
set_option linter.unusedSimpArgs false
def aop (ops : Array Oper) (j : Nat) : Option Nat := (ops[j]?).bind (·.dst)
def axn (ops : Array Oper) (o : Oper) (st : ASt) (F : ASt → Option R) (S : ASt → Option R) : Option R :=
 match o.guard with
 | none => F st
 | some (j, want) => match aop ops j with
  | none => none
  | some t => match look st.f t with
   | .v (.bool b) => br b (bif want then F (st.put (some t) (.v (.bool true))) else S (st.put (some t) (.v (.bool true)))) (bif want then S (st.put (some t) (.v (.bool false))) else F (st.put (some t) (.v (.bool false))))
   | .v (.tuple _) => S st
   | _ => none
def aq7 : List (Nat × apr) → Nat → Option apr
 | [], _ => none
 | (k, s) :: r, t => bif Nat.beq k t then some s else aq7 r t
def bmm (f : List (Nat × AVal)) : Op → Option (Nat × List AVal)
 | .call { callee := .value x, args, .. } => match ev f x with
  | .fn (.func g) first caps => some (g, kr first (kr (evs f args.toList) caps))
  | _ => none
 | _ => none
def bcs (D : Ctx) (f : List (Nat × AVal)) (op : Op) : Option (apr × List AVal) :=
 match bmm f op with
 | some (g, as) => match aq7 D.inl g with
  | some s => some (s, as)
  | none => none
 | none => none
def bg1 (f : List (Nat × AVal)) : Op → Option (List Nat × List AVal × List AVal)
 | .call { callee := .value x, args, .. } => match ev f x with
  | .yld _ ts vs => some (ts, vs, evs f args.toList)
  | _ => none
 | _ => none
def doA (D : Ctx) (o : Oper) (st : ASt) (K : ASt → Option R) : Option R :=
 match bg1 st.f o.op with
 | some (ts, vs, as) => match D.ys with
  | some s => s ts vs as st.h st.n fun h n => K { f := bf1 st.m o.dst (.v (.bool true)) st.f, h := h, n := n, m := st.m }
  | none => none
 | none => match bcs D st.f o.op with
 | some (s, as) => s as st.h st.n fun v h n => K { f := bf1 st.m o.dst v st.f, h := h, n := n, m := st.m }
 | none => opA D o st fun e => K (st.app e o.dst)
def bhl (D : Ctx) (ops : Array Oper) : List Oper → ASt → (ASt → Option R) → Option R
 | [], st, K => K st
 | o :: rest, st, K => axn ops o st (fun st => doA D o st fun st => bhl D ops rest st K) (fun st => bhl D ops rest (st.put o.dst (.v undef)) K)
structure Info where
 looks : List Nat
 dst : Option Nat
 vs : List AVal
 puts : Hp
 cl : List Nat
def tmpsOf : List Operand → List Nat
 | [] => []
 | .tmp t :: r => t :: tmpsOf r
 | _ :: r => tmpsOf r
def nth {α : Type} : List α → Nat → Option α
 | [], _ => none
 | a :: _, 0 => some a
 | _ :: r, n + 1 => nth r n
def lun : List Nat → List Nat → List Nat
 | [], l => l
 | a :: r, l => bif amx a l then lun r l else a :: lun r l
def bds (acc : List Info) (i : Nat) : List Edge → Option (List Nat)
 | [] => some []
 | e :: r => bif Region.binds .any e then
     bif Nat.blt e.on i then
      match nth acc (i - 1 - e.on), bds acc i r with
      | some x, some l => some (lun (e.on :: x.cl) l)
      | _, _ => none
     else none
  else bds acc i r
def asz (d : Option Nat) (l : List Nat) : Bool :=
 match d with
 | none => false
 | some d => amx d l
def aoa (d d' : Option Nat) : Bool :=
 match d, d' with
 | some d, some d' => Nat.beq d d'
 | _, _ => false
def aji : Hp → List AVal → Hp → Bool
 | [], _, _ => false
 | (id, _) :: r, vs, h => ko id vs || (assoc h id).isSome || aji r vs h
def an8 (x y : Info) : Bool :=
 !(asz x.dst y.looks || asz y.dst x.looks || aoa x.dst y.dst || aji x.puts y.vs y.puts || aji y.puts x.vs x.puts)
def auy : List Info → Nat → Info → Bool
 | [], _, _ => true
 | x :: r, n, y => (amx (n - 1) y.cl || an8 x y) && auy r (n - 1) y
def aw5 (ops : Array Oper) (o : Oper) : List Nat :=
 match o.guard with
 | some (j, _) => (aop ops j).toList
 | none => []
def be5 (ops : Array Oper) (o : Oper) (vs : List AVal) (puts : Hp) (cl : List Nat) : Info := ⟨kr (aw5 ops o) (tmpsOf (agw o.op)), o.dst, vs, puts, cl⟩
def arj (ops : Array Oper) (o : Oper) (cl : List Nat) : Info := ⟨aw5 ops o, o.dst, [], [], cl⟩
def ax0 (acc : List Info) (i : Nat) (I : Info) (F : List Info → Option R) : Option R := bif auy acc i I then F (I :: acc) else none
def ar1 (op : Op) (vs : List AVal) : List AVal :=
 match op with
 | .move _ | .assign _ | .pick _ _ _ | .nilCheck _ | .makeFunc _ _ _ | .makeInterface _ _ | .fieldAddr _ _ _ | .box _ _ => []
 | _ => vs
def opD (D : Ctx) (o : Oper) (st : ASt) (K : Eff → Option R) : Option R :=
 core D o.op (evs st.f (agw o.op)) (mask (ar1 o.op (evs st.f (agw o.op))) st.h) st.n K
def ar2 (D : Ctx) (ops : Array Oper) : List Oper → Nat → List Info → ASt → (List Info → ASt → Option R) → Option R
 | [], _, acc, st, K => K acc st
 | o :: rest, i, acc, st, K =>
  match bds acc i o.after.toList with
  | none => none
  | some cl =>
   axn ops o st
    (fun st => opD D o st fun e => ax0 acc i (be5 ops o (ar1 o.op (evs st.f (agw o.op))) e.puts cl) fun acc => ar2 D ops rest (i + 1) acc (st.app e o.dst) K)
    (fun st => ax0 acc i (arj ops o cl) fun acc => ar2 D ops rest (i + 1) acc (st.put o.dst (.v undef)) K)
def ate {α : Type} : List α → Option (List α × α)
 | [] => none
 | a :: r => match ate r with
  | some (x, y) => some (a :: x, y)
  | none => some ([], a)
def allIn : Nat → List Nat → Bool
 | 0, _ => true
 | n + 1, l => amx n l && allIn n l
def bgs (D : Ctx) (ops : Array Oper) (st : ASt) (K : ASt → Option R) : Option R :=
 match ate ops.toList with
 | some (l0, o) => bif (bcs D [] o.op).isSome && o.guard.isNone then
     ar2 D ops l0 0 [] st fun acc st => match bds acc l0.length o.after.toList with
      | some cl => bif allIn l0.length cl then doA D o st K else none
      | none => none
  else ar2 D ops ops.toList 0 [] st fun _ => K
 | none => ar2 D ops ops.toList 0 [] st fun _ => K
def je : Code → Nat
 | .region id _ _ => id
 | .seq a _ => je a
 | .block _ b => je b
 | .loop b => je b
 | .scope b => je b
 | _ => 0
def hintOf : List (Nat × Hint) → Nat → Hint
 | [], _ => ⟨[], [], [], [], none, [], [], []⟩
 | (k, h) :: r, t => bif Nat.beq k t then h else hintOf r t
def bjo (n : Nat) : Bk → Bool
 | .row _ _ => true
 | .box _ l => ajk n l
def bck (f : List (Nat × AVal)) (n : Nat) : List Nat → Option (List (Nat × AVal))
 | [] => some []
 | t :: r => bif bnd n (look f t) then
     match bck f n r with
     | some l => some ((t, look f t) :: l)
     | none => none
  else none
def keepR (g : Nat → AVal) (h : Hp) : Nat → List (Nat × TypeId × Cont) → Option (List (Nat × AVal) × Hp × List Nat)
 | _, [] => some ([], [], [])
 | n, (t, e, c0) :: r => match keepR g h (n + 1) r with
  | none => none
  | some (fs, hs, us) => match g t with
   | .own id => match dn h id with
    | some ⟨.row e' c, false⟩ => bif Nat.beq e e' && !amx id us then some ((t, .own n) :: fs, (n, some ⟨.row e c, false⟩) :: hs, id :: us) else none
    | _ => none
   | .win id 0 len => match dn h id with
    | some ⟨.row e' c, false⟩ => bif Nat.beq e e' && !amx id us then some ((t, .own n) :: fs, (n, some ⟨.row e (c.take len), false⟩) :: hs, id :: us) else none
    | _ => none
   | .v (.slice none 0 0) => bif Nat.beq c0.len 0 then some ((t, .own n) :: fs, (n, some ⟨.row e c0, false⟩) :: hs, us) else none
   | _ => none
def avd (h : Hp) (n : Nat) (us : List Nat) : List Nat → Option Hp
 | [] => some []
 | id :: r => match avd h n us r with
  | none => none
  | some l => bif amx id us then some ((id, none) :: l) else
   match dn h id with
   | none => some ((id, none) :: l)
   | some b => bif bjo n b.b && Nat.blt id n then some ((id, some b) :: l) else none
def bhg : Hp → List Nat → List Nat
 | [], acc => acc
 | (id, _) :: r, acc => bif amx id acc then bhg r acc else bhg r (id :: acc)
def aq1 (hl : Nat → Option Blk) (f : List (Nat × AVal)) : List (Nat × Sh) → List (Nat × AVal)
 | [] => []
 | (t, s) :: r => (t, agy s (ql hl (look f t))) :: aq1 hl f r
def aqv (f : List (Nat × AVal)) : List (Nat × Sh) → List Nat
 | [] => []
 | (t, _) :: r => kr (ng (look f t)) (aqv f r)
def ai8 (l : List (Nat × Sh)) (st : ASt) : ASt :=
 match l with
 | [] => st
 | l => { st with f := kr (aq1 (dn st.h) st.f l) st.f, h := kr (freeze (dn st.h) (aqv st.f l) []) st.h }
def azi : AVal → Bool
 | .own _ | .win _ _ _ => true
 | _ => false
def bal (hl : Nat → Option Blk) (a : AVal) : AVal := bif azi a then ql hl a else a
def aqw (hl : Nat → Option Blk) : List AVal → List AVal
 | [] => []
 | a :: r => bal hl a :: aqw hl r
def amk : List AVal → List Nat
 | [] => []
 | a :: r => bif azi a then kr (ng a) (amk r) else amk r
def aj9 (h : Hp) : List Nat → List Nat
 | [] => []
 | id :: r => match dn h id with
  | some ⟨.box _ l, _⟩ => kr (amk l) (aj9 h r)
  | _ => aj9 h r
def ahi (hl : Nat → Option Blk) (h : Hp) : List Nat → Hp
 | [] => []
 | id :: r => match dn h id with
  | some ⟨.box e l, f⟩ => (id, some ⟨.box e (aqw hl l), f⟩) :: ahi hl h r
  | _ => ahi hl h r
def xu (ids : List Nat) (st : ASt) : ASt :=
 match ids with
 | [] => st
 | ids => { st with h := kr (ahi (dn st.h) (kr (freeze (dn st.h) (aj9 st.h ids) []) st.h) ids) (kr (freeze (dn st.h) (aj9 st.h ids) []) st.h) }
def axt : List AVal → List Nat
 | [] => []
 | .ptr j 0 :: r => j :: axt r
 | _ :: r => axt r
def aqk (f : List (Nat × AVal)) : List Oper → List Nat
 | [] => []
 | o :: r => match o.op with
  | .makeFunc _ first captured => lun (kr (axt (evs f first.toList)) (axt (evs f captured.toList))) (aqk f r)
  | _ => aqk f r
def bl7 (id : Nat) (l : List AVal) : AVal → AVal
 | .ptr j 0 => bif Nat.beq id j then .sta l else .ptr j 0
 | a => a
def bke (id : Nat) (l : List AVal) : List (Nat × AVal) → List (Nat × AVal)
 | [] => []
 | (t, a) :: r => (t, bl7 id l a) :: bke id l r
def aly (id : Nat) (st : ASt) : ASt :=
 match dn st.h id with
 | some ⟨.box _ l, _⟩ => bif ajk 0 l then { st with f := bke id l st.f, h := kr (freeze (dn st.h) [id] []) st.h } else st
 | _ => st
def ao9 : List Nat → ASt → ASt
 | [], st => st
 | id :: r, st => ao9 r (aly id st)
def bgo (D : Ctx) (ops : List Oper) (st : ASt) : ASt := bif D.sta then ao9 (aqk st.f ops) (xu (aqk st.f ops) st) else st
def coB (h : Hp) : List (Nat × List Sh) → Hp
 | [] => []
 | (id, s) :: r => match dn h id with
  | some ⟨.box e l, f⟩ => (id, some ⟨.box e (qb s l), f⟩) :: coB h r
  | _ => coB h r
def bdg (l : List (Nat × List Sh)) (st : ASt) : ASt :=
 match l with
 | [] => st
 | l => { st with h := kr (coB st.h l) st.h }
def ba3 (id : Nat) (d : List AVal) (st : ASt) : ASt :=
 match dn st.h id with
 | some ⟨.box e [.v (.pointer none)], f⟩ => { st with h := (id, some ⟨.box e [.osta 0 d], f⟩) :: st.h }
 | some ⟨.box _ [.ptr j 0], _⟩ => match dn (xu [j] st).h id, dn (xu [j] st).h j with
  | some ⟨.box e [.ptr j' 0], f⟩, some ⟨.box _ l, _⟩ => bif Nat.beq j' j && ajk 0 l && !Nat.beq id j then
      { xu [j] st with h := (id, some ⟨.box e [.osta 1 l], f⟩) :: kr (freeze (dn (xu [j] st).h) [j] []) (xu [j] st).h } else xu [j] st
  | _, _ => xu [j] st
 | _ => st
def ba1 : List (Nat × List AVal) → ASt → ASt
 | [], st => st
 | (id, d) :: r, st => ba1 r (ba3 id d st)
def amj (h : Hint) (st : ASt) : ASt := ba1 h.osb (bdg h.shc (xu h.shb (ai8 h.sls st)))
def bg3 (h : Hint) (st : ASt) : List Nat :=
 match h.gc with
 | none => bhg st.h []
 | some (_, l) => l
def bd9 (h : Hint) (n : Nat) : Nat :=
 match h.gc with
 | none => n
 | some (m, _) => bif Nat.ble n m then m else n
def bbp (h : Hp) (b : Nat) : AVal := match dn h b with
 | some ⟨.box _ [.own j], _⟩ => .own j
 | some ⟨.box _ [.v (.slice none 0 0)], _⟩ => .v (.slice none 0 0)
 | _ => .bot
def ba8 (st : ASt) (t : Nat) : AVal := bif Nat.blt t 1000000 then look st.f t else bbp st.h (t - 1000000)
def bg7 : List (Nat × TypeId × Cont) → List Nat
 | [] => []
 | (t, _, _) :: r => bif Nat.blt t 1000000 then bg7 r else (t - 1000000) :: bg7 r
def clr (h : Hp) : List Nat → Hp
 | [] => []
 | b :: r => match dn h b with
  | some ⟨.box e [.own _], f⟩ => (b, some ⟨.box e [.bot], f⟩) :: clr h r
  | some ⟨.box e [.v (.slice none 0 0)], f⟩ => (b, some ⟨.box e [.bot], f⟩) :: clr h r
  | _ => clr h r
def bjm (h : Hp) (l : List Nat) : Hp := match l with
 | [] => h
 | l => kr (clr h l) h
def slotsOf : List (Nat × AVal) → List (Nat × AVal)
 | [] => []
 | (t, x) :: r => bif Nat.blt t 1000000 then (t, x) :: slotsOf r else slotsOf r
def bls (fs : List (Nat × AVal)) (id : Nat) (b : Option Blk) : Option Blk := match b with
 | some ⟨.box e [.bot], f⟩ => match assoc fs (id + 1000000) with
  | some x => some ⟨.box e [x], f⟩
  | none => b
 | _ => b
def azk (fs : List (Nat × AVal)) : Hp → Hp
 | [] => []
 | (id, b) :: r => (id, bls fs id b) :: azk fs r
def bem (fs : List (Nat × AVal)) (l : List Nat) (h : Hp) : Hp := match l with
 | [] => h
 | _ => azk fs h
def norm (h : Hint) (n : Nat) (ids : List Nat) (st : ASt) : Option ASt :=
 match keepR (ba8 st) (bjm st.h (bg7 h.rows)) n h.rows with
 | none => none
 | some (fs, hs, us) => match bck st.f n h.keep, avd (bjm st.h (bg7 h.rows)) n us ids with
  | some f, some hh => some { f := kr (slotsOf fs) f, h := bem fs (bg7 h.rows) (kr hs hh), n := n + h.rows.length, m := st.m }
  | _, _ => none
def arb : List (Nat × wm) → Nat → Option wm
 | [], _ => none
 | (k, s) :: r, t => bif Nat.beq k t then some s else arb r t
def bdm (f : List (Nat × AVal)) : List Nat → List (Nat × AVal)
 | [] => []
 | t :: r => (t, look f t) :: bdm f r
def bfu (h : Hint) (n : Nat) (ids : List Nat) (K : AExit → ASt → Option R) (next : ASt → Option R) (ex : AExit) (st : ASt) : Option R :=
 match ex with
 | .normal => match norm h n ids (amj h st) with
  | some st => next st
  | none => none
 | .exit id => match norm h n ids (amj h st) with
  | some st => K (.exit id) st
  | none => none
 | .ret => K .ret { st with f := bdm st.f h.boxes }
def iter (h : Hint) (n : Nat) (ids : List Nat) (F : ASt → (AExit → ASt → Option R) → Option R) (K : AExit → ASt → Option R) : Nat → ASt → Option R
 | 0, st => F st (bfu h n ids K fun _ => none)
 | k + 1, st => F st (bfu h n ids K (iter h n ids F K k))
def keysOf : Hp → List Nat
 | [] => []
 | (id, _) :: r => id :: keysOf r
def an4 {α : Type} : Nat → List α → List α
 | 0, l => l
 | _ + 1, [] => []
 | n + 1, _ :: r => an4 n r
def apx : List (Nat × RngE) → Nat → Option RngE
 | [], _ => none
 | (k, s) :: r, t => bif Nat.beq k t then some s else apx r t
def looks (f : List (Nat × AVal)) : List Nat → List AVal
 | [] => []
 | t :: r => look f t :: looks f r
def avp (id : Nat) : Hp → Bool
 | [] => true
 | (_, some ⟨.box _ l, _⟩) :: r => !ko id l && avp id r
 | _ :: r => avp id r
def noY : Option YCtx → Bool
 | none => true
 | some _ => false
def bft (D : Ctx) (st : ASt) (g : Operand) (body : Code) : Option (RngE × List AVal × List AVal) :=
 match ev st.f g with
 | .fn (.func gid) first caps => match apx D.rng (je body) with
  | some e => bif D.top && noY D.y && Nat.beq gid e.g && Nat.beq st.m e.m then some (e, first, caps) else none
  | none => none
 | _ => none
def abn (D : Ctx) : Code → ASt → (AExit → ASt → Option R) → Option R
 | .skip, st, K => K .normal st
 | .label _, st, K => K .normal st
 | .region _ ops false, st, K => bhl D ops ops.toList (bgo D ops.toList st) fun st => K .normal st
 | .region _ ops true, st, K => bgs D ops (bgo D ops.toList st) fun st => K .normal st
 | .seq a b, st, K => abn D a st fun ex st' => match ex with
  | .normal => abn D b st' K
  | .exit id => K (.exit id) st'
  | .ret => K .ret st'
 | .cond c x y, st, K => match ev st.f c with
  | .v (.bool b) => br b (abn D x st K) (abn D y st K)
  | _ => none
 | .block id c, st, K => abn D c st fun ex st' => match ex with
  | .normal => K .normal st'
  | .exit j => bif Nat.beq j id then K .normal st' else K (.exit j) st'
  | .ret => K .ret st'
 | .loop c, st, K => match norm (hintOf D.hints (je c)) (bd9 (hintOf D.hints (je c)) st.n) (bg3 (hintOf D.hints (je c)) (amj (hintOf D.hints (je c)) st)) (amj (hintOf D.hints (je c)) st) with
  | none => none
  | some st => match arb D.loops (je c) with
   | some s => s st K
   | none => none
 | .exit id, st, K => K (.exit id) st
 | .ret, st, K => K .ret st
 | .rangeFunc g _ _ body, st, K => match bft D st g body with
  | some (e, first, caps) => e.s (kr first (.yld st.n e.ts (looks st.f e.ts) :: caps)) st.h (st.n + 1) fun _ h n => bif avp st.n h then K .normal { f := st.f, h := h, n := n, m := st.m } else none
  | none => none
 | _, _, _ => none
def dw : Code → List Code
 | .seq a b => dw a ++ dw b
 | .cond _ a b => dw a ++ dw b
 | .block _ c => dw c
 | .loop c => c :: dw c
 | _ => []
def qc : Code → List Code
 | .seq a b => qc a ++ qc b
 | .cond _ a b => qc a ++ qc b
 | .block _ c => qc c
 | .loop c => qc c
 | .rangeFunc g ps a b => [.rangeFunc g ps a b]
 | _ => []
def azj : List Nat → List AVal → List (Nat × AVal)
 | t :: ts, a :: r => (t, a) :: azj ts r
 | _, _ => []
def ba9 (m : Nat) : List Nat → Bool
 | [] => true
 | t :: r => Nat.blt t m && ba9 m r
def itA (D : Ctx) (c : Code) (K : AExit → ASt → Option R) (k : Nat) (st : ASt) : Option R :=
 iter (hintOf D.hints (je c)) (st.n - (hintOf D.hints (je c)).rows.length) (keysOf (an4 (hintOf D.hints (je c)).rows.length st.h)) (abn D c) K k st
def mq (D : Ctx) (c : Code) : Prop := ∀ s, arb D.loops (je c) = some s → ∀ st K r, s st K = some r → ∃ k, itA D c K k st = some r
mutual
def akf : AVal → List Nat
 | .win j _ _ | .awin j _ _ _ _ => [j]
 | .agg l | .tuple l => ach l
 | .fn _ a b => kr (j6 a) (j6 b)
 | .alt _ _ a b _ c d => kr (kr (j6 a) (j6 b)) (kr (j6 c) (j6 d))
 | .iface _ x => ng x
 | _ => []
def ach : List AVal → List Nat
 | [] => []
 | a :: r => kr (akf a) (ach r)
end
mutual
def am1 (hl : Nat → Option Blk) : AVal → AVal
 | .own id => match hl id with
  | some ⟨.row e c, false⟩ => .fr e c
  | some ⟨.row _ c, true⟩ => .sl c
  | _ => .bot
 | .agg l => .agg (ajz hl l)
 | .tuple l => .tuple (ajz hl l)
 | a => ql hl a
def ajz (hl : Nat → Option Blk) : List AVal → List AVal
 | [] => []
 | a :: r => am1 hl a :: ajz hl r
end
mutual
def aj2 : AVal → List Nat
 | .own j => [j]
 | .agg l | .tuple l => afh l
 | _ => []
def afh : List AVal → List Nat
 | [] => []
 | a :: r => kr (aj2 a) (afh r)
end
def aem : List Nat → Bool
 | [] => true
 | a :: r => !amx a r && aem r
mutual
def as6 : Sh → AVal → AVal
 | .sl c, a => at1 c (.sl c) a
 | .fr e c, a => at1 c (.fr e c) a
 | .agg ss, .agg l => .agg (avq ss l)
 | .agg ss, .fn f a c => .fn f a (qb ss c)
 | .alt f fa fc g ga gc, a => aow f fa fc g ga gc a
 | _, a => a
def avq : List Sh → List AVal → List AVal
 | s :: ss, a :: r => as6 s a :: avq ss r
 | _, l => l
end
mutual
def bgy : Sh → AVal → List Nat
 | .sl _, .own j => [j]
 | .agg ss, .agg l => adt ss l
 | _, _ => []
def adt : List Sh → List AVal → List Nat
 | s :: ss, a :: r => kr (bgy s a) (adt ss r)
 | _, _ => []
end
def cellV (D : Ctx) (st : ASt) (t : Nat) (ty : TypeId) : Option AVal :=
 match adr D.P ty, jq D.P ty with
 | some g, some sz => match placeOf D (dn st.h) (look st.f t) sz with
  | some mid => bif g then some (aoq mid) else match mid with
   | [.arr ..] => none
   | [a] => some a
   | _ => none
  | none => none
 | _, _ => none
def bco (D : Ctx) (st : ASt) : List ResultVar → Option (List AVal)
 | [] => some []
 | .tmp t :: r => match bco D st r with
  | some l => some (look st.f t :: l)
  | none => none
 | .cell t ty :: r => match cellV D st t ty, bco D st r with
  | some a, some l => some (a :: l)
  | _, _ => none
def oneOf : List AVal → AVal
 | [a] => a
 | l => .tuple l
def bez (D : Ctx) (sig : List Sh) (fn : Func) (st : ASt) (K : AVal → Option R) : Option R :=
 match bco D st fn.results.toList with
 | none => none
 | some l =>
  bif aem (afh l) then K (oneOf (avq sig (ajz (dn (kr (freeze (dn st.h) (kr (ach l) (adt sig l)) []) st.h)) l))) else none
def avm (D : Ctx) (Y : YCtx) : bg4 := fun ts vs args h n K =>
 bif Nat.beq args.length Y.ps.size && aem Y.ps.toList && ba9 Y.m Y.ps.toList then
  abn D Y.assign ⟨kr (azj Y.ps.toList args) (azj ts vs), h, n, Y.m⟩ fun ex st => match ex with
   | .normal => abn D Y.body st fun ex st => match ex with
    | .normal => K st.h st.n
    | _ => none
   | _ => none
 else none
def ai3 : Nat → List AVal → List (Nat × AVal)
 | _, [] => []
 | i, a :: r => (i, a) :: ai3 (i + 1) r
def bgt (D : Ctx) (fn : Func) (sig : List Sh) (args : List AVal) (K : AVal → Option R) : Option R :=
 match fn.body with
 | none => none
 | some c => bif Nat.ble args.length fn.ntmps then
     abn D c ⟨ai3 0 args, [], 0, fn.ntmps⟩ fun ex st => match ex with
      | .exit _ => none
      | .normal => bez D sig fn st K
      | .ret => bez D sig fn st K
  else none
def aag (D : Ctx) (fn : Func) : apr := fun args h n K =>
 match fn.body with
 | none => none
 | some c => bif Nat.ble args.length fn.ntmps then
     abn D c ⟨ai3 0 args, h, n, fn.ntmps⟩ fun ex st => match ex with
      | .exit _ => none
      | .normal => outIn D fn st K
      | .ret => outIn D fn st K
  else none
 where outIn (D : Ctx) (fn : Func) (st : ASt) (K : AVal → Hp → Nat → Option R) : Option R :=
 match bco D st fn.results.toList with
 | none => none
 | some l => K (oneOf l) st.h st.n
end Go.Abs
