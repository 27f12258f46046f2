/-
  LeaseOnce, part 5: an interpreter of my own over abstract values, the pure functions, the walks and the plain law.
-/

import Derived.Test.YtkfjafaabbmapaaDoorLeaseOnceD

namespace Go.Abs
open Go Go.RowKit
set_option linter.unusedVariables false
set_option linter.unusedSimpArgs false
def aoe (ops : Array Oper) (j : Nat) : Option Nat := (ops[j]?).bind (·.dst)
def awz (ops : Array Oper) (o : Oper) (st : ASt) (F : ASt → Option R) (S : ASt → Option R) : Option R :=
 match o.guard with
 | none => F st
 | some (j, want) => match aoe ops j with
  | none => none
  | some t => match look st.f t with
   | .v (.bool b) => br b (bif want then F (st.put (some t) (.v (.bool true))) else S (st.put (some t) (.v (.bool true)))) (bif want then S (st.put (some t) (.v (.bool false))) else F (st.put (some t) (.v (.bool false))))
   | .v (.tuple _) => S st
   | _ => none
def aqd : List (Nat × aph) → Nat → Option aph
 | [], _ => none
 | (k, s) :: r, t => bif Nat.beq k t then some s else aqd r t
def bl5 (f : List (Nat × AVal)) : Op → Option (Nat × List AVal)
 | .call { callee := .value x, args, .. } => match ev f x with
  | .fn (.func g) first caps => some (g, kr first (kr (evs f args.toList) caps))
  | _ => none
 | _ => none
def bcr (D : Ctx) (f : List (Nat × AVal)) (op : Op) : Option (aph × List AVal) :=
 match bl5 f op with
 | some (g, as) => match aqd D.inl g with
  | some s => some (s, as)
  | none => none
 | none => none
def bf9 (f : List (Nat × AVal)) : Op → Option (List Nat × List AVal × List AVal)
 | .call { callee := .value x, args, .. } => match ev f x with
  | .yld _ ts vs => some (ts, vs, evs f args.toList)
  | _ => none
 | _ => none
def doA (D : Ctx) (o : Oper) (st : ASt) (K : ASt → Option R) : Option R :=
 match bf9 st.f o.op with
 | some (ts, vs, as) => match D.ys with
  | some s => s ts vs as st.h st.n fun h n => K { f := bfn st.m o.dst (.v (.bool true)) st.f, h := h, n := n, m := st.m }
  | none => none
 | none => match bcr D st.f o.op with
 | some (s, as) => s as st.h st.n fun v h n => K { f := bfn st.m o.dst v st.f, h := h, n := n, m := st.m }
 | none => opA D o st fun e => K (st.app e o.dst)
def bhd (D : Ctx) (ops : Array Oper) : List Oper → ASt → (ASt → Option R) → Option R
 | [], st, K => K st
 | o :: rest, st, K => awz ops o st (fun st => doA D o st fun st => bhd D ops rest st K) (fun st => bhd D ops rest (st.put o.dst (.v undef)) K)
structure Info where
 looks : List Nat
 dst : Option Nat
 vs : List AVal
 puts : Hp
 cl : List Nat
def tmpsOf : List Operand → List Nat
 | [] => []
 | .tmp t :: r => t :: tmpsOf r
 | _ :: r => tmpsOf r
def nth {α : Type} : List α → Nat → Option α
 | [], _ => none
 | a :: _, 0 => some a
 | _ :: r, n + 1 => nth r n
def lun : List Nat → List Nat → List Nat
 | [], l => l
 | a :: r, l => bif aml a l then lun r l else a :: lun r l
def bdq (acc : List Info) (i : Nat) : List Edge → Option (List Nat)
 | [] => some []
 | e :: r => bif Region.binds .any e then
     bif Nat.blt e.on i then
      match nth acc (i - 1 - e.on), bdq acc i r with
      | some x, some l => some (lun (e.on :: x.cl) l)
      | _, _ => none
     else none
  else bdq acc i r
def arq (d : Option Nat) (l : List Nat) : Bool :=
 match d with
 | none => false
 | some d => aml d l
def an5 (d d' : Option Nat) : Bool :=
 match d, d' with
 | some d, some d' => Nat.beq d d'
 | _, _ => false
def ai0 : Hp → List AVal → Hp → Bool
 | [], _, _ => false
 | (id, _) :: r, vs, h => j6 id vs || (assoc h id).isSome || ai0 r vs h
def anu (x y : Info) : Bool :=
 !(arq x.dst y.looks || arq y.dst x.looks || an5 x.dst y.dst || ai0 x.puts y.vs y.puts || ai0 y.puts x.vs x.puts)
def au8 : List Info → Nat → Info → Bool
 | [], _, _ => true
 | x :: r, n, y => (aml (n - 1) y.cl || anu x y) && au8 r (n - 1) y
def axh (ops : Array Oper) (o : Oper) : List Nat :=
 match o.guard with
 | some (j, _) => (aoe ops j).toList
 | none => []
def ben (ops : Array Oper) (o : Oper) (vs : List AVal) (puts : Hp) (cl : List Nat) : Info := ⟨kr (axh ops o) (tmpsOf (agu o.op)), o.dst, vs, puts, cl⟩
def ar4 (ops : Array Oper) (o : Oper) (cl : List Nat) : Info := ⟨axh ops o, o.dst, [], [], cl⟩
def awy (acc : List Info) (i : Nat) (I : Info) (F : List Info → Option R) : Option R := bif au8 acc i I then F (I :: acc) else none
def arv (op : Op) (vs : List AVal) : List AVal :=
 match op with
 | .move _ | .assign _ | .pick _ _ _ | .nilCheck _ | .makeFunc _ _ _ | .makeInterface _ _ | .fieldAddr _ _ _ | .box _ _ => []
 | _ => vs
def opD (D : Ctx) (o : Oper) (st : ASt) (K : Eff → Option R) : Option R :=
 core D o.op (evs st.f (agu o.op)) (mask (arv o.op (evs st.f (agu o.op))) st.h) st.n K
def arp (D : Ctx) (ops : Array Oper) : List Oper → Nat → List Info → ASt → (List Info → ASt → Option R) → Option R
 | [], _, acc, st, K => K acc st
 | o :: rest, i, acc, st, K =>
  match bdq acc i o.after.toList with
  | none => none
  | some cl =>
   awz ops o st
    (fun st => opD D o st fun e => awy acc i (ben ops o (arv o.op (evs st.f (agu o.op))) e.puts cl) fun acc => arp D ops rest (i + 1) acc (st.app e o.dst) K)
    (fun st => awy acc i (ar4 ops o cl) fun acc => arp D ops rest (i + 1) acc (st.put o.dst (.v undef)) K)
def aut {α : Type} : List α → Option (List α × α)
 | [] => none
 | a :: r => match aut r with
  | some (x, y) => some (a :: x, y)
  | none => some ([], a)
def allIn : Nat → List Nat → Bool
 | 0, _ => true
 | n + 1, l => aml n l && allIn n l
def bg9 (D : Ctx) (ops : Array Oper) (st : ASt) (K : ASt → Option R) : Option R :=
 match aut ops.toList with
 | some (l0, o) => bif (bcr D [] o.op).isSome && o.guard.isNone then
     arp D ops l0 0 [] st fun acc st => match bdq acc l0.length o.after.toList with
      | some cl => bif allIn l0.length cl then doA D o st K else none
      | none => none
  else arp D ops ops.toList 0 [] st fun _ => K
 | none => arp D ops ops.toList 0 [] st fun _ => K
def jd : Code → Nat
 | .region id _ _ => id
 | .seq a _ => jd a
 | .block _ b => jd b
 | .loop b => jd b
 | .scope b => jd b
 | _ => 0
def hintOf : List (Nat × Hint) → Nat → Hint
 | [], _ => ⟨[], [], [], [], none, [], [], []⟩
 | (k, h) :: r, t => bif Nat.beq k t then h else hintOf r t
def bj3 (n : Nat) : Bk → Bool
 | .row _ _ => true
 | .box _ l => ajd n l
def bbr (f : List (Nat × AVal)) (n : Nat) : List Nat → Option (List (Nat × AVal))
 | [] => some []
 | t :: r => bif bnd n (look f t) then
     match bbr f n r with
     | some l => some ((t, look f t) :: l)
     | none => none
  else none
def keepR (g : Nat → AVal) (h : Hp) : Nat → List (Nat × TypeId × Cont) → Option (List (Nat × AVal) × Hp × List Nat)
 | _, [] => some ([], [], [])
 | n, (t, e, c0) :: r => match keepR g h (n + 1) r with
  | none => none
  | some (fs, hs, us) => match g t with
   | .own id => match dh h id with
    | some ⟨.row e' c, false⟩ => bif Nat.beq e e' && !aml id us then some ((t, .own n) :: fs, (n, some ⟨.row e c, false⟩) :: hs, id :: us) else none
    | _ => none
   | .win id 0 len => match dh h id with
    | some ⟨.row e' c, false⟩ => bif Nat.beq e e' && !aml id us then some ((t, .own n) :: fs, (n, some ⟨.row e (c.take len), false⟩) :: hs, id :: us) else none
    | _ => none
   | .v (.slice none 0 0) => bif Nat.beq c0.len 0 then some ((t, .own n) :: fs, (n, some ⟨.row e c0, false⟩) :: hs, us) else none
   | _ => none
def au6 (h : Hp) (n : Nat) (us : List Nat) : List Nat → Option Hp
 | [] => some []
 | id :: r => match au6 h n us r with
  | none => none
  | some l => bif aml id us then some ((id, none) :: l) else
   match dh h id with
   | none => some ((id, none) :: l)
   | some b => bif bj3 n b.b && Nat.blt id n then some ((id, some b) :: l) else none
def bgh : Hp → List Nat → List Nat
 | [], acc => acc
 | (id, _) :: r, acc => bif aml id acc then bgh r acc else bgh r (id :: acc)
def aqu (hl : Nat → Option Blk) (f : List (Nat × AVal)) : List (Nat × Sh) → List (Nat × AVal)
 | [] => []
 | (t, s) :: r => (t, agt s (qj hl (look f t))) :: aqu hl f r
def apu (f : List (Nat × AVal)) : List (Nat × Sh) → List Nat
 | [] => []
 | (t, _) :: r => kr (mq (look f t)) (apu f r)
def aiy (l : List (Nat × Sh)) (st : ASt) : ASt :=
 match l with
 | [] => st
 | l => { st with f := kr (aqu (dh st.h) st.f l) st.f, h := kr (freeze (dh st.h) (apu st.f l) []) st.h }
def aza : AVal → Bool
 | .own _ | .win _ _ _ => true
 | _ => false
def azy (hl : Nat → Option Blk) (a : AVal) : AVal := bif aza a then qj hl a else a
def aqx (hl : Nat → Option Blk) : List AVal → List AVal
 | [] => []
 | a :: r => azy hl a :: aqx hl r
def als : List AVal → List Nat
 | [] => []
 | a :: r => bif aza a then kr (mq a) (als r) else als r
def ajh (h : Hp) : List Nat → List Nat
 | [] => []
 | id :: r => match dh h id with
  | some ⟨.box _ l, _⟩ => kr (als l) (ajh h r)
  | _ => ajh h r
def ahm (hl : Nat → Option Blk) (h : Hp) : List Nat → Hp
 | [] => []
 | id :: r => match dh h id with
  | some ⟨.box e l, f⟩ => (id, some ⟨.box e (aqx hl l), f⟩) :: ahm hl h r
  | _ => ahm hl h r
def xg (ids : List Nat) (st : ASt) : ASt :=
 match ids with
 | [] => st
 | ids => { st with h := kr (ahm (dh st.h) (kr (freeze (dh st.h) (ajh st.h ids) []) st.h) ids) (kr (freeze (dh st.h) (ajh st.h ids) []) st.h) }
def awu : List AVal → List Nat
 | [] => []
 | .ptr j 0 :: r => j :: awu r
 | _ :: r => awu r
def apx (f : List (Nat × AVal)) : List Oper → List Nat
 | [] => []
 | o :: r => match o.op with
  | .makeFunc _ first captured => lun (kr (awu (evs f first.toList)) (awu (evs f captured.toList))) (apx f r)
  | _ => apx f r
def bl2 (id : Nat) (l : List AVal) : AVal → AVal
 | .ptr j 0 => bif Nat.beq id j then .sta l else .ptr j 0
 | a => a
def bhz (id : Nat) (l : List AVal) : List (Nat × AVal) → List (Nat × AVal)
 | [] => []
 | (t, a) :: r => (t, bl2 id l a) :: bhz id l r
def ame (id : Nat) (st : ASt) : ASt :=
 match dh st.h id with
 | some ⟨.box _ l, _⟩ => bif ajd 0 l then { st with f := bhz id l st.f, h := kr (freeze (dh st.h) [id] []) st.h } else st
 | _ => st
def anl : List Nat → ASt → ASt
 | [], st => st
 | id :: r, st => anl r (ame id st)
def bfv (D : Ctx) (ops : List Oper) (st : ASt) : ASt := bif D.sta then anl (apx st.f ops) (xg (apx st.f ops) st) else st
def coB (h : Hp) : List (Nat × List Sh) → Hp
 | [] => []
 | (id, s) :: r => match dh h id with
  | some ⟨.box e l, f⟩ => (id, some ⟨.box e (p9 s l), f⟩) :: coB h r
  | _ => coB h r
def bds (l : List (Nat × List Sh)) (st : ASt) : ASt :=
 match l with
 | [] => st
 | l => { st with h := kr (coB st.h l) st.h }
def bbf (id : Nat) (d : List AVal) (st : ASt) : ASt :=
 match dh st.h id with
 | some ⟨.box e [.v (.pointer none)], f⟩ => { st with h := (id, some ⟨.box e [.osta 0 d], f⟩) :: st.h }
 | some ⟨.box _ [.ptr j 0], _⟩ => match dh (xg [j] st).h id, dh (xg [j] st).h j with
  | some ⟨.box e [.ptr j' 0], f⟩, some ⟨.box _ l, _⟩ => bif Nat.beq j' j && ajd 0 l && !Nat.beq id j then
      { xg [j] st with h := (id, some ⟨.box e [.osta 1 l], f⟩) :: kr (freeze (dh (xg [j] st).h) [j] []) (xg [j] st).h } else xg [j] st
  | _, _ => xg [j] st
 | _ => st
def bb6 : List (Nat × List AVal) → ASt → ASt
 | [], st => st
 | (id, d) :: r, st => bb6 r (bbf id d st)
def amg (h : Hint) (st : ASt) : ASt := bb6 h.osb (bds h.shc (xg h.shb (aiy h.sls st)))
def bgx (h : Hint) (st : ASt) : List Nat :=
 match h.gc with
 | none => bgh st.h []
 | some (_, l) => l
def bdf (h : Hint) (n : Nat) : Nat :=
 match h.gc with
 | none => n
 | some (m, _) => bif Nat.ble n m then m else n
def bcj (h : Hp) (b : Nat) : AVal := match dh h b with
 | some ⟨.box _ [.own j], _⟩ => .own j
 | some ⟨.box _ [.v (.slice none 0 0)], _⟩ => .v (.slice none 0 0)
 | _ => .bot
def ba0 (st : ASt) (t : Nat) : AVal := bif Nat.blt t 1000000 then look st.f t else bcj st.h (t - 1000000)
def bfh : List (Nat × TypeId × Cont) → List Nat
 | [] => []
 | (t, _, _) :: r => bif Nat.blt t 1000000 then bfh r else (t - 1000000) :: bfh r
def clr (h : Hp) : List Nat → Hp
 | [] => []
 | b :: r => match dh h b with
  | some ⟨.box e [.own _], f⟩ => (b, some ⟨.box e [.bot], f⟩) :: clr h r
  | some ⟨.box e [.v (.slice none 0 0)], f⟩ => (b, some ⟨.box e [.bot], f⟩) :: clr h r
  | _ => clr h r
def bju (h : Hp) (l : List Nat) : Hp := match l with
 | [] => h
 | l => kr (clr h l) h
def slotsOf : List (Nat × AVal) → List (Nat × AVal)
 | [] => []
 | (t, x) :: r => bif Nat.blt t 1000000 then (t, x) :: slotsOf r else slotsOf r
def blc (fs : List (Nat × AVal)) (id : Nat) (b : Option Blk) : Option Blk := match b with
 | some ⟨.box e [.bot], f⟩ => match assoc fs (id + 1000000) with
  | some x => some ⟨.box e [x], f⟩
  | none => b
 | _ => b
def azd (fs : List (Nat × AVal)) : Hp → Hp
 | [] => []
 | (id, b) :: r => (id, blc fs id b) :: azd fs r
def be6 (fs : List (Nat × AVal)) (l : List Nat) (h : Hp) : Hp := match l with
 | [] => h
 | _ => azd fs h
def norm (h : Hint) (n : Nat) (ids : List Nat) (st : ASt) : Option ASt :=
 match keepR (ba0 st) (bju st.h (bfh h.rows)) n h.rows with
 | none => none
 | some (fs, hs, us) => match bbr st.f n h.keep, au6 (bju st.h (bfh h.rows)) n us ids with
  | some f, some hh => some { f := kr (slotsOf fs) f, h := be6 fs (bfh h.rows) (kr hs hh), n := n + h.rows.length, m := st.m }
  | _, _ => none
def apt : List (Nat × w9) → Nat → Option w9
 | [], _ => none
 | (k, s) :: r, t => bif Nat.beq k t then some s else apt r t
def bed (f : List (Nat × AVal)) : List Nat → List (Nat × AVal)
 | [] => []
 | t :: r => (t, look f t) :: bed f r
def bfm (h : Hint) (n : Nat) (ids : List Nat) (K : AExit → ASt → Option R) (next : ASt → Option R) (ex : AExit) (st : ASt) : Option R :=
 match ex with
 | .normal => match norm h n ids (amg h st) with
  | some st => next st
  | none => none
 | .exit id => match norm h n ids (amg h st) with
  | some st => K (.exit id) st
  | none => none
 | .ret => K .ret { st with f := bed st.f h.boxes }
def iter (h : Hint) (n : Nat) (ids : List Nat) (F : ASt → (AExit → ASt → Option R) → Option R) (K : AExit → ASt → Option R) : Nat → ASt → Option R
 | 0, st => F st (bfm h n ids K fun _ => none)
 | k + 1, st => F st (bfm h n ids K (iter h n ids F K k))
def keysOf : Hp → List Nat
 | [] => []
 | (id, _) :: r => id :: keysOf r
def ant {α : Type} : Nat → List α → List α
 | 0, l => l
 | _ + 1, [] => []
 | n + 1, _ :: r => ant n r
def aqo : List (Nat × RngE) → Nat → Option RngE
 | [], _ => none
 | (k, s) :: r, t => bif Nat.beq k t then some s else aqo r t
def looks (f : List (Nat × AVal)) : List Nat → List AVal
 | [] => []
 | t :: r => look f t :: looks f r
def atv (id : Nat) : Hp → Bool
 | [] => true
 | (_, some ⟨.box _ l, _⟩) :: r => !j6 id l && atv id r
 | _ :: r => atv id r
def noY : Option YCtx → Bool
 | none => true
 | some _ => false
def bfk (D : Ctx) (st : ASt) (g : Operand) (body : Code) : Option (RngE × List AVal × List AVal) :=
 match ev st.f g with
 | .fn (.func gid) first caps => match aqo D.rng (jd body) with
  | some e => bif D.top && noY D.y && Nat.beq gid e.g && Nat.beq st.m e.m then some (e, first, caps) else none
  | none => none
 | _ => none
def aby (D : Ctx) : Code → ASt → (AExit → ASt → Option R) → Option R
 | .skip, st, K => K .normal st
 | .label _, st, K => K .normal st
 | .region _ ops false, st, K => bhd D ops ops.toList (bfv D ops.toList st) fun st => K .normal st
 | .region _ ops true, st, K => bg9 D ops (bfv D ops.toList st) fun st => K .normal st
 | .seq a b, st, K => aby D a st fun ex st' => match ex with
  | .normal => aby D b st' K
  | .exit id => K (.exit id) st'
  | .ret => K .ret st'
 | .cond c x y, st, K => match ev st.f c with
  | .v (.bool b) => br b (aby D x st K) (aby D y st K)
  | _ => none
 | .block id c, st, K => aby D c st fun ex st' => match ex with
  | .normal => K .normal st'
  | .exit j => bif Nat.beq j id then K .normal st' else K (.exit j) st'
  | .ret => K .ret st'
 | .loop c, st, K => match norm (hintOf D.hints (jd c)) (bdf (hintOf D.hints (jd c)) st.n) (bgx (hintOf D.hints (jd c)) (amg (hintOf D.hints (jd c)) st)) (amg (hintOf D.hints (jd c)) st) with
  | none => none
  | some st => match apt D.loops (jd c) with
   | some s => s st K
   | none => none
 | .exit id, st, K => K (.exit id) st
 | .ret, st, K => K .ret st
 | .rangeFunc g _ _ body, st, K => match bfk D st g body with
  | some (e, first, caps) => e.s (kr first (.yld st.n e.ts (looks st.f e.ts) :: caps)) st.h (st.n + 1) fun _ h n => bif atv st.n h then K .normal { f := st.f, h := h, n := n, m := st.m } else none
  | none => none
 | _, _, _ => none
def dn : Code → List Code
 | .seq a b => dn a ++ dn b
 | .cond _ a b => dn a ++ dn b
 | .block _ c => dn c
 | .loop c => c :: dn c
 | _ => []
def pz : Code → List Code
 | .seq a b => pz a ++ pz b
 | .cond _ a b => pz a ++ pz b
 | .block _ c => pz c
 | .loop c => pz c
 | .rangeFunc g ps a b => [.rangeFunc g ps a b]
 | _ => []
def azc : List Nat → List AVal → List (Nat × AVal)
 | t :: ts, a :: r => (t, a) :: azc ts r
 | _, _ => []
def bap (m : Nat) : List Nat → Bool
 | [] => true
 | t :: r => Nat.blt t m && bap m r
def itA (D : Ctx) (c : Code) (K : AExit → ASt → Option R) (k : Nat) (st : ASt) : Option R :=
 iter (hintOf D.hints (jd c)) (st.n - (hintOf D.hints (jd c)).rows.length) (keysOf (ant (hintOf D.hints (jd c)).rows.length st.h)) (aby D c) K k st
def mo (D : Ctx) (c : Code) : Prop := ∀ s, apt D.loops (jd c) = some s → ∀ st K r, s st K = some r → ∃ k, itA D c K k st = some r
mutual
def ajp : AVal → List Nat
 | .win j _ _ | .awin j _ _ _ _ => [j]
 | .agg l | .tuple l => acg l
 | .fn _ a b => kr (j5 a) (j5 b)
 | .alt _ _ a b _ c d => kr (kr (j5 a) (j5 b)) (kr (j5 c) (j5 d))
 | .iface _ x => mq x
 | _ => []
def acg : List AVal → List Nat
 | [] => []
 | a :: r => kr (ajp a) (acg r)
end
mutual
def amv (hl : Nat → Option Blk) : AVal → AVal
 | .own id => match hl id with
  | some ⟨.row e c, false⟩ => .fr e c
  | some ⟨.row _ c, true⟩ => .sl c
  | _ => .bot
 | .agg l => .agg (ajj hl l)
 | .tuple l => .tuple (ajj hl l)
 | a => qj hl a
def ajj (hl : Nat → Option Blk) : List AVal → List AVal
 | [] => []
 | a :: r => amv hl a :: ajj hl r
end
mutual
def ajy : AVal → List Nat
 | .own j => [j]
 | .agg l | .tuple l => afb l
 | _ => []
def afb : List AVal → List Nat
 | [] => []
 | a :: r => kr (ajy a) (afb r)
end
def aee : List Nat → Bool
 | [] => true
 | a :: r => !aml a r && aee r
mutual
def asy : Sh → AVal → AVal
 | .sl c, a => aup c (.sl c) a
 | .fr e c, a => aup c (.fr e c) a
 | .agg ss, .agg l => .agg (avg ss l)
 | .agg ss, .fn f a c => .fn f a (p9 ss c)
 | .alt f fa fc g ga gc, a => aoi f fa fc g ga gc a
 | _, a => a
def avg : List Sh → List AVal → List AVal
 | s :: ss, a :: r => asy s a :: avg ss r
 | _, l => l
end
mutual
def bgf : Sh → AVal → List Nat
 | .sl _, .own j => [j]
 | .agg ss, .agg l => adu ss l
 | _, _ => []
def adu : List Sh → List AVal → List Nat
 | s :: ss, a :: r => kr (bgf s a) (adu ss r)
 | _, _ => []
end
def cellV (D : Ctx) (st : ASt) (t : Nat) (ty : TypeId) : Option AVal :=
 match adn D.P ty, jo D.P ty with
 | some g, some sz => match placeOf D (dh st.h) (look st.f t) sz with
  | some mid => bif g then some (ani mid) else match mid with
   | [.arr ..] => none
   | [a] => some a
   | _ => none
  | none => none
 | _, _ => none
def bcm (D : Ctx) (st : ASt) : List ResultVar → Option (List AVal)
 | [] => some []
 | .tmp t :: r => match bcm D st r with
  | some l => some (look st.f t :: l)
  | none => none
 | .cell t ty :: r => match cellV D st t ty, bcm D st r with
  | some a, some l => some (a :: l)
  | _, _ => none
def oneOf : List AVal → AVal
 | [a] => a
 | l => .tuple l
def ber (D : Ctx) (sig : List Sh) (fn : Func) (st : ASt) (K : AVal → Option R) : Option R :=
 match bcm D st fn.results.toList with
 | none => none
 | some l =>
  bif aee (afb l) then K (oneOf (avg sig (ajj (dh (kr (freeze (dh st.h) (kr (acg l) (adu sig l)) []) st.h)) l))) else none
def auh (D : Ctx) (Y : YCtx) : bf1 := fun ts vs args h n K =>
 bif Nat.beq args.length Y.ps.size && aee Y.ps.toList && bap Y.m Y.ps.toList then
  aby D Y.assign ⟨kr (azc Y.ps.toList args) (azc ts vs), h, n, Y.m⟩ fun ex st => match ex with
   | .normal => aby D Y.body st fun ex st => match ex with
    | .normal => K st.h st.n
    | _ => none
   | _ => none
 else none
def ait : Nat → List AVal → List (Nat × AVal)
 | _, [] => []
 | i, a :: r => (i, a) :: ait (i + 1) r
def bfu (D : Ctx) (fn : Func) (sig : List Sh) (args : List AVal) (K : AVal → Option R) : Option R :=
 match fn.body with
 | none => none
 | some c => bif Nat.ble args.length fn.ntmps then
     aby D c ⟨ait 0 args, [], 0, fn.ntmps⟩ fun ex st => match ex with
      | .exit _ => none
      | .normal => ber D sig fn st K
      | .ret => ber D sig fn st K
  else none
def zx (D : Ctx) (fn : Func) : aph := fun args h n K =>
 match fn.body with
 | none => none
 | some c => bif Nat.ble args.length fn.ntmps then
     aby D c ⟨ait 0 args, h, n, fn.ntmps⟩ fun ex st => match ex with
      | .exit _ => none
      | .normal => outIn D fn st K
      | .ret => outIn D fn st K
  else none
 where outIn (D : Ctx) (fn : Func) (st : ASt) (K : AVal → Hp → Nat → Option R) : Option R :=
 match bcm D st fn.results.toList with
 | none => none
 | some l => K (oneOf l) st.h st.n
end Go.Abs
