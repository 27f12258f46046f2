/-
  XmssHypers, part 5: an interpreter of my own over abstract values, the pure functions, the walks and the plain law.
-/

import Derived.Test.YtjhnljhjpnjieaaGreatDoorXmssHypersD

namespace Go.Abs
open Go Go.RowKit
set_option linter.unusedVariables false
set_option linter.unusedSimpArgs false
def axg (ops : Array Oper) (j : Nat) : Option Nat := (ops[j]?).bind (·.dst)
def bjf (ops : Array Oper) (o : Oper) (st : ASt) (F : ASt → Option R) (S : ASt → Option R) : Option R :=
 match o.guard with
 | none => F st
 | some (j, want) => match axg ops j with
  | none => none
  | some t => match look st.f t with
   | .v (.bool b) => br b (bif want then F (st.put (some t) (.v (.bool true))) else S (st.put (some t) (.v (.bool true)))) (bif want then S (st.put (some t) (.v (.bool false))) else F (st.put (some t) (.v (.bool false))))
   | .v (.tuple _) => S st
   | _ => none
def ba2 : List (Nat × az5) → Nat → Option az5
 | [], _ => none
 | (k, s) :: r, t => bif Nat.beq k t then some s else ba2 r t
def b9t (f : List (Nat × AVal)) : Op → Option (Nat × List AVal)
 | .call { callee := .value x, args, .. } => match ev f x with
  | .fn (.func g) first caps => some (g, qc first (qc (evs f args.toList) caps))
  | _ => none
 | _ => none
def bqa (D : Ctx) (f : List (Nat × AVal)) (op : Op) : Option (az5 × List AVal) :=
 match b9t f op with
 | some (g, as) => match ba2 D.inl g with
  | some s => some (s, as)
  | none => none
 | none => none
def btn (f : List (Nat × AVal)) : Op → Option (List Nat × List AVal × List AVal)
 | .call { callee := .value x, args, .. } => match ev f x with
  | .yld _ ts vs => some (ts, vs, evs f args.toList)
  | _ => none
 | _ => none
def doA (D : Ctx) (o : Oper) (st : ASt) (K : ASt → Option R) : Option R :=
 match btn st.f o.op with
 | some (ts, vs, as) => match D.ys with
  | some s => s ts vs as st.h st.n fun h n => K { f := btz st.m o.dst (.v (.bool true)) st.f, h := h, n := n, m := st.m }
  | none => none
 | none => match bqa D st.f o.op with
 | some (s, as) => s as st.h st.n fun v h n => K { f := btz st.m o.dst v st.f, h := h, n := n, m := st.m }
 | none => opA D o st fun e => K (st.app e o.dst)
def bux (D : Ctx) (ops : Array Oper) : List Oper → ASt → (ASt → Option R) → Option R
 | [], st, K => K st
 | o :: rest, st, K => bjf ops o st (fun st => doA D o st fun st => bux D ops rest st K) (fun st => bux D ops rest (st.put o.dst (.v undef)) K)
structure Info where
 looks : List Nat
 dst : Option Nat
 vs : List AVal
 puts : Hp
 cl : List Nat
def tmpsOf : List Operand → List Nat
 | [] => []
 | .tmp t :: r => t :: tmpsOf r
 | _ :: r => tmpsOf r
def nth {α : Type} : List α → Nat → Option α
 | [], _ => none
 | a :: _, 0 => some a
 | _ :: r, n + 1 => nth r n
def lun : List Nat → List Nat → List Nat
 | [], l => l
 | a :: r, l => bif awu a l then lun r l else a :: lun r l
def bqo (acc : List Info) (i : Nat) : List Edge → Option (List Nat)
 | [] => some []
 | e :: r => bif Region.binds .any e then
     bif Nat.blt e.on i then
      match nth acc (i - 1 - e.on), bqo acc i r with
      | some x, some l => some (lun (e.on :: x.cl) l)
      | _, _ => none
     else none
  else bqo acc i r
def bdw (d : Option Nat) (l : List Nat) : Bool :=
 match d with
 | none => false
 | some d => awu d l
def ayn (d d' : Option Nat) : Bool :=
 match d, d' with
 | some d, some d' => Nat.beq d d'
 | _, _ => false
def aqu : Hp → List AVal → Hp → Bool
 | [], _, _ => false
 | (id, _) :: r, vs, h => oq id vs || (assoc h id).isSome || aqu r vs h
def ay5 (x y : Info) : Bool :=
 !(bdw x.dst y.looks || bdw y.dst x.looks || ayn x.dst y.dst || aqu x.puts y.vs y.puts || aqu y.puts x.vs x.puts)
def bge : List Info → Nat → Info → Bool
 | [], _, _ => true
 | x :: r, n, y => (awu (n - 1) y.cl || ay5 x y) && bge r (n - 1) y
def bkw (ops : Array Oper) (o : Oper) : List Nat :=
 match o.guard with
 | some (j, _) => (axg ops j).toList
 | none => []
def br5 (ops : Array Oper) (o : Oper) (vs : List AVal) (puts : Hp) (cl : List Nat) : Info := ⟨qc (bkw ops o) (tmpsOf (am6 o.op)), o.dst, vs, puts, cl⟩
def bd1 (ops : Array Oper) (o : Oper) (cl : List Nat) : Info := ⟨bkw ops o, o.dst, [], [], cl⟩
def bi6 (acc : List Info) (i : Nat) (I : Info) (F : List Info → Option R) : Option R := bif bge acc i I then F (I :: acc) else none
def bdi (op : Op) (vs : List AVal) : List AVal :=
 match op with
 | .move _ | .assign _ | .pick _ _ _ | .nilCheck _ | .makeFunc _ _ _ | .makeInterface _ _ | .fieldAddr _ _ _ | .box _ _ => []
 | _ => vs
def opD (D : Ctx) (o : Oper) (st : ASt) (K : Eff → Option R) : Option R :=
 core D o.op (evs st.f (am6 o.op)) (mask (bdi o.op (evs st.f (am6 o.op))) st.h) st.n K
def beh (D : Ctx) (ops : Array Oper) : List Oper → Nat → List Info → ASt → (List Info → ASt → Option R) → Option R
 | [], _, acc, st, K => K acc st
 | o :: rest, i, acc, st, K =>
  match bqo acc i o.after.toList with
  | none => none
  | some cl =>
   bjf ops o st
    (fun st => opD D o st fun e => bi6 acc i (br5 ops o (bdi o.op (evs st.f (am6 o.op))) e.puts cl) fun acc => beh D ops rest (i + 1) acc (st.app e o.dst) K)
    (fun st => bi6 acc i (bd1 ops o cl) fun acc => beh D ops rest (i + 1) acc (st.put o.dst (.v undef)) K)
def bgf {α : Type} : List α → Option (List α × α)
 | [] => none
 | a :: r => match bgf r with
  | some (x, y) => some (a :: x, y)
  | none => some ([], a)
def allIn : Nat → List Nat → Bool
 | 0, _ => true
 | n + 1, l => awu n l && allIn n l
def btj (D : Ctx) (ops : Array Oper) (st : ASt) (K : ASt → Option R) : Option R :=
 match bgf ops.toList with
 | some (l0, o) => bif (bqa D [] o.op).isSome && o.guard.isNone then
     beh D ops l0 0 [] st fun acc st => match bqo acc l0.length o.after.toList with
      | some cl => bif allIn l0.length cl then doA D o st K else none
      | none => none
  else beh D ops ops.toList 0 [] st fun _ => K
 | none => beh D ops ops.toList 0 [] st fun _ => K
def jv : Code → Nat
 | .region id _ _ => id
 | .seq a _ => jv a
 | .block _ b => jv b
 | .loop b => jv b
 | .scope b => jv b
 | _ => 0
def hintOf : List (Nat × Hint) → Nat → Hint
 | [], _ => ⟨[], [], [], [], none, [], []⟩
 | (k, h) :: r, t => bif Nat.beq k t then h else hintOf r t
def bxu (n : Nat) : Bk → Bool
 | .row _ _ => true
 | .box _ l => axr n l
def bl7 (f : List (Nat × AVal)) (n : Nat) : List Nat → Option (List (Nat × AVal))
 | [] => some []
 | t :: r => bif bnd n (look f t) then
     match bl7 f n r with
     | some l => some ((t, look f t) :: l)
     | none => none
  else none
def keepR (g : Nat → AVal) (h : Hp) : Nat → List (Nat × TypeId × Cont) → Option (List (Nat × AVal) × Hp × List Nat)
 | _, [] => some ([], [], [])
 | n, (t, e, c0) :: r => match keepR g h (n + 1) r with
  | none => none
  | some (fs, hs, us) => match g t with
   | .own id => match iw h id with
    | some ⟨.row e' c, false⟩ => bif Nat.beq e e' && !awu id us then some ((t, .own n) :: fs, (n, some ⟨.row e c, false⟩) :: hs, id :: us) else none
    | _ => none
   | .win id 0 len => match iw h id with
    | some ⟨.row e' c, false⟩ => bif Nat.beq e e' && !awu id us then some ((t, .own n) :: fs, (n, some ⟨.row e (c.take len), false⟩) :: hs, id :: us) else none
    | _ => none
   | .v (.slice none 0 0) => bif Nat.beq c0.len 0 then some ((t, .own n) :: fs, (n, some ⟨.row e c0, false⟩) :: hs, us) else none
   | _ => none
def bgy (h : Hp) (n : Nat) (us : List Nat) : List Nat → Option Hp
 | [] => some []
 | id :: r => match bgy h n us r with
  | none => none
  | some l => bif awu id us then some ((id, none) :: l) else
   match iw h id with
   | none => some ((id, none) :: l)
   | some b => bif bxu n b.b && Nat.blt id n then some ((id, some b) :: l) else none
def bs3 : Hp → List Nat → List Nat
 | [], acc => acc
 | (id, _) :: r, acc => bif awu id acc then bs3 r acc else bs3 r (id :: acc)
def bbw (hl : Nat → Option Blk) (f : List (Nat × AVal)) : List (Nat × Sh) → List (Nat × AVal)
 | [] => []
 | (t, s) :: r => (t, am5 s (za hl (look f t))) :: bbw hl f r
def bbh (f : List (Nat × AVal)) : List (Nat × Sh) → List Nat
 | [] => []
 | (t, _) :: r => qc (rz (look f t)) (bbh f r)
def aqi (l : List (Nat × Sh)) (st : ASt) : ASt :=
 match l with
 | [] => st
 | l => { st with f := qc (bbw (iw st.h) st.f l) st.f, h := qc (freeze (iw st.h) (bbh st.f l) []) st.h }
def bll : AVal → Bool
 | .own _ | .win _ _ _ => true
 | _ => false
def bmb (hl : Nat → Option Blk) (a : AVal) : AVal := bif bll a then za hl a else a
def bbo (hl : Nat → Option Blk) : List AVal → List AVal
 | [] => []
 | a :: r => bmb hl a :: bbo hl r
def avt : List AVal → List Nat
 | [] => []
 | a :: r => bif bll a then qc (rz a) (avt r) else avt r
def atn (h : Hp) : List Nat → List Nat
 | [] => []
 | id :: r => match iw h id with
  | some ⟨.box _ l, _⟩ => qc (avt l) (atn h r)
  | _ => atn h r
def aog (hl : Nat → Option Blk) (h : Hp) : List Nat → Hp
 | [] => []
 | id :: r => match iw h id with
  | some ⟨.box e l, f⟩ => (id, some ⟨.box e (bbo hl l), f⟩) :: aog hl h r
  | _ => aog hl h r
def asg (ids : List Nat) (st : ASt) : ASt :=
 match ids with
 | [] => st
 | ids => { st with h := qc (aog (iw st.h) (qc (freeze (iw st.h) (atn st.h ids) []) st.h) ids) (qc (freeze (iw st.h) (atn st.h ids) []) st.h) }
def bjj : List AVal → List Nat
 | [] => []
 | .ptr j 0 :: r => j :: bjj r
 | _ :: r => bjj r
def bck (f : List (Nat × AVal)) : List Oper → List Nat
 | [] => []
 | o :: r => match o.op with
  | .makeFunc _ first captured => lun (qc (bjj (evs f first.toList)) (bjj (evs f captured.toList))) (bck f r)
  | _ => bck f r
def b6a (id : Nat) (l : List AVal) : AVal → AVal
 | .ptr j 0 => bif Nat.beq id j then .sta l else .ptr j 0
 | a => a
def bv2 (id : Nat) (l : List AVal) : List (Nat × AVal) → List (Nat × AVal)
 | [] => []
 | (t, a) :: r => (t, b6a id l a) :: bv2 id l r
def av3 (id : Nat) (st : ASt) : ASt :=
 match iw st.h id with
 | some ⟨.box _ l, _⟩ => bif axr 0 l then { st with f := bv2 id l st.f, h := qc (freeze (iw st.h) [id] []) st.h } else st
 | _ => st
def azq : List Nat → ASt → ASt
 | [], st => st
 | id :: r, st => azq r (av3 id st)
def bue (D : Ctx) (ops : List Oper) (st : ASt) : ASt := bif D.sta then azq (bck st.f ops) (asg (bck st.f ops) st) else st
def coB (h : Hp) : List (Nat × List Sh) → Hp
 | [] => []
 | (id, s) :: r => match iw h id with
  | some ⟨.box e l, f⟩ => (id, some ⟨.box e (og s l), f⟩) :: coB h r
  | _ => coB h r
def bqc (l : List (Nat × List Sh)) (st : ASt) : ASt :=
 match l with
 | [] => st
 | l => { st with h := qc (coB st.h l) st.h }
def avl (h : Hint) (st : ASt) : ASt := bqc h.shc (asg h.shb (aqi h.sls st))
def bs7 (h : Hint) (st : ASt) : List Nat :=
 match h.gc with
 | none => bs3 st.h []
 | some (_, l) => l
def bpz (h : Hint) (n : Nat) : Nat :=
 match h.gc with
 | none => n
 | some (m, _) => bif Nat.ble n m then m else n
def bl0 (h : Hp) (b : Nat) : AVal := match iw h b with
 | some ⟨.box _ [.own j], _⟩ => .own j
 | some ⟨.box _ [.v (.slice none 0 0)], _⟩ => .v (.slice none 0 0)
 | _ => .bot
def bo4 (st : ASt) (t : Nat) : AVal := bif Nat.blt t 1000000 then look st.f t else bl0 st.h (t - 1000000)
def btk : List (Nat × TypeId × Cont) → List Nat
 | [] => []
 | (t, _, _) :: r => bif Nat.blt t 1000000 then btk r else (t - 1000000) :: btk r
def clr (h : Hp) : List Nat → Hp
 | [] => []
 | b :: r => match iw h b with
  | some ⟨.box e [.own _], f⟩ => (b, some ⟨.box e [.bot], f⟩) :: clr h r
  | some ⟨.box e [.v (.slice none 0 0)], f⟩ => (b, some ⟨.box e [.bot], f⟩) :: clr h r
  | _ => clr h r
def byv (h : Hp) (l : List Nat) : Hp := match l with
 | [] => h
 | l => qc (clr h l) h
def slotsOf : List (Nat × AVal) → List (Nat × AVal)
 | [] => []
 | (t, x) :: r => bif Nat.blt t 1000000 then (t, x) :: slotsOf r else slotsOf r
def b2t (fs : List (Nat × AVal)) (id : Nat) (b : Option Blk) : Option Blk := match b with
 | some ⟨.box e [.bot], f⟩ => match assoc fs (id + 1000000) with
  | some x => some ⟨.box e [x], f⟩
  | none => b
 | _ => b
def bly (fs : List (Nat × AVal)) : Hp → Hp
 | [] => []
 | (id, b) :: r => (id, b2t fs id b) :: bly fs r
def br8 (fs : List (Nat × AVal)) (l : List Nat) (h : Hp) : Hp := match l with
 | [] => h
 | _ => bly fs h
def norm (h : Hint) (n : Nat) (ids : List Nat) (st : ASt) : Option ASt :=
 match keepR (bo4 st) (byv st.h (btk h.rows)) n h.rows with
 | none => none
 | some (fs, hs, us) => match bl7 st.f n h.keep, bgy (byv st.h (btk h.rows)) n us ids with
  | some f, some hh => some { f := qc (slotsOf fs) f, h := br8 fs (btk h.rows) (qc hs hh), n := n + h.rows.length, m := st.m }
  | _, _ => none
def bbn : List (Nat × oz) → Nat → Option oz
 | [], _ => none
 | (k, s) :: r, t => bif Nat.beq k t then some s else bbn r t
def bpo (f : List (Nat × AVal)) : List Nat → List (Nat × AVal)
 | [] => []
 | t :: r => (t, look f t) :: bpo f r
def bsd (h : Hint) (n : Nat) (ids : List Nat) (K : AExit → ASt → Option R) (next : ASt → Option R) (ex : AExit) (st : ASt) : Option R :=
 match ex with
 | .normal => match norm h n ids (avl h st) with
  | some st => next st
  | none => none
 | .exit id => match norm h n ids (avl h st) with
  | some st => K (.exit id) st
  | none => none
 | .ret => K .ret { st with f := bpo st.f h.boxes }
def iter (h : Hint) (n : Nat) (ids : List Nat) (F : ASt → (AExit → ASt → Option R) → Option R) (K : AExit → ASt → Option R) : Nat → ASt → Option R
 | 0, st => F st (bsd h n ids K fun _ => none)
 | k + 1, st => F st (bsd h n ids K (iter h n ids F K k))
def keysOf : Hp → List Nat
 | [] => []
 | (id, _) :: r => id :: keysOf r
def axi {α : Type} : Nat → List α → List α
 | 0, l => l
 | _ + 1, [] => []
 | n + 1, _ :: r => axi n r
def bcb : List (Nat × RngE) → Nat → Option RngE
 | [], _ => none
 | (k, s) :: r, t => bif Nat.beq k t then some s else bcb r t
def looks (f : List (Nat × AVal)) : List Nat → List AVal
 | [] => []
 | t :: r => look f t :: looks f r
def be0 (id : Nat) : Hp → Bool
 | [] => true
 | (_, some ⟨.box _ l, _⟩) :: r => !oq id l && be0 id r
 | _ :: r => be0 id r
def noY : Option YCtx → Bool
 | none => true
 | some _ => false
def btd (D : Ctx) (st : ASt) (g : Operand) (body : Code) : Option (RngE × List AVal × List AVal) :=
 match ev st.f g with
 | .fn (.func gid) first caps => match bcb D.rng (jv body) with
  | some e => bif D.top && noY D.y && Nat.beq gid e.g && Nat.beq st.m e.m then some (e, first, caps) else none
  | none => none
 | _ => none
def aex (D : Ctx) : Code → ASt → (AExit → ASt → Option R) → Option R
 | .skip, st, K => K .normal st
 | .label _, st, K => K .normal st
 | .region _ ops false, st, K => bux D ops ops.toList (bue D ops.toList st) fun st => K .normal st
 | .region _ ops true, st, K => btj D ops (bue D ops.toList st) fun st => K .normal st
 | .seq a b, st, K => aex D a st fun ex st' => match ex with
  | .normal => aex D b st' K
  | .exit id => K (.exit id) st'
  | .ret => K .ret st'
 | .cond c x y, st, K => match ev st.f c with
  | .v (.bool b) => br b (aex D x st K) (aex D y st K)
  | _ => none
 | .block id c, st, K => aex D c st fun ex st' => match ex with
  | .normal => K .normal st'
  | .exit j => bif Nat.beq j id then K .normal st' else K (.exit j) st'
  | .ret => K .ret st'
 | .loop c, st, K => match norm (hintOf D.hints (jv c)) (bpz (hintOf D.hints (jv c)) st.n) (bs7 (hintOf D.hints (jv c)) (avl (hintOf D.hints (jv c)) st)) (avl (hintOf D.hints (jv c)) st) with
  | none => none
  | some st => match bbn D.loops (jv c) with
   | some s => s st K
   | none => none
 | .exit id, st, K => K (.exit id) st
 | .ret, st, K => K .ret st
 | .rangeFunc g _ _ body, st, K => match btd D st g body with
  | some (e, first, caps) => e.s (qc first (.yld st.n e.ts (looks st.f e.ts) :: caps)) st.h (st.n + 1) fun _ h n => bif be0 st.n h then K .normal { f := st.f, h := h, n := n, m := st.m } else none
  | none => none
 | _, _, _ => none
def d9 : Code → List Code
 | .seq a b => d9 a ++ d9 b
 | .cond _ a b => d9 a ++ d9 b
 | .block _ c => d9 c
 | .loop c => c :: d9 c
 | _ => []
def wz : Code → List Code
 | .seq a b => wz a ++ wz b
 | .cond _ a b => wz a ++ wz b
 | .block _ c => wz c
 | .loop c => wz c
 | .rangeFunc g ps a b => [.rangeFunc g ps a b]
 | _ => []
def blx : List Nat → List AVal → List (Nat × AVal)
 | t :: ts, a :: r => (t, a) :: blx ts r
 | _, _ => []
def bn7 (m : Nat) : List Nat → Bool
 | [] => true
 | t :: r => Nat.blt t m && bn7 m r
def itA (D : Ctx) (c : Code) (K : AExit → ASt → Option R) (k : Nat) (st : ASt) : Option R :=
 iter (hintOf D.hints (jv c)) (st.n - (hintOf D.hints (jv c)).rows.length) (keysOf (axi (hintOf D.hints (jv c)).rows.length st.h)) (aex D c) K k st
def jl (D : Ctx) (c : Code) : Prop := ∀ s, bbn D.loops (jv c) = some s → ∀ st K r, s st K = some r → ∃ k, itA D c K k st = some r
mutual
def asj : AVal → List Nat
 | .win j _ _ | .awin j _ _ _ _ => [j]
 | .agg l | .tuple l => afv l
 | .fn _ a b => qc (om a) (om b)
 | .alt _ _ a b _ c d => qc (qc (om a) (om b)) (qc (om c) (om d))
 | .iface _ x => rz x
 | _ => []
def afv : List AVal → List Nat
 | [] => []
 | a :: r => qc (asj a) (afv r)
end
mutual
def az2 (hl : Nat → Option Blk) : AVal → AVal
 | .own id => match hl id with
  | some ⟨.row e c, false⟩ => .fr e c
  | some ⟨.row _ c, true⟩ => .sl c
  | _ => .bot
 | .agg l => .agg (atb hl l)
 | .tuple l => .tuple (atb hl l)
 | a => za hl a
def atb (hl : Nat → Option Blk) : List AVal → List AVal
 | [] => []
 | a :: r => az2 hl a :: atb hl r
end
mutual
def atp : AVal → List Nat
 | .own j => [j]
 | .agg l | .tuple l => aj8 l
 | _ => []
def aj8 : List AVal → List Nat
 | [] => []
 | a :: r => qc (atp a) (aj8 r)
end
def aip : List Nat → Bool
 | [] => true
 | a :: r => !awu a r && aip r
mutual
def bem : Sh → AVal → AVal
 | .sl c, a => bfv c (.sl c) a
 | .fr e c, a => bfv c (.fr e c) a
 | .agg ss, .agg l => .agg (bg8 ss l)
 | .agg ss, .fn f a c => .fn f a (og ss c)
 | .alt f fa fc g ga gc, a => azg f fa fc g ga gc a
 | _, a => a
def bg8 : List Sh → List AVal → List AVal
 | s :: ss, a :: r => bem s a :: bg8 ss r
 | _, l => l
end
mutual
def btq : Sh → AVal → List Nat
 | .sl _, .own j => [j]
 | .agg ss, .agg l => ah5 ss l
 | _, _ => []
def ah5 : List Sh → List AVal → List Nat
 | s :: ss, a :: r => qc (btq s a) (ah5 ss r)
 | _, _ => []
end
def cellV (D : Ctx) (st : ASt) (t : Nat) (ty : TypeId) : Option AVal :=
 match ae3 D.P ty, l8 D.P ty with
 | some g, some sz => match placeOf D (iw st.h) (look st.f t) sz with
  | some mid => bif g then some (awt mid) else match mid with
   | [.arr ..] => none
   | [a] => some a
   | _ => none
  | none => none
 | _, _ => none
def bo8 (D : Ctx) (st : ASt) : List ResultVar → Option (List AVal)
 | [] => some []
 | .tmp t :: r => match bo8 D st r with
  | some l => some (look st.f t :: l)
  | none => none
 | .cell t ty :: r => match cellV D st t ty, bo8 D st r with
  | some a, some l => some (a :: l)
  | _, _ => none
def oneOf : List AVal → AVal
 | [a] => a
 | l => .tuple l
def brl (D : Ctx) (sig : List Sh) (fn : Func) (st : ASt) (K : AVal → Option R) : Option R :=
 match bo8 D st fn.results.toList with
 | none => none
 | some l =>
  bif aip (aj8 l) then K (oneOf (bg8 sig (atb (iw (qc (freeze (iw st.h) (qc (afv l) (ah5 sig l)) []) st.h)) l))) else none
def av8 (D : Ctx) (Y : YCtx) : buj := fun ts vs args h n K =>
 bif Nat.beq args.length Y.ps.size && aip Y.ps.toList && bn7 Y.m Y.ps.toList then
  aex D Y.assign ⟨qc (blx Y.ps.toList args) (blx ts vs), h, n, Y.m⟩ fun ex st => match ex with
   | .normal => aex D Y.body st fun ex st => match ex with
    | .normal => K st.h st.n
    | _ => none
   | _ => none
 else none
def arf : Nat → List AVal → List (Nat × AVal)
 | _, [] => []
 | i, a :: r => (i, a) :: arf (i + 1) r
def bqn (D : Ctx) (fn : Func) (sig : List Sh) (args : List AVal) (K : AVal → Option R) : Option R :=
 match fn.body with
 | none => none
 | some c => bif Nat.ble args.length fn.ntmps then
     aex D c ⟨arf 0 args, [], 0, fn.ntmps⟩ fun ex st => match ex with
      | .exit _ => none
      | .normal => brl D sig fn st K
      | .ret => brl D sig fn st K
  else none
def ahi (D : Ctx) (fn : Func) : az5 := fun args h n K =>
 match fn.body with
 | none => none
 | some c => bif Nat.ble args.length fn.ntmps then
     aex D c ⟨arf 0 args, h, n, fn.ntmps⟩ fun ex st => match ex with
      | .exit _ => none
      | .normal => outIn D fn st K
      | .ret => outIn D fn st K
  else none
 where outIn (D : Ctx) (fn : Func) (st : ASt) (K : AVal → Hp → Nat → Option R) : Option R :=
 match bo8 D st fn.results.toList with
 | none => none
 | some l => K (oneOf l) st.h st.n
end Go.Abs
