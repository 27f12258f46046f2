/-
  ForsSigns, part 5: an interpreter of my own over abstract values, the pure functions, the walks and the plain law.
-/

import Derived.Test.YtjhnljhjpnjieaaGreatDoorForsSignsD

namespace Go.Abs
open Go Go.RowKit
set_option linter.unusedVariables false
set_option linter.unusedSimpArgs false
def avb (ops : Array Oper) (j : Nat) : Option Nat := (ops[j]?).bind (·.dst)
def bgq (ops : Array Oper) (o : Oper) (st : ASt) (F : ASt → Option R) (S : ASt → Option R) : Option R :=
 match o.guard with
 | none => F st
 | some (j, want) => match avb ops j with
  | none => none
  | some t => match look st.f t with
   | .v (.bool b) => br b (bif want then F (st.put (some t) (.v (.bool true))) else S (st.put (some t) (.v (.bool true)))) (bif want then S (st.put (some t) (.v (.bool false))) else F (st.put (some t) (.v (.bool false))))
   | .v (.tuple _) => S st
   | _ => none
def axz : List (Nat × awx) → Nat → Option awx
 | [], _ => none
 | (k, s) :: r, t => bif Nat.beq k t then some s else axz r t
def b5i (f : List (Nat × AVal)) : Op → Option (Nat × List AVal)
 | .call { callee := .value x, args, .. } => match ev f x with
  | .fn (.func g) first caps => some (g, oo first (oo (evs f args.toList) caps))
  | _ => none
 | _ => none
def bl8 (D : Ctx) (f : List (Nat × AVal)) (op : Op) : Option (awx × List AVal) :=
 match b5i f op with
 | some (g, as) => match axz D.inl g with
  | some s => some (s, as)
  | none => none
 | none => none
def bqn (f : List (Nat × AVal)) : Op → Option (List Nat × List AVal × List AVal)
 | .call { callee := .value x, args, .. } => match ev f x with
  | .yld _ ts vs => some (ts, vs, evs f args.toList)
  | _ => none
 | _ => none
def doA (D : Ctx) (o : Oper) (st : ASt) (K : ASt → Option R) : Option R :=
 match bqn st.f o.op with
 | some (ts, vs, as) => match D.ys with
  | some s => s ts vs as st.h st.n fun h n => K { f := bo6 st.m o.dst (.v (.bool true)) st.f, h := h, n := n, m := st.m }
  | none => none
 | none => match bl8 D st.f o.op with
 | some (s, as) => s as st.h st.n fun v h n => K { f := bo6 st.m o.dst v st.f, h := h, n := n, m := st.m }
 | none => opA D o st fun e => K (st.app e o.dst)
def brm (D : Ctx) (ops : Array Oper) : List Oper → ASt → (ASt → Option R) → Option R
 | [], st, K => K st
 | o :: rest, st, K => bgq ops o st (fun st => doA D o st fun st => brm D ops rest st K) (fun st => brm D ops rest (st.put o.dst (.v undef)) K)
structure Info where
 looks : List Nat
 dst : Option Nat
 vs : List AVal
 puts : Hp
 cl : List Nat
def tmpsOf : List Operand → List Nat
 | [] => []
 | .tmp t :: r => t :: tmpsOf r
 | _ :: r => tmpsOf r
def nth {α : Type} : List α → Nat → Option α
 | [], _ => none
 | a :: _, 0 => some a
 | _ :: r, n + 1 => nth r n
def lun : List Nat → List Nat → List Nat
 | [], l => l
 | a :: r, l => bif atj a l then lun r l else a :: lun r l
def bm7 (acc : List Info) (i : Nat) : List Edge → Option (List Nat)
 | [] => some []
 | e :: r => bif Region.binds .any e then
     bif Nat.blt e.on i then
      match nth acc (i - 1 - e.on), bm7 acc i r with
      | some x, some l => some (lun (e.on :: x.cl) l)
      | _, _ => none
     else none
  else bm7 acc i r
def azy (d : Option Nat) (l : List Nat) : Bool :=
 match d with
 | none => false
 | some d => atj d l
def av4 (d d' : Option Nat) : Bool :=
 match d, d' with
 | some d, some d' => Nat.beq d d'
 | _, _ => false
def aoz : Hp → List AVal → Hp → Bool
 | [], _, _ => false
 | (id, _) :: r, vs, h => mo id vs || (assoc h id).isSome || aoz r vs h
def avj (x y : Info) : Bool :=
 !(azy x.dst y.looks || azy y.dst x.looks || av4 x.dst y.dst || aoz x.puts y.vs y.puts || aoz y.puts x.vs x.puts)
def bbh : List Info → Nat → Info → Bool
 | [], _, _ => true
 | x :: r, n, y => (atj (n - 1) y.cl || avj x y) && bbh r (n - 1) y
def bfh (ops : Array Oper) (o : Oper) : List Nat :=
 match o.guard with
 | some (j, _) => (avb ops j).toList
 | none => []
def bof (ops : Array Oper) (o : Oper) (vs : List AVal) (puts : Hp) (cl : List Nat) : Info := ⟨oo (bfh ops o) (tmpsOf (ali o.op)), o.dst, vs, puts, cl⟩
def azq (ops : Array Oper) (o : Oper) (cl : List Nat) : Info := ⟨bfh ops o, o.dst, [], [], cl⟩
def bfs (acc : List Info) (i : Nat) (I : Info) (F : List Info → Option R) : Option R := bif bbh acc i I then F (I :: acc) else none
def azo (op : Op) (vs : List AVal) : List AVal :=
 match op with
 | .move _ | .assign _ | .pick _ _ _ | .nilCheck _ | .makeFunc _ _ _ | .makeInterface _ _ | .fieldAddr _ _ _ | .box _ _ => []
 | _ => vs
def opD (D : Ctx) (o : Oper) (st : ASt) (K : Eff → Option R) : Option R :=
 core D o.op (evs st.f (ali o.op)) (mask (azo o.op (evs st.f (ali o.op))) st.h) st.n K
def azc (D : Ctx) (ops : Array Oper) : List Oper → Nat → List Info → ASt → (List Info → ASt → Option R) → Option R
 | [], _, acc, st, K => K acc st
 | o :: rest, i, acc, st, K =>
  match bm7 acc i o.after.toList with
  | none => none
  | some cl =>
   bgq ops o st
    (fun st => opD D o st fun e => bfs acc i (bof ops o (azo o.op (evs st.f (ali o.op))) e.puts cl) fun acc => azc D ops rest (i + 1) acc (st.app e o.dst) K)
    (fun st => bfs acc i (azq ops o cl) fun acc => azc D ops rest (i + 1) acc (st.put o.dst (.v undef)) K)
def bbe {α : Type} : List α → Option (List α × α)
 | [] => none
 | a :: r => match bbe r with
  | some (x, y) => some (a :: x, y)
  | none => some ([], a)
def allIn : Nat → List Nat → Bool
 | 0, _ => true
 | n + 1, l => atj n l && allIn n l
def bq6 (D : Ctx) (ops : Array Oper) (st : ASt) (K : ASt → Option R) : Option R :=
 match bbe ops.toList with
 | some (l0, o) => bif (bl8 D [] o.op).isSome && o.guard.isNone then
     azc D ops l0 0 [] st fun acc st => match bm7 acc l0.length o.after.toList with
      | some cl => bif allIn l0.length cl then doA D o st K else none
      | none => none
  else azc D ops ops.toList 0 [] st fun _ => K
 | none => azc D ops ops.toList 0 [] st fun _ => K
def jd : Code → Nat
 | .region id _ _ => id
 | .seq a _ => jd a
 | .block _ b => jd b
 | .loop b => jd b
 | .scope b => jd b
 | _ => 0
def hintOf : List (Nat × Hint) → Nat → Hint
 | [], _ => ⟨[], [], [], [], none, [], []⟩
 | (k, h) :: r, t => bif Nat.beq k t then h else hintOf r t
def bvi (n : Nat) : Bk → Bool
 | .row _ _ => true
 | .box _ l => au9 n l
def biv (f : List (Nat × AVal)) (n : Nat) : List Nat → Option (List (Nat × AVal))
 | [] => some []
 | t :: r => bif bnd n (look f t) then
     match biv f n r with
     | some l => some ((t, look f t) :: l)
     | none => none
  else none
def keepR (g : Nat → AVal) (h : Hp) : Nat → List (Nat × TypeId × Cont) → Option (List (Nat × AVal) × Hp × List Nat)
 | _, [] => some ([], [], [])
 | n, (t, e, c0) :: r => match keepR g h (n + 1) r with
  | none => none
  | some (fs, hs, us) => match g t with
   | .own id => match fq h id with
    | some ⟨.row e' c, false⟩ => bif Nat.beq e e' && !atj id us then some ((t, .own n) :: fs, (n, some ⟨.row e c, false⟩) :: hs, id :: us) else none
    | _ => none
   | .win id 0 len => match fq h id with
    | some ⟨.row e' c, false⟩ => bif Nat.beq e e' && !atj id us then some ((t, .own n) :: fs, (n, some ⟨.row e (c.take len), false⟩) :: hs, id :: us) else none
    | _ => none
   | .v (.slice none 0 0) => bif Nat.beq c0.len 0 then some ((t, .own n) :: fs, (n, some ⟨.row e c0, false⟩) :: hs, us) else none
   | _ => none
def bc6 (h : Hp) (n : Nat) (us : List Nat) : List Nat → Option Hp
 | [] => some []
 | id :: r => match bc6 h n us r with
  | none => none
  | some l => bif atj id us then some ((id, none) :: l) else
   match fq h id with
   | none => some ((id, none) :: l)
   | some b => bif bvi n b.b && Nat.blt id n then some ((id, some b) :: l) else none
def bqb : Hp → List Nat → List Nat
 | [], acc => acc
 | (id, _) :: r, acc => bif atj id acc then bqb r acc else bqb r (id :: acc)
def ayj (hl : Nat → Option Blk) (f : List (Nat × AVal)) : List (Nat × Sh) → List (Nat × AVal)
 | [] => []
 | (t, s) :: r => (t, alg s (w9 hl (look f t))) :: ayj hl f r
def ayb (f : List (Nat × AVal)) : List (Nat × Sh) → List Nat
 | [] => []
 | (t, _) :: r => oo (qj (look f t)) (ayb f r)
def apc (l : List (Nat × Sh)) (st : ASt) : ASt :=
 match l with
 | [] => st
 | l => { st with f := oo (ayj (fq st.h) st.f l) st.f, h := oo (freeze (fq st.h) (ayb st.f l) []) st.h }
def bhi : AVal → Bool
 | .own _ | .win _ _ _ => true
 | _ => false
def bkw (hl : Nat → Option Blk) (a : AVal) : AVal := bif bhi a then w9 hl a else a
def axa (hl : Nat → Option Blk) : List AVal → List AVal
 | [] => []
 | a :: r => bkw hl a :: axa hl r
def as7 : List AVal → List Nat
 | [] => []
 | a :: r => bif bhi a then oo (qj a) (as7 r) else as7 r
def aq0 (h : Hp) : List Nat → List Nat
 | [] => []
 | id :: r => match fq h id with
  | some ⟨.box _ l, _⟩ => oo (as7 l) (aq0 h r)
  | _ => aq0 h r
def amw (hl : Nat → Option Blk) (h : Hp) : List Nat → Hp
 | [] => []
 | id :: r => match fq h id with
  | some ⟨.box e l, f⟩ => (id, some ⟨.box e (axa hl l), f⟩) :: amw hl h r
  | _ => amw hl h r
def ap3 (ids : List Nat) (st : ASt) : ASt :=
 match ids with
 | [] => st
 | ids => { st with h := oo (amw (fq st.h) (oo (freeze (fq st.h) (aq0 st.h ids) []) st.h) ids) (oo (freeze (fq st.h) (aq0 st.h ids) []) st.h) }
def bgc : List AVal → List Nat
 | [] => []
 | .ptr j 0 :: r => j :: bgc r
 | _ :: r => bgc r
def axq (f : List (Nat × AVal)) : List Oper → List Nat
 | [] => []
 | o :: r => match o.op with
  | .makeFunc _ first captured => lun (oo (bgc (evs f first.toList)) (bgc (evs f captured.toList))) (axq f r)
  | _ => axq f r
def b1n (id : Nat) (l : List AVal) : AVal → AVal
 | .ptr j 0 => bif Nat.beq id j then .sta l else .ptr j 0
 | a => a
def buc (id : Nat) (l : List AVal) : List (Nat × AVal) → List (Nat × AVal)
 | [] => []
 | (t, a) :: r => (t, b1n id l a) :: buc id l r
def as2 (id : Nat) (st : ASt) : ASt :=
 match fq st.h id with
 | some ⟨.box _ l, _⟩ => bif au9 0 l then { st with f := buc id l st.f, h := oo (freeze (fq st.h) [id] []) st.h } else st
 | _ => st
def aur : List Nat → ASt → ASt
 | [], st => st
 | id :: r, st => aur r (as2 id st)
def bpn (D : Ctx) (ops : List Oper) (st : ASt) : ASt := bif D.sta then aur (axq st.f ops) (ap3 (axq st.f ops) st) else st
def coB (h : Hp) : List (Nat × List Sh) → Hp
 | [] => []
 | (id, s) :: r => match fq h id with
  | some ⟨.box e l, f⟩ => (id, some ⟨.box e (ou s l), f⟩) :: coB h r
  | _ => coB h r
def bnu (l : List (Nat × List Sh)) (st : ASt) : ASt :=
 match l with
 | [] => st
 | l => { st with h := oo (coB st.h l) st.h }
def aso (h : Hint) (st : ASt) : ASt := bnu h.shc (ap3 h.shb (apc h.sls st))
def bp7 (h : Hint) (st : ASt) : List Nat :=
 match h.gc with
 | none => bqb st.h []
 | some (_, l) => l
def bmk (h : Hint) (n : Nat) : Nat :=
 match h.gc with
 | none => n
 | some (m, _) => bif Nat.ble n m then m else n
def bj2 (h : Hp) (b : Nat) : AVal := match fq h b with
 | some ⟨.box _ [.own j], _⟩ => .own j
 | some ⟨.box _ [.v (.slice none 0 0)], _⟩ => .v (.slice none 0 0)
 | _ => .bot
def bjs (st : ASt) (t : Nat) : AVal := bif Nat.blt t 1000000 then look st.f t else bj2 st.h (t - 1000000)
def bqm : List (Nat × TypeId × Cont) → List Nat
 | [] => []
 | (t, _, _) :: r => bif Nat.blt t 1000000 then bqm r else (t - 1000000) :: bqm r
def clr (h : Hp) : List Nat → Hp
 | [] => []
 | b :: r => match fq h b with
  | some ⟨.box e [.own _], f⟩ => (b, some ⟨.box e [.bot], f⟩) :: clr h r
  | some ⟨.box e [.v (.slice none 0 0)], f⟩ => (b, some ⟨.box e [.bot], f⟩) :: clr h r
  | _ => clr h r
def brr (h : Hp) (l : List Nat) : Hp := match l with
 | [] => h
 | l => oo (clr h l) h
def slotsOf : List (Nat × AVal) → List (Nat × AVal)
 | [] => []
 | (t, x) :: r => bif Nat.blt t 1000000 then (t, x) :: slotsOf r else slotsOf r
def bw5 (fs : List (Nat × AVal)) (id : Nat) (b : Option Blk) : Option Blk := match b with
 | some ⟨.box e [.bot], f⟩ => match assoc fs (id + 1000000) with
  | some x => some ⟨.box e [x], f⟩
  | none => b
 | _ => b
def bhx (fs : List (Nat × AVal)) : Hp → Hp
 | [] => []
 | (id, b) :: r => (id, bw5 fs id b) :: bhx fs r
def bn2 (fs : List (Nat × AVal)) (l : List Nat) (h : Hp) : Hp := match l with
 | [] => h
 | _ => bhx fs h
def norm (h : Hint) (n : Nat) (ids : List Nat) (st : ASt) : Option ASt :=
 match keepR (bjs st) (brr st.h (bqm h.rows)) n h.rows with
 | none => none
 | some (fs, hs, us) => match biv st.f n h.keep, bc6 (brr st.h (bqm h.rows)) n us ids with
  | some f, some hh => some { f := oo (slotsOf fs) f, h := bn2 fs (bqm h.rows) (oo hs hh), n := n + h.rows.length, m := st.m }
  | _, _ => none
def ayg : List (Nat × qc) → Nat → Option qc
 | [], _ => none
 | (k, s) :: r, t => bif Nat.beq k t then some s else ayg r t
def blw (f : List (Nat × AVal)) : List Nat → List (Nat × AVal)
 | [] => []
 | t :: r => (t, look f t) :: blw f r
def bn3 (h : Hint) (n : Nat) (ids : List Nat) (K : AExit → ASt → Option R) (next : ASt → Option R) (ex : AExit) (st : ASt) : Option R :=
 match ex with
 | .normal => match norm h n ids (aso h st) with
  | some st => next st
  | none => none
 | .exit id => match norm h n ids (aso h st) with
  | some st => K (.exit id) st
  | none => none
 | .ret => K .ret { st with f := blw st.f h.boxes }
def iter (h : Hint) (n : Nat) (ids : List Nat) (F : ASt → (AExit → ASt → Option R) → Option R) (K : AExit → ASt → Option R) : Nat → ASt → Option R
 | 0, st => F st (bn3 h n ids K fun _ => none)
 | k + 1, st => F st (bn3 h n ids K (iter h n ids F K k))
def keysOf : Hp → List Nat
 | [] => []
 | (id, _) :: r => id :: keysOf r
def aul {α : Type} : Nat → List α → List α
 | 0, l => l
 | _ + 1, [] => []
 | n + 1, _ :: r => aul n r
def aya : List (Nat × RngE) → Nat → Option RngE
 | [], _ => none
 | (k, s) :: r, t => bif Nat.beq k t then some s else aya r t
def looks (f : List (Nat × AVal)) : List Nat → List AVal
 | [] => []
 | t :: r => look f t :: looks f r
def bcx (id : Nat) : Hp → Bool
 | [] => true
 | (_, some ⟨.box _ l, _⟩) :: r => !mo id l && bcx id r
 | _ :: r => bcx id r
def noY : Option YCtx → Bool
 | none => true
 | some _ => false
def bo4 (D : Ctx) (st : ASt) (g : Operand) (body : Code) : Option (RngE × List AVal × List AVal) :=
 match ev st.f g with
 | .fn (.func gid) first caps => match aya D.rng (jd body) with
  | some e => bif D.top && noY D.y && Nat.beq gid e.g && Nat.beq st.m e.m then some (e, first, caps) else none
  | none => none
 | _ => none
def ad8 (D : Ctx) : Code → ASt → (AExit → ASt → Option R) → Option R
 | .skip, st, K => K .normal st
 | .label _, st, K => K .normal st
 | .region _ ops false, st, K => brm D ops ops.toList (bpn D ops.toList st) fun st => K .normal st
 | .region _ ops true, st, K => bq6 D ops (bpn D ops.toList st) fun st => K .normal st
 | .seq a b, st, K => ad8 D a st fun ex st' => match ex with
  | .normal => ad8 D b st' K
  | .exit id => K (.exit id) st'
  | .ret => K .ret st'
 | .cond c x y, st, K => match ev st.f c with
  | .v (.bool b) => br b (ad8 D x st K) (ad8 D y st K)
  | _ => none
 | .block id c, st, K => ad8 D c st fun ex st' => match ex with
  | .normal => K .normal st'
  | .exit j => bif Nat.beq j id then K .normal st' else K (.exit j) st'
  | .ret => K .ret st'
 | .loop c, st, K => match norm (hintOf D.hints (jd c)) (bmk (hintOf D.hints (jd c)) st.n) (bp7 (hintOf D.hints (jd c)) (aso (hintOf D.hints (jd c)) st)) (aso (hintOf D.hints (jd c)) st) with
  | none => none
  | some st => match ayg D.loops (jd c) with
   | some s => s st K
   | none => none
 | .exit id, st, K => K (.exit id) st
 | .ret, st, K => K .ret st
 | .rangeFunc g _ _ body, st, K => match bo4 D st g body with
  | some (e, first, caps) => e.s (oo first (.yld st.n e.ts (looks st.f e.ts) :: caps)) st.h (st.n + 1) fun _ h n => bif bcx st.n h then K .normal { f := st.f, h := h, n := n, m := st.m } else none
  | none => none
 | _, _, _ => none
def cu : Code → List Code
 | .seq a b => cu a ++ cu b
 | .cond _ a b => cu a ++ cu b
 | .block _ c => cu c
 | .loop c => c :: cu c
 | _ => []
def ug : Code → List Code
 | .seq a b => ug a ++ ug b
 | .cond _ a b => ug a ++ ug b
 | .block _ c => ug c
 | .loop c => ug c
 | .rangeFunc g ps a b => [.rangeFunc g ps a b]
 | _ => []
def bhy : List Nat → List AVal → List (Nat × AVal)
 | t :: ts, a :: r => (t, a) :: bhy ts r
 | _, _ => []
def bi6 (m : Nat) : List Nat → Bool
 | [] => true
 | t :: r => Nat.blt t m && bi6 m r
def itA (D : Ctx) (c : Code) (K : AExit → ASt → Option R) (k : Nat) (st : ASt) : Option R :=
 iter (hintOf D.hints (jd c)) (st.n - (hintOf D.hints (jd c)).rows.length) (keysOf (aul (hintOf D.hints (jd c)).rows.length st.h)) (ad8 D c) K k st
def ji (D : Ctx) (c : Code) : Prop := ∀ s, ayg D.loops (jd c) = some s → ∀ st K r, s st K = some r → ∃ k, itA D c K k st = some r
mutual
def aqa : AVal → List Nat
 | .win j _ _ | .awin j _ _ _ _ => [j]
 | .agg l | .tuple l => aev l
 | .fn _ a b => oo (mg a) (mg b)
 | .alt _ _ a b _ c d => oo (oo (mg a) (mg b)) (oo (mg c) (mg d))
 | .iface _ x => qj x
 | _ => []
def aev : List AVal → List Nat
 | [] => []
 | a :: r => oo (aqa a) (aev r)
end
mutual
def aws (hl : Nat → Option Blk) : AVal → AVal
 | .own id => match hl id with
  | some ⟨.row e c, false⟩ => .fr e c
  | some ⟨.row _ c, true⟩ => .sl c
  | _ => .bot
 | .agg l => .agg (aqo hl l)
 | .tuple l => .tuple (aqo hl l)
 | a => w9 hl a
def aqo (hl : Nat → Option Blk) : List AVal → List AVal
 | [] => []
 | a :: r => aws hl a :: aqo hl r
end
mutual
def apw : AVal → List Nat
 | .own j => [j]
 | .agg l | .tuple l => aja l
 | _ => []
def aja : List AVal → List Nat
 | [] => []
 | a :: r => oo (apw a) (aja r)
end
def ahc : List Nat → Bool
 | [] => true
 | a :: r => !atj a r && ahc r
mutual
def bap : Sh → AVal → AVal
 | .sl c, a => bde c (.sl c) a
 | .fr e c, a => bde c (.fr e c) a
 | .agg ss, .agg l => .agg (bdk ss l)
 | .agg ss, .fn f a c => .fn f a (ou ss c)
 | .alt f fa fc g ga gc, a => auo f fa fc g ga gc a
 | _, a => a
def bdk : List Sh → List AVal → List AVal
 | s :: ss, a :: r => bap s a :: bdk ss r
 | _, l => l
end
mutual
def bo7 : Sh → AVal → List Nat
 | .sl _, .own j => [j]
 | .agg ss, .agg l => ag1 ss l
 | _, _ => []
def ag1 : List Sh → List AVal → List Nat
 | s :: ss, a :: r => oo (bo7 s a) (ag1 ss r)
 | _, _ => []
end
def cellV (D : Ctx) (st : ASt) (t : Nat) (ty : TypeId) : Option AVal :=
 match ads D.P ty, j5 D.P ty with
 | some g, some sz => match placeOf D (fq st.h) (look st.f t) sz with
  | some mid => bif g then some (ath mid) else match mid with
   | [.arr ..] => none
   | [a] => some a
   | _ => none
  | none => none
 | _, _ => none
def blg (D : Ctx) (st : ASt) : List ResultVar → Option (List AVal)
 | [] => some []
 | .tmp t :: r => match blg D st r with
  | some l => some (look st.f t :: l)
  | none => none
 | .cell t ty :: r => match cellV D st t ty, blg D st r with
  | some a, some l => some (a :: l)
  | _, _ => none
def oneOf : List AVal → AVal
 | [a] => a
 | l => .tuple l
def bor (D : Ctx) (sig : List Sh) (fn : Func) (st : ASt) (K : AVal → Option R) : Option R :=
 match blg D st fn.results.toList with
 | none => none
 | some l =>
  bif ahc (aja l) then K (oneOf (bdk sig (aqo (fq (oo (freeze (fq st.h) (oo (aev l) (ag1 sig l)) []) st.h)) l))) else none
def as0 (D : Ctx) (Y : YCtx) : bqy := fun ts vs args h n K =>
 bif Nat.beq args.length Y.ps.size && ahc Y.ps.toList && bi6 Y.m Y.ps.toList then
  ad8 D Y.assign ⟨oo (bhy Y.ps.toList args) (bhy ts vs), h, n, Y.m⟩ fun ex st => match ex with
   | .normal => ad8 D Y.body st fun ex st => match ex with
    | .normal => K st.h st.n
    | _ => none
   | _ => none
 else none
def aoq : Nat → List AVal → List (Nat × AVal)
 | _, [] => []
 | i, a :: r => (i, a) :: aoq (i + 1) r
def bm0 (D : Ctx) (fn : Func) (sig : List Sh) (args : List AVal) (K : AVal → Option R) : Option R :=
 match fn.body with
 | none => none
 | some c => bif Nat.ble args.length fn.ntmps then
     ad8 D c ⟨aoq 0 args, [], 0, fn.ntmps⟩ fun ex st => match ex with
      | .exit _ => none
      | .normal => bor D sig fn st K
      | .ret => bor D sig fn st K
  else none
def agj (D : Ctx) (fn : Func) : awx := fun args h n K =>
 match fn.body with
 | none => none
 | some c => bif Nat.ble args.length fn.ntmps then
     ad8 D c ⟨aoq 0 args, h, n, fn.ntmps⟩ fun ex st => match ex with
      | .exit _ => none
      | .normal => outIn D fn st K
      | .ret => outIn D fn st K
  else none
 where outIn (D : Ctx) (fn : Func) (st : ASt) (K : AVal → Hp → Nat → Option R) : Option R :=
 match blg D st fn.results.toList with
 | none => none
 | some l => K (oneOf l) st.h st.n
end Go.Abs
