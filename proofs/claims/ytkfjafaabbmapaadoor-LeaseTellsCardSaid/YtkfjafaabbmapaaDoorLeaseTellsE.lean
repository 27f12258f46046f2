/-
  LeaseTells, part 5: an interpreter of my own over abstract values, the pure functions, the walks and the plain law.
-/

import Derived.Test.YtkfjafaabbmapaaDoorLeaseTellsD

namespace Go.Abs
open Go Go.RowKit
set_option linter.unusedVariables false
set_option linter.unusedSimpArgs false
def apf (ops : Array Oper) (j : Nat) : Option Nat := (ops[j]?).bind (·.dst)
def ay4 (ops : Array Oper) (o : Oper) (st : ASt) (F : ASt → Option R) (S : ASt → Option R) : Option R :=
 match o.guard with
 | none => F st
 | some (j, want) => match apf ops j with
  | none => none
  | some t => match look st.f t with
   | .v (.bool b) => br b (bif want then F (st.put (some t) (.v (.bool true))) else S (st.put (some t) (.v (.bool true)))) (bif want then S (st.put (some t) (.v (.bool false))) else F (st.put (some t) (.v (.bool false))))
   | .v (.tuple _) => S st
   | _ => none
def asn : List (Nat × ard) → Nat → Option ard
 | [], _ => none
 | (k, s) :: r, t => bif Nat.beq k t then some s else asn r t
def bpg (f : List (Nat × AVal)) : Op → Option (Nat × List AVal)
 | .call { callee := .value x, args, .. } => match ev f x with
  | .fn (.func g) first caps => some (g, mg first (mg (evs f args.toList) caps))
  | _ => none
 | _ => none
def bfc (D : Ctx) (f : List (Nat × AVal)) (op : Op) : Option (ard × List AVal) :=
 match bpg f op with
 | some (g, as) => match asn D.inl g with
  | some s => some (s, as)
  | none => none
 | none => none
def bh8 (f : List (Nat × AVal)) : Op → Option (List Nat × List AVal × List AVal)
 | .call { callee := .value x, args, .. } => match ev f x with
  | .yld _ ts vs => some (ts, vs, evs f args.toList)
  | _ => none
 | _ => none
def doA (D : Ctx) (o : Oper) (st : ASt) (K : ASt → Option R) : Option R :=
 match bh8 st.f o.op with
 | some (ts, vs, as) => match D.ys with
  | some s => s ts vs as st.h st.n fun h n => K { f := bhk st.m o.dst (.v (.bool true)) st.f, h := h, n := n, m := st.m }
  | none => none
 | none => match bfc D st.f o.op with
 | some (s, as) => s as st.h st.n fun v h n => K { f := bhk st.m o.dst v st.f, h := h, n := n, m := st.m }
 | none => opA D o st fun e => K (st.app e o.dst)
def bi7 (D : Ctx) (ops : Array Oper) : List Oper → ASt → (ASt → Option R) → Option R
 | [], st, K => K st
 | o :: rest, st, K => ay4 ops o st (fun st => doA D o st fun st => bi7 D ops rest st K) (fun st => bi7 D ops rest (st.put o.dst (.v undef)) K)
structure Info where
 looks : List Nat
 dst : Option Nat
 vs : List AVal
 puts : Hp
 cl : List Nat
def tmpsOf : List Operand → List Nat
 | [] => []
 | .tmp t :: r => t :: tmpsOf r
 | _ :: r => tmpsOf r
def nth {α : Type} : List α → Nat → Option α
 | [], _ => none
 | a :: _, 0 => some a
 | _ :: r, n + 1 => nth r n
def lun : List Nat → List Nat → List Nat
 | [], l => l
 | a :: r, l => bif aon a l then lun r l else a :: lun r l
def bew (acc : List Info) (i : Nat) : List Edge → Option (List Nat)
 | [] => some []
 | e :: r => bif Region.binds .any e then
     bif Nat.blt e.on i then
      match nth acc (i - 1 - e.on), bew acc i r with
      | some x, some l => some (lun (e.on :: x.cl) l)
      | _, _ => none
     else none
  else bew acc i r
def auv (d : Option Nat) (l : List Nat) : Bool :=
 match d with
 | none => false
 | some d => aon d l
def aox (d d' : Option Nat) : Bool :=
 match d, d' with
 | some d, some d' => Nat.beq d d'
 | _, _ => false
def akf : Hp → List AVal → Hp → Bool
 | [], _, _ => false
 | (id, _) :: r, vs, h => l7 id vs || (assoc h id).isSome || akf r vs h
def apu (x y : Info) : Bool :=
 !(auv x.dst y.looks || auv y.dst x.looks || aox x.dst y.dst || akf x.puts y.vs y.puts || akf y.puts x.vs x.puts)
def av8 : List Info → Nat → Info → Bool
 | [], _, _ => true
 | x :: r, n, y => (aon (n - 1) y.cl || apu x y) && av8 r (n - 1) y
def aza (ops : Array Oper) (o : Oper) : List Nat :=
 match o.guard with
 | some (j, _) => (apf ops j).toList
 | none => []
def bgv (ops : Array Oper) (o : Oper) (vs : List AVal) (puts : Hp) (cl : List Nat) : Info := ⟨mg (aza ops o) (tmpsOf (ahv o.op)), o.dst, vs, puts, cl⟩
def auy (ops : Array Oper) (o : Oper) (cl : List Nat) : Info := ⟨aza ops o, o.dst, [], [], cl⟩
def ayv (acc : List Info) (i : Nat) (I : Info) (F : List Info → Option R) : Option R := bif av8 acc i I then F (I :: acc) else none
def auf (op : Op) (vs : List AVal) : List AVal :=
 match op with
 | .move _ | .assign _ | .pick _ _ _ | .nilCheck _ | .makeFunc _ _ _ | .makeInterface _ _ | .fieldAddr _ _ _ | .box _ _ => []
 | _ => vs
def opD (D : Ctx) (o : Oper) (st : ASt) (K : Eff → Option R) : Option R :=
 core D o.op (evs st.f (ahv o.op)) (mask (auf o.op (evs st.f (ahv o.op))) st.h) st.n K
def atx (D : Ctx) (ops : Array Oper) : List Oper → Nat → List Info → ASt → (List Info → ASt → Option R) → Option R
 | [], _, acc, st, K => K acc st
 | o :: rest, i, acc, st, K =>
  match bew acc i o.after.toList with
  | none => none
  | some cl =>
   ay4 ops o st
    (fun st => opD D o st fun e => ayv acc i (bgv ops o (auf o.op (evs st.f (ahv o.op))) e.puts cl) fun acc => atx D ops rest (i + 1) acc (st.app e o.dst) K)
    (fun st => ayv acc i (auy ops o cl) fun acc => atx D ops rest (i + 1) acc (st.put o.dst (.v undef)) K)
def awu {α : Type} : List α → Option (List α × α)
 | [] => none
 | a :: r => match awu r with
  | some (x, y) => some (a :: x, y)
  | none => some ([], a)
def allIn : Nat → List Nat → Bool
 | 0, _ => true
 | n + 1, l => aon n l && allIn n l
def bhl (D : Ctx) (ops : Array Oper) (st : ASt) (K : ASt → Option R) : Option R :=
 match awu ops.toList with
 | some (l0, o) => bif (bfc D [] o.op).isSome && o.guard.isNone then
     atx D ops l0 0 [] st fun acc st => match bew acc l0.length o.after.toList with
      | some cl => bif allIn l0.length cl then doA D o st K else none
      | none => none
  else atx D ops ops.toList 0 [] st fun _ => K
 | none => atx D ops ops.toList 0 [] st fun _ => K
def jl : Code → Nat
 | .region id _ _ => id
 | .seq a _ => jl a
 | .block _ b => jl b
 | .loop b => jl b
 | .scope b => jl b
 | _ => 0
def hintOf : List (Nat × Hint) → Nat → Hint
 | [], _ => ⟨[], [], [], [], none, [], [], []⟩
 | (k, h) :: r, t => bif Nat.beq k t then h else hintOf r t
def bke (n : Nat) : Bk → Bool
 | .row _ _ => true
 | .box _ l => ak0 n l
def bcv (f : List (Nat × AVal)) (n : Nat) : List Nat → Option (List (Nat × AVal))
 | [] => some []
 | t :: r => bif bnd n (look f t) then
     match bcv f n r with
     | some l => some ((t, look f t) :: l)
     | none => none
  else none
def keepR (g : Nat → AVal) (h : Hp) : Nat → List (Nat × TypeId × Cont) → Option (List (Nat × AVal) × Hp × List Nat)
 | _, [] => some ([], [], [])
 | n, (t, e, c0) :: r => match keepR g h (n + 1) r with
  | none => none
  | some (fs, hs, us) => match g t with
   | .own id => match iw h id with
    | some ⟨.row e' c, false⟩ => bif Nat.beq e e' && !aon id us then some ((t, .own n) :: fs, (n, some ⟨.row e c, false⟩) :: hs, id :: us) else none
    | _ => none
   | .win id 0 len => match iw h id with
    | some ⟨.row e' c, false⟩ => bif Nat.beq e e' && !aon id us then some ((t, .own n) :: fs, (n, some ⟨.row e (c.take len), false⟩) :: hs, id :: us) else none
    | _ => none
   | .v (.slice none 0 0) => bif Nat.beq c0.len 0 then some ((t, .own n) :: fs, (n, some ⟨.row e c0, false⟩) :: hs, us) else none
   | _ => none
def av1 (h : Hp) (n : Nat) (us : List Nat) : List Nat → Option Hp
 | [] => some []
 | id :: r => match av1 h n us r with
  | none => none
  | some l => bif aon id us then some ((id, none) :: l) else
   match iw h id with
   | none => some ((id, none) :: l)
   | some b => bif bke n b.b && Nat.blt id n then some ((id, some b) :: l) else none
def bg2 : Hp → List Nat → List Nat
 | [], acc => acc
 | (id, _) :: r, acc => bif aon id acc then bg2 r acc else bg2 r (id :: acc)
def as6 (hl : Nat → Option Blk) (f : List (Nat × AVal)) : List (Nat × Sh) → List (Nat × AVal)
 | [] => []
 | (t, s) :: r => (t, ahu s (uj hl (look f t))) :: as6 hl f r
def arv (f : List (Nat × AVal)) : List (Nat × Sh) → List Nat
 | [] => []
 | (t, _) :: r => mg (oz (look f t)) (arv f r)
def aj8 (l : List (Nat × Sh)) (st : ASt) : ASt :=
 match l with
 | [] => st
 | l => { st with f := mg (as6 (iw st.h) st.f l) st.f, h := mg (freeze (iw st.h) (arv st.f l) []) st.h }
def bbc : AVal → Bool
 | .own _ | .win _ _ _ => true
 | _ => false
def bcp (hl : Nat → Option Blk) (a : AVal) : AVal := bif bbc a then uj hl a else a
def asi (hl : Nat → Option Blk) : List AVal → List AVal
 | [] => []
 | a :: r => bcp hl a :: asi hl r
def an8 : List AVal → List Nat
 | [] => []
 | a :: r => bif bbc a then mg (oz a) (an8 r) else an8 r
def alq (h : Hp) : List Nat → List Nat
 | [] => []
 | id :: r => match iw h id with
  | some ⟨.box _ l, _⟩ => mg (an8 l) (alq h r)
  | _ => alq h r
def ai6 (hl : Nat → Option Blk) (h : Hp) : List Nat → Hp
 | [] => []
 | id :: r => match iw h id with
  | some ⟨.box e l, f⟩ => (id, some ⟨.box e (asi hl l), f⟩) :: ai6 hl h r
  | _ => ai6 hl h r
def zo (ids : List Nat) (st : ASt) : ASt :=
 match ids with
 | [] => st
 | ids => { st with h := mg (ai6 (iw st.h) (mg (freeze (iw st.h) (alq st.h ids) []) st.h) ids) (mg (freeze (iw st.h) (alq st.h ids) []) st.h) }
def az3 : List AVal → List Nat
 | [] => []
 | .ptr j 0 :: r => j :: az3 r
 | _ :: r => az3 r
def asc (f : List (Nat × AVal)) : List Oper → List Nat
 | [] => []
 | o :: r => match o.op with
  | .makeFunc _ first captured => lun (mg (az3 (evs f first.toList)) (az3 (evs f captured.toList))) (asc f r)
  | _ => asc f r
def bnq (id : Nat) (l : List AVal) : AVal → AVal
 | .ptr j 0 => bif Nat.beq id j then .sta l else .ptr j 0
 | a => a
def bkp (id : Nat) (l : List AVal) : List (Nat × AVal) → List (Nat × AVal)
 | [] => []
 | (t, a) :: r => (t, bnq id l a) :: bkp id l r
def an2 (id : Nat) (st : ASt) : ASt :=
 match iw st.h id with
 | some ⟨.box _ l, _⟩ => bif ak0 0 l then { st with f := bkp id l st.f, h := mg (freeze (iw st.h) [id] []) st.h } else st
 | _ => st
def apj : List Nat → ASt → ASt
 | [], st => st
 | id :: r, st => apj r (an2 id st)
def bh4 (D : Ctx) (ops : List Oper) (st : ASt) : ASt := bif D.sta then apj (asc st.f ops) (zo (asc st.f ops) st) else st
def coB (h : Hp) : List (Nat × List Sh) → Hp
 | [] => []
 | (id, s) :: r => match iw h id with
  | some ⟨.box e l, f⟩ => (id, some ⟨.box e (ow s l), f⟩) :: coB h r
  | _ => coB h r
def bfp (l : List (Nat × List Sh)) (st : ASt) : ASt :=
 match l with
 | [] => st
 | l => { st with h := mg (coB st.h l) st.h }
def bdx (id : Nat) (d : List AVal) (st : ASt) : ASt :=
 match iw st.h id with
 | some ⟨.box e [.v (.pointer none)], f⟩ => { st with h := (id, some ⟨.box e [.osta 0 d], f⟩) :: st.h }
 | some ⟨.box _ [.ptr j 0], _⟩ => match iw (zo [j] st).h id, iw (zo [j] st).h j with
  | some ⟨.box e [.ptr j' 0], f⟩, some ⟨.box _ l, _⟩ => bif Nat.beq j' j && ak0 0 l && !Nat.beq id j then
      { zo [j] st with h := (id, some ⟨.box e [.osta 1 l], f⟩) :: mg (freeze (iw (zo [j] st).h) [j] []) (zo [j] st).h } else zo [j] st
  | _, _ => zo [j] st
 | _ => st
def bds : List (Nat × List AVal) → ASt → ASt
 | [], st => st
 | (id, d) :: r, st => bds r (bdx id d st)
def an5 (h : Hint) (st : ASt) : ASt := bds h.osb (bfp h.shc (zo h.shb (aj8 h.sls st)))
def bh0 (h : Hint) (st : ASt) : List Nat :=
 match h.gc with
 | none => bg2 st.h []
 | some (_, l) => l
def be1 (h : Hint) (n : Nat) : Nat :=
 match h.gc with
 | none => n
 | some (m, _) => bif Nat.ble n m then m else n
def bcb (h : Hp) (b : Nat) : AVal := match iw h b with
 | some ⟨.box _ [.own j], _⟩ => .own j
 | some ⟨.box _ [.v (.slice none 0 0)], _⟩ => .v (.slice none 0 0)
 | _ => .bot
def bb5 (st : ASt) (t : Nat) : AVal := bif Nat.blt t 1000000 then look st.f t else bcb st.h (t - 1000000)
def bhc : List (Nat × TypeId × Cont) → List Nat
 | [] => []
 | (t, _, _) :: r => bif Nat.blt t 1000000 then bhc r else (t - 1000000) :: bhc r
def clr (h : Hp) : List Nat → Hp
 | [] => []
 | b :: r => match iw h b with
  | some ⟨.box e [.own _], f⟩ => (b, some ⟨.box e [.bot], f⟩) :: clr h r
  | some ⟨.box e [.v (.slice none 0 0)], f⟩ => (b, some ⟨.box e [.bot], f⟩) :: clr h r
  | _ => clr h r
def bk0 (h : Hp) (l : List Nat) : Hp := match l with
 | [] => h
 | l => mg (clr h l) h
def slotsOf : List (Nat × AVal) → List (Nat × AVal)
 | [] => []
 | (t, x) :: r => bif Nat.blt t 1000000 then (t, x) :: slotsOf r else slotsOf r
def bmh (fs : List (Nat × AVal)) (id : Nat) (b : Option Blk) : Option Blk := match b with
 | some ⟨.box e [.bot], f⟩ => match assoc fs (id + 1000000) with
  | some x => some ⟨.box e [x], f⟩
  | none => b
 | _ => b
def bbh (fs : List (Nat × AVal)) : Hp → Hp
 | [] => []
 | (id, b) :: r => (id, bmh fs id b) :: bbh fs r
def bgr (fs : List (Nat × AVal)) (l : List Nat) (h : Hp) : Hp := match l with
 | [] => h
 | _ => bbh fs h
def norm (h : Hint) (n : Nat) (ids : List Nat) (st : ASt) : Option ASt :=
 match keepR (bb5 st) (bk0 st.h (bhc h.rows)) n h.rows with
 | none => none
 | some (fs, hs, us) => match bcv st.f n h.keep, av1 (bk0 st.h (bhc h.rows)) n us ids with
  | some f, some hh => some { f := mg (slotsOf fs) f, h := bgr fs (bhc h.rows) (mg hs hh), n := n + h.rows.length, m := st.m }
  | _, _ => none
def ar3 : List (Nat × zn) → Nat → Option zn
 | [], _ => none
 | (k, s) :: r, t => bif Nat.beq k t then some s else ar3 r t
def be5 (f : List (Nat × AVal)) : List Nat → List (Nat × AVal)
 | [] => []
 | t :: r => (t, look f t) :: be5 f r
def biq (h : Hint) (n : Nat) (ids : List Nat) (K : AExit → ASt → Option R) (next : ASt → Option R) (ex : AExit) (st : ASt) : Option R :=
 match ex with
 | .normal => match norm h n ids (an5 h st) with
  | some st => next st
  | none => none
 | .exit id => match norm h n ids (an5 h st) with
  | some st => K (.exit id) st
  | none => none
 | .ret => K .ret { st with f := be5 st.f h.boxes }
def iter (h : Hint) (n : Nat) (ids : List Nat) (F : ASt → (AExit → ASt → Option R) → Option R) (K : AExit → ASt → Option R) : Nat → ASt → Option R
 | 0, st => F st (biq h n ids K fun _ => none)
 | k + 1, st => F st (biq h n ids K (iter h n ids F K k))
def keysOf : Hp → List Nat
 | [] => []
 | (id, _) :: r => id :: keysOf r
def aqb {α : Type} : Nat → List α → List α
 | 0, l => l
 | _ + 1, [] => []
 | n + 1, _ :: r => aqb n r
def ars : List (Nat × RngE) → Nat → Option RngE
 | [], _ => none
 | (k, s) :: r, t => bif Nat.beq k t then some s else ars r t
def looks (f : List (Nat × AVal)) : List Nat → List AVal
 | [] => []
 | t :: r => look f t :: looks f r
def awo (id : Nat) : Hp → Bool
 | [] => true
 | (_, some ⟨.box _ l, _⟩) :: r => !l7 id l && awo id r
 | _ :: r => awo id r
def noY : Option YCtx → Bool
 | none => true
 | some _ => false
def bhv (D : Ctx) (st : ASt) (g : Operand) (body : Code) : Option (RngE × List AVal × List AVal) :=
 match ev st.f g with
 | .fn (.func gid) first caps => match ars D.rng (jl body) with
  | some e => bif D.top && noY D.y && Nat.beq gid e.g && Nat.beq st.m e.m then some (e, first, caps) else none
  | none => none
 | _ => none
def acj (D : Ctx) : Code → ASt → (AExit → ASt → Option R) → Option R
 | .skip, st, K => K .normal st
 | .label _, st, K => K .normal st
 | .region _ ops false, st, K => bi7 D ops ops.toList (bh4 D ops.toList st) fun st => K .normal st
 | .region _ ops true, st, K => bhl D ops (bh4 D ops.toList st) fun st => K .normal st
 | .seq a b, st, K => acj D a st fun ex st' => match ex with
  | .normal => acj D b st' K
  | .exit id => K (.exit id) st'
  | .ret => K .ret st'
 | .cond c x y, st, K => match ev st.f c with
  | .v (.bool b) => br b (acj D x st K) (acj D y st K)
  | _ => none
 | .block id c, st, K => acj D c st fun ex st' => match ex with
  | .normal => K .normal st'
  | .exit j => bif Nat.beq j id then K .normal st' else K (.exit j) st'
  | .ret => K .ret st'
 | .loop c, st, K => match norm (hintOf D.hints (jl c)) (be1 (hintOf D.hints (jl c)) st.n) (bh0 (hintOf D.hints (jl c)) (an5 (hintOf D.hints (jl c)) st)) (an5 (hintOf D.hints (jl c)) st) with
  | none => none
  | some st => match ar3 D.loops (jl c) with
   | some s => s st K
   | none => none
 | .exit id, st, K => K (.exit id) st
 | .ret, st, K => K .ret st
 | .rangeFunc g _ _ body, st, K => match bhv D st g body with
  | some (e, first, caps) => e.s (mg first (.yld st.n e.ts (looks st.f e.ts) :: caps)) st.h (st.n + 1) fun _ h n => bif awo st.n h then K .normal { f := st.f, h := h, n := n, m := st.m } else none
  | none => none
 | _, _, _ => none
def fq : Code → List Code
 | .seq a b => fq a ++ fq b
 | .cond _ a b => fq a ++ fq b
 | .block _ c => fq c
 | .loop c => c :: fq c
 | _ => []
def sw : Code → List Code
 | .seq a b => sw a ++ sw b
 | .cond _ a b => sw a ++ sw b
 | .block _ c => sw c
 | .loop c => sw c
 | .rangeFunc g ps a b => [.rangeFunc g ps a b]
 | _ => []
def bbj : List Nat → List AVal → List (Nat × AVal)
 | t :: ts, a :: r => (t, a) :: bbj ts r
 | _, _ => []
def bdu (m : Nat) : List Nat → Bool
 | [] => true
 | t :: r => Nat.blt t m && bdu m r
def itA (D : Ctx) (c : Code) (K : AExit → ASt → Option R) (k : Nat) (st : ASt) : Option R :=
 iter (hintOf D.hints (jl c)) (st.n - (hintOf D.hints (jl c)).rows.length) (keysOf (aqb (hintOf D.hints (jl c)).rows.length st.h)) (acj D c) K k st
def ou (D : Ctx) (c : Code) : Prop := ∀ s, ar3 D.loops (jl c) = some s → ∀ st K r, s st K = some r → ∃ k, itA D c K k st = some r
mutual
def alb : AVal → List Nat
 | .win j _ _ | .awin j _ _ _ _ => [j]
 | .agg l | .tuple l => adi l
 | .fn _ a b => mg (lu a) (lu b)
 | .alt _ _ a b _ c d => mg (mg (lu a) (lu b)) (mg (lu c) (lu d))
 | .iface _ x => oz x
 | _ => []
def adi : List AVal → List Nat
 | [] => []
 | a :: r => mg (alb a) (adi r)
end
mutual
def aos (hl : Nat → Option Blk) : AVal → AVal
 | .own id => match hl id with
  | some ⟨.row e c, false⟩ => .fr e c
  | some ⟨.row _ c, true⟩ => .sl c
  | _ => .bot
 | .agg l => .agg (ala hl l)
 | .tuple l => .tuple (ala hl l)
 | a => uj hl a
def ala (hl : Nat → Option Blk) : List AVal → List AVal
 | [] => []
 | a :: r => aos hl a :: ala hl r
end
mutual
def alg : AVal → List Nat
 | .own j => [j]
 | .agg l | .tuple l => agc l
 | _ => []
def agc : List AVal → List Nat
 | [] => []
 | a :: r => mg (alg a) (agc r)
end
def afj : List Nat → Bool
 | [] => true
 | a :: r => !aon a r && afj r
mutual
def au1 : Sh → AVal → AVal
 | .sl c, a => awm c (.sl c) a
 | .fr e c, a => awm c (.fr e c) a
 | .agg ss, .agg l => .agg (axg ss l)
 | .agg ss, .fn f a c => .fn f a (ow ss c)
 | .alt f fa fc g ga gc, a => ap1 f fa fc g ga gc a
 | _, a => a
def axg : List Sh → List AVal → List AVal
 | s :: ss, a :: r => au1 s a :: axg ss r
 | _, l => l
end
mutual
def bh7 : Sh → AVal → List Nat
 | .sl _, .own j => [j]
 | .agg ss, .agg l => aen ss l
 | _, _ => []
def aen : List Sh → List AVal → List Nat
 | s :: ss, a :: r => mg (bh7 s a) (aen ss r)
 | _, _ => []
end
def cellV (D : Ctx) (st : ASt) (t : Nat) (ty : TypeId) : Option AVal :=
 match ab3 D.P ty, kg D.P ty with
 | some g, some sz => match placeOf D (iw st.h) (look st.f t) sz with
  | some mid => bif g then some (aod mid) else match mid with
   | [.arr ..] => none
   | [a] => some a
   | _ => none
  | none => none
 | _, _ => none
def bei (D : Ctx) (st : ASt) : List ResultVar → Option (List AVal)
 | [] => some []
 | .tmp t :: r => match bei D st r with
  | some l => some (look st.f t :: l)
  | none => none
 | .cell t ty :: r => match cellV D st t ty, bei D st r with
  | some a, some l => some (a :: l)
  | _, _ => none
def oneOf : List AVal → AVal
 | [a] => a
 | l => .tuple l
def bgq (D : Ctx) (sig : List Sh) (fn : Func) (st : ASt) (K : AVal → Option R) : Option R :=
 match bei D st fn.results.toList with
 | none => none
 | some l =>
  bif afj (agc l) then K (oneOf (axg sig (ala (iw (mg (freeze (iw st.h) (mg (adi l) (aen sig l)) []) st.h)) l))) else none
def awt (D : Ctx) (Y : YCtx) : bi0 := fun ts vs args h n K =>
 bif Nat.beq args.length Y.ps.size && afj Y.ps.toList && bdu Y.m Y.ps.toList then
  acj D Y.assign ⟨mg (bbj Y.ps.toList args) (bbj ts vs), h, n, Y.m⟩ fun ex st => match ex with
   | .normal => acj D Y.body st fun ex st => match ex with
    | .normal => K st.h st.n
    | _ => none
   | _ => none
 else none
def akz : Nat → List AVal → List (Nat × AVal)
 | _, [] => []
 | i, a :: r => (i, a) :: akz (i + 1) r
def bic (D : Ctx) (fn : Func) (sig : List Sh) (args : List AVal) (K : AVal → Option R) : Option R :=
 match fn.body with
 | none => none
 | some c => bif Nat.ble args.length fn.ntmps then
     acj D c ⟨akz 0 args, [], 0, fn.ntmps⟩ fun ex st => match ex with
      | .exit _ => none
      | .normal => bgq D sig fn st K
      | .ret => bgq D sig fn st K
  else none
def yw (D : Ctx) (fn : Func) : ard := fun args h n K =>
 match fn.body with
 | none => none
 | some c => bif Nat.ble args.length fn.ntmps then
     acj D c ⟨akz 0 args, h, n, fn.ntmps⟩ fun ex st => match ex with
      | .exit _ => none
      | .normal => outIn D fn st K
      | .ret => outIn D fn st K
  else none
 where outIn (D : Ctx) (fn : Func) (st : ASt) (K : AVal → Hp → Nat → Option R) : Option R :=
 match bei D st fn.results.toList with
 | none => none
 | some l => K (oneOf l) st.h st.n
end Go.Abs
