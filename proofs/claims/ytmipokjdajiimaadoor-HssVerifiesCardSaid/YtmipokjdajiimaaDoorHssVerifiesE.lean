/-
  HssVerifies, part 5: an interpreter of my own over abstract values, the pure functions, the walks and the plain law.
-/

import Derived.Test.YtmipokjdajiimaaDoorHssVerifiesD

namespace Go.Abs
open Go Go.RowKit
set_option linter.unusedVariables false
set_option linter.unusedSimpArgs false
def as1 (ops : Array Oper) (j : Nat) : Option Nat := (ops[j]?).bind (·.dst)
def bd0 (ops : Array Oper) (o : Oper) (st : ASt) (F : ASt → Option R) (S : ASt → Option R) : Option R :=
 match o.guard with
 | none => F st
 | some (j, want) => match as1 ops j with
  | none => none
  | some t => match look st.f t with
   | .v (.bool b) => br b (bif want then F (st.put (some t) (.v (.bool true))) else S (st.put (some t) (.v (.bool true)))) (bif want then S (st.put (some t) (.v (.bool false))) else F (st.put (some t) (.v (.bool false))))
   | .v (.tuple _) => S st
   | _ => none
def asv : List (Nat × aul) → Nat → Option aul
 | [], _ => none
 | (k, s) :: r, t => bif Nat.beq k t then some s else asv r t
def bs9 (f : List (Nat × AVal)) : Op → Option (Nat × List AVal)
 | .call { callee := .value x, args, .. } => match ev f x with
  | .fn (.func g) first caps => some (g, kr first (kr (evs f args.toList) caps))
  | _ => none
 | _ => none
def bki (D : Ctx) (f : List (Nat × AVal)) (op : Op) : Option (aul × List AVal) :=
 match bs9 f op with
 | some (g, as) => match asv D.inl g with
  | some s => some (s, as)
  | none => none
 | none => none
def bnb (f : List (Nat × AVal)) : Op → Option (List Nat × List AVal × List AVal)
 | .call { callee := .value x, args, .. } => match ev f x with
  | .yld _ ts vs => some (ts, vs, evs f args.toList)
  | _ => none
 | _ => none
def doA (D : Ctx) (o : Oper) (st : ASt) (K : ASt → Option R) : Option R :=
 match bnb st.f o.op with
 | some (ts, vs, as) => match D.ys with
  | some s => s ts vs as st.h st.n fun h n => K { f := bm9 st.m o.dst (.v (.bool true)) st.f, h := h, n := n, m := st.m }
  | none => none
 | none => match bki D st.f o.op with
 | some (s, as) => s as st.h st.n fun v h n => K { f := bm9 st.m o.dst v st.f, h := h, n := n, m := st.m }
 | none => opA D o st fun e => K (st.app e o.dst)
def boi (D : Ctx) (ops : Array Oper) : List Oper → ASt → (ASt → Option R) → Option R
 | [], st, K => K st
 | o :: rest, st, K => bd0 ops o st (fun st => doA D o st fun st => boi D ops rest st K) (fun st => boi D ops rest (st.put o.dst (.v undef)) K)
structure Info where
 looks : List Nat
 dst : Option Nat
 vs : List AVal
 puts : Hp
 cl : List Nat
def tmpsOf : List Operand → List Nat
 | [] => []
 | .tmp t :: r => t :: tmpsOf r
 | _ :: r => tmpsOf r
def nth {α : Type} : List α → Nat → Option α
 | [], _ => none
 | a :: _, 0 => some a
 | _ :: r, n + 1 => nth r n
def lun : List Nat → List Nat → List Nat
 | [], l => l
 | a :: r, l => bif aqt a l then lun r l else a :: lun r l
def bk0 (acc : List Info) (i : Nat) : List Edge → Option (List Nat)
 | [] => some []
 | e :: r => bif Region.binds .any e then
     bif Nat.blt e.on i then
      match nth acc (i - 1 - e.on), bk0 acc i r with
      | some x, some l => some (lun (e.on :: x.cl) l)
      | _, _ => none
     else none
  else bk0 acc i r
def axd (d : Option Nat) (l : List Nat) : Bool :=
 match d with
 | none => false
 | some d => aqt d l
def asw (d d' : Option Nat) : Bool :=
 match d, d' with
 | some d, some d' => Nat.beq d d'
 | _, _ => false
def alo : Hp → List AVal → Hp → Bool
 | [], _, _ => false
 | (id, _) :: r, vs, h => j6 id vs || (assoc h id).isSome || alo r vs h
def as4 (x y : Info) : Bool :=
 !(axd x.dst y.looks || axd y.dst x.looks || asw x.dst y.dst || alo x.puts y.vs y.puts || alo y.puts x.vs x.puts)
def azl : List Info → Nat → Info → Bool
 | [], _, _ => true
 | x :: r, n, y => (aqt (n - 1) y.cl || as4 x y) && azl r (n - 1) y
def bee (ops : Array Oper) (o : Oper) : List Nat :=
 match o.guard with
 | some (j, _) => (as1 ops j).toList
 | none => []
def blm (ops : Array Oper) (o : Oper) (vs : List AVal) (puts : Hp) (cl : List Nat) : Info := ⟨kr (bee ops o) (tmpsOf (aiz o.op)), o.dst, vs, puts, cl⟩
def aye (ops : Array Oper) (o : Oper) (cl : List Nat) : Info := ⟨bee ops o, o.dst, [], [], cl⟩
def bej (acc : List Info) (i : Nat) (I : Info) (F : List Info → Option R) : Option R := bif azl acc i I then F (I :: acc) else none
def awv (op : Op) (vs : List AVal) : List AVal :=
 match op with
 | .move _ | .assign _ | .pick _ _ _ | .nilCheck _ | .makeFunc _ _ _ | .makeInterface _ _ | .fieldAddr _ _ _ | .box _ _ => []
 | _ => vs
def opD (D : Ctx) (o : Oper) (st : ASt) (K : Eff → Option R) : Option R :=
 core D o.op (evs st.f (aiz o.op)) (mask (awv o.op (evs st.f (aiz o.op))) st.h) st.n K
def axt (D : Ctx) (ops : Array Oper) : List Oper → Nat → List Info → ASt → (List Info → ASt → Option R) → Option R
 | [], _, acc, st, K => K acc st
 | o :: rest, i, acc, st, K =>
  match bk0 acc i o.after.toList with
  | none => none
  | some cl =>
   bd0 ops o st
    (fun st => opD D o st fun e => bej acc i (blm ops o (awv o.op (evs st.f (aiz o.op))) e.puts cl) fun acc => axt D ops rest (i + 1) acc (st.app e o.dst) K)
    (fun st => bej acc i (aye ops o cl) fun acc => axt D ops rest (i + 1) acc (st.put o.dst (.v undef)) K)
def ba5 {α : Type} : List α → Option (List α × α)
 | [] => none
 | a :: r => match ba5 r with
  | some (x, y) => some (a :: x, y)
  | none => some ([], a)
def allIn : Nat → List Nat → Bool
 | 0, _ => true
 | n + 1, l => aqt n l && allIn n l
def bm3 (D : Ctx) (ops : Array Oper) (st : ASt) (K : ASt → Option R) : Option R :=
 match ba5 ops.toList with
 | some (l0, o) => bif (bki D [] o.op).isSome && o.guard.isNone then
     axt D ops l0 0 [] st fun acc st => match bk0 acc l0.length o.after.toList with
      | some cl => bif allIn l0.length cl then doA D o st K else none
      | none => none
  else axt D ops ops.toList 0 [] st fun _ => K
 | none => axt D ops ops.toList 0 [] st fun _ => K
def gu : Code → Nat
 | .region id _ _ => id
 | .seq a _ => gu a
 | .block _ b => gu b
 | .loop b => gu b
 | .scope b => gu b
 | _ => 0
def hintOf : List (Nat × Hint) → Nat → Hint
 | [], _ => ⟨[], [], [], [], none, [], [], []⟩
 | (k, h) :: r, t => bif Nat.beq k t then h else hintOf r t
def bql (n : Nat) : Bk → Bool
 | .row _ _ => true
 | .box _ l => al9 n l
def bhg (f : List (Nat × AVal)) (n : Nat) : List Nat → Option (List (Nat × AVal))
 | [] => some []
 | t :: r => bif bnd n (look f t) then
     match bhg f n r with
     | some l => some ((t, look f t) :: l)
     | none => none
  else none
def keepR (g : Nat → AVal) (h : Hp) : Nat → List (Nat × TypeId × Cont) → Option (List (Nat × AVal) × Hp × List Nat)
 | _, [] => some ([], [], [])
 | n, (t, e, c0) :: r => match keepR g h (n + 1) r with
  | none => none
  | some (fs, hs, us) => match g t with
   | .own id => match dx h id with
    | some ⟨.row e' c, false⟩ => bif Nat.beq e e' && !aqt id us then some ((t, .own n) :: fs, (n, some ⟨.row e c, false⟩) :: hs, id :: us) else none
    | _ => none
   | .win id 0 len => match dx h id with
    | some ⟨.row e' c, false⟩ => bif Nat.beq e e' && !aqt id us then some ((t, .own n) :: fs, (n, some ⟨.row e (c.take len), false⟩) :: hs, id :: us) else none
    | _ => none
   | .v (.slice none 0 0) => bif Nat.beq c0.len 0 then some ((t, .own n) :: fs, (n, some ⟨.row e c0, false⟩) :: hs, us) else none
   | _ => none
def ayv (h : Hp) (n : Nat) (us : List Nat) : List Nat → Option Hp
 | [] => some []
 | id :: r => match ayv h n us r with
  | none => none
  | some l => bif aqt id us then some ((id, none) :: l) else
   match dx h id with
   | none => some ((id, none) :: l)
   | some b => bif bql n b.b && Nat.blt id n then some ((id, some b) :: l) else none
def bmd : Hp → List Nat → List Nat
 | [], acc => acc
 | (id, _) :: r, acc => bif aqt id acc then bmd r acc else bmd r (id :: acc)
def av8 (hl : Nat → Option Blk) (f : List (Nat × AVal)) : List (Nat × Sh) → List (Nat × AVal)
 | [] => []
 | (t, s) :: r => (t, aiy s (um hl (look f t))) :: av8 hl f r
def au5 (f : List (Nat × AVal)) : List (Nat × Sh) → List Nat
 | [] => []
 | (t, _) :: r => kr (om (look f t)) (au5 f r)
def aly (l : List (Nat × Sh)) (st : ASt) : ASt :=
 match l with
 | [] => st
 | l => { st with f := kr (av8 (dx st.h) st.f l) st.f, h := kr (freeze (dx st.h) (au5 st.f l) []) st.h }
def bfr : AVal → Bool
 | .own _ | .win _ _ _ => true
 | _ => false
def bhz (hl : Nat → Option Blk) (a : AVal) : AVal := bif bfr a then um hl a else a
def avh (hl : Nat → Option Blk) : List AVal → List AVal
 | [] => []
 | a :: r => bhz hl a :: avh hl r
def ap2 : List AVal → List Nat
 | [] => []
 | a :: r => bif bfr a then kr (om a) (ap2 r) else ap2 r
def anc (h : Hp) : List Nat → List Nat
 | [] => []
 | id :: r => match dx h id with
  | some ⟨.box _ l, _⟩ => kr (ap2 l) (anc h r)
  | _ => anc h r
def ai8 (hl : Nat → Option Blk) (h : Hp) : List Nat → Hp
 | [] => []
 | id :: r => match dx h id with
  | some ⟨.box e l, f⟩ => (id, some ⟨.box e (avh hl l), f⟩) :: ai8 hl h r
  | _ => ai8 hl h r
def zw (ids : List Nat) (st : ASt) : ASt :=
 match ids with
 | [] => st
 | ids => { st with h := kr (ai8 (dx st.h) (kr (freeze (dx st.h) (anc st.h ids) []) st.h) ids) (kr (freeze (dx st.h) (anc st.h ids) []) st.h) }
def bam : List AVal → List Nat
 | [] => []
 | .ptr j 0 :: r => j :: bam r
 | _ :: r => bam r
def bou (f : List (Nat × AVal)) : List Oper → List (Nat × AVal)
 | [] => f
 | o :: r => match o.dst, o.op with
  | some d, .move x => bou ((d, ev f x) :: f) r
  | _, _ => bou f r
def anr (D : Ctx) (f : List (Nat × AVal)) : List Oper → List Nat
 | [] => []
 | o :: r => match o.op with
  | .makeFunc _ first captured => lun (kr (bam (evs f first.toList)) (bam (evs f captured.toList))) (anr D f r)
  | .call _ => match bs9 f o.op with
   | some (g, as) => match asv D.inl g with
    | some _ => anr D f r
    | none => lun (bam as) (anr D f r)
   | none => anr D f r
  | _ => anr D f r
def bv2 (id : Nat) (l : List AVal) : AVal → AVal
 | .ptr j 0 => bif Nat.beq id j then .sta l else .ptr j 0
 | a => a
def bo9 (id : Nat) (l : List AVal) : List (Nat × AVal) → List (Nat × AVal)
 | [] => []
 | (t, a) :: r => (t, bv2 id l a) :: bo9 id l r
def apw (id : Nat) (st : ASt) : ASt :=
 match dx st.h id with
 | some ⟨.box _ l, _⟩ => bif al9 0 l then { st with f := bo9 id l st.f, h := kr (freeze (dx st.h) [id] []) st.h } else st
 | _ => st
def atm : List Nat → ASt → ASt
 | [], st => st
 | id :: r, st => atm r (apw id st)
def bno (D : Ctx) (ops : List Oper) (st : ASt) : ASt := bif D.sta then atm (anr D (bou st.f ops) ops) (zw (anr D (bou st.f ops) ops) st) else st
def coB (h : Hp) : List (Nat × List Sh) → Hp
 | [] => []
 | (id, s) :: r => match dx h id with
  | some ⟨.box e l, f⟩ => (id, some ⟨.box e (mo s l), f⟩) :: coB h r
  | _ => coB h r
def bjs (l : List (Nat × List Sh)) (st : ASt) : ASt :=
 match l with
 | [] => st
 | l => { st with h := kr (coB st.h l) st.h }
def bi3 (id : Nat) (d : List AVal) (st : ASt) : ASt :=
 match dx st.h id with
 | some ⟨.box e [.v (.pointer none)], f⟩ => { st with h := (id, some ⟨.box e [.osta 0 d], f⟩) :: st.h }
 | some ⟨.box _ [.ptr j 0], _⟩ => match dx (zw [j] st).h id, dx (zw [j] st).h j with
  | some ⟨.box e [.ptr j' 0], f⟩, some ⟨.box _ l, _⟩ => bif Nat.beq j' j && al9 0 l && !Nat.beq id j then
      { zw [j] st with h := (id, some ⟨.box e [.osta 1 l], f⟩) :: kr (freeze (dx (zw [j] st).h) [j] []) (zw [j] st).h } else zw [j] st
  | _, _ => zw [j] st
 | _ => st
def bh0 : List (Nat × List AVal) → ASt → ASt
 | [], st => st
 | (id, d) :: r, st => bh0 r (bi3 id d st)
def aqi (h : Hint) (st : ASt) : ASt := bh0 h.osb (bjs h.shc (zw h.shb (aly h.sls st)))
def bnw (h : Hint) (st : ASt) : List Nat :=
 match h.gc with
 | none => bmd st.h []
 | some (_, l) => l
def bjx (h : Hint) (n : Nat) : Nat :=
 match h.gc with
 | none => n
 | some (m, _) => bif Nat.ble n m then m else n
def bik (h : Hp) (b : Nat) : AVal := match dx h b with
 | some ⟨.box _ [.own j], _⟩ => .own j
 | some ⟨.box _ [.v (.slice none 0 0)], _⟩ => .v (.slice none 0 0)
 | _ => .bot
def bio (st : ASt) (t : Nat) : AVal := bif Nat.blt t 1000000 then look st.f t else bik st.h (t - 1000000)
def bmo : List (Nat × TypeId × Cont) → List Nat
 | [] => []
 | (t, _, _) :: r => bif Nat.blt t 1000000 then bmo r else (t - 1000000) :: bmo r
def clr (h : Hp) : List Nat → Hp
 | [] => []
 | b :: r => match dx h b with
  | some ⟨.box e [.own _], f⟩ => (b, some ⟨.box e [.bot], f⟩) :: clr h r
  | some ⟨.box e [.v (.slice none 0 0)], f⟩ => (b, some ⟨.box e [.bot], f⟩) :: clr h r
  | _ => clr h r
def bpp (h : Hp) (l : List Nat) : Hp := match l with
 | [] => h
 | l => kr (clr h l) h
def slotsOf : List (Nat × AVal) → List (Nat × AVal)
 | [] => []
 | (t, x) :: r => bif Nat.blt t 1000000 then (t, x) :: slotsOf r else slotsOf r
def bsq (fs : List (Nat × AVal)) (id : Nat) (b : Option Blk) : Option Blk := match b with
 | some ⟨.box e [.bot], f⟩ => match assoc fs (id + 1000000) with
  | some x => some ⟨.box e [x], f⟩
  | none => b
 | _ => b
def bfy (fs : List (Nat × AVal)) : Hp → Hp
 | [] => []
 | (id, b) :: r => (id, bsq fs id b) :: bfy fs r
def blq (fs : List (Nat × AVal)) (l : List Nat) (h : Hp) : Hp := match l with
 | [] => h
 | _ => bfy fs h
def norm (h : Hint) (n : Nat) (ids : List Nat) (st : ASt) : Option ASt :=
 match keepR (bio st) (bpp st.h (bmo h.rows)) n h.rows with
 | none => none
 | some (fs, hs, us) => match bhg st.f n h.keep, ayv (bpp st.h (bmo h.rows)) n us ids with
  | some f, some hh => some { f := kr (slotsOf fs) f, h := blq fs (bmo h.rows) (kr hs hh), n := n + h.rows.length, m := st.m }
  | _, _ => none
def avu : List (Nat × sj) → Nat → Option sj
 | [], _ => none
 | (k, s) :: r, t => bif Nat.beq k t then some s else avu r t
def bj3 (f : List (Nat × AVal)) : List Nat → List (Nat × AVal)
 | [] => []
 | t :: r => (t, look f t) :: bj3 f r
def bn9 (h : Hint) (n : Nat) (ids : List Nat) (K : AExit → ASt → Option R) (next : ASt → Option R) (ex : AExit) (st : ASt) : Option R :=
 match ex with
 | .normal => match norm h n ids (aqi h st) with
  | some st => next st
  | none => none
 | .exit id => match norm h n ids (aqi h st) with
  | some st => K (.exit id) st
  | none => none
 | .ret => K .ret { st with f := bj3 st.f h.boxes }
def iter (h : Hint) (n : Nat) (ids : List Nat) (F : ASt → (AExit → ASt → Option R) → Option R) (K : AExit → ASt → Option R) : Nat → ASt → Option R
 | 0, st => F st (bn9 h n ids K fun _ => none)
 | k + 1, st => F st (bn9 h n ids K (iter h n ids F K k))
def keysOf : Hp → List Nat
 | [] => []
 | (id, _) :: r => id :: keysOf r
def asq {α : Type} : Nat → List α → List α
 | 0, l => l
 | _ + 1, [] => []
 | n + 1, _ :: r => asq n r
def au4 : List (Nat × RngE) → Nat → Option RngE
 | [], _ => none
 | (k, s) :: r, t => bif Nat.beq k t then some s else au4 r t
def looks (f : List (Nat × AVal)) : List Nat → List AVal
 | [] => []
 | t :: r => look f t :: looks f r
def azx (id : Nat) : Hp → Bool
 | [] => true
 | (_, some ⟨.box _ l, _⟩) :: r => !j6 id l && azx id r
 | _ :: r => azx id r
def noY : Option YCtx → Bool
 | none => true
 | some _ => false
def bni (D : Ctx) (st : ASt) (g : Operand) (body : Code) : Option (RngE × List AVal × List AVal) :=
 match ev st.f g with
 | .fn (.func gid) first caps => match au4 D.rng (gu body) with
  | some e => bif D.top && noY D.y && Nat.beq gid e.g && Nat.beq st.m e.m then some (e, first, caps) else none
  | none => none
 | _ => none
def aco (D : Ctx) : Code → ASt → (AExit → ASt → Option R) → Option R
 | .skip, st, K => K .normal st
 | .label _, st, K => K .normal st
 | .region _ ops false, st, K => boi D ops ops.toList (bno D ops.toList st) fun st => K .normal st
 | .region _ ops true, st, K => bm3 D ops (bno D ops.toList st) fun st => K .normal st
 | .seq a b, st, K => aco D a st fun ex st' => match ex with
  | .normal => aco D b st' K
  | .exit id => K (.exit id) st'
  | .ret => K .ret st'
 | .cond c x y, st, K => match ev st.f c with
  | .v (.bool b) => br b (aco D x st K) (aco D y st K)
  | _ => none
 | .block id c, st, K => aco D c st fun ex st' => match ex with
  | .normal => K .normal st'
  | .exit j => bif Nat.beq j id then K .normal st' else K (.exit j) st'
  | .ret => K .ret st'
 | .loop c, st, K => match norm (hintOf D.hints (gu c)) (bjx (hintOf D.hints (gu c)) st.n) (bnw (hintOf D.hints (gu c)) (aqi (hintOf D.hints (gu c)) st)) (aqi (hintOf D.hints (gu c)) st) with
  | none => none
  | some st => match avu D.loops (gu c) with
   | some s => s st K
   | none => none
 | .exit id, st, K => K (.exit id) st
 | .ret, st, K => K .ret st
 | .rangeFunc g _ _ body, st, K => match bni D st g body with
  | some (e, first, caps) => e.s (kr first (.yld st.n e.ts (looks st.f e.ts) :: caps)) st.h (st.n + 1) fun _ h n => bif azx st.n h then K .normal { f := st.f, h := h, n := n, m := st.m } else none
  | none => none
 | _, _, _ => none
def dh : Code → List Code
 | .seq a b => dh a ++ dh b
 | .cond _ a b => dh a ++ dh b
 | .block _ c => dh c
 | .loop c => c :: dh c
 | _ => []
def tq : Code → List Code
 | .seq a b => tq a ++ tq b
 | .cond _ a b => tq a ++ tq b
 | .block _ c => tq c
 | .loop c => tq c
 | .rangeFunc g ps a b => [.rangeFunc g ps a b]
 | _ => []
def bfx : List Nat → List AVal → List (Nat × AVal)
 | t :: ts, a :: r => (t, a) :: bfx ts r
 | _, _ => []
def bgx (m : Nat) : List Nat → Bool
 | [] => true
 | t :: r => Nat.blt t m && bgx m r
def itA (D : Ctx) (c : Code) (K : AExit → ASt → Option R) (k : Nat) (st : ASt) : Option R :=
 iter (hintOf D.hints (gu c)) (st.n - (hintOf D.hints (gu c)).rows.length) (keysOf (asq (hintOf D.hints (gu c)).rows.length st.h)) (aco D c) K k st
def jm (D : Ctx) (c : Code) : Prop := ∀ s, avu D.loops (gu c) = some s → ∀ st K r, s st K = some r → ∃ k, itA D c K k st = some r
mutual
def amc : AVal → List Nat
 | .win j _ _ | .awin j _ _ _ _ => [j]
 | .agg l | .tuple l => adg l
 | .fn _ a b => kr (jy a) (jy b)
 | .alt _ _ a b _ c d => kr (kr (jy a) (jy b)) (kr (jy c) (jy d))
 | .iface _ x => om x
 | _ => []
def adg : List AVal → List Nat
 | [] => []
 | a :: r => kr (amc a) (adg r)
end
mutual
def aq8 (hl : Nat → Option Blk) : AVal → AVal
 | .own id => match hl id with
  | some ⟨.row e c, false⟩ => .fr e c
  | some ⟨.row _ c, true⟩ => .sl c
  | _ => .bot
 | .agg l => .agg (anv hl l)
 | .tuple l => .tuple (anv hl l)
 | a => um hl a
def anv (hl : Nat → Option Blk) : List AVal → List AVal
 | [] => []
 | a :: r => aq8 hl a :: anv hl r
end
mutual
def an4 : AVal → List Nat
 | .own j => [j]
 | .agg l | .tuple l => agv l
 | _ => []
def agv : List AVal → List Nat
 | [] => []
 | a :: r => kr (an4 a) (agv r)
end
def afo : List Nat → Bool
 | [] => true
 | a :: r => !aqt a r && afo r
mutual
def ayn : Sh → AVal → AVal
 | .sl c, a => azn c (.sl c) a
 | .fr e c, a => azn c (.fr e c) a
 | .agg ss, .agg l => .agg (bbd ss l)
 | .agg ss, .fn f a c => .fn f a (mo ss c)
 | .alt f fa fc g ga gc, a => arw f fa fc g ga gc a
 | _, a => a
def bbd : List Sh → List AVal → List AVal
 | s :: ss, a :: r => ayn s a :: bbd ss r
 | _, l => l
end
mutual
def bmb : Sh → AVal → List Nat
 | .sl _, .own j => [j]
 | .agg ss, .agg l => aew ss l
 | _, _ => []
def aew : List Sh → List AVal → List Nat
 | s :: ss, a :: r => kr (bmb s a) (aew ss r)
 | _, _ => []
end
def cellV (D : Ctx) (st : ASt) (t : Nat) (ty : TypeId) : Option AVal :=
 match aeu D.P ty, jg D.P ty with
 | some g, some sz => match placeOf D (dx st.h) (look st.f t) sz with
  | some mid => bif g then some (atr mid) else match mid with
   | [.arr ..] => none
   | [a] => some a
   | _ => none
  | none => none
 | _, _ => none
def bi9 (D : Ctx) (st : ASt) : List ResultVar → Option (List AVal)
 | [] => some []
 | .tmp t :: r => match bi9 D st r with
  | some l => some (look st.f t :: l)
  | none => none
 | .cell t ty :: r => match cellV D st t ty, bi9 D st r with
  | some a, some l => some (a :: l)
  | _, _ => none
def oneOf : List AVal → AVal
 | [a] => a
 | l => .tuple l
def blp (D : Ctx) (sig : List Sh) (fn : Func) (st : ASt) (K : AVal → Option R) : Option R :=
 match bi9 D st fn.results.toList with
 | none => none
 | some l =>
  bif afo (agv l) then K (oneOf (bbd sig (anv (dx (kr (freeze (dx st.h) (kr (adg l) (aew sig l)) []) st.h)) l))) else none
def ayp (D : Ctx) (Y : YCtx) : bmz := fun ts vs args h n K =>
 bif Nat.beq args.length Y.ps.size && afo Y.ps.toList && bgx Y.m Y.ps.toList then
  aco D Y.assign ⟨kr (bfx Y.ps.toList args) (bfx ts vs), h, n, Y.m⟩ fun ex st => match ex with
   | .normal => aco D Y.body st fun ex st => match ex with
    | .normal => K st.h st.n
    | _ => none
   | _ => none
 else none
def ak8 : Nat → List AVal → List (Nat × AVal)
 | _, [] => []
 | i, a :: r => (i, a) :: ak8 (i + 1) r
def bna (D : Ctx) (fn : Func) (sig : List Sh) (args : List AVal) (K : AVal → Option R) : Option R :=
 match fn.body with
 | none => none
 | some c => bif Nat.ble args.length fn.ntmps then
     aco D c ⟨ak8 0 args, [], 0, fn.ntmps⟩ fun ex st => match ex with
      | .exit _ => none
      | .normal => blp D sig fn st K
      | .ret => blp D sig fn st K
  else none
def anl (D : Ctx) (fn : Func) : aul := fun args h n K =>
 match fn.body with
 | none => none
 | some c => bif Nat.ble args.length fn.ntmps then
     aco D c ⟨ak8 0 args, h, n, fn.ntmps⟩ fun ex st => match ex with
      | .exit _ => none
      | .normal => outIn D fn st K
      | .ret => outIn D fn st K
  else none
 where outIn (D : Ctx) (fn : Func) (st : ASt) (K : AVal → Hp → Nat → Option R) : Option R :=
 match bi9 D st fn.results.toList with
 | none => none
 | some l => K (oneOf l) st.h st.n
end Go.Abs
