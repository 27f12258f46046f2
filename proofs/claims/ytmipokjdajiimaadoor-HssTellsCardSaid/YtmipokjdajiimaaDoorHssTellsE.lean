/-
  HssTells, part 5: an interpreter of my own over abstract values, the pure functions, the walks and the plain law.
-/

import Derived.Test.YtmipokjdajiimaaDoorHssTellsD

namespace Go.Abs
open Go Go.RowKit
set_option linter.unusedVariables false
set_option linter.unusedSimpArgs false
def anm (ops : Array Oper) (j : Nat) : Option Nat := (ops[j]?).bind (·.dst)
def axo (ops : Array Oper) (o : Oper) (st : ASt) (F : ASt → Option R) (S : ASt → Option R) : Option R :=
 match o.guard with
 | none => F st
 | some (j, want) => match anm ops j with
  | none => none
  | some t => match look st.f t with
   | .v (.bool b) => br b (bif want then F (st.put (some t) (.v (.bool true))) else S (st.put (some t) (.v (.bool true)))) (bif want then S (st.put (some t) (.v (.bool false))) else F (st.put (some t) (.v (.bool false))))
   | .v (.tuple _) => S st
   | _ => none
def aob : List (Nat × aon) → Nat → Option aon
 | [], _ => none
 | (k, s) :: r, t => bif Nat.beq k t then some s else aob r t
def bi6 (f : List (Nat × AVal)) : Op → Option (Nat × List AVal)
 | .call { callee := .value x, args, .. } => match ev f x with
  | .fn (.func g) first caps => some (g, jv first (jv (evs f args.toList) caps))
  | _ => none
 | _ => none
def bbw (D : Ctx) (f : List (Nat × AVal)) (op : Op) : Option (aon × List AVal) :=
 match bi6 f op with
 | some (g, as) => match aob D.inl g with
  | some s => some (s, as)
  | none => none
 | none => none
def bf3 (f : List (Nat × AVal)) : Op → Option (List Nat × List AVal × List AVal)
 | .call { callee := .value x, args, .. } => match ev f x with
  | .yld _ ts vs => some (ts, vs, evs f args.toList)
  | _ => none
 | _ => none
def doA (D : Ctx) (o : Oper) (st : ASt) (K : ASt → Option R) : Option R :=
 match bf3 st.f o.op with
 | some (ts, vs, as) => match D.ys with
  | some s => s ts vs as st.h st.n fun h n => K { f := bev st.m o.dst (.v (.bool true)) st.f, h := h, n := n, m := st.m }
  | none => none
 | none => match bbw D st.f o.op with
 | some (s, as) => s as st.h st.n fun v h n => K { f := bev st.m o.dst v st.f, h := h, n := n, m := st.m }
 | none => opA D o st fun e => K (st.app e o.dst)
def bf8 (D : Ctx) (ops : Array Oper) : List Oper → ASt → (ASt → Option R) → Option R
 | [], st, K => K st
 | o :: rest, st, K => axo ops o st (fun st => doA D o st fun st => bf8 D ops rest st K) (fun st => bf8 D ops rest (st.put o.dst (.v undef)) K)
structure Info where
 looks : List Nat
 dst : Option Nat
 vs : List AVal
 puts : Hp
 cl : List Nat
def tmpsOf : List Operand → List Nat
 | [] => []
 | .tmp t :: r => t :: tmpsOf r
 | _ :: r => tmpsOf r
def nth {α : Type} : List α → Nat → Option α
 | [], _ => none
 | a :: _, 0 => some a
 | _ :: r, n + 1 => nth r n
def lun : List Nat → List Nat → List Nat
 | [], l => l
 | a :: r, l => bif al4 a l then lun r l else a :: lun r l
def bb6 (acc : List Info) (i : Nat) : List Edge → Option (List Nat)
 | [] => some []
 | e :: r => bif Region.binds .any e then
     bif Nat.blt e.on i then
      match nth acc (i - 1 - e.on), bb6 acc i r with
      | some x, some l => some (lun (e.on :: x.cl) l)
      | _, _ => none
     else none
  else bb6 acc i r
def aq3 (d : Option Nat) (l : List Nat) : Bool :=
 match d with
 | none => false
 | some d => al4 d l
def amk (d d' : Option Nat) : Bool :=
 match d, d' with
 | some d, some d' => Nat.beq d d'
 | _, _ => false
def aic : Hp → List AVal → Hp → Bool
 | [], _, _ => false
 | (id, _) :: r, vs, h => jl id vs || (assoc h id).isSome || aic r vs h
def an5 (x y : Info) : Bool :=
 !(aq3 x.dst y.looks || aq3 y.dst x.looks || amk x.dst y.dst || aic x.puts y.vs y.puts || aic y.puts x.vs x.puts)
def atf : List Info → Nat → Info → Bool
 | [], _, _ => true
 | x :: r, n, y => (al4 (n - 1) y.cl || an5 x y) && atf r (n - 1) y
def axw (ops : Array Oper) (o : Oper) : List Nat :=
 match o.guard with
 | some (j, _) => (anm ops j).toList
 | none => []
def bdy (ops : Array Oper) (o : Oper) (vs : List AVal) (puts : Hp) (cl : List Nat) : Info := ⟨jv (axw ops o) (tmpsOf (af7 o.op)), o.dst, vs, puts, cl⟩
def arx (ops : Array Oper) (o : Oper) (cl : List Nat) : Info := ⟨axw ops o, o.dst, [], [], cl⟩
def axv (acc : List Info) (i : Nat) (I : Info) (F : List Info → Option R) : Option R := bif atf acc i I then F (I :: acc) else none
def ar2 (op : Op) (vs : List AVal) : List AVal :=
 match op with
 | .move _ | .assign _ | .pick _ _ _ | .nilCheck _ | .makeFunc _ _ _ | .makeInterface _ _ | .fieldAddr _ _ _ | .box _ _ => []
 | _ => vs
def opD (D : Ctx) (o : Oper) (st : ASt) (K : Eff → Option R) : Option R :=
 core D o.op (evs st.f (af7 o.op)) (mask (ar2 o.op (evs st.f (af7 o.op))) st.h) st.n K
def aq6 (D : Ctx) (ops : Array Oper) : List Oper → Nat → List Info → ASt → (List Info → ASt → Option R) → Option R
 | [], _, acc, st, K => K acc st
 | o :: rest, i, acc, st, K =>
  match bb6 acc i o.after.toList with
  | none => none
  | some cl =>
   axo ops o st
    (fun st => opD D o st fun e => axv acc i (bdy ops o (ar2 o.op (evs st.f (af7 o.op))) e.puts cl) fun acc => aq6 D ops rest (i + 1) acc (st.app e o.dst) K)
    (fun st => axv acc i (arx ops o cl) fun acc => aq6 D ops rest (i + 1) acc (st.put o.dst (.v undef)) K)
def asv {α : Type} : List α → Option (List α × α)
 | [] => none
 | a :: r => match asv r with
  | some (x, y) => some (a :: x, y)
  | none => some ([], a)
def allIn : Nat → List Nat → Bool
 | 0, _ => true
 | n + 1, l => al4 n l && allIn n l
def ber (D : Ctx) (ops : Array Oper) (st : ASt) (K : ASt → Option R) : Option R :=
 match asv ops.toList with
 | some (l0, o) => bif (bbw D [] o.op).isSome && o.guard.isNone then
     aq6 D ops l0 0 [] st fun acc st => match bb6 acc l0.length o.after.toList with
      | some cl => bif allIn l0.length cl then doA D o st K else none
      | none => none
  else aq6 D ops ops.toList 0 [] st fun _ => K
 | none => aq6 D ops ops.toList 0 [] st fun _ => K
def fq : Code → Nat
 | .region id _ _ => id
 | .seq a _ => fq a
 | .block _ b => fq b
 | .loop b => fq b
 | .scope b => fq b
 | _ => 0
def hintOf : List (Nat × Hint) → Nat → Hint
 | [], _ => ⟨[], [], [], [], none, [], [], []⟩
 | (k, h) :: r, t => bif Nat.beq k t then h else hintOf r t
def bg3 (n : Nat) : Bk → Bool
 | .row _ _ => true
 | .box _ l => aio n l
def ba3 (f : List (Nat × AVal)) (n : Nat) : List Nat → Option (List (Nat × AVal))
 | [] => some []
 | t :: r => bif bnd n (look f t) then
     match ba3 f n r with
     | some l => some ((t, look f t) :: l)
     | none => none
  else none
def keepR (g : Nat → AVal) (h : Hp) : Nat → List (Nat × TypeId × Cont) → Option (List (Nat × AVal) × Hp × List Nat)
 | _, [] => some ([], [], [])
 | n, (t, e, c0) :: r => match keepR g h (n + 1) r with
  | none => none
  | some (fs, hs, us) => match g t with
   | .own id => match bf h id with
    | some ⟨.row e' c, false⟩ => bif Nat.beq e e' && !al4 id us then some ((t, .own n) :: fs, (n, some ⟨.row e c, false⟩) :: hs, id :: us) else none
    | _ => none
   | .win id 0 len => match bf h id with
    | some ⟨.row e' c, false⟩ => bif Nat.beq e e' && !al4 id us then some ((t, .own n) :: fs, (n, some ⟨.row e (c.take len), false⟩) :: hs, id :: us) else none
    | _ => none
   | .v (.slice none 0 0) => bif Nat.beq c0.len 0 then some ((t, .own n) :: fs, (n, some ⟨.row e c0, false⟩) :: hs, us) else none
   | _ => none
def aty (h : Hp) (n : Nat) (us : List Nat) : List Nat → Option Hp
 | [] => some []
 | id :: r => match aty h n us r with
  | none => none
  | some l => bif al4 id us then some ((id, none) :: l) else
   match bf h id with
   | none => some ((id, none) :: l)
   | some b => bif bg3 n b.b && Nat.blt id n then some ((id, some b) :: l) else none
def beu : Hp → List Nat → List Nat
 | [], acc => acc
 | (id, _) :: r, acc => bif al4 id acc then beu r acc else beu r (id :: acc)
def ap0 (hl : Nat → Option Blk) (f : List (Nat × AVal)) : List (Nat × Sh) → List (Nat × AVal)
 | [] => []
 | (t, s) :: r => (t, af6 s (qb hl (look f t))) :: ap0 hl f r
def apy (f : List (Nat × AVal)) : List (Nat × Sh) → List Nat
 | [] => []
 | (t, _) :: r => jv (l8 (look f t)) (apy f r)
def ah3 (l : List (Nat × Sh)) (st : ASt) : ASt :=
 match l with
 | [] => st
 | l => { st with f := jv (ap0 (bf st.h) st.f l) st.f, h := jv (freeze (bf st.h) (apy st.f l) []) st.h }
def ayk : AVal → Bool
 | .own _ | .win _ _ _ => true
 | _ => false
def bbe (hl : Nat → Option Blk) (a : AVal) : AVal := bif ayk a then qb hl a else a
def ap4 (hl : Nat → Option Blk) : List AVal → List AVal
 | [] => []
 | a :: r => bbe hl a :: ap4 hl r
def ala : List AVal → List Nat
 | [] => []
 | a :: r => bif ayk a then jv (l8 a) (ala r) else ala r
def air (h : Hp) : List Nat → List Nat
 | [] => []
 | id :: r => match bf h id with
  | some ⟨.box _ l, _⟩ => jv (ala l) (air h r)
  | _ => air h r
def agt (hl : Nat → Option Blk) (h : Hp) : List Nat → Hp
 | [] => []
 | id :: r => match bf h id with
  | some ⟨.box e l, f⟩ => (id, some ⟨.box e (ap4 hl l), f⟩) :: agt hl h r
  | _ => agt hl h r
def wo (ids : List Nat) (st : ASt) : ASt :=
 match ids with
 | [] => st
 | ids => { st with h := jv (agt (bf st.h) (jv (freeze (bf st.h) (air st.h ids) []) st.h) ids) (jv (freeze (bf st.h) (air st.h ids) []) st.h) }
def auf : List AVal → List Nat
 | [] => []
 | .ptr j 0 :: r => j :: auf r
 | _ :: r => auf r
def bgc (f : List (Nat × AVal)) : List Oper → List (Nat × AVal)
 | [] => f
 | o :: r => match o.dst, o.op with
  | some d, .move x => bgc ((d, ev f x) :: f) r
  | _, _ => bgc f r
def ajd (D : Ctx) (f : List (Nat × AVal)) : List Oper → List Nat
 | [] => []
 | o :: r => match o.op with
  | .makeFunc _ first captured => lun (jv (auf (evs f first.toList)) (auf (evs f captured.toList))) (ajd D f r)
  | .call _ => match bi6 f o.op with
   | some (g, as) => match aob D.inl g with
    | some _ => ajd D f r
    | none => lun (auf as) (ajd D f r)
   | none => ajd D f r
  | _ => ajd D f r
def bl6 (id : Nat) (l : List AVal) : AVal → AVal
 | .ptr j 0 => bif Nat.beq id j then .sta l else .ptr j 0
 | a => a
def bgj (id : Nat) (l : List AVal) : List (Nat × AVal) → List (Nat × AVal)
 | [] => []
 | (t, a) :: r => (t, bl6 id l a) :: bgj id l r
def aln (id : Nat) (st : ASt) : ASt :=
 match bf st.h id with
 | some ⟨.box _ l, _⟩ => bif aio 0 l then { st with f := bgj id l st.f, h := jv (freeze (bf st.h) [id] []) st.h } else st
 | _ => st
def ant : List Nat → ASt → ASt
 | [], st => st
 | id :: r, st => ant r (aln id st)
def bem (D : Ctx) (ops : List Oper) (st : ASt) : ASt := bif D.sta then ant (ajd D (bgc st.f ops) ops) (wo (ajd D (bgc st.f ops) ops) st) else st
def coB (h : Hp) : List (Nat × List Sh) → Hp
 | [] => []
 | (id, s) :: r => match bf h id with
  | some ⟨.box e l, f⟩ => (id, some ⟨.box e (o7 s l), f⟩) :: coB h r
  | _ => coB h r
def bcy (l : List (Nat × List Sh)) (st : ASt) : ASt :=
 match l with
 | [] => st
 | l => { st with h := jv (coB st.h l) st.h }
def bai (id : Nat) (d : List AVal) (st : ASt) : ASt :=
 match bf st.h id with
 | some ⟨.box e [.v (.pointer none)], f⟩ => { st with h := (id, some ⟨.box e [.osta 0 d], f⟩) :: st.h }
 | some ⟨.box _ [.ptr j 0], _⟩ => match bf (wo [j] st).h id, bf (wo [j] st).h j with
  | some ⟨.box e [.ptr j' 0], f⟩, some ⟨.box _ l, _⟩ => bif Nat.beq j' j && aio 0 l && !Nat.beq id j then
      { wo [j] st with h := (id, some ⟨.box e [.osta 1 l], f⟩) :: jv (freeze (bf (wo [j] st).h) [j] []) (wo [j] st).h } else wo [j] st
  | _, _ => wo [j] st
 | _ => st
def azp : List (Nat × List AVal) → ASt → ASt
 | [], st => st
 | (id, d) :: r, st => azp r (bai id d st)
def alp (h : Hint) (st : ASt) : ASt := azp h.osb (bcy h.shc (wo h.shb (ah3 h.sls st)))
def bet (h : Hint) (st : ASt) : List Nat :=
 match h.gc with
 | none => beu st.h []
 | some (_, l) => l
def bdk (h : Hint) (n : Nat) : Nat :=
 match h.gc with
 | none => n
 | some (m, _) => bif Nat.ble n m then m else n
def ayx (h : Hp) (b : Nat) : AVal := match bf h b with
 | some ⟨.box _ [.own j], _⟩ => .own j
 | some ⟨.box _ [.v (.slice none 0 0)], _⟩ => .v (.slice none 0 0)
 | _ => .bot
def bav (st : ASt) (t : Nat) : AVal := bif Nat.blt t 1000000 then look st.f t else ayx st.h (t - 1000000)
def bfm : List (Nat × TypeId × Cont) → List Nat
 | [] => []
 | (t, _, _) :: r => bif Nat.blt t 1000000 then bfm r else (t - 1000000) :: bfm r
def clr (h : Hp) : List Nat → Hp
 | [] => []
 | b :: r => match bf h b with
  | some ⟨.box e [.own _], f⟩ => (b, some ⟨.box e [.bot], f⟩) :: clr h r
  | some ⟨.box e [.v (.slice none 0 0)], f⟩ => (b, some ⟨.box e [.bot], f⟩) :: clr h r
  | _ => clr h r
def bic (h : Hp) (l : List Nat) : Hp := match l with
 | [] => h
 | l => jv (clr h l) h
def slotsOf : List (Nat × AVal) → List (Nat × AVal)
 | [] => []
 | (t, x) :: r => bif Nat.blt t 1000000 then (t, x) :: slotsOf r else slotsOf r
def bjh (fs : List (Nat × AVal)) (id : Nat) (b : Option Blk) : Option Blk := match b with
 | some ⟨.box e [.bot], f⟩ => match assoc fs (id + 1000000) with
  | some x => some ⟨.box e [x], f⟩
  | none => b
 | _ => b
def ayt (fs : List (Nat × AVal)) : Hp → Hp
 | [] => []
 | (id, b) :: r => (id, bjh fs id b) :: ayt fs r
def bd0 (fs : List (Nat × AVal)) (l : List Nat) (h : Hp) : Hp := match l with
 | [] => h
 | _ => ayt fs h
def norm (h : Hint) (n : Nat) (ids : List Nat) (st : ASt) : Option ASt :=
 match keepR (bav st) (bic st.h (bfm h.rows)) n h.rows with
 | none => none
 | some (fs, hs, us) => match ba3 st.f n h.keep, aty (bic st.h (bfm h.rows)) n us ids with
  | some f, some hh => some { f := jv (slotsOf fs) f, h := bd0 fs (bfm h.rows) (jv hs hh), n := n + h.rows.length, m := st.m }
  | _, _ => none
def ao0 : List (Nat × xg) → Nat → Option xg
 | [], _ => none
 | (k, s) :: r, t => bif Nat.beq k t then some s else ao0 r t
def bcw (f : List (Nat × AVal)) : List Nat → List (Nat × AVal)
 | [] => []
 | t :: r => (t, look f t) :: bcw f r
def be2 (h : Hint) (n : Nat) (ids : List Nat) (K : AExit → ASt → Option R) (next : ASt → Option R) (ex : AExit) (st : ASt) : Option R :=
 match ex with
 | .normal => match norm h n ids (alp h st) with
  | some st => next st
  | none => none
 | .exit id => match norm h n ids (alp h st) with
  | some st => K (.exit id) st
  | none => none
 | .ret => K .ret { st with f := bcw st.f h.boxes }
def iter (h : Hint) (n : Nat) (ids : List Nat) (F : ASt → (AExit → ASt → Option R) → Option R) (K : AExit → ASt → Option R) : Nat → ASt → Option R
 | 0, st => F st (be2 h n ids K fun _ => none)
 | k + 1, st => F st (be2 h n ids K (iter h n ids F K k))
def keysOf : Hp → List Nat
 | [] => []
 | (id, _) :: r => id :: keysOf r
def amm {α : Type} : Nat → List α → List α
 | 0, l => l
 | _ + 1, [] => []
 | n + 1, _ :: r => amm n r
def ao9 : List (Nat × RngE) → Nat → Option RngE
 | [], _ => none
 | (k, s) :: r, t => bif Nat.beq k t then some s else ao9 r t
def looks (f : List (Nat × AVal)) : List Nat → List AVal
 | [] => []
 | t :: r => look f t :: looks f r
def auo (id : Nat) : Hp → Bool
 | [] => true
 | (_, some ⟨.box _ l, _⟩) :: r => !jl id l && auo id r
 | _ :: r => auo id r
def noY : Option YCtx → Bool
 | none => true
 | some _ => false
def be6 (D : Ctx) (st : ASt) (g : Operand) (body : Code) : Option (RngE × List AVal × List AVal) :=
 match ev st.f g with
 | .fn (.func gid) first caps => match ao9 D.rng (fq body) with
  | some e => bif D.top && noY D.y && Nat.beq gid e.g && Nat.beq st.m e.m then some (e, first, caps) else none
  | none => none
 | _ => none
def abh (D : Ctx) : Code → ASt → (AExit → ASt → Option R) → Option R
 | .skip, st, K => K .normal st
 | .label _, st, K => K .normal st
 | .region _ ops false, st, K => bf8 D ops ops.toList (bem D ops.toList st) fun st => K .normal st
 | .region _ ops true, st, K => ber D ops (bem D ops.toList st) fun st => K .normal st
 | .seq a b, st, K => abh D a st fun ex st' => match ex with
  | .normal => abh D b st' K
  | .exit id => K (.exit id) st'
  | .ret => K .ret st'
 | .cond c x y, st, K => match ev st.f c with
  | .v (.bool b) => br b (abh D x st K) (abh D y st K)
  | _ => none
 | .block id c, st, K => abh D c st fun ex st' => match ex with
  | .normal => K .normal st'
  | .exit j => bif Nat.beq j id then K .normal st' else K (.exit j) st'
  | .ret => K .ret st'
 | .loop c, st, K => match norm (hintOf D.hints (fq c)) (bdk (hintOf D.hints (fq c)) st.n) (bet (hintOf D.hints (fq c)) (alp (hintOf D.hints (fq c)) st)) (alp (hintOf D.hints (fq c)) st) with
  | none => none
  | some st => match ao0 D.loops (fq c) with
   | some s => s st K
   | none => none
 | .exit id, st, K => K (.exit id) st
 | .ret, st, K => K .ret st
 | .rangeFunc g _ _ body, st, K => match be6 D st g body with
  | some (e, first, caps) => e.s (jv first (.yld st.n e.ts (looks st.f e.ts) :: caps)) st.h (st.n + 1) fun _ h n => bif auo st.n h then K .normal { f := st.f, h := h, n := n, m := st.m } else none
  | none => none
 | _, _, _ => none
def bn : Code → List Code
 | .seq a b => bn a ++ bn b
 | .cond _ a b => bn a ++ bn b
 | .block _ c => bn c
 | .loop c => c :: bn c
 | _ => []
def pq : Code → List Code
 | .seq a b => pq a ++ pq b
 | .cond _ a b => pq a ++ pq b
 | .block _ c => pq c
 | .loop c => pq c
 | .rangeFunc g ps a b => [.rangeFunc g ps a b]
 | _ => []
def ays : List Nat → List AVal → List (Nat × AVal)
 | t :: ts, a :: r => (t, a) :: ays ts r
 | _, _ => []
def az4 (m : Nat) : List Nat → Bool
 | [] => true
 | t :: r => Nat.blt t m && az4 m r
def itA (D : Ctx) (c : Code) (K : AExit → ASt → Option R) (k : Nat) (st : ASt) : Option R :=
 iter (hintOf D.hints (fq c)) (st.n - (hintOf D.hints (fq c)).rows.length) (keysOf (amm (hintOf D.hints (fq c)).rows.length st.h)) (abh D c) K k st
def l6 (D : Ctx) (c : Code) : Prop := ∀ s, ao0 D.loops (fq c) = some s → ∀ st K r, s st K = some r → ∃ k, itA D c K k st = some r
mutual
def ajj : AVal → List Nat
 | .win j _ _ | .awin j _ _ _ _ => [j]
 | .agg l | .tuple l => ab3 l
 | .fn _ a b => jv (jk a) (jk b)
 | .alt _ _ a b _ c d => jv (jv (jk a) (jk b)) (jv (jk c) (jk d))
 | .iface _ x => l8 x
 | _ => []
def ab3 : List AVal → List Nat
 | [] => []
 | a :: r => jv (ajj a) (ab3 r)
end
mutual
def al8 (hl : Nat → Option Blk) : AVal → AVal
 | .own id => match hl id with
  | some ⟨.row e c, false⟩ => .fr e c
  | some ⟨.row _ c, true⟩ => .sl c
  | _ => .bot
 | .agg l => .agg (ai5 hl l)
 | .tuple l => .tuple (ai5 hl l)
 | a => qb hl a
def ai5 (hl : Nat → Option Blk) : List AVal → List AVal
 | [] => []
 | a :: r => al8 hl a :: ai5 hl r
end
mutual
def ajw : AVal → List Nat
 | .own j => [j]
 | .agg l | .tuple l => aew l
 | _ => []
def aew : List AVal → List Nat
 | [] => []
 | a :: r => jv (ajw a) (aew r)
end
def ad5 : List Nat → Bool
 | [] => true
 | a :: r => !al4 a r && ad5 r
mutual
def ar7 : Sh → AVal → AVal
 | .sl c, a => asn c (.sl c) a
 | .fr e c, a => asn c (.fr e c) a
 | .agg ss, .agg l => .agg (auu ss l)
 | .agg ss, .fn f a c => .fn f a (o7 ss c)
 | .alt f fa fc g ga gc, a => anr f fa fc g ga gc a
 | _, a => a
def auu : List Sh → List AVal → List AVal
 | s :: ss, a :: r => ar7 s a :: auu ss r
 | _, l => l
end
mutual
def bfp : Sh → AVal → List Nat
 | .sl _, .own j => [j]
 | .agg ss, .agg l => adi ss l
 | _, _ => []
def adi : List Sh → List AVal → List Nat
 | s :: ss, a :: r => jv (bfp s a) (adi ss r)
 | _, _ => []
end
def cellV (D : Ctx) (st : ASt) (t : Nat) (ty : TypeId) : Option AVal :=
 match abe D.P ty, jd D.P ty with
 | some g, some sz => match placeOf D (bf st.h) (look st.f t) sz with
  | some mid => bif g then some (alz mid) else match mid with
   | [.arr ..] => none
   | [a] => some a
   | _ => none
  | none => none
 | _, _ => none
def bbq (D : Ctx) (st : ASt) : List ResultVar → Option (List AVal)
 | [] => some []
 | .tmp t :: r => match bbq D st r with
  | some l => some (look st.f t :: l)
  | none => none
 | .cell t ty :: r => match cellV D st t ty, bbq D st r with
  | some a, some l => some (a :: l)
  | _, _ => none
def oneOf : List AVal → AVal
 | [a] => a
 | l => .tuple l
def bd3 (D : Ctx) (sig : List Sh) (fn : Func) (st : ASt) (K : AVal → Option R) : Option R :=
 match bbq D st fn.results.toList with
 | none => none
 | some l =>
  bif ad5 (aew l) then K (oneOf (auu sig (ai5 (bf (jv (freeze (bf st.h) (jv (ab3 l) (adi sig l)) []) st.h)) l))) else none
def ase (D : Ctx) (Y : YCtx) : bff := fun ts vs args h n K =>
 bif Nat.beq args.length Y.ps.size && ad5 Y.ps.toList && az4 Y.m Y.ps.toList then
  abh D Y.assign ⟨jv (ays Y.ps.toList args) (ays ts vs), h, n, Y.m⟩ fun ex st => match ex with
   | .normal => abh D Y.body st fun ex st => match ex with
    | .normal => K st.h st.n
    | _ => none
   | _ => none
 else none
def ahq : Nat → List AVal → List (Nat × AVal)
 | _, [] => []
 | i, a :: r => (i, a) :: ahq (i + 1) r
def be1 (D : Ctx) (fn : Func) (sig : List Sh) (args : List AVal) (K : AVal → Option R) : Option R :=
 match fn.body with
 | none => none
 | some c => bif Nat.ble args.length fn.ntmps then
     abh D c ⟨ahq 0 args, [], 0, fn.ntmps⟩ fun ex st => match ex with
      | .exit _ => none
      | .normal => bd3 D sig fn st K
      | .ret => bd3 D sig fn st K
  else none
def ajr (D : Ctx) (fn : Func) : aon := fun args h n K =>
 match fn.body with
 | none => none
 | some c => bif Nat.ble args.length fn.ntmps then
     abh D c ⟨ahq 0 args, h, n, fn.ntmps⟩ fun ex st => match ex with
      | .exit _ => none
      | .normal => outIn D fn st K
      | .ret => outIn D fn st K
  else none
 where outIn (D : Ctx) (fn : Func) (st : ASt) (K : AVal → Hp → Nat → Option R) : Option R :=
 match bbq D st fn.results.toList with
 | none => none
 | some l => K (oneOf l) st.h st.n
end Go.Abs
