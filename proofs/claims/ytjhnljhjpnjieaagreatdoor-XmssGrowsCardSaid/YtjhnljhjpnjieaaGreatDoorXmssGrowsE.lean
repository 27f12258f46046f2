/-
  XmssGrows, part 5: an interpreter of my own over abstract values, the pure functions, the walks and the plain law.
-/

import Derived.Test.YtjhnljhjpnjieaaGreatDoorXmssGrowsD

namespace Go.Abs
open Go Go.RowKit
set_option linter.unusedVariables false
set_option linter.unusedSimpArgs false
def axj (ops : Array Oper) (j : Nat) : Option Nat := (ops[j]?).bind (·.dst)
def bhy (ops : Array Oper) (o : Oper) (st : ASt) (F : ASt → Option R) (S : ASt → Option R) : Option R :=
 match o.guard with
 | none => F st
 | some (j, want) => match axj ops j with
  | none => none
  | some t => match look st.f t with
   | .v (.bool b) => br b (bif want then F (st.put (some t) (.v (.bool true))) else S (st.put (some t) (.v (.bool true)))) (bif want then S (st.put (some t) (.v (.bool false))) else F (st.put (some t) (.v (.bool false))))
   | .v (.tuple _) => S st
   | _ => none
def bay : List (Nat × ayu) → Nat → Option ayu
 | [], _ => none
 | (k, s) :: r, t => bif Nat.beq k t then some s else bay r t
def b4w (f : List (Nat × AVal)) : Op → Option (Nat × List AVal)
 | .call { callee := .value x, args, .. } => match ev f x with
  | .fn (.func g) first caps => some (g, p9 first (p9 (evs f args.toList) caps))
  | _ => none
 | _ => none
def bo1 (D : Ctx) (f : List (Nat × AVal)) (op : Op) : Option (ayu × List AVal) :=
 match b4w f op with
 | some (g, as) => match bay D.inl g with
  | some s => some (s, as)
  | none => none
 | none => none
def bqj (f : List (Nat × AVal)) : Op → Option (List Nat × List AVal × List AVal)
 | .call { callee := .value x, args, .. } => match ev f x with
  | .yld _ ts vs => some (ts, vs, evs f args.toList)
  | _ => none
 | _ => none
def doA (D : Ctx) (o : Oper) (st : ASt) (K : ASt → Option R) : Option R :=
 match bqj st.f o.op with
 | some (ts, vs, as) => match D.ys with
  | some s => s ts vs as st.h st.n fun h n => K { f := bql st.m o.dst (.v (.bool true)) st.f, h := h, n := n, m := st.m }
  | none => none
 | none => match bo1 D st.f o.op with
 | some (s, as) => s as st.h st.n fun v h n => K { f := bql st.m o.dst v st.f, h := h, n := n, m := st.m }
 | none => opA D o st fun e => K (st.app e o.dst)
def bsj (D : Ctx) (ops : Array Oper) : List Oper → ASt → (ASt → Option R) → Option R
 | [], st, K => K st
 | o :: rest, st, K => bhy ops o st (fun st => doA D o st fun st => bsj D ops rest st K) (fun st => bsj D ops rest (st.put o.dst (.v undef)) K)
structure Info where
 looks : List Nat
 dst : Option Nat
 vs : List AVal
 puts : Hp
 cl : List Nat
def tmpsOf : List Operand → List Nat
 | [] => []
 | .tmp t :: r => t :: tmpsOf r
 | _ :: r => tmpsOf r
def nth {α : Type} : List α → Nat → Option α
 | [], _ => none
 | a :: _, 0 => some a
 | _ :: r, n + 1 => nth r n
def lun : List Nat → List Nat → List Nat
 | [], l => l
 | a :: r, l => bif avi a l then lun r l else a :: lun r l
def boy (acc : List Info) (i : Nat) : List Edge → Option (List Nat)
 | [] => some []
 | e :: r => bif Region.binds .any e then
     bif Nat.blt e.on i then
      match nth acc (i - 1 - e.on), boy acc i r with
      | some x, some l => some (lun (e.on :: x.cl) l)
      | _, _ => none
     else none
  else boy acc i r
def bbc (d : Option Nat) (l : List Nat) : Bool :=
 match d with
 | none => false
 | some d => avi d l
def ayg (d d' : Option Nat) : Bool :=
 match d, d' with
 | some d, some d' => Nat.beq d d'
 | _, _ => false
def aqf : Hp → List AVal → Hp → Bool
 | [], _, _ => false
 | (id, _) :: r, vs, h => ny id vs || (assoc h id).isSome || aqf r vs h
def ayc (x y : Info) : Bool :=
 !(bbc x.dst y.looks || bbc y.dst x.looks || ayg x.dst y.dst || aqf x.puts y.vs y.puts || aqf y.puts x.vs x.puts)
def bc6 : List Info → Nat → Info → Bool
 | [], _, _ => true
 | x :: r, n, y => (avi (n - 1) y.cl || ayc x y) && bc6 r (n - 1) y
def bha (ops : Array Oper) (o : Oper) : List Nat :=
 match o.guard with
 | some (j, _) => (axj ops j).toList
 | none => []
def bpq (ops : Array Oper) (o : Oper) (vs : List AVal) (puts : Hp) (cl : List Nat) : Info := ⟨p9 (bha ops o) (tmpsOf (al9 o.op)), o.dst, vs, puts, cl⟩
def bbt (ops : Array Oper) (o : Oper) (cl : List Nat) : Info := ⟨bha ops o, o.dst, [], [], cl⟩
def bip (acc : List Info) (i : Nat) (I : Info) (F : List Info → Option R) : Option R := bif bc6 acc i I then F (I :: acc) else none
def bbz (op : Op) (vs : List AVal) : List AVal :=
 match op with
 | .move _ | .assign _ | .pick _ _ _ | .nilCheck _ | .makeFunc _ _ _ | .makeInterface _ _ | .fieldAddr _ _ _ | .box _ _ => []
 | _ => vs
def opD (D : Ctx) (o : Oper) (st : ASt) (K : Eff → Option R) : Option R :=
 core D o.op (evs st.f (al9 o.op)) (mask (bbz o.op (evs st.f (al9 o.op))) st.h) st.n K
def bbq (D : Ctx) (ops : Array Oper) : List Oper → Nat → List Info → ASt → (List Info → ASt → Option R) → Option R
 | [], _, acc, st, K => K acc st
 | o :: rest, i, acc, st, K =>
  match boy acc i o.after.toList with
  | none => none
  | some cl =>
   bhy ops o st
    (fun st => opD D o st fun e => bip acc i (bpq ops o (bbz o.op (evs st.f (al9 o.op))) e.puts cl) fun acc => bbq D ops rest (i + 1) acc (st.app e o.dst) K)
    (fun st => bip acc i (bbt ops o cl) fun acc => bbq D ops rest (i + 1) acc (st.put o.dst (.v undef)) K)
def bdm {α : Type} : List α → Option (List α × α)
 | [] => none
 | a :: r => match bdm r with
  | some (x, y) => some (a :: x, y)
  | none => some ([], a)
def allIn : Nat → List Nat → Bool
 | 0, _ => true
 | n + 1, l => avi n l && allIn n l
def bp5 (D : Ctx) (ops : Array Oper) (st : ASt) (K : ASt → Option R) : Option R :=
 match bdm ops.toList with
 | some (l0, o) => bif (bo1 D [] o.op).isSome && o.guard.isNone then
     bbq D ops l0 0 [] st fun acc st => match boy acc l0.length o.after.toList with
      | some cl => bif allIn l0.length cl then doA D o st K else none
      | none => none
  else bbq D ops ops.toList 0 [] st fun _ => K
 | none => bbq D ops ops.toList 0 [] st fun _ => K
def j5 : Code → Nat
 | .region id _ _ => id
 | .seq a _ => j5 a
 | .block _ b => j5 b
 | .loop b => j5 b
 | .scope b => j5 b
 | _ => 0
def hintOf : List (Nat × Hint) → Nat → Hint
 | [], _ => ⟨[], [], [], [], none, [], []⟩
 | (k, h) :: r, t => bif Nat.beq k t then h else hintOf r t
def bwr (n : Nat) : Bk → Bool
 | .row _ _ => true
 | .box _ l => ayk n l
def bko (f : List (Nat × AVal)) (n : Nat) : List Nat → Option (List (Nat × AVal))
 | [] => some []
 | t :: r => bif bnd n (look f t) then
     match bko f n r with
     | some l => some ((t, look f t) :: l)
     | none => none
  else none
def keepR (g : Nat → AVal) (h : Hp) : Nat → List (Nat × TypeId × Cont) → Option (List (Nat × AVal) × Hp × List Nat)
 | _, [] => some ([], [], [])
 | n, (t, e, c0) :: r => match keepR g h (n + 1) r with
  | none => none
  | some (fs, hs, us) => match g t with
   | .own id => match ig h id with
    | some ⟨.row e' c, false⟩ => bif Nat.beq e e' && !avi id us then some ((t, .own n) :: fs, (n, some ⟨.row e c, false⟩) :: hs, id :: us) else none
    | _ => none
   | .win id 0 len => match ig h id with
    | some ⟨.row e' c, false⟩ => bif Nat.beq e e' && !avi id us then some ((t, .own n) :: fs, (n, some ⟨.row e (c.take len), false⟩) :: hs, id :: us) else none
    | _ => none
   | .v (.slice none 0 0) => bif Nat.beq c0.len 0 then some ((t, .own n) :: fs, (n, some ⟨.row e c0, false⟩) :: hs, us) else none
   | _ => none
def bdf (h : Hp) (n : Nat) (us : List Nat) : List Nat → Option Hp
 | [] => some []
 | id :: r => match bdf h n us r with
  | none => none
  | some l => bif avi id us then some ((id, none) :: l) else
   match ig h id with
   | none => some ((id, none) :: l)
   | some b => bif bwr n b.b && Nat.blt id n then some ((id, some b) :: l) else none
def br0 : Hp → List Nat → List Nat
 | [], acc => acc
 | (id, _) :: r, acc => bif avi id acc then br0 r acc else br0 r (id :: acc)
def bao (hl : Nat → Option Blk) (f : List (Nat × AVal)) : List (Nat × Sh) → List (Nat × AVal)
 | [] => []
 | (t, s) :: r => (t, amb s (y8 hl (look f t))) :: bao hl f r
def ba3 (f : List (Nat × AVal)) : List (Nat × Sh) → List Nat
 | [] => []
 | (t, _) :: r => p9 (qz (look f t)) (ba3 f r)
def aph (l : List (Nat × Sh)) (st : ASt) : ASt :=
 match l with
 | [] => st
 | l => { st with f := p9 (bao (ig st.h) st.f l) st.f, h := p9 (freeze (ig st.h) (ba3 st.f l) []) st.h }
def bjo : AVal → Bool
 | .own _ | .win _ _ _ => true
 | _ => false
def bk3 (hl : Nat → Option Blk) (a : AVal) : AVal := bif bjo a then y8 hl a else a
def baj (hl : Nat → Option Blk) : List AVal → List AVal
 | [] => []
 | a :: r => bk3 hl a :: baj hl r
def auy : List AVal → List Nat
 | [] => []
 | a :: r => bif bjo a then p9 (qz a) (auy r) else auy r
def arz (h : Hp) : List Nat → List Nat
 | [] => []
 | id :: r => match ig h id with
  | some ⟨.box _ l, _⟩ => p9 (auy l) (arz h r)
  | _ => arz h r
def amk (hl : Nat → Option Blk) (h : Hp) : List Nat → Hp
 | [] => []
 | id :: r => match ig h id with
  | some ⟨.box e l, f⟩ => (id, some ⟨.box e (baj hl l), f⟩) :: amk hl h r
  | _ => amk hl h r
def aro (ids : List Nat) (st : ASt) : ASt :=
 match ids with
 | [] => st
 | ids => { st with h := p9 (amk (ig st.h) (p9 (freeze (ig st.h) (arz st.h ids) []) st.h) ids) (p9 (freeze (ig st.h) (arz st.h ids) []) st.h) }
def bh2 : List AVal → List Nat
 | [] => []
 | .ptr j 0 :: r => j :: bh2 r
 | _ :: r => bh2 r
def ay7 (f : List (Nat × AVal)) : List Oper → List Nat
 | [] => []
 | o :: r => match o.op with
  | .makeFunc _ first captured => lun (p9 (bh2 (evs f first.toList)) (bh2 (evs f captured.toList))) (ay7 f r)
  | _ => ay7 f r
def b0x (id : Nat) (l : List AVal) : AVal → AVal
 | .ptr j 0 => bif Nat.beq id j then .sta l else .ptr j 0
 | a => a
def bxu (id : Nat) (l : List AVal) : List (Nat × AVal) → List (Nat × AVal)
 | [] => []
 | (t, a) :: r => (t, b0x id l a) :: bxu id l r
def auv (id : Nat) (st : ASt) : ASt :=
 match ig st.h id with
 | some ⟨.box _ l, _⟩ => bif ayk 0 l then { st with f := bxu id l st.f, h := p9 (freeze (ig st.h) [id] []) st.h } else st
 | _ => st
def awv : List Nat → ASt → ASt
 | [], st => st
 | id :: r, st => awv r (auv id st)
def bsd (D : Ctx) (ops : List Oper) (st : ASt) : ASt := bif D.sta then awv (ay7 st.f ops) (aro (ay7 st.f ops) st) else st
def coB (h : Hp) : List (Nat × List Sh) → Hp
 | [] => []
 | (id, s) :: r => match ig h id with
  | some ⟨.box e l, f⟩ => (id, some ⟨.box e (oh s l), f⟩) :: coB h r
  | _ => coB h r
def bo8 (l : List (Nat × List Sh)) (st : ASt) : ASt :=
 match l with
 | [] => st
 | l => { st with h := p9 (coB st.h l) st.h }
def aun (h : Hint) (st : ASt) : ASt := bo8 h.shc (aro h.shb (aph h.sls st))
def br2 (h : Hint) (st : ASt) : List Nat :=
 match h.gc with
 | none => br0 st.h []
 | some (_, l) => l
def boh (h : Hint) (n : Nat) : Nat :=
 match h.gc with
 | none => n
 | some (m, _) => bif Nat.ble n m then m else n
def bk4 (h : Hp) (b : Nat) : AVal := match ig h b with
 | some ⟨.box _ [.own j], _⟩ => .own j
 | some ⟨.box _ [.v (.slice none 0 0)], _⟩ => .v (.slice none 0 0)
 | _ => .bot
def bkf (st : ASt) (t : Nat) : AVal := bif Nat.blt t 1000000 then look st.f t else bk4 st.h (t - 1000000)
def bqy : List (Nat × TypeId × Cont) → List Nat
 | [] => []
 | (t, _, _) :: r => bif Nat.blt t 1000000 then bqy r else (t - 1000000) :: bqy r
def clr (h : Hp) : List Nat → Hp
 | [] => []
 | b :: r => match ig h b with
  | some ⟨.box e [.own _], f⟩ => (b, some ⟨.box e [.bot], f⟩) :: clr h r
  | some ⟨.box e [.v (.slice none 0 0)], f⟩ => (b, some ⟨.box e [.bot], f⟩) :: clr h r
  | _ => clr h r
def bvn (h : Hp) (l : List Nat) : Hp := match l with
 | [] => h
 | l => p9 (clr h l) h
def slotsOf : List (Nat × AVal) → List (Nat × AVal)
 | [] => []
 | (t, x) :: r => bif Nat.blt t 1000000 then (t, x) :: slotsOf r else slotsOf r
def bzx (fs : List (Nat × AVal)) (id : Nat) (b : Option Blk) : Option Blk := match b with
 | some ⟨.box e [.bot], f⟩ => match assoc fs (id + 1000000) with
  | some x => some ⟨.box e [x], f⟩
  | none => b
 | _ => b
def bjt (fs : List (Nat × AVal)) : Hp → Hp
 | [] => []
 | (id, b) :: r => (id, bzx fs id b) :: bjt fs r
def bp3 (fs : List (Nat × AVal)) (l : List Nat) (h : Hp) : Hp := match l with
 | [] => h
 | _ => bjt fs h
def norm (h : Hint) (n : Nat) (ids : List Nat) (st : ASt) : Option ASt :=
 match keepR (bkf st) (bvn st.h (bqy h.rows)) n h.rows with
 | none => none
 | some (fs, hs, us) => match bko st.f n h.keep, bdf (bvn st.h (bqy h.rows)) n us ids with
  | some f, some hh => some { f := p9 (slotsOf fs) f, h := bp3 fs (bqy h.rows) (p9 hs hh), n := n + h.rows.length, m := st.m }
  | _, _ => none
def bau : List (Nat × p8) → Nat → Option p8
 | [], _ => none
 | (k, s) :: r, t => bif Nat.beq k t then some s else bau r t
def bo4 (f : List (Nat × AVal)) : List Nat → List (Nat × AVal)
 | [] => []
 | t :: r => (t, look f t) :: bo4 f r
def bpf (h : Hint) (n : Nat) (ids : List Nat) (K : AExit → ASt → Option R) (next : ASt → Option R) (ex : AExit) (st : ASt) : Option R :=
 match ex with
 | .normal => match norm h n ids (aun h st) with
  | some st => next st
  | none => none
 | .exit id => match norm h n ids (aun h st) with
  | some st => K (.exit id) st
  | none => none
 | .ret => K .ret { st with f := bo4 st.f h.boxes }
def iter (h : Hint) (n : Nat) (ids : List Nat) (F : ASt → (AExit → ASt → Option R) → Option R) (K : AExit → ASt → Option R) : Nat → ASt → Option R
 | 0, st => F st (bpf h n ids K fun _ => none)
 | k + 1, st => F st (bpf h n ids K (iter h n ids F K k))
def keysOf : Hp → List Nat
 | [] => []
 | (id, _) :: r => id :: keysOf r
def ax7 {α : Type} : Nat → List α → List α
 | 0, l => l
 | _ + 1, [] => []
 | n + 1, _ :: r => ax7 n r
def bex : List (Nat × RngE) → Nat → Option RngE
 | [], _ => none
 | (k, s) :: r, t => bif Nat.beq k t then some s else bex r t
def looks (f : List (Nat × AVal)) : List Nat → List AVal
 | [] => []
 | t :: r => look f t :: looks f r
def be0 (id : Nat) : Hp → Bool
 | [] => true
 | (_, some ⟨.box _ l, _⟩) :: r => !ny id l && be0 id r
 | _ :: r => be0 id r
def noY : Option YCtx → Bool
 | none => true
 | some _ => false
def bqe (D : Ctx) (st : ASt) (g : Operand) (body : Code) : Option (RngE × List AVal × List AVal) :=
 match ev st.f g with
 | .fn (.func gid) first caps => match bex D.rng (j5 body) with
  | some e => bif D.top && noY D.y && Nat.beq gid e.g && Nat.beq st.m e.m then some (e, first, caps) else none
  | none => none
 | _ => none
def afx (D : Ctx) : Code → ASt → (AExit → ASt → Option R) → Option R
 | .skip, st, K => K .normal st
 | .label _, st, K => K .normal st
 | .region _ ops false, st, K => bsj D ops ops.toList (bsd D ops.toList st) fun st => K .normal st
 | .region _ ops true, st, K => bp5 D ops (bsd D ops.toList st) fun st => K .normal st
 | .seq a b, st, K => afx D a st fun ex st' => match ex with
  | .normal => afx D b st' K
  | .exit id => K (.exit id) st'
  | .ret => K .ret st'
 | .cond c x y, st, K => match ev st.f c with
  | .v (.bool b) => br b (afx D x st K) (afx D y st K)
  | _ => none
 | .block id c, st, K => afx D c st fun ex st' => match ex with
  | .normal => K .normal st'
  | .exit j => bif Nat.beq j id then K .normal st' else K (.exit j) st'
  | .ret => K .ret st'
 | .loop c, st, K => match norm (hintOf D.hints (j5 c)) (boh (hintOf D.hints (j5 c)) st.n) (br2 (hintOf D.hints (j5 c)) (aun (hintOf D.hints (j5 c)) st)) (aun (hintOf D.hints (j5 c)) st) with
  | none => none
  | some st => match bau D.loops (j5 c) with
   | some s => s st K
   | none => none
 | .exit id, st, K => K (.exit id) st
 | .ret, st, K => K .ret st
 | .rangeFunc g _ _ body, st, K => match bqe D st g body with
  | some (e, first, caps) => e.s (p9 first (.yld st.n e.ts (looks st.f e.ts) :: caps)) st.h (st.n + 1) fun _ h n => bif be0 st.n h then K .normal { f := st.f, h := h, n := n, m := st.m } else none
  | none => none
 | _, _, _ => none
def d9 : Code → List Code
 | .seq a b => d9 a ++ d9 b
 | .cond _ a b => d9 a ++ d9 b
 | .block _ c => d9 c
 | .loop c => c :: d9 c
 | _ => []
def y9 : Code → List Code
 | .seq a b => y9 a ++ y9 b
 | .cond _ a b => y9 a ++ y9 b
 | .block _ c => y9 c
 | .loop c => y9 c
 | .rangeFunc g ps a b => [.rangeFunc g ps a b]
 | _ => []
def itA (D : Ctx) (c : Code) (K : AExit → ASt → Option R) (k : Nat) (st : ASt) : Option R :=
 iter (hintOf D.hints (j5 c)) (st.n - (hintOf D.hints (j5 c)).rows.length) (keysOf (ax7 (hintOf D.hints (j5 c)).rows.length st.h)) (afx D c) K k st
def ji (D : Ctx) (c : Code) : Prop := ∀ s, bau D.loops (j5 c) = some s → ∀ st K r, s st K = some r → ∃ k, itA D c K k st = some r
mutual
def ar1 : AVal → List Nat
 | .win j _ _ | .awin j _ _ _ _ => [j]
 | .agg l | .tuple l => afz l
 | .fn _ a b => p9 (ni a) (ni b)
 | .alt _ _ a b _ c d => p9 (p9 (ni a) (ni b)) (p9 (ni c) (ni d))
 | .iface _ x => qz x
 | _ => []
def afz : List AVal → List Nat
 | [] => []
 | a :: r => p9 (ar1 a) (afz r)
end
mutual
def aym (hl : Nat → Option Blk) : AVal → AVal
 | .own id => match hl id with
  | some ⟨.row e c, false⟩ => .fr e c
  | some ⟨.row _ c, true⟩ => .sl c
  | _ => .bot
 | .agg l => .agg (aqu hl l)
 | .tuple l => .tuple (aqu hl l)
 | a => y8 hl a
def aqu (hl : Nat → Option Blk) : List AVal → List AVal
 | [] => []
 | a :: r => aym hl a :: aqu hl r
end
mutual
def aq1 : AVal → List Nat
 | .own j => [j]
 | .agg l | .tuple l => aje l
 | _ => []
def aje : List AVal → List Nat
 | [] => []
 | a :: r => p9 (aq1 a) (aje r)
end
def am3 : List Nat → Bool
 | [] => true
 | a :: r => !avi a r && am3 r
mutual
def bcv : Sh → AVal → AVal
 | .sl c, a => beb c (.sl c) a
 | .fr e c, a => beb c (.fr e c) a
 | .agg ss, .agg l => .agg (bfi ss l)
 | .agg ss, .fn f a c => .fn f a (oh ss c)
 | .alt f fa fc g ga gc, a => axi f fa fc g ga gc a
 | _, a => a
def bfi : List Sh → List AVal → List AVal
 | s :: ss, a :: r => bcv s a :: bfi ss r
 | _, l => l
end
mutual
def bq9 : Sh → AVal → List Nat
 | .sl _, .own j => [j]
 | .agg ss, .agg l => ahn ss l
 | _, _ => []
def ahn : List Sh → List AVal → List Nat
 | s :: ss, a :: r => p9 (bq9 s a) (ahn ss r)
 | _, _ => []
end
def cellV (D : Ctx) (st : ASt) (t : Nat) (ty : TypeId) : Option AVal :=
 match aeo D.P ty, lg D.P ty with
 | some g, some sz => match placeOf D (ig st.h) (look st.f t) sz with
  | some mid => bif g then some (avk mid) else match mid with
   | [.arr ..] => none
   | [a] => some a
   | _ => none
  | none => none
 | _, _ => none
def bmx (D : Ctx) (st : ASt) : List ResultVar → Option (List AVal)
 | [] => some []
 | .tmp t :: r => match bmx D st r with
  | some l => some (look st.f t :: l)
  | none => none
 | .cell t ty :: r => match cellV D st t ty, bmx D st r with
  | some a, some l => some (a :: l)
  | _, _ => none
def oneOf : List AVal → AVal
 | [a] => a
 | l => .tuple l
def bp4 (D : Ctx) (sig : List Sh) (fn : Func) (st : ASt) (K : AVal → Option R) : Option R :=
 match bmx D st fn.results.toList with
 | none => none
 | some l =>
  bif am3 (aje l) then K (oneOf (bfi sig (aqu (ig (p9 (freeze (ig st.h) (p9 (afz l) (ahn sig l)) []) st.h)) l))) else none
def aqe : Nat → List AVal → List (Nat × AVal)
 | _, [] => []
 | i, a :: r => (i, a) :: aqe (i + 1) r
def bn9 (D : Ctx) (fn : Func) (sig : List Sh) (args : List AVal) (K : AVal → Option R) : Option R :=
 match fn.body with
 | none => none
 | some c => bif Nat.ble args.length fn.ntmps then
     afx D c ⟨aqe 0 args, [], 0, fn.ntmps⟩ fun ex st => match ex with
      | .exit _ => none
      | .normal => bp4 D sig fn st K
      | .ret => bp4 D sig fn st K
  else none
def ao0 (D : Ctx) (fn : Func) : ayu := fun args h n K =>
 match fn.body with
 | none => none
 | some c => bif Nat.ble args.length fn.ntmps then
     afx D c ⟨aqe 0 args, h, n, fn.ntmps⟩ fun ex st => match ex with
      | .exit _ => none
      | .normal => outIn D fn st K
      | .ret => outIn D fn st K
  else none
 where outIn (D : Ctx) (fn : Func) (st : ASt) (K : AVal → Hp → Nat → Option R) : Option R :=
 match bmx D st fn.results.toList with
 | none => none
 | some l => K (oneOf l) st.h st.n
end Go.Abs
