/-
  No cell of these rows narrows 'for every input' (looked for: loops, veiled, ifaces, maps, wideKeys, modest, calm, conditions, laid).
  DERIVED. THE GIVEN ROWS OF THIS SEAT. 12 by the template 'for every input the law returns true; each argument reads behind the call as it read before'; 0 by the template 'total and deterministic' (their statements: YtmaoicbiekgmhaaTotals.lean).
  GIVEN WITH THE SEED: the statements are not yours to turn. If you find one false, say at which input.
  Laid BY PROGRAM, IN A SANDBOX (cutbox-rows.mjs): the forced cells as the released guide's own fill.sh prints them over the translation 2f1710a281ef29f9… (all of the seat's roots in one cut). By AI agents, Wed Nov 11 2026. No macro, syntax, notation, axiom, sorry.
-/
import Derived.Test.YtmaoicbiekgmhaaChecked
import GoSem.Claim
import GoSem.ClaimJoined
import GoSem.ClaimMapViews
import Derived.JoinedTies
import Derived.KernelRfl
namespace Go.Proofs.Ytmaoicbiekgmhaa
/- THE CELL 'sum', in the pinned program and in every row, IS THE sha256 OF THE DUMP (.gsa) THAT YtmaoicbiekgmhaaProg.lean LOADS. Nothing in Lean hashes anything: it is a label: what it is worth is what the hold of that sum in a sandbox is worth. -/
noncomputable def Try.pinned : Pinned := { name := "ytmaoicbiekgmhaa", sum := "2f1710a281ef29f9c74ae6858d72c183e7da5c00e8d490dc33d6dbafa035490e", checked := Try.checked }
namespace Rows
def none {H : Type} : Left H := { results := [], args := [] }

/-- 'apostillelaw13.TapeOnce': WHATEVER THE INPUT: true; the input reads as it did. -/
def tapeOnceSpec : ChangeSpec := { name := "tapeOnce", fn := fun _ => fun
  | [d1, d2, d3] => { results := [.lit (.bool true)], args := [d1, d2, d3] }
  | _ => none }
def tapeOnceRow : OpenClaim := { program := "ytmaoicbiekgmhaa", sum := "2f1710a281ef29f9c74ae6858d72c183e7da5c00e8d490dc33d6dbafa035490e", func := "apostille/apostillelaw13.TapeOnce", spec := "tapeOnce", unfollowed := true, recurses := true, apart := false }
def TapeOnceSaid : Prop := tapeOnceRow.holds Try.pinned (OpenSpec.ofChange tapeOnceSpec)

/-- ITS FALSE NEIGHBOUR: 'it returns false'. Refute it at one input. -/
def tapeOnceWrong : ChangeSpec := { name := "tapeOnce", fn := fun _ => fun
  | [d1, d2, d3] => { results := [.lit (.bool false)], args := [d1, d2, d3] }
  | _ => none }
def TapeOnceWrongFalsely : Prop := tapeOnceRow.holds Try.pinned (OpenSpec.ofChange tapeOnceWrong)

/-- 'apostillelaw13.TapeTells': WHATEVER THE INPUT: true; the input reads as it did. -/
def tapeTellsSpec : ChangeSpec := { name := "tapeTells", fn := fun _ => fun
  | [d1, d2, d3, d4] => { results := [.lit (.bool true)], args := [d1, d2, d3, d4] }
  | _ => none }
def tapeTellsRow : OpenClaim := { program := "ytmaoicbiekgmhaa", sum := "2f1710a281ef29f9c74ae6858d72c183e7da5c00e8d490dc33d6dbafa035490e", func := "apostille/apostillelaw13.TapeTells", spec := "tapeTells", unfollowed := true, recurses := true, apart := false }
def TapeTellsSaid : Prop := tapeTellsRow.holds Try.pinned (OpenSpec.ofChange tapeTellsSpec)

/-- ITS FALSE NEIGHBOUR: 'it returns false'. Refute it at one input. -/
def tapeTellsWrong : ChangeSpec := { name := "tapeTells", fn := fun _ => fun
  | [d1, d2, d3, d4] => { results := [.lit (.bool false)], args := [d1, d2, d3, d4] }
  | _ => none }
def TapeTellsWrongFalsely : Prop := tapeTellsRow.holds Try.pinned (OpenSpec.ofChange tapeTellsWrong)

/-- 'apostillelaw01.BitsTells': WHATEVER THE INPUT: true; the input reads as it did. -/
def bitsTellsSpec : ChangeSpec := { name := "bitsTells", fn := fun _ => fun
  | [d1, d2, d3] => { results := [.lit (.bool true)], args := [d1, d2, d3] }
  | _ => none }
def bitsTellsRow : OpenClaim := { program := "ytmaoicbiekgmhaa", sum := "2f1710a281ef29f9c74ae6858d72c183e7da5c00e8d490dc33d6dbafa035490e", func := "apostille/apostillelaw01.BitsTells", spec := "bitsTells", apart := false }
def BitsTellsSaid : Prop := bitsTellsRow.holds Try.pinned (OpenSpec.ofChange bitsTellsSpec)

/-- ITS FALSE NEIGHBOUR: 'it returns false'. Refute it at one input. -/
def bitsTellsWrong : ChangeSpec := { name := "bitsTells", fn := fun _ => fun
  | [d1, d2, d3] => { results := [.lit (.bool false)], args := [d1, d2, d3] }
  | _ => none }
def BitsTellsWrongFalsely : Prop := bitsTellsRow.holds Try.pinned (OpenSpec.ofChange bitsTellsWrong)

/-- 'apostillelaw01.BitsPacks': WHATEVER THE INPUT: true; the input reads as it did. -/
def bitsPacksSpec : ChangeSpec := { name := "bitsPacks", fn := fun _ => fun
  | [d1, d2, d3, d4] => { results := [.lit (.bool true)], args := [d1, d2, d3, d4] }
  | _ => none }
def bitsPacksRow : OpenClaim := { program := "ytmaoicbiekgmhaa", sum := "2f1710a281ef29f9c74ae6858d72c183e7da5c00e8d490dc33d6dbafa035490e", func := "apostille/apostillelaw01.BitsPacks", spec := "bitsPacks", apart := false }
def BitsPacksSaid : Prop := bitsPacksRow.holds Try.pinned (OpenSpec.ofChange bitsPacksSpec)

/-- ITS FALSE NEIGHBOUR: 'it returns false'. Refute it at one input. -/
def bitsPacksWrong : ChangeSpec := { name := "bitsPacks", fn := fun _ => fun
  | [d1, d2, d3, d4] => { results := [.lit (.bool false)], args := [d1, d2, d3, d4] }
  | _ => none }
def BitsPacksWrongFalsely : Prop := bitsPacksRow.holds Try.pinned (OpenSpec.ofChange bitsPacksWrong)

/-- 'apostillelaw14.LmotsTells': WHATEVER THE INPUT: true; the input reads as it did. -/
def lmotsTellsSpec : ChangeSpec := { name := "lmotsTells", fn := fun _ => fun
  | [d1, d2] => { results := [.lit (.bool true)], args := [d1, d2] }
  | _ => none }
def lmotsTellsRow : OpenClaim := { program := "ytmaoicbiekgmhaa", sum := "2f1710a281ef29f9c74ae6858d72c183e7da5c00e8d490dc33d6dbafa035490e", func := "apostille/apostillelaw14.LmotsTells", spec := "lmotsTells", apart := false }
def LmotsTellsSaid : Prop := lmotsTellsRow.holds Try.pinned (OpenSpec.ofChange lmotsTellsSpec)

/-- ITS FALSE NEIGHBOUR: 'it returns false'. Refute it at one input. -/
def lmotsTellsWrong : ChangeSpec := { name := "lmotsTells", fn := fun _ => fun
  | [d1, d2] => { results := [.lit (.bool false)], args := [d1, d2] }
  | _ => none }
def LmotsTellsWrongFalsely : Prop := lmotsTellsRow.holds Try.pinned (OpenSpec.ofChange lmotsTellsWrong)

/-- 'apostillelaw14.LmotsCheck': WHATEVER THE INPUT: true; the input reads as it did. -/
def lmotsCheckSpec : ChangeSpec := { name := "lmotsCheck", fn := fun _ => fun
  | [d1, d2, d3] => { results := [.lit (.bool true)], args := [d1, d2, d3] }
  | _ => none }
def lmotsCheckRow : OpenClaim := { program := "ytmaoicbiekgmhaa", sum := "2f1710a281ef29f9c74ae6858d72c183e7da5c00e8d490dc33d6dbafa035490e", func := "apostille/apostillelaw14.LmotsCheck", spec := "lmotsCheck", apart := false }
def LmotsCheckSaid : Prop := lmotsCheckRow.holds Try.pinned (OpenSpec.ofChange lmotsCheckSpec)

/-- ITS FALSE NEIGHBOUR: 'it returns false'. Refute it at one input. -/
def lmotsCheckWrong : ChangeSpec := { name := "lmotsCheck", fn := fun _ => fun
  | [d1, d2, d3] => { results := [.lit (.bool false)], args := [d1, d2, d3] }
  | _ => none }
def LmotsCheckWrongFalsely : Prop := lmotsCheckRow.holds Try.pinned (OpenSpec.ofChange lmotsCheckWrong)

/-- 'apostillelaw04.OrderOne': WHATEVER THE INPUT: true; the input reads as it did. -/
def orderOneSpec : ChangeSpec := { name := "orderOne", fn := fun _ => fun
  | [d1, d2, d3, d4] => { results := [.lit (.bool true)], args := [d1, d2, d3, d4] }
  | _ => none }
def orderOneRow : OpenClaim := { program := "ytmaoicbiekgmhaa", sum := "2f1710a281ef29f9c74ae6858d72c183e7da5c00e8d490dc33d6dbafa035490e", func := "apostille/apostillelaw04.OrderOne", spec := "orderOne", inPlace := ["internal/bytealg.Compare"], unfollowed := true, recurses := true, apart := false }
def OrderOneSaid : Prop := orderOneRow.holds Try.pinned (OpenSpec.ofChange orderOneSpec)

/-- ITS FALSE NEIGHBOUR: 'it returns false'. Refute it at one input. -/
def orderOneWrong : ChangeSpec := { name := "orderOne", fn := fun _ => fun
  | [d1, d2, d3, d4] => { results := [.lit (.bool false)], args := [d1, d2, d3, d4] }
  | _ => none }
def OrderOneWrongFalsely : Prop := orderOneRow.holds Try.pinned (OpenSpec.ofChange orderOneWrong)

/-- 'apostillelaw01.BitsRounds': WHATEVER THE INPUT: true; the input reads as it did. -/
def bitsRoundsSpec : ChangeSpec := { name := "bitsRounds", fn := fun _ => fun
  | [d1, d2] => { results := [.lit (.bool true)], args := [d1, d2] }
  | _ => none }
def bitsRoundsRow : OpenClaim := { program := "ytmaoicbiekgmhaa", sum := "2f1710a281ef29f9c74ae6858d72c183e7da5c00e8d490dc33d6dbafa035490e", func := "apostille/apostillelaw01.BitsRounds", spec := "bitsRounds", apart := false }
def BitsRoundsSaid : Prop := bitsRoundsRow.holds Try.pinned (OpenSpec.ofChange bitsRoundsSpec)

/-- ITS FALSE NEIGHBOUR: 'it returns false'. Refute it at one input. -/
def bitsRoundsWrong : ChangeSpec := { name := "bitsRounds", fn := fun _ => fun
  | [d1, d2] => { results := [.lit (.bool false)], args := [d1, d2] }
  | _ => none }
def BitsRoundsWrongFalsely : Prop := bitsRoundsRow.holds Try.pinned (OpenSpec.ofChange bitsRoundsWrong)

/-- 'apostillelaw01.BitsBack': WHATEVER THE INPUT: true; the input reads as it did. -/
def bitsBackSpec : ChangeSpec := { name := "bitsBack", fn := fun _ => fun
  | [d1, d2, d3, d4, d5] => { results := [.lit (.bool true)], args := [d1, d2, d3, d4, d5] }
  | _ => none }
def bitsBackRow : OpenClaim := { program := "ytmaoicbiekgmhaa", sum := "2f1710a281ef29f9c74ae6858d72c183e7da5c00e8d490dc33d6dbafa035490e", func := "apostille/apostillelaw01.BitsBack", spec := "bitsBack", apart := false }
def BitsBackSaid : Prop := bitsBackRow.holds Try.pinned (OpenSpec.ofChange bitsBackSpec)

/-- ITS FALSE NEIGHBOUR: 'it returns false'. Refute it at one input. -/
def bitsBackWrong : ChangeSpec := { name := "bitsBack", fn := fun _ => fun
  | [d1, d2, d3, d4, d5] => { results := [.lit (.bool false)], args := [d1, d2, d3, d4, d5] }
  | _ => none }
def BitsBackWrongFalsely : Prop := bitsBackRow.holds Try.pinned (OpenSpec.ofChange bitsBackWrong)

/-- 'apostillelaw01.BitsTexts': WHATEVER THE INPUT: true; the input reads as it did. -/
def bitsTextsSpec : ChangeSpec := { name := "bitsTexts", fn := fun _ => fun
  | [d1, d2, d3] => { results := [.lit (.bool true)], args := [d1, d2, d3] }
  | _ => none }
def bitsTextsRow : OpenClaim := { program := "ytmaoicbiekgmhaa", sum := "2f1710a281ef29f9c74ae6858d72c183e7da5c00e8d490dc33d6dbafa035490e", func := "apostille/apostillelaw01.BitsTexts", spec := "bitsTexts", apart := false }
def BitsTextsSaid : Prop := bitsTextsRow.holds Try.pinned (OpenSpec.ofChange bitsTextsSpec)

/-- ITS FALSE NEIGHBOUR: 'it returns false'. Refute it at one input. -/
def bitsTextsWrong : ChangeSpec := { name := "bitsTexts", fn := fun _ => fun
  | [d1, d2, d3] => { results := [.lit (.bool false)], args := [d1, d2, d3] }
  | _ => none }
def BitsTextsWrongFalsely : Prop := bitsTextsRow.holds Try.pinned (OpenSpec.ofChange bitsTextsWrong)

/-- 'apostillelaw04.OrderTells': WHATEVER THE INPUT: true; the input reads as it did. -/
def orderTellsSpec : ChangeSpec := { name := "orderTells", fn := fun _ => fun
  | [d1, d2] => { results := [.lit (.bool true)], args := [d1, d2] }
  | _ => none }
def orderTellsRow : OpenClaim := { program := "ytmaoicbiekgmhaa", sum := "2f1710a281ef29f9c74ae6858d72c183e7da5c00e8d490dc33d6dbafa035490e", func := "apostille/apostillelaw04.OrderTells", spec := "orderTells", inPlace := ["internal/bytealg.Compare"], unfollowed := true, recurses := true, apart := false }
def OrderTellsSaid : Prop := orderTellsRow.holds Try.pinned (OpenSpec.ofChange orderTellsSpec)

/-- ITS FALSE NEIGHBOUR: 'it returns false'. Refute it at one input. -/
def orderTellsWrong : ChangeSpec := { name := "orderTells", fn := fun _ => fun
  | [d1, d2] => { results := [.lit (.bool false)], args := [d1, d2] }
  | _ => none }
def OrderTellsWrongFalsely : Prop := orderTellsRow.holds Try.pinned (OpenSpec.ofChange orderTellsWrong)

/-- 'apostillelaw04.OrderSorts': WHATEVER THE INPUT: true; the input reads as it did. -/
def orderSortsSpec : ChangeSpec := { name := "orderSorts", fn := fun _ => fun
  | [d1, d2, d3, d4] => { results := [.lit (.bool true)], args := [d1, d2, d3, d4] }
  | _ => none }
def orderSortsRow : OpenClaim := { program := "ytmaoicbiekgmhaa", sum := "2f1710a281ef29f9c74ae6858d72c183e7da5c00e8d490dc33d6dbafa035490e", func := "apostille/apostillelaw04.OrderSorts", spec := "orderSorts", inPlace := ["internal/bytealg.Compare"], unfollowed := true, recurses := true, apart := false }
def OrderSortsSaid : Prop := orderSortsRow.holds Try.pinned (OpenSpec.ofChange orderSortsSpec)

/-- ITS FALSE NEIGHBOUR: 'it returns false'. Refute it at one input. -/
def orderSortsWrong : ChangeSpec := { name := "orderSorts", fn := fun _ => fun
  | [d1, d2, d3, d4] => { results := [.lit (.bool false)], args := [d1, d2, d3, d4] }
  | _ => none }
def OrderSortsWrongFalsely : Prop := orderSortsRow.holds Try.pinned (OpenSpec.ofChange orderSortsWrong)

/- THE SECOND FORM. 'bulk': how many values and letters a reading holds, each counted each time it is reached (what is shared counts as often as it is met; a slice's spare places count too). A statement '..UptoSaid' is the law's where the arguments, and the package variables that the reading takes, are together of bulk at most 1048576: NARROWER than '..Said'. Prove '..Said' where nothing that the law and all that it calls make is longer than what came in: it says more and counts as full. Else prove '..UptoSaid'. A law counts once. -/
mutual
def uptoBulk {H : Type} : DataW H → Nat
  | .lit (.string bytes) => bytes.length + 1
  | .lit _ => 1
  | .nil => 1
  | .ptr d => uptoBulk d + 1
  | .slice elems spare => uptoBulkAll elems + uptoBulkAll spare + 1
  | .agg parts => uptoBulkAll parts + 1
  | .iface _ d => uptoBulk d + 1
  | .map entries => uptoBulkEntries entries + 1
  | .held _ => 1
def uptoBulkAll {H : Type} : List (DataW H) → Nat
  | [] => 0
  | d :: r => uptoBulk d + uptoBulkAll r
def uptoBulkEntries {H : Type} : List (Lit × DataW H) → Nat
  | [] => 0
  | x :: r => uptoBulkEntry x + uptoBulkEntries r
def uptoBulkEntry {H : Type} : Lit × DataW H → Nat
  | (.string bytes, d) => bytes.length + uptoBulk d + 1
  | (_, d) => uptoBulk d + 1
 end
def uptoSmall : (H : Type) → List (DataW H) → Bool := fun _ ds => decide (uptoBulkAll ds ≤ 1048576)
def OpenSpec.upto (s : _root_.Go.ChangeSpec) : _root_.Go.OpenSpec := { _root_.Go.OpenSpec.ofChange s with cond := some uptoSmall }

/-- 'apostillelaw13.TapeOnce', WHERE WHAT IT READS IS OF BULK AT MOST 1048576: true; the input reads as it did. -/
def tapeOnceUptoRow : OpenClaim := { program := "ytmaoicbiekgmhaa", sum := "2f1710a281ef29f9c74ae6858d72c183e7da5c00e8d490dc33d6dbafa035490e", func := "apostille/apostillelaw13.TapeOnce", spec := "tapeOnce", unfollowed := true, recurses := true, apart := false, narrowed := true }
def TapeOnceUptoSaid : Prop := tapeOnceUptoRow.holds Try.pinned (OpenSpec.upto tapeOnceSpec)

/-- 'apostillelaw13.TapeTells', WHERE WHAT IT READS IS OF BULK AT MOST 1048576: true; the input reads as it did. -/
def tapeTellsUptoRow : OpenClaim := { program := "ytmaoicbiekgmhaa", sum := "2f1710a281ef29f9c74ae6858d72c183e7da5c00e8d490dc33d6dbafa035490e", func := "apostille/apostillelaw13.TapeTells", spec := "tapeTells", unfollowed := true, recurses := true, apart := false, narrowed := true }
def TapeTellsUptoSaid : Prop := tapeTellsUptoRow.holds Try.pinned (OpenSpec.upto tapeTellsSpec)

/-- 'apostillelaw01.BitsTells', WHERE WHAT IT READS IS OF BULK AT MOST 1048576: true; the input reads as it did. -/
def bitsTellsUptoRow : OpenClaim := { program := "ytmaoicbiekgmhaa", sum := "2f1710a281ef29f9c74ae6858d72c183e7da5c00e8d490dc33d6dbafa035490e", func := "apostille/apostillelaw01.BitsTells", spec := "bitsTells", apart := false, narrowed := true }
def BitsTellsUptoSaid : Prop := bitsTellsUptoRow.holds Try.pinned (OpenSpec.upto bitsTellsSpec)

/-- 'apostillelaw01.BitsPacks', WHERE WHAT IT READS IS OF BULK AT MOST 1048576: true; the input reads as it did. -/
def bitsPacksUptoRow : OpenClaim := { program := "ytmaoicbiekgmhaa", sum := "2f1710a281ef29f9c74ae6858d72c183e7da5c00e8d490dc33d6dbafa035490e", func := "apostille/apostillelaw01.BitsPacks", spec := "bitsPacks", apart := false, narrowed := true }
def BitsPacksUptoSaid : Prop := bitsPacksUptoRow.holds Try.pinned (OpenSpec.upto bitsPacksSpec)

/-- 'apostillelaw14.LmotsTells', WHERE WHAT IT READS IS OF BULK AT MOST 1048576: true; the input reads as it did. -/
def lmotsTellsUptoRow : OpenClaim := { program := "ytmaoicbiekgmhaa", sum := "2f1710a281ef29f9c74ae6858d72c183e7da5c00e8d490dc33d6dbafa035490e", func := "apostille/apostillelaw14.LmotsTells", spec := "lmotsTells", apart := false, narrowed := true }
def LmotsTellsUptoSaid : Prop := lmotsTellsUptoRow.holds Try.pinned (OpenSpec.upto lmotsTellsSpec)

/-- 'apostillelaw14.LmotsCheck', WHERE WHAT IT READS IS OF BULK AT MOST 1048576: true; the input reads as it did. -/
def lmotsCheckUptoRow : OpenClaim := { program := "ytmaoicbiekgmhaa", sum := "2f1710a281ef29f9c74ae6858d72c183e7da5c00e8d490dc33d6dbafa035490e", func := "apostille/apostillelaw14.LmotsCheck", spec := "lmotsCheck", apart := false, narrowed := true }
def LmotsCheckUptoSaid : Prop := lmotsCheckUptoRow.holds Try.pinned (OpenSpec.upto lmotsCheckSpec)

/-- 'apostillelaw04.OrderOne', WHERE WHAT IT READS IS OF BULK AT MOST 1048576: true; the input reads as it did. -/
def orderOneUptoRow : OpenClaim := { program := "ytmaoicbiekgmhaa", sum := "2f1710a281ef29f9c74ae6858d72c183e7da5c00e8d490dc33d6dbafa035490e", func := "apostille/apostillelaw04.OrderOne", spec := "orderOne", inPlace := ["internal/bytealg.Compare"], unfollowed := true, recurses := true, apart := false, narrowed := true }
def OrderOneUptoSaid : Prop := orderOneUptoRow.holds Try.pinned (OpenSpec.upto orderOneSpec)

/-- 'apostillelaw01.BitsRounds', WHERE WHAT IT READS IS OF BULK AT MOST 1048576: true; the input reads as it did. -/
def bitsRoundsUptoRow : OpenClaim := { program := "ytmaoicbiekgmhaa", sum := "2f1710a281ef29f9c74ae6858d72c183e7da5c00e8d490dc33d6dbafa035490e", func := "apostille/apostillelaw01.BitsRounds", spec := "bitsRounds", apart := false, narrowed := true }
def BitsRoundsUptoSaid : Prop := bitsRoundsUptoRow.holds Try.pinned (OpenSpec.upto bitsRoundsSpec)

/-- 'apostillelaw01.BitsBack', WHERE WHAT IT READS IS OF BULK AT MOST 1048576: true; the input reads as it did. -/
def bitsBackUptoRow : OpenClaim := { program := "ytmaoicbiekgmhaa", sum := "2f1710a281ef29f9c74ae6858d72c183e7da5c00e8d490dc33d6dbafa035490e", func := "apostille/apostillelaw01.BitsBack", spec := "bitsBack", apart := false, narrowed := true }
def BitsBackUptoSaid : Prop := bitsBackUptoRow.holds Try.pinned (OpenSpec.upto bitsBackSpec)

/-- 'apostillelaw01.BitsTexts', WHERE WHAT IT READS IS OF BULK AT MOST 1048576: true; the input reads as it did. -/
def bitsTextsUptoRow : OpenClaim := { program := "ytmaoicbiekgmhaa", sum := "2f1710a281ef29f9c74ae6858d72c183e7da5c00e8d490dc33d6dbafa035490e", func := "apostille/apostillelaw01.BitsTexts", spec := "bitsTexts", apart := false, narrowed := true }
def BitsTextsUptoSaid : Prop := bitsTextsUptoRow.holds Try.pinned (OpenSpec.upto bitsTextsSpec)

/-- 'apostillelaw04.OrderTells', WHERE WHAT IT READS IS OF BULK AT MOST 1048576: true; the input reads as it did. -/
def orderTellsUptoRow : OpenClaim := { program := "ytmaoicbiekgmhaa", sum := "2f1710a281ef29f9c74ae6858d72c183e7da5c00e8d490dc33d6dbafa035490e", func := "apostille/apostillelaw04.OrderTells", spec := "orderTells", inPlace := ["internal/bytealg.Compare"], unfollowed := true, recurses := true, apart := false, narrowed := true }
def OrderTellsUptoSaid : Prop := orderTellsUptoRow.holds Try.pinned (OpenSpec.upto orderTellsSpec)

/-- 'apostillelaw04.OrderSorts', WHERE WHAT IT READS IS OF BULK AT MOST 1048576: true; the input reads as it did. -/
def orderSortsUptoRow : OpenClaim := { program := "ytmaoicbiekgmhaa", sum := "2f1710a281ef29f9c74ae6858d72c183e7da5c00e8d490dc33d6dbafa035490e", func := "apostille/apostillelaw04.OrderSorts", spec := "orderSorts", inPlace := ["internal/bytealg.Compare"], unfollowed := true, recurses := true, apart := false, narrowed := true }
def OrderSortsUptoSaid : Prop := orderSortsUptoRow.holds Try.pinned (OpenSpec.upto orderSortsSpec)

end Rows
end Go.Proofs.Ytmaoicbiekgmhaa
