/-
  NARROWER THAN 'FOR EVERY INPUT', by the rows' own cells (each row's printed sentence says how): ForsGrows: laid · ForsSigns: laid · XmssGrows: laid · XmssHypers: laid.
  DERIVED. THE GIVEN ROWS OF THIS SEAT. 4 by the template 'for every input the law returns true; each argument reads behind the call as it read before'; 0 by the template 'total and deterministic' (their statements: YtjhnljhjpnjieaaGreatDoorTotals.lean).
  GIVEN WITH THE SEED: the statements are not yours to turn. If you find one false, say at which input.
  Laid BY PROGRAM, IN A SANDBOX (cutbox-rows.mjs): the forced cells as the released guide's own fill.sh prints them over the translation cd1ffd3c81e31086… (all of the seat's roots in one cut). By AI agents, Wed Nov 11 2026. No macro, syntax, notation, axiom, sorry.
-/
import Derived.Test.YtjhnljhjpnjieaaGreatDoorChecked
import GoSem.Claim
import GoSem.ClaimJoined
import GoSem.ClaimMapViews
import Derived.JoinedTies
import Derived.KernelRfl
namespace Go.Proofs.YtjhnljhjpnjieaaGreatDoor
/- THE CELL 'sum', in the pinned program and in every row, IS THE sha256 OF THE DUMP (.gsa) THAT YtjhnljhjpnjieaaGreatDoorProg.lean LOADS. Nothing in Lean hashes anything: it is a label: what it is worth is what the hold of that sum in a sandbox is worth. -/
noncomputable def Tryz.pinned : Pinned := { name := "ytjhnljhjpnjieaagreatdoor", sum := "cd1ffd3c81e3108677c4d717df3cfe666b3d48daee9fd10fed275c396ccb6247", checked := Tryz.checked }
namespace Rows
def none {H : Type} : Left H := { results := [], args := [] }

/- WHAT THE LISTED PACKAGE-LEVEL VARIABLES READ AS WHEN THE CALL BEGINS. Each datum BY PROGRAM (the guide's laid-datum.mjs) off the statement by which the dump's own 'gosem.cut.vars' lays the variable. In a bare row this is a premise. The card (YtjhnljhjpnjieaaGreatDoorCards.lean) ties it to the program's text. -/
def laid_apostille_keccak_constants {H : Type} : DataW H := .agg [.lit (.int .u64 1), .lit (.int .u64 32898), .lit (.int .u64 9223372036854808714), .lit (.int .u64 9223372039002292224), .lit (.int .u64 32907), .lit (.int .u64 2147483649), .lit (.int .u64 9223372039002292353), .lit (.int .u64 9223372036854808585), .lit (.int .u64 138), .lit (.int .u64 136), .lit (.int .u64 2147516425), .lit (.int .u64 2147483658), .lit (.int .u64 2147516555), .lit (.int .u64 9223372036854775947), .lit (.int .u64 9223372036854808713), .lit (.int .u64 9223372036854808579), .lit (.int .u64 9223372036854808578), .lit (.int .u64 9223372036854775936), .lit (.int .u64 32778), .lit (.int .u64 9223372039002259466), .lit (.int .u64 9223372039002292353), .lit (.int .u64 9223372036854808704), .lit (.int .u64 2147483649), .lit (.int .u64 9223372039002292232)]
def laid_apostille_keccak_places {H : Type} : DataW H := .agg [.lit (.int .i64 10), .lit (.int .i64 7), .lit (.int .i64 11), .lit (.int .i64 17), .lit (.int .i64 18), .lit (.int .i64 3), .lit (.int .i64 5), .lit (.int .i64 16), .lit (.int .i64 8), .lit (.int .i64 21), .lit (.int .i64 24), .lit (.int .i64 4), .lit (.int .i64 15), .lit (.int .i64 23), .lit (.int .i64 19), .lit (.int .i64 13), .lit (.int .i64 12), .lit (.int .i64 2), .lit (.int .i64 20), .lit (.int .i64 14), .lit (.int .i64 22), .lit (.int .i64 9), .lit (.int .i64 6), .lit (.int .i64 1)]
def laid_apostille_keccak_turns {H : Type} : DataW H := .agg [.lit (.int .i64 1), .lit (.int .i64 3), .lit (.int .i64 6), .lit (.int .i64 10), .lit (.int .i64 15), .lit (.int .i64 21), .lit (.int .i64 28), .lit (.int .i64 36), .lit (.int .i64 45), .lit (.int .i64 55), .lit (.int .i64 2), .lit (.int .i64 14), .lit (.int .i64 27), .lit (.int .i64 41), .lit (.int .i64 56), .lit (.int .i64 8), .lit (.int .i64 25), .lit (.int .i64 43), .lit (.int .i64 62), .lit (.int .i64 18), .lit (.int .i64 39), .lit (.int .i64 61), .lit (.int .i64 20), .lit (.int .i64 44)]
def laid_apostille_sha_roots256 {H : Type} : DataW H := .agg [.lit (.int .u32 1116352408), .lit (.int .u32 1899447441), .lit (.int .u32 3049323471), .lit (.int .u32 3921009573), .lit (.int .u32 961987163), .lit (.int .u32 1508970993), .lit (.int .u32 2453635748), .lit (.int .u32 2870763221), .lit (.int .u32 3624381080), .lit (.int .u32 310598401), .lit (.int .u32 607225278), .lit (.int .u32 1426881987), .lit (.int .u32 1925078388), .lit (.int .u32 2162078206), .lit (.int .u32 2614888103), .lit (.int .u32 3248222580), .lit (.int .u32 3835390401), .lit (.int .u32 4022224774), .lit (.int .u32 264347078), .lit (.int .u32 604807628), .lit (.int .u32 770255983), .lit (.int .u32 1249150122), .lit (.int .u32 1555081692), .lit (.int .u32 1996064986), .lit (.int .u32 2554220882), .lit (.int .u32 2821834349), .lit (.int .u32 2952996808), .lit (.int .u32 3210313671), .lit (.int .u32 3336571891), .lit (.int .u32 3584528711), .lit (.int .u32 113926993), .lit (.int .u32 338241895), .lit (.int .u32 666307205), .lit (.int .u32 773529912), .lit (.int .u32 1294757372), .lit (.int .u32 1396182291), .lit (.int .u32 1695183700), .lit (.int .u32 1986661051), .lit (.int .u32 2177026350), .lit (.int .u32 2456956037), .lit (.int .u32 2730485921), .lit (.int .u32 2820302411), .lit (.int .u32 3259730800), .lit (.int .u32 3345764771), .lit (.int .u32 3516065817), .lit (.int .u32 3600352804), .lit (.int .u32 4094571909), .lit (.int .u32 275423344), .lit (.int .u32 430227734), .lit (.int .u32 506948616), .lit (.int .u32 659060556), .lit (.int .u32 883997877), .lit (.int .u32 958139571), .lit (.int .u32 1322822218), .lit (.int .u32 1537002063), .lit (.int .u32 1747873779), .lit (.int .u32 1955562222), .lit (.int .u32 2024104815), .lit (.int .u32 2227730452), .lit (.int .u32 2361852424), .lit (.int .u32 2428436474), .lit (.int .u32 2756734187), .lit (.int .u32 3204031479), .lit (.int .u32 3329325298)]
def laid_apostille_sha_roots512 {H : Type} : DataW H := .agg [.lit (.int .u64 4794697086780616226), .lit (.int .u64 8158064640168781261), .lit (.int .u64 13096744586834688815), .lit (.int .u64 16840607885511220156), .lit (.int .u64 4131703408338449720), .lit (.int .u64 6480981068601479193), .lit (.int .u64 10538285296894168987), .lit (.int .u64 12329834152419229976), .lit (.int .u64 15566598209576043074), .lit (.int .u64 1334009975649890238), .lit (.int .u64 2608012711638119052), .lit (.int .u64 6128411473006802146), .lit (.int .u64 8268148722764581231), .lit (.int .u64 9286055187155687089), .lit (.int .u64 11230858885718282805), .lit (.int .u64 13951009754708518548), .lit (.int .u64 16472876342353939154), .lit (.int .u64 17275323862435702243), .lit (.int .u64 1135362057144423861), .lit (.int .u64 2597628984639134821), .lit (.int .u64 3308224258029322869), .lit (.int .u64 5365058923640841347), .lit (.int .u64 6679025012923562964), .lit (.int .u64 8573033837759648693), .lit (.int .u64 10970295158949994411), .lit (.int .u64 12119686244451234320), .lit (.int .u64 12683024718118986047), .lit (.int .u64 13788192230050041572), .lit (.int .u64 14330467153632333762), .lit (.int .u64 15395433587784984357), .lit (.int .u64 489312712824947311), .lit (.int .u64 1452737877330783856), .lit (.int .u64 2861767655752347644), .lit (.int .u64 3322285676063803686), .lit (.int .u64 5560940570517711597), .lit (.int .u64 5996557281743188959), .lit (.int .u64 7280758554555802590), .lit (.int .u64 8532644243296465576), .lit (.int .u64 9350256976987008742), .lit (.int .u64 10552545826968843579), .lit (.int .u64 11727347734174303076), .lit (.int .u64 12113106623233404929), .lit (.int .u64 14000437183269869457), .lit (.int .u64 14369950271660146224), .lit (.int .u64 15101387698204529176), .lit (.int .u64 15463397548674623760), .lit (.int .u64 17586052441742319658), .lit (.int .u64 1182934255886127544), .lit (.int .u64 1847814050463011016), .lit (.int .u64 2177327727835720531), .lit (.int .u64 2830643537854262169), .lit (.int .u64 3796741975233480872), .lit (.int .u64 4115178125766777443), .lit (.int .u64 5681478168544905931), .lit (.int .u64 6601373596472566643), .lit (.int .u64 7507060721942968483), .lit (.int .u64 8399075790359081724), .lit (.int .u64 8693463985226723168), .lit (.int .u64 9568029438360202098), .lit (.int .u64 10144078919501101548), .lit (.int .u64 10430055236837252648), .lit (.int .u64 11840083180663258601), .lit (.int .u64 13761210420658862357), .lit (.int .u64 14299343276471374635), .lit (.int .u64 14566680578165727644), .lit (.int .u64 15097957966210449927), .lit (.int .u64 16922976911328602910), .lit (.int .u64 17689382322260857208), .lit (.int .u64 500013540394364858), .lit (.int .u64 748580250866718886), .lit (.int .u64 1242879168328830382), .lit (.int .u64 1977374033974150939), .lit (.int .u64 2944078676154940804), .lit (.int .u64 3659926193048069267), .lit (.int .u64 4368137639120453308), .lit (.int .u64 4836135668995329356), .lit (.int .u64 5532061633213252278), .lit (.int .u64 6448918945643986474), .lit (.int .u64 6902733635092675308), .lit (.int .u64 7801388544844847127)]

/-- 'apostillelaw19.ForsGrows': WHATEVER THE INPUT: true; the input reads as it did. -/
def forsGrowsSpec : ChangeSpec := { name := "forsGrows", fn := fun _ => fun
  | [d1, d2, d3, d4, d5, d6] => { results := [.lit (.bool true)], args := [d1, d2, d3, d4, d5, d6] }
  | _ => none }
def forsGrowsRow : OpenClaim := { program := "ytjhnljhjpnjieaagreatdoor", sum := "cd1ffd3c81e3108677c4d717df3cfe666b3d48daee9fd10fed275c396ccb6247", func := "apostille/apostillelaw19.ForsGrows", spec := "forsGrows", unfollowed := true, recurses := true, named := ["apostille/keccak.constants", "apostille/keccak.places", "apostille/keccak.turns", "apostille/sha.roots256", "apostille/sha.roots512"], apart := false, laid := [("apostille/keccak.constants", laid_apostille_keccak_constants), ("apostille/keccak.places", laid_apostille_keccak_places), ("apostille/keccak.turns", laid_apostille_keccak_turns), ("apostille/sha.roots256", laid_apostille_sha_roots256), ("apostille/sha.roots512", laid_apostille_sha_roots512)] }
def ForsGrowsSaid : Prop := forsGrowsRow.holds Tryz.pinned (OpenSpec.ofChange forsGrowsSpec)

/-- ITS FALSE NEIGHBOUR: 'it returns false'. Refute it at one input. -/
def forsGrowsWrong : ChangeSpec := { name := "forsGrows", fn := fun _ => fun
  | [d1, d2, d3, d4, d5, d6] => { results := [.lit (.bool false)], args := [d1, d2, d3, d4, d5, d6] }
  | _ => none }
def ForsGrowsWrongFalsely : Prop := forsGrowsRow.holds Tryz.pinned (OpenSpec.ofChange forsGrowsWrong)

/-- 'apostillelaw19.ForsSigns': WHATEVER THE INPUT: true; the input reads as it did. -/
def forsSignsSpec : ChangeSpec := { name := "forsSigns", fn := fun _ => fun
  | [d1, d2, d3, d4, d5, d6] => { results := [.lit (.bool true)], args := [d1, d2, d3, d4, d5, d6] }
  | _ => none }
def forsSignsRow : OpenClaim := { program := "ytjhnljhjpnjieaagreatdoor", sum := "cd1ffd3c81e3108677c4d717df3cfe666b3d48daee9fd10fed275c396ccb6247", func := "apostille/apostillelaw19.ForsSigns", spec := "forsSigns", unfollowed := true, recurses := true, named := ["apostille/keccak.constants", "apostille/keccak.places", "apostille/keccak.turns", "apostille/sha.roots256", "apostille/sha.roots512"], apart := false, laid := [("apostille/keccak.constants", laid_apostille_keccak_constants), ("apostille/keccak.places", laid_apostille_keccak_places), ("apostille/keccak.turns", laid_apostille_keccak_turns), ("apostille/sha.roots256", laid_apostille_sha_roots256), ("apostille/sha.roots512", laid_apostille_sha_roots512)] }
def ForsSignsSaid : Prop := forsSignsRow.holds Tryz.pinned (OpenSpec.ofChange forsSignsSpec)

/-- ITS FALSE NEIGHBOUR: 'it returns false'. Refute it at one input. -/
def forsSignsWrong : ChangeSpec := { name := "forsSigns", fn := fun _ => fun
  | [d1, d2, d3, d4, d5, d6] => { results := [.lit (.bool false)], args := [d1, d2, d3, d4, d5, d6] }
  | _ => none }
def ForsSignsWrongFalsely : Prop := forsSignsRow.holds Tryz.pinned (OpenSpec.ofChange forsSignsWrong)

/-- 'apostillelaw18.XmssGrows': WHATEVER THE INPUT: true; the input reads as it did. -/
def xmssGrowsSpec : ChangeSpec := { name := "xmssGrows", fn := fun _ => fun
  | [d1, d2, d3, d4, d5, d6, d7, d8] => { results := [.lit (.bool true)], args := [d1, d2, d3, d4, d5, d6, d7, d8] }
  | _ => none }
def xmssGrowsRow : OpenClaim := { program := "ytjhnljhjpnjieaagreatdoor", sum := "cd1ffd3c81e3108677c4d717df3cfe666b3d48daee9fd10fed275c396ccb6247", func := "apostille/apostillelaw18.XmssGrows", spec := "xmssGrows", unfollowed := true, recurses := true, named := ["apostille/keccak.constants", "apostille/keccak.places", "apostille/keccak.turns", "apostille/sha.roots256", "apostille/sha.roots512"], apart := false, laid := [("apostille/keccak.constants", laid_apostille_keccak_constants), ("apostille/keccak.places", laid_apostille_keccak_places), ("apostille/keccak.turns", laid_apostille_keccak_turns), ("apostille/sha.roots256", laid_apostille_sha_roots256), ("apostille/sha.roots512", laid_apostille_sha_roots512)] }
def XmssGrowsSaid : Prop := xmssGrowsRow.holds Tryz.pinned (OpenSpec.ofChange xmssGrowsSpec)

/-- ITS FALSE NEIGHBOUR: 'it returns false'. Refute it at one input. -/
def xmssGrowsWrong : ChangeSpec := { name := "xmssGrows", fn := fun _ => fun
  | [d1, d2, d3, d4, d5, d6, d7, d8] => { results := [.lit (.bool false)], args := [d1, d2, d3, d4, d5, d6, d7, d8] }
  | _ => none }
def XmssGrowsWrongFalsely : Prop := xmssGrowsRow.holds Tryz.pinned (OpenSpec.ofChange xmssGrowsWrong)

/-- 'apostillelaw18.XmssHypers': WHATEVER THE INPUT: true; the input reads as it did. -/
def xmssHypersSpec : ChangeSpec := { name := "xmssHypers", fn := fun _ => fun
  | [d1, d2, d3, d4, d5, d6, d7, d8] => { results := [.lit (.bool true)], args := [d1, d2, d3, d4, d5, d6, d7, d8] }
  | _ => none }
def xmssHypersRow : OpenClaim := { program := "ytjhnljhjpnjieaagreatdoor", sum := "cd1ffd3c81e3108677c4d717df3cfe666b3d48daee9fd10fed275c396ccb6247", func := "apostille/apostillelaw18.XmssHypers", spec := "xmssHypers", unfollowed := true, recurses := true, named := ["apostille/keccak.constants", "apostille/keccak.places", "apostille/keccak.turns", "apostille/sha.roots256", "apostille/sha.roots512"], apart := false, laid := [("apostille/keccak.constants", laid_apostille_keccak_constants), ("apostille/keccak.places", laid_apostille_keccak_places), ("apostille/keccak.turns", laid_apostille_keccak_turns), ("apostille/sha.roots256", laid_apostille_sha_roots256), ("apostille/sha.roots512", laid_apostille_sha_roots512)] }
def XmssHypersSaid : Prop := xmssHypersRow.holds Tryz.pinned (OpenSpec.ofChange xmssHypersSpec)

/-- ITS FALSE NEIGHBOUR: 'it returns false'. Refute it at one input. -/
def xmssHypersWrong : ChangeSpec := { name := "xmssHypers", fn := fun _ => fun
  | [d1, d2, d3, d4, d5, d6, d7, d8] => { results := [.lit (.bool false)], args := [d1, d2, d3, d4, d5, d6, d7, d8] }
  | _ => none }
def XmssHypersWrongFalsely : Prop := xmssHypersRow.holds Tryz.pinned (OpenSpec.ofChange xmssHypersWrong)

/- THE SECOND FORM. 'bulk': how many values and letters a reading holds, each counted each time it is reached (what is shared counts as often as it is met; a slice's spare places count too). A statement '..UptoSaid' is the law's where the arguments, and the package variables that the reading takes, are together of bulk at most 1048576: NARROWER than '..Said'. Prove '..Said' where nothing that the law and all that it calls make is longer than what came in: it says more and counts as full. Else prove '..UptoSaid'. A law counts once. -/
mutual
def uptoBulk {H : Type} : DataW H → Nat
  | .lit (.string bytes) => bytes.length + 1
  | .lit _ => 1
  | .nil => 1
  | .ptr d => uptoBulk d + 1
  | .slice elems spare => uptoBulkAll elems + uptoBulkAll spare + 1
  | .agg parts => uptoBulkAll parts + 1
  | .iface _ d => uptoBulk d + 1
  | .map entries => uptoBulkEntries entries + 1
  | .held _ => 1
def uptoBulkAll {H : Type} : List (DataW H) → Nat
  | [] => 0
  | d :: r => uptoBulk d + uptoBulkAll r
def uptoBulkEntries {H : Type} : List (Lit × DataW H) → Nat
  | [] => 0
  | x :: r => uptoBulkEntry x + uptoBulkEntries r
def uptoBulkEntry {H : Type} : Lit × DataW H → Nat
  | (.string bytes, d) => bytes.length + uptoBulk d + 1
  | (_, d) => uptoBulk d + 1
 end
def uptoSmall : (H : Type) → List (DataW H) → Bool := fun _ ds => decide (uptoBulkAll ds ≤ 1048576)
def OpenSpec.upto (s : _root_.Go.ChangeSpec) : _root_.Go.OpenSpec := { _root_.Go.OpenSpec.ofChange s with cond := some uptoSmall }

/-- 'apostillelaw19.ForsGrows', WHERE WHAT IT READS IS OF BULK AT MOST 1048576: true; the input reads as it did. -/
def forsGrowsUptoRow : OpenClaim := { program := "ytjhnljhjpnjieaagreatdoor", sum := "cd1ffd3c81e3108677c4d717df3cfe666b3d48daee9fd10fed275c396ccb6247", func := "apostille/apostillelaw19.ForsGrows", spec := "forsGrows", unfollowed := true, recurses := true, named := ["apostille/keccak.constants", "apostille/keccak.places", "apostille/keccak.turns", "apostille/sha.roots256", "apostille/sha.roots512"], apart := false, laid := [("apostille/keccak.constants", laid_apostille_keccak_constants), ("apostille/keccak.places", laid_apostille_keccak_places), ("apostille/keccak.turns", laid_apostille_keccak_turns), ("apostille/sha.roots256", laid_apostille_sha_roots256), ("apostille/sha.roots512", laid_apostille_sha_roots512)], narrowed := true }
def ForsGrowsUptoSaid : Prop := forsGrowsUptoRow.holds Tryz.pinned (OpenSpec.upto forsGrowsSpec)

/-- 'apostillelaw19.ForsSigns', WHERE WHAT IT READS IS OF BULK AT MOST 1048576: true; the input reads as it did. -/
def forsSignsUptoRow : OpenClaim := { program := "ytjhnljhjpnjieaagreatdoor", sum := "cd1ffd3c81e3108677c4d717df3cfe666b3d48daee9fd10fed275c396ccb6247", func := "apostille/apostillelaw19.ForsSigns", spec := "forsSigns", unfollowed := true, recurses := true, named := ["apostille/keccak.constants", "apostille/keccak.places", "apostille/keccak.turns", "apostille/sha.roots256", "apostille/sha.roots512"], apart := false, laid := [("apostille/keccak.constants", laid_apostille_keccak_constants), ("apostille/keccak.places", laid_apostille_keccak_places), ("apostille/keccak.turns", laid_apostille_keccak_turns), ("apostille/sha.roots256", laid_apostille_sha_roots256), ("apostille/sha.roots512", laid_apostille_sha_roots512)], narrowed := true }
def ForsSignsUptoSaid : Prop := forsSignsUptoRow.holds Tryz.pinned (OpenSpec.upto forsSignsSpec)

/-- 'apostillelaw18.XmssGrows', WHERE WHAT IT READS IS OF BULK AT MOST 1048576: true; the input reads as it did. -/
def xmssGrowsUptoRow : OpenClaim := { program := "ytjhnljhjpnjieaagreatdoor", sum := "cd1ffd3c81e3108677c4d717df3cfe666b3d48daee9fd10fed275c396ccb6247", func := "apostille/apostillelaw18.XmssGrows", spec := "xmssGrows", unfollowed := true, recurses := true, named := ["apostille/keccak.constants", "apostille/keccak.places", "apostille/keccak.turns", "apostille/sha.roots256", "apostille/sha.roots512"], apart := false, laid := [("apostille/keccak.constants", laid_apostille_keccak_constants), ("apostille/keccak.places", laid_apostille_keccak_places), ("apostille/keccak.turns", laid_apostille_keccak_turns), ("apostille/sha.roots256", laid_apostille_sha_roots256), ("apostille/sha.roots512", laid_apostille_sha_roots512)], narrowed := true }
def XmssGrowsUptoSaid : Prop := xmssGrowsUptoRow.holds Tryz.pinned (OpenSpec.upto xmssGrowsSpec)

/-- 'apostillelaw18.XmssHypers', WHERE WHAT IT READS IS OF BULK AT MOST 1048576: true; the input reads as it did. -/
def xmssHypersUptoRow : OpenClaim := { program := "ytjhnljhjpnjieaagreatdoor", sum := "cd1ffd3c81e3108677c4d717df3cfe666b3d48daee9fd10fed275c396ccb6247", func := "apostille/apostillelaw18.XmssHypers", spec := "xmssHypers", unfollowed := true, recurses := true, named := ["apostille/keccak.constants", "apostille/keccak.places", "apostille/keccak.turns", "apostille/sha.roots256", "apostille/sha.roots512"], apart := false, laid := [("apostille/keccak.constants", laid_apostille_keccak_constants), ("apostille/keccak.places", laid_apostille_keccak_places), ("apostille/keccak.turns", laid_apostille_keccak_turns), ("apostille/sha.roots256", laid_apostille_sha_roots256), ("apostille/sha.roots512", laid_apostille_sha_roots512)], narrowed := true }
def XmssHypersUptoSaid : Prop := xmssHypersUptoRow.holds Tryz.pinned (OpenSpec.upto xmssHypersSpec)

end Rows
end Go.Proofs.YtjhnljhjpnjieaaGreatDoor
