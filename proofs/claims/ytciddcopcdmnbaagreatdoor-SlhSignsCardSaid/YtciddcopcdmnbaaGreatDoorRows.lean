/-
  NARROWER THAN 'FOR EVERY INPUT', by the rows' own cells (each row's printed sentence says how): SlhVerifies: laid · SlhMakes: laid · SlhSigns: laid · SlhRight: laid.
  DERIVED. THE GIVEN ROWS OF THIS SEAT. 4 by the template 'for every input the law returns true; each argument reads behind the call as it read before'; 0 by the template 'total and deterministic' (their statements: YtciddcopcdmnbaaGreatDoorTotals.lean).
  GIVEN WITH THE SEED: the statements are not yours to turn. If you find one false, say at which input.
  Laid BY PROGRAM, IN A SANDBOX (cutbox-rows.mjs): the forced cells as the released guide's own fill.sh prints them over the translation 14765386a95e649d… (all of the seat's roots in one cut). By AI agents, Wed Nov 11 2026. No macro, syntax, notation, axiom, sorry.
-/
import Derived.Test.YtciddcopcdmnbaaGreatDoorChecked
import GoSem.Claim
import GoSem.ClaimJoined
import GoSem.ClaimMapViews
import Derived.JoinedTies
import Derived.KernelRfl
namespace Go.Proofs.YtciddcopcdmnbaaGreatDoor
/- THE CELL 'sum', in the pinned program and in every row, IS THE sha256 OF THE DUMP (.gsa) THAT YtciddcopcdmnbaaGreatDoorProg.lean LOADS. Nothing in Lean hashes anything: it is a label: what it is worth is what the hold of that sum in a sandbox is worth. -/
noncomputable def Tryz.pinned : Pinned := { name := "ytciddcopcdmnbaagreatdoor", sum := "14765386a95e649d7d73a91d0b9299f9dfe3430413a8398f772433ea15c46155", checked := Tryz.checked }
namespace Rows
def none {H : Type} : Left H := { results := [], args := [] }

/- WHAT THE LISTED PACKAGE-LEVEL VARIABLES READ AS WHEN THE CALL BEGINS. Each datum BY PROGRAM (the guide's laid-datum.mjs) off the statement by which the dump's own 'gosem.cut.vars' lays the variable. In a bare row this is a premise. The card (YtciddcopcdmnbaaGreatDoorCards.lean) ties it to the program's text. -/
def laid_apostille_keccak_constants {H : Type} : DataW H := .agg [.lit (.int .u64 1), .lit (.int .u64 32898), .lit (.int .u64 9223372036854808714), .lit (.int .u64 9223372039002292224), .lit (.int .u64 32907), .lit (.int .u64 2147483649), .lit (.int .u64 9223372039002292353), .lit (.int .u64 9223372036854808585), .lit (.int .u64 138), .lit (.int .u64 136), .lit (.int .u64 2147516425), .lit (.int .u64 2147483658), .lit (.int .u64 2147516555), .lit (.int .u64 9223372036854775947), .lit (.int .u64 9223372036854808713), .lit (.int .u64 9223372036854808579), .lit (.int .u64 9223372036854808578), .lit (.int .u64 9223372036854775936), .lit (.int .u64 32778), .lit (.int .u64 9223372039002259466), .lit (.int .u64 9223372039002292353), .lit (.int .u64 9223372036854808704), .lit (.int .u64 2147483649), .lit (.int .u64 9223372039002292232)]
def laid_apostille_keccak_places {H : Type} : DataW H := .agg [.lit (.int .i64 10), .lit (.int .i64 7), .lit (.int .i64 11), .lit (.int .i64 17), .lit (.int .i64 18), .lit (.int .i64 3), .lit (.int .i64 5), .lit (.int .i64 16), .lit (.int .i64 8), .lit (.int .i64 21), .lit (.int .i64 24), .lit (.int .i64 4), .lit (.int .i64 15), .lit (.int .i64 23), .lit (.int .i64 19), .lit (.int .i64 13), .lit (.int .i64 12), .lit (.int .i64 2), .lit (.int .i64 20), .lit (.int .i64 14), .lit (.int .i64 22), .lit (.int .i64 9), .lit (.int .i64 6), .lit (.int .i64 1)]
def laid_apostille_keccak_turns {H : Type} : DataW H := .agg [.lit (.int .i64 1), .lit (.int .i64 3), .lit (.int .i64 6), .lit (.int .i64 10), .lit (.int .i64 15), .lit (.int .i64 21), .lit (.int .i64 28), .lit (.int .i64 36), .lit (.int .i64 45), .lit (.int .i64 55), .lit (.int .i64 2), .lit (.int .i64 14), .lit (.int .i64 27), .lit (.int .i64 41), .lit (.int .i64 56), .lit (.int .i64 8), .lit (.int .i64 25), .lit (.int .i64 43), .lit (.int .i64 62), .lit (.int .i64 18), .lit (.int .i64 39), .lit (.int .i64 61), .lit (.int .i64 20), .lit (.int .i64 44)]
def laid_apostille_sha_roots256 {H : Type} : DataW H := .agg [.lit (.int .u32 1116352408), .lit (.int .u32 1899447441), .lit (.int .u32 3049323471), .lit (.int .u32 3921009573), .lit (.int .u32 961987163), .lit (.int .u32 1508970993), .lit (.int .u32 2453635748), .lit (.int .u32 2870763221), .lit (.int .u32 3624381080), .lit (.int .u32 310598401), .lit (.int .u32 607225278), .lit (.int .u32 1426881987), .lit (.int .u32 1925078388), .lit (.int .u32 2162078206), .lit (.int .u32 2614888103), .lit (.int .u32 3248222580), .lit (.int .u32 3835390401), .lit (.int .u32 4022224774), .lit (.int .u32 264347078), .lit (.int .u32 604807628), .lit (.int .u32 770255983), .lit (.int .u32 1249150122), .lit (.int .u32 1555081692), .lit (.int .u32 1996064986), .lit (.int .u32 2554220882), .lit (.int .u32 2821834349), .lit (.int .u32 2952996808), .lit (.int .u32 3210313671), .lit (.int .u32 3336571891), .lit (.int .u32 3584528711), .lit (.int .u32 113926993), .lit (.int .u32 338241895), .lit (.int .u32 666307205), .lit (.int .u32 773529912), .lit (.int .u32 1294757372), .lit (.int .u32 1396182291), .lit (.int .u32 1695183700), .lit (.int .u32 1986661051), .lit (.int .u32 2177026350), .lit (.int .u32 2456956037), .lit (.int .u32 2730485921), .lit (.int .u32 2820302411), .lit (.int .u32 3259730800), .lit (.int .u32 3345764771), .lit (.int .u32 3516065817), .lit (.int .u32 3600352804), .lit (.int .u32 4094571909), .lit (.int .u32 275423344), .lit (.int .u32 430227734), .lit (.int .u32 506948616), .lit (.int .u32 659060556), .lit (.int .u32 883997877), .lit (.int .u32 958139571), .lit (.int .u32 1322822218), .lit (.int .u32 1537002063), .lit (.int .u32 1747873779), .lit (.int .u32 1955562222), .lit (.int .u32 2024104815), .lit (.int .u32 2227730452), .lit (.int .u32 2361852424), .lit (.int .u32 2428436474), .lit (.int .u32 2756734187), .lit (.int .u32 3204031479), .lit (.int .u32 3329325298)]
def laid_apostille_sha_roots512 {H : Type} : DataW H := .agg [.lit (.int .u64 4794697086780616226), .lit (.int .u64 8158064640168781261), .lit (.int .u64 13096744586834688815), .lit (.int .u64 16840607885511220156), .lit (.int .u64 4131703408338449720), .lit (.int .u64 6480981068601479193), .lit (.int .u64 10538285296894168987), .lit (.int .u64 12329834152419229976), .lit (.int .u64 15566598209576043074), .lit (.int .u64 1334009975649890238), .lit (.int .u64 2608012711638119052), .lit (.int .u64 6128411473006802146), .lit (.int .u64 8268148722764581231), .lit (.int .u64 9286055187155687089), .lit (.int .u64 11230858885718282805), .lit (.int .u64 13951009754708518548), .lit (.int .u64 16472876342353939154), .lit (.int .u64 17275323862435702243), .lit (.int .u64 1135362057144423861), .lit (.int .u64 2597628984639134821), .lit (.int .u64 3308224258029322869), .lit (.int .u64 5365058923640841347), .lit (.int .u64 6679025012923562964), .lit (.int .u64 8573033837759648693), .lit (.int .u64 10970295158949994411), .lit (.int .u64 12119686244451234320), .lit (.int .u64 12683024718118986047), .lit (.int .u64 13788192230050041572), .lit (.int .u64 14330467153632333762), .lit (.int .u64 15395433587784984357), .lit (.int .u64 489312712824947311), .lit (.int .u64 1452737877330783856), .lit (.int .u64 2861767655752347644), .lit (.int .u64 3322285676063803686), .lit (.int .u64 5560940570517711597), .lit (.int .u64 5996557281743188959), .lit (.int .u64 7280758554555802590), .lit (.int .u64 8532644243296465576), .lit (.int .u64 9350256976987008742), .lit (.int .u64 10552545826968843579), .lit (.int .u64 11727347734174303076), .lit (.int .u64 12113106623233404929), .lit (.int .u64 14000437183269869457), .lit (.int .u64 14369950271660146224), .lit (.int .u64 15101387698204529176), .lit (.int .u64 15463397548674623760), .lit (.int .u64 17586052441742319658), .lit (.int .u64 1182934255886127544), .lit (.int .u64 1847814050463011016), .lit (.int .u64 2177327727835720531), .lit (.int .u64 2830643537854262169), .lit (.int .u64 3796741975233480872), .lit (.int .u64 4115178125766777443), .lit (.int .u64 5681478168544905931), .lit (.int .u64 6601373596472566643), .lit (.int .u64 7507060721942968483), .lit (.int .u64 8399075790359081724), .lit (.int .u64 8693463985226723168), .lit (.int .u64 9568029438360202098), .lit (.int .u64 10144078919501101548), .lit (.int .u64 10430055236837252648), .lit (.int .u64 11840083180663258601), .lit (.int .u64 13761210420658862357), .lit (.int .u64 14299343276471374635), .lit (.int .u64 14566680578165727644), .lit (.int .u64 15097957966210449927), .lit (.int .u64 16922976911328602910), .lit (.int .u64 17689382322260857208), .lit (.int .u64 500013540394364858), .lit (.int .u64 748580250866718886), .lit (.int .u64 1242879168328830382), .lit (.int .u64 1977374033974150939), .lit (.int .u64 2944078676154940804), .lit (.int .u64 3659926193048069267), .lit (.int .u64 4368137639120453308), .lit (.int .u64 4836135668995329356), .lit (.int .u64 5532061633213252278), .lit (.int .u64 6448918945643986474), .lit (.int .u64 6902733635092675308), .lit (.int .u64 7801388544844847127)]
def laid_apostille_mac_sizes {H : Type} : DataW H := .agg [.agg [.lit (.int .i64 0), .lit (.int .i64 0)], .agg [.lit (.int .i64 32), .lit (.int .i64 64)], .agg [.lit (.int .i64 48), .lit (.int .i64 128)], .agg [.lit (.int .i64 64), .lit (.int .i64 128)], .agg [.lit (.int .i64 32), .lit (.int .i64 136)], .agg [.lit (.int .i64 64), .lit (.int .i64 72)], .agg [.lit (.int .i64 32), .lit (.int .i64 168)], .agg [.lit (.int .i64 64), .lit (.int .i64 136)]]
def laid_apostille_slh_kinds {H : Type} : DataW H := .agg [.agg [.lit (.int .i64 16), .lit (.int .i64 63), .lit (.int .i64 7), .lit (.int .i64 12), .lit (.int .i64 14)], .agg [.lit (.int .i64 16), .lit (.int .i64 66), .lit (.int .i64 22), .lit (.int .i64 6), .lit (.int .i64 33)], .agg [.lit (.int .i64 24), .lit (.int .i64 63), .lit (.int .i64 7), .lit (.int .i64 14), .lit (.int .i64 17)], .agg [.lit (.int .i64 24), .lit (.int .i64 66), .lit (.int .i64 22), .lit (.int .i64 8), .lit (.int .i64 33)], .agg [.lit (.int .i64 32), .lit (.int .i64 64), .lit (.int .i64 8), .lit (.int .i64 14), .lit (.int .i64 22)], .agg [.lit (.int .i64 32), .lit (.int .i64 68), .lit (.int .i64 17), .lit (.int .i64 9), .lit (.int .i64 35)]]

/-- 'apostillelaw20.SlhVerifies': WHATEVER THE INPUT: true; the input reads as it did. -/
def slhVerifiesSpec : ChangeSpec := { name := "slhVerifies", fn := fun _ => fun
  | [d1, d2, d3, d4, d5, d6] => { results := [.lit (.bool true)], args := [d1, d2, d3, d4, d5, d6] }
  | _ => none }
def slhVerifiesRow : OpenClaim := { program := "ytciddcopcdmnbaagreatdoor", sum := "14765386a95e649d7d73a91d0b9299f9dfe3430413a8398f772433ea15c46155", func := "apostille/apostillelaw20.SlhVerifies", spec := "slhVerifies", unfollowed := true, recurses := true, named := ["apostille/slh.kinds", "apostille/keccak.constants", "apostille/keccak.places", "apostille/keccak.turns", "apostille/mac.sizes", "apostille/sha.roots256", "apostille/sha.roots512"], apart := false, laid := [("apostille/keccak.constants", laid_apostille_keccak_constants), ("apostille/keccak.places", laid_apostille_keccak_places), ("apostille/keccak.turns", laid_apostille_keccak_turns), ("apostille/sha.roots256", laid_apostille_sha_roots256), ("apostille/sha.roots512", laid_apostille_sha_roots512), ("apostille/mac.sizes", laid_apostille_mac_sizes), ("apostille/slh.kinds", laid_apostille_slh_kinds)] }
def SlhVerifiesSaid : Prop := slhVerifiesRow.holds Tryz.pinned (OpenSpec.ofChange slhVerifiesSpec)

/-- ITS FALSE NEIGHBOUR: 'it returns false'. Refute it at one input. -/
def slhVerifiesWrong : ChangeSpec := { name := "slhVerifies", fn := fun _ => fun
  | [d1, d2, d3, d4, d5, d6] => { results := [.lit (.bool false)], args := [d1, d2, d3, d4, d5, d6] }
  | _ => none }
def SlhVerifiesWrongFalsely : Prop := slhVerifiesRow.holds Tryz.pinned (OpenSpec.ofChange slhVerifiesWrong)

/-- 'apostillelaw20.SlhMakes': WHATEVER THE INPUT: true; the input reads as it did. -/
def slhMakesSpec : ChangeSpec := { name := "slhMakes", fn := fun _ => fun
  | [d1, d2, d3, d4, d5] => { results := [.lit (.bool true)], args := [d1, d2, d3, d4, d5] }
  | _ => none }
def slhMakesRow : OpenClaim := { program := "ytciddcopcdmnbaagreatdoor", sum := "14765386a95e649d7d73a91d0b9299f9dfe3430413a8398f772433ea15c46155", func := "apostille/apostillelaw20.SlhMakes", spec := "slhMakes", unfollowed := true, recurses := true, named := ["apostille/slh.kinds", "apostille/keccak.constants", "apostille/keccak.places", "apostille/keccak.turns", "apostille/mac.sizes", "apostille/sha.roots256", "apostille/sha.roots512"], apart := false, laid := [("apostille/keccak.constants", laid_apostille_keccak_constants), ("apostille/keccak.places", laid_apostille_keccak_places), ("apostille/keccak.turns", laid_apostille_keccak_turns), ("apostille/sha.roots256", laid_apostille_sha_roots256), ("apostille/sha.roots512", laid_apostille_sha_roots512), ("apostille/mac.sizes", laid_apostille_mac_sizes), ("apostille/slh.kinds", laid_apostille_slh_kinds)] }
def SlhMakesSaid : Prop := slhMakesRow.holds Tryz.pinned (OpenSpec.ofChange slhMakesSpec)

/-- ITS FALSE NEIGHBOUR: 'it returns false'. Refute it at one input. -/
def slhMakesWrong : ChangeSpec := { name := "slhMakes", fn := fun _ => fun
  | [d1, d2, d3, d4, d5] => { results := [.lit (.bool false)], args := [d1, d2, d3, d4, d5] }
  | _ => none }
def SlhMakesWrongFalsely : Prop := slhMakesRow.holds Tryz.pinned (OpenSpec.ofChange slhMakesWrong)

/-- 'apostillelaw20.SlhSigns': WHATEVER THE INPUT: true; the input reads as it did. -/
def slhSignsSpec : ChangeSpec := { name := "slhSigns", fn := fun _ => fun
  | [d1, d2, d3, d4, d5] => { results := [.lit (.bool true)], args := [d1, d2, d3, d4, d5] }
  | _ => none }
def slhSignsRow : OpenClaim := { program := "ytciddcopcdmnbaagreatdoor", sum := "14765386a95e649d7d73a91d0b9299f9dfe3430413a8398f772433ea15c46155", func := "apostille/apostillelaw20.SlhSigns", spec := "slhSigns", unfollowed := true, recurses := true, named := ["apostille/slh.kinds", "apostille/keccak.constants", "apostille/keccak.places", "apostille/keccak.turns", "apostille/mac.sizes", "apostille/sha.roots256", "apostille/sha.roots512"], apart := false, laid := [("apostille/keccak.constants", laid_apostille_keccak_constants), ("apostille/keccak.places", laid_apostille_keccak_places), ("apostille/keccak.turns", laid_apostille_keccak_turns), ("apostille/sha.roots256", laid_apostille_sha_roots256), ("apostille/sha.roots512", laid_apostille_sha_roots512), ("apostille/mac.sizes", laid_apostille_mac_sizes), ("apostille/slh.kinds", laid_apostille_slh_kinds)] }
def SlhSignsSaid : Prop := slhSignsRow.holds Tryz.pinned (OpenSpec.ofChange slhSignsSpec)

/-- ITS FALSE NEIGHBOUR: 'it returns false'. Refute it at one input. -/
def slhSignsWrong : ChangeSpec := { name := "slhSigns", fn := fun _ => fun
  | [d1, d2, d3, d4, d5] => { results := [.lit (.bool false)], args := [d1, d2, d3, d4, d5] }
  | _ => none }
def SlhSignsWrongFalsely : Prop := slhSignsRow.holds Tryz.pinned (OpenSpec.ofChange slhSignsWrong)

/-- 'apostillelaw20.SlhRight': WHATEVER THE INPUT: true; the input reads as it did. -/
def slhRightSpec : ChangeSpec := { name := "slhRight", fn := fun _ => fun
  | [d1, d2, d3, d4, d5, d6, d7, d8, d9] => { results := [.lit (.bool true)], args := [d1, d2, d3, d4, d5, d6, d7, d8, d9] }
  | _ => none }
def slhRightRow : OpenClaim := { program := "ytciddcopcdmnbaagreatdoor", sum := "14765386a95e649d7d73a91d0b9299f9dfe3430413a8398f772433ea15c46155", func := "apostille/apostillelaw20.SlhRight", spec := "slhRight", unfollowed := true, recurses := true, named := ["apostille/slh.kinds", "apostille/keccak.constants", "apostille/keccak.places", "apostille/keccak.turns", "apostille/mac.sizes", "apostille/sha.roots256", "apostille/sha.roots512"], apart := false, laid := [("apostille/keccak.constants", laid_apostille_keccak_constants), ("apostille/keccak.places", laid_apostille_keccak_places), ("apostille/keccak.turns", laid_apostille_keccak_turns), ("apostille/sha.roots256", laid_apostille_sha_roots256), ("apostille/sha.roots512", laid_apostille_sha_roots512), ("apostille/mac.sizes", laid_apostille_mac_sizes), ("apostille/slh.kinds", laid_apostille_slh_kinds)] }
def SlhRightSaid : Prop := slhRightRow.holds Tryz.pinned (OpenSpec.ofChange slhRightSpec)

/-- ITS FALSE NEIGHBOUR: 'it returns false'. Refute it at one input. -/
def slhRightWrong : ChangeSpec := { name := "slhRight", fn := fun _ => fun
  | [d1, d2, d3, d4, d5, d6, d7, d8, d9] => { results := [.lit (.bool false)], args := [d1, d2, d3, d4, d5, d6, d7, d8, d9] }
  | _ => none }
def SlhRightWrongFalsely : Prop := slhRightRow.holds Tryz.pinned (OpenSpec.ofChange slhRightWrong)

/- THE SECOND FORM. 'bulk': how many values and letters a reading holds, each counted each time it is reached (what is shared counts as often as it is met; a slice's spare places count too). A statement '..UptoSaid' is the law's where the arguments, and the package variables that the reading takes, are together of bulk at most 1048576: NARROWER than '..Said'. Prove '..Said' where nothing that the law and all that it calls make is longer than what came in: it says more and counts as full. Else prove '..UptoSaid'. A law counts once. -/
mutual
def uptoBulk {H : Type} : DataW H → Nat
  | .lit (.string bytes) => bytes.length + 1
  | .lit _ => 1
  | .nil => 1
  | .ptr d => uptoBulk d + 1
  | .slice elems spare => uptoBulkAll elems + uptoBulkAll spare + 1
  | .agg parts => uptoBulkAll parts + 1
  | .iface _ d => uptoBulk d + 1
  | .map entries => uptoBulkEntries entries + 1
  | .held _ => 1
def uptoBulkAll {H : Type} : List (DataW H) → Nat
  | [] => 0
  | d :: r => uptoBulk d + uptoBulkAll r
def uptoBulkEntries {H : Type} : List (Lit × DataW H) → Nat
  | [] => 0
  | x :: r => uptoBulkEntry x + uptoBulkEntries r
def uptoBulkEntry {H : Type} : Lit × DataW H → Nat
  | (.string bytes, d) => bytes.length + uptoBulk d + 1
  | (_, d) => uptoBulk d + 1
 end
def uptoSmall : (H : Type) → List (DataW H) → Bool := fun _ ds => decide (uptoBulkAll ds ≤ 1048576)
def OpenSpec.upto (s : _root_.Go.ChangeSpec) : _root_.Go.OpenSpec := { _root_.Go.OpenSpec.ofChange s with cond := some uptoSmall }

/-- 'apostillelaw20.SlhVerifies', WHERE WHAT IT READS IS OF BULK AT MOST 1048576: true; the input reads as it did. -/
def slhVerifiesUptoRow : OpenClaim := { program := "ytciddcopcdmnbaagreatdoor", sum := "14765386a95e649d7d73a91d0b9299f9dfe3430413a8398f772433ea15c46155", func := "apostille/apostillelaw20.SlhVerifies", spec := "slhVerifies", unfollowed := true, recurses := true, named := ["apostille/slh.kinds", "apostille/keccak.constants", "apostille/keccak.places", "apostille/keccak.turns", "apostille/mac.sizes", "apostille/sha.roots256", "apostille/sha.roots512"], apart := false, laid := [("apostille/keccak.constants", laid_apostille_keccak_constants), ("apostille/keccak.places", laid_apostille_keccak_places), ("apostille/keccak.turns", laid_apostille_keccak_turns), ("apostille/sha.roots256", laid_apostille_sha_roots256), ("apostille/sha.roots512", laid_apostille_sha_roots512), ("apostille/mac.sizes", laid_apostille_mac_sizes), ("apostille/slh.kinds", laid_apostille_slh_kinds)], narrowed := true }
def SlhVerifiesUptoSaid : Prop := slhVerifiesUptoRow.holds Tryz.pinned (OpenSpec.upto slhVerifiesSpec)

/-- 'apostillelaw20.SlhMakes', WHERE WHAT IT READS IS OF BULK AT MOST 1048576: true; the input reads as it did. -/
def slhMakesUptoRow : OpenClaim := { program := "ytciddcopcdmnbaagreatdoor", sum := "14765386a95e649d7d73a91d0b9299f9dfe3430413a8398f772433ea15c46155", func := "apostille/apostillelaw20.SlhMakes", spec := "slhMakes", unfollowed := true, recurses := true, named := ["apostille/slh.kinds", "apostille/keccak.constants", "apostille/keccak.places", "apostille/keccak.turns", "apostille/mac.sizes", "apostille/sha.roots256", "apostille/sha.roots512"], apart := false, laid := [("apostille/keccak.constants", laid_apostille_keccak_constants), ("apostille/keccak.places", laid_apostille_keccak_places), ("apostille/keccak.turns", laid_apostille_keccak_turns), ("apostille/sha.roots256", laid_apostille_sha_roots256), ("apostille/sha.roots512", laid_apostille_sha_roots512), ("apostille/mac.sizes", laid_apostille_mac_sizes), ("apostille/slh.kinds", laid_apostille_slh_kinds)], narrowed := true }
def SlhMakesUptoSaid : Prop := slhMakesUptoRow.holds Tryz.pinned (OpenSpec.upto slhMakesSpec)

/-- 'apostillelaw20.SlhSigns', WHERE WHAT IT READS IS OF BULK AT MOST 1048576: true; the input reads as it did. -/
def slhSignsUptoRow : OpenClaim := { program := "ytciddcopcdmnbaagreatdoor", sum := "14765386a95e649d7d73a91d0b9299f9dfe3430413a8398f772433ea15c46155", func := "apostille/apostillelaw20.SlhSigns", spec := "slhSigns", unfollowed := true, recurses := true, named := ["apostille/slh.kinds", "apostille/keccak.constants", "apostille/keccak.places", "apostille/keccak.turns", "apostille/mac.sizes", "apostille/sha.roots256", "apostille/sha.roots512"], apart := false, laid := [("apostille/keccak.constants", laid_apostille_keccak_constants), ("apostille/keccak.places", laid_apostille_keccak_places), ("apostille/keccak.turns", laid_apostille_keccak_turns), ("apostille/sha.roots256", laid_apostille_sha_roots256), ("apostille/sha.roots512", laid_apostille_sha_roots512), ("apostille/mac.sizes", laid_apostille_mac_sizes), ("apostille/slh.kinds", laid_apostille_slh_kinds)], narrowed := true }
def SlhSignsUptoSaid : Prop := slhSignsUptoRow.holds Tryz.pinned (OpenSpec.upto slhSignsSpec)

/-- 'apostillelaw20.SlhRight', WHERE WHAT IT READS IS OF BULK AT MOST 1048576: true; the input reads as it did. -/
def slhRightUptoRow : OpenClaim := { program := "ytciddcopcdmnbaagreatdoor", sum := "14765386a95e649d7d73a91d0b9299f9dfe3430413a8398f772433ea15c46155", func := "apostille/apostillelaw20.SlhRight", spec := "slhRight", unfollowed := true, recurses := true, named := ["apostille/slh.kinds", "apostille/keccak.constants", "apostille/keccak.places", "apostille/keccak.turns", "apostille/mac.sizes", "apostille/sha.roots256", "apostille/sha.roots512"], apart := false, laid := [("apostille/keccak.constants", laid_apostille_keccak_constants), ("apostille/keccak.places", laid_apostille_keccak_places), ("apostille/keccak.turns", laid_apostille_keccak_turns), ("apostille/sha.roots256", laid_apostille_sha_roots256), ("apostille/sha.roots512", laid_apostille_sha_roots512), ("apostille/mac.sizes", laid_apostille_mac_sizes), ("apostille/slh.kinds", laid_apostille_slh_kinds)], narrowed := true }
def SlhRightUptoSaid : Prop := slhRightUptoRow.holds Tryz.pinned (OpenSpec.upto slhRightSpec)

end Rows
end Go.Proofs.YtciddcopcdmnbaaGreatDoor
