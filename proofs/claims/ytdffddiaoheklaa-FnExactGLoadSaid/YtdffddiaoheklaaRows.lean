/-
  No cell of these rows narrows 'for every input' (looked for: loops, veiled, ifaces, maps, wideKeys, modest, calm, conditions, laid).
  DERIVED. THE GIVEN ROWS OF THIS SEAT. 12 by the template 'for every input the law returns true; each argument reads behind the call as it read before'; 0 by the template 'total and deterministic' (their statements: YtdffddiaoheklaaTotals.lean).
  GIVEN WITH THE SEED: the statements are not yours to turn. If you find one false, say at which input.
  Laid BY PROGRAM, IN A SANDBOX (cutbox-rows.mjs): the forced cells as the released guide's own fill.sh prints them over the translation 23b7888535209284… (all of the seat's roots in one cut). By AI agents, Wed Nov 11 2026. No macro, syntax, notation, axiom, sorry.
-/
import Derived.Test.YtdffddiaoheklaaChecked
import GoSem.Claim
import GoSem.ClaimJoined
import GoSem.ClaimMapViews
import Derived.JoinedTies
import Derived.KernelRfl
namespace Go.Proofs.Ytdffddiaoheklaa
/- THE CELL 'sum', in the pinned program and in every row, IS THE sha256 OF THE DUMP (.gsa) THAT YtdffddiaoheklaaProg.lean LOADS. Nothing in Lean hashes anything: it is a label: what it is worth is what the hold of that sum in a sandbox is worth. -/
noncomputable def Try.pinned : Pinned := { name := "ytdffddiaoheklaa", sum := "23b7888535209284a9c8560c2d6cf1c330d28bf75343e122e6fd4b0241a10c61", checked := Try.checked }
namespace Rows
def none {H : Type} : Left H := { results := [], args := [] }

/-- 'laws.FnExactGMinMut': WHATEVER THE INPUT: true; the input reads as it did. -/
def fnExactGMinMutSpec : ChangeSpec := { name := "fnExactGMinMut", fn := fun _ => fun
  | [d1, d2] => { results := [.lit (.bool true)], args := [d1, d2] }
  | _ => none }
def fnExactGMinMutRow : OpenClaim := { program := "ytdffddiaoheklaa", sum := "23b7888535209284a9c8560c2d6cf1c330d28bf75343e122e6fd4b0241a10c61", func := "pub-greenwood/laws.FnExactGMinMut", spec := "fnExactGMinMut", unfollowed := true, recurses := true, apart := false }
def FnExactGMinMutSaid : Prop := fnExactGMinMutRow.holds Try.pinned (OpenSpec.ofChange fnExactGMinMutSpec)

/-- ITS FALSE NEIGHBOUR: 'it returns false'. Refute it at one input. -/
def fnExactGMinMutWrong : ChangeSpec := { name := "fnExactGMinMut", fn := fun _ => fun
  | [d1, d2] => { results := [.lit (.bool false)], args := [d1, d2] }
  | _ => none }
def FnExactGMinMutWrongFalsely : Prop := fnExactGMinMutRow.holds Try.pinned (OpenSpec.ofChange fnExactGMinMutWrong)

/-- 'laws.FnExactGItems': WHATEVER THE INPUT: true; the input reads as it did. -/
def fnExactGItemsSpec : ChangeSpec := { name := "fnExactGItems", fn := fun _ => fun
  | [d1, d2] => { results := [.lit (.bool true)], args := [d1, d2] }
  | _ => none }
def fnExactGItemsRow : OpenClaim := { program := "ytdffddiaoheklaa", sum := "23b7888535209284a9c8560c2d6cf1c330d28bf75343e122e6fd4b0241a10c61", func := "pub-greenwood/laws.FnExactGItems", spec := "fnExactGItems", unfollowed := true, recurses := true, apart := false }
def FnExactGItemsSaid : Prop := fnExactGItemsRow.holds Try.pinned (OpenSpec.ofChange fnExactGItemsSpec)

/-- ITS FALSE NEIGHBOUR: 'it returns false'. Refute it at one input. -/
def fnExactGItemsWrong : ChangeSpec := { name := "fnExactGItems", fn := fun _ => fun
  | [d1, d2] => { results := [.lit (.bool false)], args := [d1, d2] }
  | _ => none }
def FnExactGItemsWrongFalsely : Prop := fnExactGItemsRow.holds Try.pinned (OpenSpec.ofChange fnExactGItemsWrong)

/-- 'laws.FnExactGGetAtMut': WHATEVER THE INPUT: true; the input reads as it did. -/
def fnExactGGetAtMutSpec : ChangeSpec := { name := "fnExactGGetAtMut", fn := fun _ => fun
  | [d1, d2, d3] => { results := [.lit (.bool true)], args := [d1, d2, d3] }
  | _ => none }
def fnExactGGetAtMutRow : OpenClaim := { program := "ytdffddiaoheklaa", sum := "23b7888535209284a9c8560c2d6cf1c330d28bf75343e122e6fd4b0241a10c61", func := "pub-greenwood/laws.FnExactGGetAtMut", spec := "fnExactGGetAtMut", unfollowed := true, recurses := true, apart := false }
def FnExactGGetAtMutSaid : Prop := fnExactGGetAtMutRow.holds Try.pinned (OpenSpec.ofChange fnExactGGetAtMutSpec)

/-- ITS FALSE NEIGHBOUR: 'it returns false'. Refute it at one input. -/
def fnExactGGetAtMutWrong : ChangeSpec := { name := "fnExactGGetAtMut", fn := fun _ => fun
  | [d1, d2, d3] => { results := [.lit (.bool false)], args := [d1, d2, d3] }
  | _ => none }
def FnExactGGetAtMutWrongFalsely : Prop := fnExactGGetAtMutRow.holds Try.pinned (OpenSpec.ofChange fnExactGGetAtMutWrong)

/-- 'laws.FnExactGScanMut': WHATEVER THE INPUT: true; the input reads as it did. -/
def fnExactGScanMutSpec : ChangeSpec := { name := "fnExactGScanMut", fn := fun _ => fun
  | [d1, d2, d3] => { results := [.lit (.bool true)], args := [d1, d2, d3] }
  | _ => none }
def fnExactGScanMutRow : OpenClaim := { program := "ytdffddiaoheklaa", sum := "23b7888535209284a9c8560c2d6cf1c330d28bf75343e122e6fd4b0241a10c61", func := "pub-greenwood/laws.FnExactGScanMut", spec := "fnExactGScanMut", unfollowed := true, recurses := true, apart := false }
def FnExactGScanMutSaid : Prop := fnExactGScanMutRow.holds Try.pinned (OpenSpec.ofChange fnExactGScanMutSpec)

/-- ITS FALSE NEIGHBOUR: 'it returns false'. Refute it at one input. -/
def fnExactGScanMutWrong : ChangeSpec := { name := "fnExactGScanMut", fn := fun _ => fun
  | [d1, d2, d3] => { results := [.lit (.bool false)], args := [d1, d2, d3] }
  | _ => none }
def FnExactGScanMutWrongFalsely : Prop := fnExactGScanMutRow.holds Try.pinned (OpenSpec.ofChange fnExactGScanMutWrong)

/-- 'laws.FnExactGGetHintMut': WHATEVER THE INPUT: true; the input reads as it did. -/
def fnExactGGetHintMutSpec : ChangeSpec := { name := "fnExactGGetHintMut", fn := fun _ => fun
  | [d1, d2, d3] => { results := [.lit (.bool true)], args := [d1, d2, d3] }
  | _ => none }
def fnExactGGetHintMutRow : OpenClaim := { program := "ytdffddiaoheklaa", sum := "23b7888535209284a9c8560c2d6cf1c330d28bf75343e122e6fd4b0241a10c61", func := "pub-greenwood/laws.FnExactGGetHintMut", spec := "fnExactGGetHintMut", unfollowed := true, recurses := true, apart := false }
def FnExactGGetHintMutSaid : Prop := fnExactGGetHintMutRow.holds Try.pinned (OpenSpec.ofChange fnExactGGetHintMutSpec)

/-- ITS FALSE NEIGHBOUR: 'it returns false'. Refute it at one input. -/
def fnExactGGetHintMutWrong : ChangeSpec := { name := "fnExactGGetHintMut", fn := fun _ => fun
  | [d1, d2, d3] => { results := [.lit (.bool false)], args := [d1, d2, d3] }
  | _ => none }
def FnExactGGetHintMutWrongFalsely : Prop := fnExactGGetHintMutRow.holds Try.pinned (OpenSpec.ofChange fnExactGGetHintMutWrong)

/-- 'laws.FnGTwice': WHATEVER THE INPUT: true; the input reads as it did. -/
def fnGTwiceSpec : ChangeSpec := { name := "fnGTwice", fn := fun _ => fun
  | [d1, d2] => { results := [.lit (.bool true)], args := [d1, d2] }
  | _ => none }
def fnGTwiceRow : OpenClaim := { program := "ytdffddiaoheklaa", sum := "23b7888535209284a9c8560c2d6cf1c330d28bf75343e122e6fd4b0241a10c61", func := "pub-greenwood/laws.FnGTwice", spec := "fnGTwice", unfollowed := true, recurses := true, apart := false }
def FnGTwiceSaid : Prop := fnGTwiceRow.holds Try.pinned (OpenSpec.ofChange fnGTwiceSpec)

/-- ITS FALSE NEIGHBOUR: 'it returns false'. Refute it at one input. -/
def fnGTwiceWrong : ChangeSpec := { name := "fnGTwice", fn := fun _ => fun
  | [d1, d2] => { results := [.lit (.bool false)], args := [d1, d2] }
  | _ => none }
def FnGTwiceWrongFalsely : Prop := fnGTwiceRow.holds Try.pinned (OpenSpec.ofChange fnGTwiceWrong)

/-- 'laws.FnGClears': WHATEVER THE INPUT: true; the input reads as it did. -/
def fnGClearsSpec : ChangeSpec := { name := "fnGClears", fn := fun _ => fun
  | [d1, d2, d3] => { results := [.lit (.bool true)], args := [d1, d2, d3] }
  | _ => none }
def fnGClearsRow : OpenClaim := { program := "ytdffddiaoheklaa", sum := "23b7888535209284a9c8560c2d6cf1c330d28bf75343e122e6fd4b0241a10c61", func := "pub-greenwood/laws.FnGClears", spec := "fnGClears", unfollowed := true, recurses := true, apart := false }
def FnGClearsSaid : Prop := fnGClearsRow.holds Try.pinned (OpenSpec.ofChange fnGClearsSpec)

/-- ITS FALSE NEIGHBOUR: 'it returns false'. Refute it at one input. -/
def fnGClearsWrong : ChangeSpec := { name := "fnGClears", fn := fun _ => fun
  | [d1, d2, d3] => { results := [.lit (.bool false)], args := [d1, d2, d3] }
  | _ => none }
def FnGClearsWrongFalsely : Prop := fnGClearsRow.holds Try.pinned (OpenSpec.ofChange fnGClearsWrong)

/-- 'laws.FnExactGLoad': WHATEVER THE INPUT: true; the input reads as it did. -/
def fnExactGLoadSpec : ChangeSpec := { name := "fnExactGLoad", fn := fun _ => fun
  | [d1, d2] => { results := [.lit (.bool true)], args := [d1, d2] }
  | _ => none }
def fnExactGLoadRow : OpenClaim := { program := "ytdffddiaoheklaa", sum := "23b7888535209284a9c8560c2d6cf1c330d28bf75343e122e6fd4b0241a10c61", func := "pub-greenwood/laws.FnExactGLoad", spec := "fnExactGLoad", unfollowed := true, recurses := true, apart := false }
def FnExactGLoadSaid : Prop := fnExactGLoadRow.holds Try.pinned (OpenSpec.ofChange fnExactGLoadSpec)

/-- ITS FALSE NEIGHBOUR: 'it returns false'. Refute it at one input. -/
def fnExactGLoadWrong : ChangeSpec := { name := "fnExactGLoad", fn := fun _ => fun
  | [d1, d2] => { results := [.lit (.bool false)], args := [d1, d2] }
  | _ => none }
def FnExactGLoadWrongFalsely : Prop := fnExactGLoadRow.holds Try.pinned (OpenSpec.ofChange fnExactGLoadWrong)

/-- 'laws.FnExactGAscendMut': WHATEVER THE INPUT: true; the input reads as it did. -/
def fnExactGAscendMutSpec : ChangeSpec := { name := "fnExactGAscendMut", fn := fun _ => fun
  | [d1, d2, d3, d4] => { results := [.lit (.bool true)], args := [d1, d2, d3, d4] }
  | _ => none }
def fnExactGAscendMutRow : OpenClaim := { program := "ytdffddiaoheklaa", sum := "23b7888535209284a9c8560c2d6cf1c330d28bf75343e122e6fd4b0241a10c61", func := "pub-greenwood/laws.FnExactGAscendMut", spec := "fnExactGAscendMut", unfollowed := true, recurses := true, apart := false }
def FnExactGAscendMutSaid : Prop := fnExactGAscendMutRow.holds Try.pinned (OpenSpec.ofChange fnExactGAscendMutSpec)

/-- ITS FALSE NEIGHBOUR: 'it returns false'. Refute it at one input. -/
def fnExactGAscendMutWrong : ChangeSpec := { name := "fnExactGAscendMut", fn := fun _ => fun
  | [d1, d2, d3, d4] => { results := [.lit (.bool false)], args := [d1, d2, d3, d4] }
  | _ => none }
def FnExactGAscendMutWrongFalsely : Prop := fnExactGAscendMutRow.holds Try.pinned (OpenSpec.ofChange fnExactGAscendMutWrong)

/-- 'laws.FnExactGAscendHintMut': WHATEVER THE INPUT: true; the input reads as it did. -/
def fnExactGAscendHintMutSpec : ChangeSpec := { name := "fnExactGAscendHintMut", fn := fun _ => fun
  | [d1, d2, d3, d4] => { results := [.lit (.bool true)], args := [d1, d2, d3, d4] }
  | _ => none }
def fnExactGAscendHintMutRow : OpenClaim := { program := "ytdffddiaoheklaa", sum := "23b7888535209284a9c8560c2d6cf1c330d28bf75343e122e6fd4b0241a10c61", func := "pub-greenwood/laws.FnExactGAscendHintMut", spec := "fnExactGAscendHintMut", unfollowed := true, recurses := true, apart := false }
def FnExactGAscendHintMutSaid : Prop := fnExactGAscendHintMutRow.holds Try.pinned (OpenSpec.ofChange fnExactGAscendHintMutSpec)

/-- ITS FALSE NEIGHBOUR: 'it returns false'. Refute it at one input. -/
def fnExactGAscendHintMutWrong : ChangeSpec := { name := "fnExactGAscendHintMut", fn := fun _ => fun
  | [d1, d2, d3, d4] => { results := [.lit (.bool false)], args := [d1, d2, d3, d4] }
  | _ => none }
def FnExactGAscendHintMutWrongFalsely : Prop := fnExactGAscendHintMutRow.holds Try.pinned (OpenSpec.ofChange fnExactGAscendHintMutWrong)

/-- 'laws.FnGCounts': WHATEVER THE INPUT: true; the input reads as it did. -/
def fnGCountsSpec : ChangeSpec := { name := "fnGCounts", fn := fun _ => fun
  | [d1, d2] => { results := [.lit (.bool true)], args := [d1, d2] }
  | _ => none }
def fnGCountsRow : OpenClaim := { program := "ytdffddiaoheklaa", sum := "23b7888535209284a9c8560c2d6cf1c330d28bf75343e122e6fd4b0241a10c61", func := "pub-greenwood/laws.FnGCounts", spec := "fnGCounts", unfollowed := true, recurses := true, apart := false }
def FnGCountsSaid : Prop := fnGCountsRow.holds Try.pinned (OpenSpec.ofChange fnGCountsSpec)

/-- ITS FALSE NEIGHBOUR: 'it returns false'. Refute it at one input. -/
def fnGCountsWrong : ChangeSpec := { name := "fnGCounts", fn := fun _ => fun
  | [d1, d2] => { results := [.lit (.bool false)], args := [d1, d2] }
  | _ => none }
def FnGCountsWrongFalsely : Prop := fnGCountsRow.holds Try.pinned (OpenSpec.ofChange fnGCountsWrong)

/-- 'laws.FnGStops': WHATEVER THE INPUT: true; the input reads as it did. -/
def fnGStopsSpec : ChangeSpec := { name := "fnGStops", fn := fun _ => fun
  | [d1, d2, d3, d4] => { results := [.lit (.bool true)], args := [d1, d2, d3, d4] }
  | _ => none }
def fnGStopsRow : OpenClaim := { program := "ytdffddiaoheklaa", sum := "23b7888535209284a9c8560c2d6cf1c330d28bf75343e122e6fd4b0241a10c61", func := "pub-greenwood/laws.FnGStops", spec := "fnGStops", unfollowed := true, recurses := true, apart := false }
def FnGStopsSaid : Prop := fnGStopsRow.holds Try.pinned (OpenSpec.ofChange fnGStopsSpec)

/-- ITS FALSE NEIGHBOUR: 'it returns false'. Refute it at one input. -/
def fnGStopsWrong : ChangeSpec := { name := "fnGStops", fn := fun _ => fun
  | [d1, d2, d3, d4] => { results := [.lit (.bool false)], args := [d1, d2, d3, d4] }
  | _ => none }
def FnGStopsWrongFalsely : Prop := fnGStopsRow.holds Try.pinned (OpenSpec.ofChange fnGStopsWrong)

/- THE SECOND FORM. 'bulk': how many values and letters a reading holds, each counted each time it is reached (what is shared counts as often as it is met; a slice's spare places count too). A statement '..UptoSaid' is the law's where the arguments, and the package variables that the reading takes, are together of bulk at most 1048576: NARROWER than '..Said'. Prove '..Said' where nothing that the law and all that it calls make is longer than what came in: it says more and counts as full. Else prove '..UptoSaid'. A law counts once. -/
mutual
def uptoBulk {H : Type} : DataW H → Nat
  | .lit (.string bytes) => bytes.length + 1
  | .lit _ => 1
  | .nil => 1
  | .ptr d => uptoBulk d + 1
  | .slice elems spare => uptoBulkAll elems + uptoBulkAll spare + 1
  | .agg parts => uptoBulkAll parts + 1
  | .iface _ d => uptoBulk d + 1
  | .map entries => uptoBulkEntries entries + 1
  | .held _ => 1
def uptoBulkAll {H : Type} : List (DataW H) → Nat
  | [] => 0
  | d :: r => uptoBulk d + uptoBulkAll r
def uptoBulkEntries {H : Type} : List (Lit × DataW H) → Nat
  | [] => 0
  | x :: r => uptoBulkEntry x + uptoBulkEntries r
def uptoBulkEntry {H : Type} : Lit × DataW H → Nat
  | (.string bytes, d) => bytes.length + uptoBulk d + 1
  | (_, d) => uptoBulk d + 1
 end
def uptoSmall : (H : Type) → List (DataW H) → Bool := fun _ ds => decide (uptoBulkAll ds ≤ 1048576)
def OpenSpec.upto (s : _root_.Go.ChangeSpec) : _root_.Go.OpenSpec := { _root_.Go.OpenSpec.ofChange s with cond := some uptoSmall }

/-- 'laws.FnExactGMinMut', WHERE WHAT IT READS IS OF BULK AT MOST 1048576: true; the input reads as it did. -/
def fnExactGMinMutUptoRow : OpenClaim := { program := "ytdffddiaoheklaa", sum := "23b7888535209284a9c8560c2d6cf1c330d28bf75343e122e6fd4b0241a10c61", func := "pub-greenwood/laws.FnExactGMinMut", spec := "fnExactGMinMut", unfollowed := true, recurses := true, apart := false, narrowed := true }
def FnExactGMinMutUptoSaid : Prop := fnExactGMinMutUptoRow.holds Try.pinned (OpenSpec.upto fnExactGMinMutSpec)

/-- 'laws.FnExactGItems', WHERE WHAT IT READS IS OF BULK AT MOST 1048576: true; the input reads as it did. -/
def fnExactGItemsUptoRow : OpenClaim := { program := "ytdffddiaoheklaa", sum := "23b7888535209284a9c8560c2d6cf1c330d28bf75343e122e6fd4b0241a10c61", func := "pub-greenwood/laws.FnExactGItems", spec := "fnExactGItems", unfollowed := true, recurses := true, apart := false, narrowed := true }
def FnExactGItemsUptoSaid : Prop := fnExactGItemsUptoRow.holds Try.pinned (OpenSpec.upto fnExactGItemsSpec)

/-- 'laws.FnExactGGetAtMut', WHERE WHAT IT READS IS OF BULK AT MOST 1048576: true; the input reads as it did. -/
def fnExactGGetAtMutUptoRow : OpenClaim := { program := "ytdffddiaoheklaa", sum := "23b7888535209284a9c8560c2d6cf1c330d28bf75343e122e6fd4b0241a10c61", func := "pub-greenwood/laws.FnExactGGetAtMut", spec := "fnExactGGetAtMut", unfollowed := true, recurses := true, apart := false, narrowed := true }
def FnExactGGetAtMutUptoSaid : Prop := fnExactGGetAtMutUptoRow.holds Try.pinned (OpenSpec.upto fnExactGGetAtMutSpec)

/-- 'laws.FnExactGScanMut', WHERE WHAT IT READS IS OF BULK AT MOST 1048576: true; the input reads as it did. -/
def fnExactGScanMutUptoRow : OpenClaim := { program := "ytdffddiaoheklaa", sum := "23b7888535209284a9c8560c2d6cf1c330d28bf75343e122e6fd4b0241a10c61", func := "pub-greenwood/laws.FnExactGScanMut", spec := "fnExactGScanMut", unfollowed := true, recurses := true, apart := false, narrowed := true }
def FnExactGScanMutUptoSaid : Prop := fnExactGScanMutUptoRow.holds Try.pinned (OpenSpec.upto fnExactGScanMutSpec)

/-- 'laws.FnExactGGetHintMut', WHERE WHAT IT READS IS OF BULK AT MOST 1048576: true; the input reads as it did. -/
def fnExactGGetHintMutUptoRow : OpenClaim := { program := "ytdffddiaoheklaa", sum := "23b7888535209284a9c8560c2d6cf1c330d28bf75343e122e6fd4b0241a10c61", func := "pub-greenwood/laws.FnExactGGetHintMut", spec := "fnExactGGetHintMut", unfollowed := true, recurses := true, apart := false, narrowed := true }
def FnExactGGetHintMutUptoSaid : Prop := fnExactGGetHintMutUptoRow.holds Try.pinned (OpenSpec.upto fnExactGGetHintMutSpec)

/-- 'laws.FnGTwice', WHERE WHAT IT READS IS OF BULK AT MOST 1048576: true; the input reads as it did. -/
def fnGTwiceUptoRow : OpenClaim := { program := "ytdffddiaoheklaa", sum := "23b7888535209284a9c8560c2d6cf1c330d28bf75343e122e6fd4b0241a10c61", func := "pub-greenwood/laws.FnGTwice", spec := "fnGTwice", unfollowed := true, recurses := true, apart := false, narrowed := true }
def FnGTwiceUptoSaid : Prop := fnGTwiceUptoRow.holds Try.pinned (OpenSpec.upto fnGTwiceSpec)

/-- 'laws.FnGClears', WHERE WHAT IT READS IS OF BULK AT MOST 1048576: true; the input reads as it did. -/
def fnGClearsUptoRow : OpenClaim := { program := "ytdffddiaoheklaa", sum := "23b7888535209284a9c8560c2d6cf1c330d28bf75343e122e6fd4b0241a10c61", func := "pub-greenwood/laws.FnGClears", spec := "fnGClears", unfollowed := true, recurses := true, apart := false, narrowed := true }
def FnGClearsUptoSaid : Prop := fnGClearsUptoRow.holds Try.pinned (OpenSpec.upto fnGClearsSpec)

/-- 'laws.FnExactGLoad', WHERE WHAT IT READS IS OF BULK AT MOST 1048576: true; the input reads as it did. -/
def fnExactGLoadUptoRow : OpenClaim := { program := "ytdffddiaoheklaa", sum := "23b7888535209284a9c8560c2d6cf1c330d28bf75343e122e6fd4b0241a10c61", func := "pub-greenwood/laws.FnExactGLoad", spec := "fnExactGLoad", unfollowed := true, recurses := true, apart := false, narrowed := true }
def FnExactGLoadUptoSaid : Prop := fnExactGLoadUptoRow.holds Try.pinned (OpenSpec.upto fnExactGLoadSpec)

/-- 'laws.FnExactGAscendMut', WHERE WHAT IT READS IS OF BULK AT MOST 1048576: true; the input reads as it did. -/
def fnExactGAscendMutUptoRow : OpenClaim := { program := "ytdffddiaoheklaa", sum := "23b7888535209284a9c8560c2d6cf1c330d28bf75343e122e6fd4b0241a10c61", func := "pub-greenwood/laws.FnExactGAscendMut", spec := "fnExactGAscendMut", unfollowed := true, recurses := true, apart := false, narrowed := true }
def FnExactGAscendMutUptoSaid : Prop := fnExactGAscendMutUptoRow.holds Try.pinned (OpenSpec.upto fnExactGAscendMutSpec)

/-- 'laws.FnExactGAscendHintMut', WHERE WHAT IT READS IS OF BULK AT MOST 1048576: true; the input reads as it did. -/
def fnExactGAscendHintMutUptoRow : OpenClaim := { program := "ytdffddiaoheklaa", sum := "23b7888535209284a9c8560c2d6cf1c330d28bf75343e122e6fd4b0241a10c61", func := "pub-greenwood/laws.FnExactGAscendHintMut", spec := "fnExactGAscendHintMut", unfollowed := true, recurses := true, apart := false, narrowed := true }
def FnExactGAscendHintMutUptoSaid : Prop := fnExactGAscendHintMutUptoRow.holds Try.pinned (OpenSpec.upto fnExactGAscendHintMutSpec)

/-- 'laws.FnGCounts', WHERE WHAT IT READS IS OF BULK AT MOST 1048576: true; the input reads as it did. -/
def fnGCountsUptoRow : OpenClaim := { program := "ytdffddiaoheklaa", sum := "23b7888535209284a9c8560c2d6cf1c330d28bf75343e122e6fd4b0241a10c61", func := "pub-greenwood/laws.FnGCounts", spec := "fnGCounts", unfollowed := true, recurses := true, apart := false, narrowed := true }
def FnGCountsUptoSaid : Prop := fnGCountsUptoRow.holds Try.pinned (OpenSpec.upto fnGCountsSpec)

/-- 'laws.FnGStops', WHERE WHAT IT READS IS OF BULK AT MOST 1048576: true; the input reads as it did. -/
def fnGStopsUptoRow : OpenClaim := { program := "ytdffddiaoheklaa", sum := "23b7888535209284a9c8560c2d6cf1c330d28bf75343e122e6fd4b0241a10c61", func := "pub-greenwood/laws.FnGStops", spec := "fnGStops", unfollowed := true, recurses := true, apart := false, narrowed := true }
def FnGStopsUptoSaid : Prop := fnGStopsUptoRow.holds Try.pinned (OpenSpec.upto fnGStopsSpec)

end Rows
end Go.Proofs.Ytdffddiaoheklaa
