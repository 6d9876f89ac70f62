/-
  No cell of these rows narrows 'for every input' (looked for: loops, veiled, ifaces, maps, wideKeys, modest, calm, conditions, laid).
  DERIVED. THE GIVEN ROWS OF THIS SEAT. 9 by the template 'for every input the law returns true; each argument reads behind the call as it read before'; 0 by the template 'total and deterministic' (their statements: YtbnnkcofnmipoaaTotals.lean).
  GIVEN WITH THE SEED: the statements are not yours to turn. If you find one false, say at which input.
  Laid BY PROGRAM, IN A SANDBOX (cutbox-rows.mjs): the forced cells as the released guide's own fill.sh prints them over the translation 21369dbc6f13badd… (all of the seat's roots in one cut). By AI agents, Wed Nov 11 2026. No macro, syntax, notation, axiom, sorry.
-/
import Derived.Test.YtbnnkcofnmipoaaChecked
import GoSem.Claim
import GoSem.ClaimJoined
import GoSem.ClaimMapViews
import Derived.JoinedTies
import Derived.KernelRfl
namespace Go.Proofs.Ytbnnkcofnmipoaa
/- THE CELL 'sum', in the pinned program and in every row, IS THE sha256 OF THE DUMP (.gsa) THAT YtbnnkcofnmipoaaProg.lean LOADS. Nothing in Lean hashes anything: it is a label: what it is worth is what the hold of that sum in a sandbox is worth. -/
noncomputable def Try.pinned : Pinned := { name := "ytbnnkcofnmipoaa", sum := "21369dbc6f13baddee3d232e6ff0b048d7edeafdef7888b99caf29102a3d634a", checked := Try.checked }
namespace Rows
def none {H : Type} : Left H := { results := [], args := [] }

/-- 'laws.FnGDeleteAll': WHATEVER THE INPUT: true; the input reads as it did. -/
def fnGDeleteAllSpec : ChangeSpec := { name := "fnGDeleteAll", fn := fun _ => fun
  | [d1, d2, d3] => { results := [.lit (.bool true)], args := [d1, d2, d3] }
  | _ => none }
def fnGDeleteAllRow : OpenClaim := { program := "ytbnnkcofnmipoaa", sum := "21369dbc6f13baddee3d232e6ff0b048d7edeafdef7888b99caf29102a3d634a", func := "pub-greenwood/laws.FnGDeleteAll", spec := "fnGDeleteAll", unfollowed := true, recurses := true, apart := false }
def FnGDeleteAllSaid : Prop := fnGDeleteAllRow.holds Try.pinned (OpenSpec.ofChange fnGDeleteAllSpec)

/-- ITS FALSE NEIGHBOUR: 'it returns false'. Refute it at one input. -/
def fnGDeleteAllWrong : ChangeSpec := { name := "fnGDeleteAll", fn := fun _ => fun
  | [d1, d2, d3] => { results := [.lit (.bool false)], args := [d1, d2, d3] }
  | _ => none }
def FnGDeleteAllWrongFalsely : Prop := fnGDeleteAllRow.holds Try.pinned (OpenSpec.ofChange fnGDeleteAllWrong)

/-- 'laws.FnExactGIterInit': WHATEVER THE INPUT: true; the input reads as it did. -/
def fnExactGIterInitSpec : ChangeSpec := { name := "fnExactGIterInit", fn := fun _ => fun
  | [d1, d2, d3, d4, d5] => { results := [.lit (.bool true)], args := [d1, d2, d3, d4, d5] }
  | _ => none }
def fnExactGIterInitRow : OpenClaim := { program := "ytbnnkcofnmipoaa", sum := "21369dbc6f13baddee3d232e6ff0b048d7edeafdef7888b99caf29102a3d634a", func := "pub-greenwood/laws.FnExactGIterInit", spec := "fnExactGIterInit", unfollowed := true, recurses := true, apart := false }
def FnExactGIterInitSaid : Prop := fnExactGIterInitRow.holds Try.pinned (OpenSpec.ofChange fnExactGIterInitSpec)

/-- ITS FALSE NEIGHBOUR: 'it returns false'. Refute it at one input. -/
def fnExactGIterInitWrong : ChangeSpec := { name := "fnExactGIterInit", fn := fun _ => fun
  | [d1, d2, d3, d4, d5] => { results := [.lit (.bool false)], args := [d1, d2, d3, d4, d5] }
  | _ => none }
def FnExactGIterInitWrongFalsely : Prop := fnExactGIterInitRow.holds Try.pinned (OpenSpec.ofChange fnExactGIterInitWrong)

/-- 'laws.FnGBackAndForth': WHATEVER THE INPUT: true; the input reads as it did. -/
def fnGBackAndForthSpec : ChangeSpec := { name := "fnGBackAndForth", fn := fun _ => fun
  | [d1, d2, d3] => { results := [.lit (.bool true)], args := [d1, d2, d3] }
  | _ => none }
def fnGBackAndForthRow : OpenClaim := { program := "ytbnnkcofnmipoaa", sum := "21369dbc6f13baddee3d232e6ff0b048d7edeafdef7888b99caf29102a3d634a", func := "pub-greenwood/laws.FnGBackAndForth", spec := "fnGBackAndForth", unfollowed := true, recurses := true, apart := false }
def FnGBackAndForthSaid : Prop := fnGBackAndForthRow.holds Try.pinned (OpenSpec.ofChange fnGBackAndForthSpec)

/-- ITS FALSE NEIGHBOUR: 'it returns false'. Refute it at one input. -/
def fnGBackAndForthWrong : ChangeSpec := { name := "fnGBackAndForth", fn := fun _ => fun
  | [d1, d2, d3] => { results := [.lit (.bool false)], args := [d1, d2, d3] }
  | _ => none }
def FnGBackAndForthWrongFalsely : Prop := fnGBackAndForthRow.holds Try.pinned (OpenSpec.ofChange fnGBackAndForthWrong)

/-- 'laws.FnGHints': WHATEVER THE INPUT: true; the input reads as it did. -/
def fnGHintsSpec : ChangeSpec := { name := "fnGHints", fn := fun _ => fun
  | [d1, d2, d3] => { results := [.lit (.bool true)], args := [d1, d2, d3] }
  | _ => none }
def fnGHintsRow : OpenClaim := { program := "ytbnnkcofnmipoaa", sum := "21369dbc6f13baddee3d232e6ff0b048d7edeafdef7888b99caf29102a3d634a", func := "pub-greenwood/laws.FnGHints", spec := "fnGHints", unfollowed := true, recurses := true, apart := false }
def FnGHintsSaid : Prop := fnGHintsRow.holds Try.pinned (OpenSpec.ofChange fnGHintsSpec)

/-- ITS FALSE NEIGHBOUR: 'it returns false'. Refute it at one input. -/
def fnGHintsWrong : ChangeSpec := { name := "fnGHints", fn := fun _ => fun
  | [d1, d2, d3] => { results := [.lit (.bool false)], args := [d1, d2, d3] }
  | _ => none }
def FnGHintsWrongFalsely : Prop := fnGHintsRow.holds Try.pinned (OpenSpec.ofChange fnGHintsWrong)

/-- 'laws.FnGPeels': WHATEVER THE INPUT: true; the input reads as it did. -/
def fnGPeelsSpec : ChangeSpec := { name := "fnGPeels", fn := fun _ => fun
  | [d1, d2, d3, d4] => { results := [.lit (.bool true)], args := [d1, d2, d3, d4] }
  | _ => none }
def fnGPeelsRow : OpenClaim := { program := "ytbnnkcofnmipoaa", sum := "21369dbc6f13baddee3d232e6ff0b048d7edeafdef7888b99caf29102a3d634a", func := "pub-greenwood/laws.FnGPeels", spec := "fnGPeels", unfollowed := true, recurses := true, apart := false }
def FnGPeelsSaid : Prop := fnGPeelsRow.holds Try.pinned (OpenSpec.ofChange fnGPeelsSpec)

/-- ITS FALSE NEIGHBOUR: 'it returns false'. Refute it at one input. -/
def fnGPeelsWrong : ChangeSpec := { name := "fnGPeels", fn := fun _ => fun
  | [d1, d2, d3, d4] => { results := [.lit (.bool false)], args := [d1, d2, d3, d4] }
  | _ => none }
def FnGPeelsWrongFalsely : Prop := fnGPeelsRow.holds Try.pinned (OpenSpec.ofChange fnGPeelsWrong)

/-- 'laws.FnExactGDeleteRangeReuse': WHATEVER THE INPUT: true; the input reads as it did. -/
def fnExactGDeleteRangeReuseSpec : ChangeSpec := { name := "fnExactGDeleteRangeReuse", fn := fun _ => fun
  | [d1, d2, d3, d4] => { results := [.lit (.bool true)], args := [d1, d2, d3, d4] }
  | _ => none }
def fnExactGDeleteRangeReuseRow : OpenClaim := { program := "ytbnnkcofnmipoaa", sum := "21369dbc6f13baddee3d232e6ff0b048d7edeafdef7888b99caf29102a3d634a", func := "pub-greenwood/laws.FnExactGDeleteRangeReuse", spec := "fnExactGDeleteRangeReuse", unfollowed := true, recurses := true, apart := false }
def FnExactGDeleteRangeReuseSaid : Prop := fnExactGDeleteRangeReuseRow.holds Try.pinned (OpenSpec.ofChange fnExactGDeleteRangeReuseSpec)

/-- ITS FALSE NEIGHBOUR: 'it returns false'. Refute it at one input. -/
def fnExactGDeleteRangeReuseWrong : ChangeSpec := { name := "fnExactGDeleteRangeReuse", fn := fun _ => fun
  | [d1, d2, d3, d4] => { results := [.lit (.bool false)], args := [d1, d2, d3, d4] }
  | _ => none }
def FnExactGDeleteRangeReuseWrongFalsely : Prop := fnExactGDeleteRangeReuseRow.holds Try.pinned (OpenSpec.ofChange fnExactGDeleteRangeReuseWrong)

/-- 'laws.FnGRangeTwice': WHATEVER THE INPUT: true; the input reads as it did. -/
def fnGRangeTwiceSpec : ChangeSpec := { name := "fnGRangeTwice", fn := fun _ => fun
  | [d1, d2, d3] => { results := [.lit (.bool true)], args := [d1, d2, d3] }
  | _ => none }
def fnGRangeTwiceRow : OpenClaim := { program := "ytbnnkcofnmipoaa", sum := "21369dbc6f13baddee3d232e6ff0b048d7edeafdef7888b99caf29102a3d634a", func := "pub-greenwood/laws.FnGRangeTwice", spec := "fnGRangeTwice", unfollowed := true, recurses := true, apart := false }
def FnGRangeTwiceSaid : Prop := fnGRangeTwiceRow.holds Try.pinned (OpenSpec.ofChange fnGRangeTwiceSpec)

/-- ITS FALSE NEIGHBOUR: 'it returns false'. Refute it at one input. -/
def fnGRangeTwiceWrong : ChangeSpec := { name := "fnGRangeTwice", fn := fun _ => fun
  | [d1, d2, d3] => { results := [.lit (.bool false)], args := [d1, d2, d3] }
  | _ => none }
def FnGRangeTwiceWrongFalsely : Prop := fnGRangeTwiceRow.holds Try.pinned (OpenSpec.ofChange fnGRangeTwiceWrong)

/-- 'laws.FnGShapeGrows': WHATEVER THE INPUT: true; the input reads as it did. -/
def fnGShapeGrowsSpec : ChangeSpec := { name := "fnGShapeGrows", fn := fun _ => fun
  | [d1, d2, d3] => { results := [.lit (.bool true)], args := [d1, d2, d3] }
  | _ => none }
def fnGShapeGrowsRow : OpenClaim := { program := "ytbnnkcofnmipoaa", sum := "21369dbc6f13baddee3d232e6ff0b048d7edeafdef7888b99caf29102a3d634a", func := "pub-greenwood/laws.FnGShapeGrows", spec := "fnGShapeGrows", unfollowed := true, recurses := true, apart := false }
def FnGShapeGrowsSaid : Prop := fnGShapeGrowsRow.holds Try.pinned (OpenSpec.ofChange fnGShapeGrowsSpec)

/-- ITS FALSE NEIGHBOUR: 'it returns false'. Refute it at one input. -/
def fnGShapeGrowsWrong : ChangeSpec := { name := "fnGShapeGrows", fn := fun _ => fun
  | [d1, d2, d3] => { results := [.lit (.bool false)], args := [d1, d2, d3] }
  | _ => none }
def FnGShapeGrowsWrongFalsely : Prop := fnGShapeGrowsRow.holds Try.pinned (OpenSpec.ofChange fnGShapeGrowsWrong)

/-- 'laws.FnExactGGenericCopy': WHATEVER THE INPUT: true; the input reads as it did. -/
def fnExactGGenericCopySpec : ChangeSpec := { name := "fnExactGGenericCopy", fn := fun _ => fun
  | [d1, d2, d3, d4] => { results := [.lit (.bool true)], args := [d1, d2, d3, d4] }
  | _ => none }
def fnExactGGenericCopyRow : OpenClaim := { program := "ytbnnkcofnmipoaa", sum := "21369dbc6f13baddee3d232e6ff0b048d7edeafdef7888b99caf29102a3d634a", func := "pub-greenwood/laws.FnExactGGenericCopy", spec := "fnExactGGenericCopy", unfollowed := true, recurses := true, apart := false }
def FnExactGGenericCopySaid : Prop := fnExactGGenericCopyRow.holds Try.pinned (OpenSpec.ofChange fnExactGGenericCopySpec)

/-- ITS FALSE NEIGHBOUR: 'it returns false'. Refute it at one input. -/
def fnExactGGenericCopyWrong : ChangeSpec := { name := "fnExactGGenericCopy", fn := fun _ => fun
  | [d1, d2, d3, d4] => { results := [.lit (.bool false)], args := [d1, d2, d3, d4] }
  | _ => none }
def FnExactGGenericCopyWrongFalsely : Prop := fnExactGGenericCopyRow.holds Try.pinned (OpenSpec.ofChange fnExactGGenericCopyWrong)

/- THE SECOND FORM. 'bulk': how many values and letters a reading holds, each counted each time it is reached (what is shared counts as often as it is met; a slice's spare places count too). A statement '..UptoSaid' is the law's where the arguments, and the package variables that the reading takes, are together of bulk at most 1048576: NARROWER than '..Said'. Prove '..Said' where nothing that the law and all that it calls make is longer than what came in: it says more and counts as full. Else prove '..UptoSaid'. A law counts once. -/
mutual
def uptoBulk {H : Type} : DataW H → Nat
  | .lit (.string bytes) => bytes.length + 1
  | .lit _ => 1
  | .nil => 1
  | .ptr d => uptoBulk d + 1
  | .slice elems spare => uptoBulkAll elems + uptoBulkAll spare + 1
  | .agg parts => uptoBulkAll parts + 1
  | .iface _ d => uptoBulk d + 1
  | .map entries => uptoBulkEntries entries + 1
  | .held _ => 1
def uptoBulkAll {H : Type} : List (DataW H) → Nat
  | [] => 0
  | d :: r => uptoBulk d + uptoBulkAll r
def uptoBulkEntries {H : Type} : List (Lit × DataW H) → Nat
  | [] => 0
  | x :: r => uptoBulkEntry x + uptoBulkEntries r
def uptoBulkEntry {H : Type} : Lit × DataW H → Nat
  | (.string bytes, d) => bytes.length + uptoBulk d + 1
  | (_, d) => uptoBulk d + 1
 end
def uptoSmall : (H : Type) → List (DataW H) → Bool := fun _ ds => decide (uptoBulkAll ds ≤ 1048576)
def OpenSpec.upto (s : _root_.Go.ChangeSpec) : _root_.Go.OpenSpec := { _root_.Go.OpenSpec.ofChange s with cond := some uptoSmall }

/-- 'laws.FnGDeleteAll', WHERE WHAT IT READS IS OF BULK AT MOST 1048576: true; the input reads as it did. -/
def fnGDeleteAllUptoRow : OpenClaim := { program := "ytbnnkcofnmipoaa", sum := "21369dbc6f13baddee3d232e6ff0b048d7edeafdef7888b99caf29102a3d634a", func := "pub-greenwood/laws.FnGDeleteAll", spec := "fnGDeleteAll", unfollowed := true, recurses := true, apart := false, narrowed := true }
def FnGDeleteAllUptoSaid : Prop := fnGDeleteAllUptoRow.holds Try.pinned (OpenSpec.upto fnGDeleteAllSpec)

/-- 'laws.FnExactGIterInit', WHERE WHAT IT READS IS OF BULK AT MOST 1048576: true; the input reads as it did. -/
def fnExactGIterInitUptoRow : OpenClaim := { program := "ytbnnkcofnmipoaa", sum := "21369dbc6f13baddee3d232e6ff0b048d7edeafdef7888b99caf29102a3d634a", func := "pub-greenwood/laws.FnExactGIterInit", spec := "fnExactGIterInit", unfollowed := true, recurses := true, apart := false, narrowed := true }
def FnExactGIterInitUptoSaid : Prop := fnExactGIterInitUptoRow.holds Try.pinned (OpenSpec.upto fnExactGIterInitSpec)

/-- 'laws.FnGBackAndForth', WHERE WHAT IT READS IS OF BULK AT MOST 1048576: true; the input reads as it did. -/
def fnGBackAndForthUptoRow : OpenClaim := { program := "ytbnnkcofnmipoaa", sum := "21369dbc6f13baddee3d232e6ff0b048d7edeafdef7888b99caf29102a3d634a", func := "pub-greenwood/laws.FnGBackAndForth", spec := "fnGBackAndForth", unfollowed := true, recurses := true, apart := false, narrowed := true }
def FnGBackAndForthUptoSaid : Prop := fnGBackAndForthUptoRow.holds Try.pinned (OpenSpec.upto fnGBackAndForthSpec)

/-- 'laws.FnGHints', WHERE WHAT IT READS IS OF BULK AT MOST 1048576: true; the input reads as it did. -/
def fnGHintsUptoRow : OpenClaim := { program := "ytbnnkcofnmipoaa", sum := "21369dbc6f13baddee3d232e6ff0b048d7edeafdef7888b99caf29102a3d634a", func := "pub-greenwood/laws.FnGHints", spec := "fnGHints", unfollowed := true, recurses := true, apart := false, narrowed := true }
def FnGHintsUptoSaid : Prop := fnGHintsUptoRow.holds Try.pinned (OpenSpec.upto fnGHintsSpec)

/-- 'laws.FnGPeels', WHERE WHAT IT READS IS OF BULK AT MOST 1048576: true; the input reads as it did. -/
def fnGPeelsUptoRow : OpenClaim := { program := "ytbnnkcofnmipoaa", sum := "21369dbc6f13baddee3d232e6ff0b048d7edeafdef7888b99caf29102a3d634a", func := "pub-greenwood/laws.FnGPeels", spec := "fnGPeels", unfollowed := true, recurses := true, apart := false, narrowed := true }
def FnGPeelsUptoSaid : Prop := fnGPeelsUptoRow.holds Try.pinned (OpenSpec.upto fnGPeelsSpec)

/-- 'laws.FnExactGDeleteRangeReuse', WHERE WHAT IT READS IS OF BULK AT MOST 1048576: true; the input reads as it did. -/
def fnExactGDeleteRangeReuseUptoRow : OpenClaim := { program := "ytbnnkcofnmipoaa", sum := "21369dbc6f13baddee3d232e6ff0b048d7edeafdef7888b99caf29102a3d634a", func := "pub-greenwood/laws.FnExactGDeleteRangeReuse", spec := "fnExactGDeleteRangeReuse", unfollowed := true, recurses := true, apart := false, narrowed := true }
def FnExactGDeleteRangeReuseUptoSaid : Prop := fnExactGDeleteRangeReuseUptoRow.holds Try.pinned (OpenSpec.upto fnExactGDeleteRangeReuseSpec)

/-- 'laws.FnGRangeTwice', WHERE WHAT IT READS IS OF BULK AT MOST 1048576: true; the input reads as it did. -/
def fnGRangeTwiceUptoRow : OpenClaim := { program := "ytbnnkcofnmipoaa", sum := "21369dbc6f13baddee3d232e6ff0b048d7edeafdef7888b99caf29102a3d634a", func := "pub-greenwood/laws.FnGRangeTwice", spec := "fnGRangeTwice", unfollowed := true, recurses := true, apart := false, narrowed := true }
def FnGRangeTwiceUptoSaid : Prop := fnGRangeTwiceUptoRow.holds Try.pinned (OpenSpec.upto fnGRangeTwiceSpec)

/-- 'laws.FnGShapeGrows', WHERE WHAT IT READS IS OF BULK AT MOST 1048576: true; the input reads as it did. -/
def fnGShapeGrowsUptoRow : OpenClaim := { program := "ytbnnkcofnmipoaa", sum := "21369dbc6f13baddee3d232e6ff0b048d7edeafdef7888b99caf29102a3d634a", func := "pub-greenwood/laws.FnGShapeGrows", spec := "fnGShapeGrows", unfollowed := true, recurses := true, apart := false, narrowed := true }
def FnGShapeGrowsUptoSaid : Prop := fnGShapeGrowsUptoRow.holds Try.pinned (OpenSpec.upto fnGShapeGrowsSpec)

/-- 'laws.FnExactGGenericCopy', WHERE WHAT IT READS IS OF BULK AT MOST 1048576: true; the input reads as it did. -/
def fnExactGGenericCopyUptoRow : OpenClaim := { program := "ytbnnkcofnmipoaa", sum := "21369dbc6f13baddee3d232e6ff0b048d7edeafdef7888b99caf29102a3d634a", func := "pub-greenwood/laws.FnExactGGenericCopy", spec := "fnExactGGenericCopy", unfollowed := true, recurses := true, apart := false, narrowed := true }
def FnExactGGenericCopyUptoSaid : Prop := fnExactGGenericCopyUptoRow.holds Try.pinned (OpenSpec.upto fnExactGGenericCopySpec)

end Rows
end Go.Proofs.Ytbnnkcofnmipoaa
