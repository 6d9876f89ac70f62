/-
  No cell of these rows narrows 'for every input' (looked for: loops, veiled, ifaces, maps, wideKeys, modest, calm, conditions, laid).
  DERIVED. THE GIVEN ROWS OF THIS SEAT. 10 by the template 'for every input the law returns true; each argument reads behind the call as it read before'; 0 by the template 'total and deterministic' (their statements: YtanmjbkbdmeckaaTotals.lean).
  GIVEN WITH THE SEED: the statements are not yours to turn. If you find one false, say at which input.
  Laid BY PROGRAM, IN A SANDBOX (cutbox-rows.mjs): the forced cells as the released guide's own fill.sh prints them over the translation d3634a3fbd541fe9… (all of the seat's roots in one cut). By AI agents, Wed Nov 11 2026. No macro, syntax, notation, axiom, sorry.
-/
import Derived.Test.YtanmjbkbdmeckaaChecked
import GoSem.Claim
import GoSem.ClaimJoined
import GoSem.ClaimMapViews
import Derived.JoinedTies
import Derived.KernelRfl
namespace Go.Proofs.Ytanmjbkbdmeckaa
/- THE CELL 'sum', in the pinned program and in every row, IS THE sha256 OF THE DUMP (.gsa) THAT YtanmjbkbdmeckaaProg.lean LOADS. Nothing in Lean hashes anything: it is a label: what it is worth is what the hold of that sum in a sandbox is worth. -/
noncomputable def Try.pinned : Pinned := { name := "ytanmjbkbdmeckaa", sum := "d3634a3fbd541fe97c77a444bd91970232e99e9a6627462d6494059753d0020c", checked := Try.checked }
namespace Rows
def none {H : Type} : Left H := { results := [], args := [] }

/-- 'laws.FnExactBMaxMut': WHATEVER THE INPUT: true; the input reads as it did. -/
def fnExactBMaxMutSpec : ChangeSpec := { name := "fnExactBMaxMut", fn := fun _ => fun
  | [d1, d2] => { results := [.lit (.bool true)], args := [d1, d2] }
  | _ => none }
def fnExactBMaxMutRow : OpenClaim := { program := "ytanmjbkbdmeckaa", sum := "d3634a3fbd541fe97c77a444bd91970232e99e9a6627462d6494059753d0020c", func := "pub-greenwood/laws.FnExactBMaxMut", spec := "fnExactBMaxMut", unfollowed := true, recurses := true, apart := false }
def FnExactBMaxMutSaid : Prop := fnExactBMaxMutRow.holds Try.pinned (OpenSpec.ofChange fnExactBMaxMutSpec)

/-- ITS FALSE NEIGHBOUR: 'it returns false'. Refute it at one input. -/
def fnExactBMaxMutWrong : ChangeSpec := { name := "fnExactBMaxMut", fn := fun _ => fun
  | [d1, d2] => { results := [.lit (.bool false)], args := [d1, d2] }
  | _ => none }
def FnExactBMaxMutWrongFalsely : Prop := fnExactBMaxMutRow.holds Try.pinned (OpenSpec.ofChange fnExactBMaxMutWrong)

/-- 'laws.FnExactBGet': WHATEVER THE INPUT: true; the input reads as it did. -/
def fnExactBGetSpec : ChangeSpec := { name := "fnExactBGet", fn := fun _ => fun
  | [d1, d2, d3] => { results := [.lit (.bool true)], args := [d1, d2, d3] }
  | _ => none }
def fnExactBGetRow : OpenClaim := { program := "ytanmjbkbdmeckaa", sum := "d3634a3fbd541fe97c77a444bd91970232e99e9a6627462d6494059753d0020c", func := "pub-greenwood/laws.FnExactBGet", spec := "fnExactBGet", unfollowed := true, recurses := true, apart := false }
def FnExactBGetSaid : Prop := fnExactBGetRow.holds Try.pinned (OpenSpec.ofChange fnExactBGetSpec)

/-- ITS FALSE NEIGHBOUR: 'it returns false'. Refute it at one input. -/
def fnExactBGetWrong : ChangeSpec := { name := "fnExactBGet", fn := fun _ => fun
  | [d1, d2, d3] => { results := [.lit (.bool false)], args := [d1, d2, d3] }
  | _ => none }
def FnExactBGetWrongFalsely : Prop := fnExactBGetRow.holds Try.pinned (OpenSpec.ofChange fnExactBGetWrong)

/-- 'laws.FnExactBDescendMut': WHATEVER THE INPUT: true; the input reads as it did. -/
def fnExactBDescendMutSpec : ChangeSpec := { name := "fnExactBDescendMut", fn := fun _ => fun
  | [d1, d2, d3, d4, d5] => { results := [.lit (.bool true)], args := [d1, d2, d3, d4, d5] }
  | _ => none }
def fnExactBDescendMutRow : OpenClaim := { program := "ytanmjbkbdmeckaa", sum := "d3634a3fbd541fe97c77a444bd91970232e99e9a6627462d6494059753d0020c", func := "pub-greenwood/laws.FnExactBDescendMut", spec := "fnExactBDescendMut", unfollowed := true, recurses := true, apart := false }
def FnExactBDescendMutSaid : Prop := fnExactBDescendMutRow.holds Try.pinned (OpenSpec.ofChange fnExactBDescendMutSpec)

/-- ITS FALSE NEIGHBOUR: 'it returns false'. Refute it at one input. -/
def fnExactBDescendMutWrong : ChangeSpec := { name := "fnExactBDescendMut", fn := fun _ => fun
  | [d1, d2, d3, d4, d5] => { results := [.lit (.bool false)], args := [d1, d2, d3, d4, d5] }
  | _ => none }
def FnExactBDescendMutWrongFalsely : Prop := fnExactBDescendMutRow.holds Try.pinned (OpenSpec.ofChange fnExactBDescendMutWrong)

/-- 'laws.FnExactBDescendHintMut': WHATEVER THE INPUT: true; the input reads as it did. -/
def fnExactBDescendHintMutSpec : ChangeSpec := { name := "fnExactBDescendHintMut", fn := fun _ => fun
  | [d1, d2, d3, d4, d5] => { results := [.lit (.bool true)], args := [d1, d2, d3, d4, d5] }
  | _ => none }
def fnExactBDescendHintMutRow : OpenClaim := { program := "ytanmjbkbdmeckaa", sum := "d3634a3fbd541fe97c77a444bd91970232e99e9a6627462d6494059753d0020c", func := "pub-greenwood/laws.FnExactBDescendHintMut", spec := "fnExactBDescendHintMut", unfollowed := true, recurses := true, apart := false }
def FnExactBDescendHintMutSaid : Prop := fnExactBDescendHintMutRow.holds Try.pinned (OpenSpec.ofChange fnExactBDescendHintMutSpec)

/-- ITS FALSE NEIGHBOUR: 'it returns false'. Refute it at one input. -/
def fnExactBDescendHintMutWrong : ChangeSpec := { name := "fnExactBDescendHintMut", fn := fun _ => fun
  | [d1, d2, d3, d4, d5] => { results := [.lit (.bool false)], args := [d1, d2, d3, d4, d5] }
  | _ => none }
def FnExactBDescendHintMutWrongFalsely : Prop := fnExactBDescendHintMutRow.holds Try.pinned (OpenSpec.ofChange fnExactBDescendHintMutWrong)

/-- 'laws.FnExactBNew': WHATEVER THE INPUT: true; the input reads as it did. -/
def fnExactBNewSpec : ChangeSpec := { name := "fnExactBNew", fn := fun _ => fun
  | [d1, d2, d3] => { results := [.lit (.bool true)], args := [d1, d2, d3] }
  | _ => none }
def fnExactBNewRow : OpenClaim := { program := "ytanmjbkbdmeckaa", sum := "d3634a3fbd541fe97c77a444bd91970232e99e9a6627462d6494059753d0020c", func := "pub-greenwood/laws.FnExactBNew", spec := "fnExactBNew", unfollowed := true, recurses := true, apart := false }
def FnExactBNewSaid : Prop := fnExactBNewRow.holds Try.pinned (OpenSpec.ofChange fnExactBNewSpec)

/-- ITS FALSE NEIGHBOUR: 'it returns false'. Refute it at one input. -/
def fnExactBNewWrong : ChangeSpec := { name := "fnExactBNew", fn := fun _ => fun
  | [d1, d2, d3] => { results := [.lit (.bool false)], args := [d1, d2, d3] }
  | _ => none }
def FnExactBNewWrongFalsely : Prop := fnExactBNewRow.holds Try.pinned (OpenSpec.ofChange fnExactBNewWrong)

/-- 'laws.FnBLoads': WHATEVER THE INPUT: true; the input reads as it did. -/
def fnBLoadsSpec : ChangeSpec := { name := "fnBLoads", fn := fun _ => fun
  | [d1, d2] => { results := [.lit (.bool true)], args := [d1, d2] }
  | _ => none }
def fnBLoadsRow : OpenClaim := { program := "ytanmjbkbdmeckaa", sum := "d3634a3fbd541fe97c77a444bd91970232e99e9a6627462d6494059753d0020c", func := "pub-greenwood/laws.FnBLoads", spec := "fnBLoads", unfollowed := true, recurses := true, apart := false }
def FnBLoadsSaid : Prop := fnBLoadsRow.holds Try.pinned (OpenSpec.ofChange fnBLoadsSpec)

/-- ITS FALSE NEIGHBOUR: 'it returns false'. Refute it at one input. -/
def fnBLoadsWrong : ChangeSpec := { name := "fnBLoads", fn := fun _ => fun
  | [d1, d2] => { results := [.lit (.bool false)], args := [d1, d2] }
  | _ => none }
def FnBLoadsWrongFalsely : Prop := fnBLoadsRow.holds Try.pinned (OpenSpec.ofChange fnBLoadsWrong)

/-- 'laws.FnExactBIterMut': WHATEVER THE INPUT: true; the input reads as it did. -/
def fnExactBIterMutSpec : ChangeSpec := { name := "fnExactBIterMut", fn := fun _ => fun
  | [d1, d2, d3] => { results := [.lit (.bool true)], args := [d1, d2, d3] }
  | _ => none }
def fnExactBIterMutRow : OpenClaim := { program := "ytanmjbkbdmeckaa", sum := "d3634a3fbd541fe97c77a444bd91970232e99e9a6627462d6494059753d0020c", func := "pub-greenwood/laws.FnExactBIterMut", spec := "fnExactBIterMut", unfollowed := true, recurses := true, apart := false }
def FnExactBIterMutSaid : Prop := fnExactBIterMutRow.holds Try.pinned (OpenSpec.ofChange fnExactBIterMutSpec)

/-- ITS FALSE NEIGHBOUR: 'it returns false'. Refute it at one input. -/
def fnExactBIterMutWrong : ChangeSpec := { name := "fnExactBIterMut", fn := fun _ => fun
  | [d1, d2, d3] => { results := [.lit (.bool false)], args := [d1, d2, d3] }
  | _ => none }
def FnExactBIterMutWrongFalsely : Prop := fnExactBIterMutRow.holds Try.pinned (OpenSpec.ofChange fnExactBIterMutWrong)

/-- 'laws.FnExactBDelete': WHATEVER THE INPUT: true; the input reads as it did. -/
def fnExactBDeleteSpec : ChangeSpec := { name := "fnExactBDelete", fn := fun _ => fun
  | [d1, d2, d3] => { results := [.lit (.bool true)], args := [d1, d2, d3] }
  | _ => none }
def fnExactBDeleteRow : OpenClaim := { program := "ytanmjbkbdmeckaa", sum := "d3634a3fbd541fe97c77a444bd91970232e99e9a6627462d6494059753d0020c", func := "pub-greenwood/laws.FnExactBDelete", spec := "fnExactBDelete", unfollowed := true, recurses := true, apart := false }
def FnExactBDeleteSaid : Prop := fnExactBDeleteRow.holds Try.pinned (OpenSpec.ofChange fnExactBDeleteSpec)

/-- ITS FALSE NEIGHBOUR: 'it returns false'. Refute it at one input. -/
def fnExactBDeleteWrong : ChangeSpec := { name := "fnExactBDelete", fn := fun _ => fun
  | [d1, d2, d3] => { results := [.lit (.bool false)], args := [d1, d2, d3] }
  | _ => none }
def FnExactBDeleteWrongFalsely : Prop := fnExactBDeleteRow.holds Try.pinned (OpenSpec.ofChange fnExactBDeleteWrong)

/-- 'laws.FnBNils': WHATEVER THE INPUT: true; the input reads as it did. -/
def fnBNilsSpec : ChangeSpec := { name := "fnBNils", fn := fun _ => fun
  | [d1, d2, d3, d4] => { results := [.lit (.bool true)], args := [d1, d2, d3, d4] }
  | _ => none }
def fnBNilsRow : OpenClaim := { program := "ytanmjbkbdmeckaa", sum := "d3634a3fbd541fe97c77a444bd91970232e99e9a6627462d6494059753d0020c", func := "pub-greenwood/laws.FnBNils", spec := "fnBNils", unfollowed := true, recurses := true, apart := false }
def FnBNilsSaid : Prop := fnBNilsRow.holds Try.pinned (OpenSpec.ofChange fnBNilsSpec)

/-- ITS FALSE NEIGHBOUR: 'it returns false'. Refute it at one input. -/
def fnBNilsWrong : ChangeSpec := { name := "fnBNils", fn := fun _ => fun
  | [d1, d2, d3, d4] => { results := [.lit (.bool false)], args := [d1, d2, d3, d4] }
  | _ => none }
def FnBNilsWrongFalsely : Prop := fnBNilsRow.holds Try.pinned (OpenSpec.ofChange fnBNilsWrong)

/-- 'laws.FnExactBDeleteAt': WHATEVER THE INPUT: true; the input reads as it did. -/
def fnExactBDeleteAtSpec : ChangeSpec := { name := "fnExactBDeleteAt", fn := fun _ => fun
  | [d1, d2, d3] => { results := [.lit (.bool true)], args := [d1, d2, d3] }
  | _ => none }
def fnExactBDeleteAtRow : OpenClaim := { program := "ytanmjbkbdmeckaa", sum := "d3634a3fbd541fe97c77a444bd91970232e99e9a6627462d6494059753d0020c", func := "pub-greenwood/laws.FnExactBDeleteAt", spec := "fnExactBDeleteAt", unfollowed := true, recurses := true, apart := false }
def FnExactBDeleteAtSaid : Prop := fnExactBDeleteAtRow.holds Try.pinned (OpenSpec.ofChange fnExactBDeleteAtSpec)

/-- ITS FALSE NEIGHBOUR: 'it returns false'. Refute it at one input. -/
def fnExactBDeleteAtWrong : ChangeSpec := { name := "fnExactBDeleteAt", fn := fun _ => fun
  | [d1, d2, d3] => { results := [.lit (.bool false)], args := [d1, d2, d3] }
  | _ => none }
def FnExactBDeleteAtWrongFalsely : Prop := fnExactBDeleteAtRow.holds Try.pinned (OpenSpec.ofChange fnExactBDeleteAtWrong)

/- THE SECOND FORM. 'bulk': how many values and letters a reading holds, each counted each time it is reached (what is shared counts as often as it is met; a slice's spare places count too). A statement '..UptoSaid' is the law's where the arguments, and the package variables that the reading takes, are together of bulk at most 1048576: NARROWER than '..Said'. Prove '..Said' where nothing that the law and all that it calls make is longer than what came in: it says more and counts as full. Else prove '..UptoSaid'. A law counts once. -/
mutual
def uptoBulk {H : Type} : DataW H → Nat
  | .lit (.string bytes) => bytes.length + 1
  | .lit _ => 1
  | .nil => 1
  | .ptr d => uptoBulk d + 1
  | .slice elems spare => uptoBulkAll elems + uptoBulkAll spare + 1
  | .agg parts => uptoBulkAll parts + 1
  | .iface _ d => uptoBulk d + 1
  | .map entries => uptoBulkEntries entries + 1
  | .held _ => 1
def uptoBulkAll {H : Type} : List (DataW H) → Nat
  | [] => 0
  | d :: r => uptoBulk d + uptoBulkAll r
def uptoBulkEntries {H : Type} : List (Lit × DataW H) → Nat
  | [] => 0
  | x :: r => uptoBulkEntry x + uptoBulkEntries r
def uptoBulkEntry {H : Type} : Lit × DataW H → Nat
  | (.string bytes, d) => bytes.length + uptoBulk d + 1
  | (_, d) => uptoBulk d + 1
 end
def uptoSmall : (H : Type) → List (DataW H) → Bool := fun _ ds => decide (uptoBulkAll ds ≤ 1048576)
def OpenSpec.upto (s : _root_.Go.ChangeSpec) : _root_.Go.OpenSpec := { _root_.Go.OpenSpec.ofChange s with cond := some uptoSmall }

/-- 'laws.FnExactBMaxMut', WHERE WHAT IT READS IS OF BULK AT MOST 1048576: true; the input reads as it did. -/
def fnExactBMaxMutUptoRow : OpenClaim := { program := "ytanmjbkbdmeckaa", sum := "d3634a3fbd541fe97c77a444bd91970232e99e9a6627462d6494059753d0020c", func := "pub-greenwood/laws.FnExactBMaxMut", spec := "fnExactBMaxMut", unfollowed := true, recurses := true, apart := false, narrowed := true }
def FnExactBMaxMutUptoSaid : Prop := fnExactBMaxMutUptoRow.holds Try.pinned (OpenSpec.upto fnExactBMaxMutSpec)

/-- 'laws.FnExactBGet', WHERE WHAT IT READS IS OF BULK AT MOST 1048576: true; the input reads as it did. -/
def fnExactBGetUptoRow : OpenClaim := { program := "ytanmjbkbdmeckaa", sum := "d3634a3fbd541fe97c77a444bd91970232e99e9a6627462d6494059753d0020c", func := "pub-greenwood/laws.FnExactBGet", spec := "fnExactBGet", unfollowed := true, recurses := true, apart := false, narrowed := true }
def FnExactBGetUptoSaid : Prop := fnExactBGetUptoRow.holds Try.pinned (OpenSpec.upto fnExactBGetSpec)

/-- 'laws.FnExactBDescendMut', WHERE WHAT IT READS IS OF BULK AT MOST 1048576: true; the input reads as it did. -/
def fnExactBDescendMutUptoRow : OpenClaim := { program := "ytanmjbkbdmeckaa", sum := "d3634a3fbd541fe97c77a444bd91970232e99e9a6627462d6494059753d0020c", func := "pub-greenwood/laws.FnExactBDescendMut", spec := "fnExactBDescendMut", unfollowed := true, recurses := true, apart := false, narrowed := true }
def FnExactBDescendMutUptoSaid : Prop := fnExactBDescendMutUptoRow.holds Try.pinned (OpenSpec.upto fnExactBDescendMutSpec)

/-- 'laws.FnExactBDescendHintMut', WHERE WHAT IT READS IS OF BULK AT MOST 1048576: true; the input reads as it did. -/
def fnExactBDescendHintMutUptoRow : OpenClaim := { program := "ytanmjbkbdmeckaa", sum := "d3634a3fbd541fe97c77a444bd91970232e99e9a6627462d6494059753d0020c", func := "pub-greenwood/laws.FnExactBDescendHintMut", spec := "fnExactBDescendHintMut", unfollowed := true, recurses := true, apart := false, narrowed := true }
def FnExactBDescendHintMutUptoSaid : Prop := fnExactBDescendHintMutUptoRow.holds Try.pinned (OpenSpec.upto fnExactBDescendHintMutSpec)

/-- 'laws.FnExactBNew', WHERE WHAT IT READS IS OF BULK AT MOST 1048576: true; the input reads as it did. -/
def fnExactBNewUptoRow : OpenClaim := { program := "ytanmjbkbdmeckaa", sum := "d3634a3fbd541fe97c77a444bd91970232e99e9a6627462d6494059753d0020c", func := "pub-greenwood/laws.FnExactBNew", spec := "fnExactBNew", unfollowed := true, recurses := true, apart := false, narrowed := true }
def FnExactBNewUptoSaid : Prop := fnExactBNewUptoRow.holds Try.pinned (OpenSpec.upto fnExactBNewSpec)

/-- 'laws.FnBLoads', WHERE WHAT IT READS IS OF BULK AT MOST 1048576: true; the input reads as it did. -/
def fnBLoadsUptoRow : OpenClaim := { program := "ytanmjbkbdmeckaa", sum := "d3634a3fbd541fe97c77a444bd91970232e99e9a6627462d6494059753d0020c", func := "pub-greenwood/laws.FnBLoads", spec := "fnBLoads", unfollowed := true, recurses := true, apart := false, narrowed := true }
def FnBLoadsUptoSaid : Prop := fnBLoadsUptoRow.holds Try.pinned (OpenSpec.upto fnBLoadsSpec)

/-- 'laws.FnExactBIterMut', WHERE WHAT IT READS IS OF BULK AT MOST 1048576: true; the input reads as it did. -/
def fnExactBIterMutUptoRow : OpenClaim := { program := "ytanmjbkbdmeckaa", sum := "d3634a3fbd541fe97c77a444bd91970232e99e9a6627462d6494059753d0020c", func := "pub-greenwood/laws.FnExactBIterMut", spec := "fnExactBIterMut", unfollowed := true, recurses := true, apart := false, narrowed := true }
def FnExactBIterMutUptoSaid : Prop := fnExactBIterMutUptoRow.holds Try.pinned (OpenSpec.upto fnExactBIterMutSpec)

/-- 'laws.FnExactBDelete', WHERE WHAT IT READS IS OF BULK AT MOST 1048576: true; the input reads as it did. -/
def fnExactBDeleteUptoRow : OpenClaim := { program := "ytanmjbkbdmeckaa", sum := "d3634a3fbd541fe97c77a444bd91970232e99e9a6627462d6494059753d0020c", func := "pub-greenwood/laws.FnExactBDelete", spec := "fnExactBDelete", unfollowed := true, recurses := true, apart := false, narrowed := true }
def FnExactBDeleteUptoSaid : Prop := fnExactBDeleteUptoRow.holds Try.pinned (OpenSpec.upto fnExactBDeleteSpec)

/-- 'laws.FnBNils', WHERE WHAT IT READS IS OF BULK AT MOST 1048576: true; the input reads as it did. -/
def fnBNilsUptoRow : OpenClaim := { program := "ytanmjbkbdmeckaa", sum := "d3634a3fbd541fe97c77a444bd91970232e99e9a6627462d6494059753d0020c", func := "pub-greenwood/laws.FnBNils", spec := "fnBNils", unfollowed := true, recurses := true, apart := false, narrowed := true }
def FnBNilsUptoSaid : Prop := fnBNilsUptoRow.holds Try.pinned (OpenSpec.upto fnBNilsSpec)

/-- 'laws.FnExactBDeleteAt', WHERE WHAT IT READS IS OF BULK AT MOST 1048576: true; the input reads as it did. -/
def fnExactBDeleteAtUptoRow : OpenClaim := { program := "ytanmjbkbdmeckaa", sum := "d3634a3fbd541fe97c77a444bd91970232e99e9a6627462d6494059753d0020c", func := "pub-greenwood/laws.FnExactBDeleteAt", spec := "fnExactBDeleteAt", unfollowed := true, recurses := true, apart := false, narrowed := true }
def FnExactBDeleteAtUptoSaid : Prop := fnExactBDeleteAtUptoRow.holds Try.pinned (OpenSpec.upto fnExactBDeleteAtSpec)

end Rows
end Go.Proofs.Ytanmjbkbdmeckaa
