/-
  No cell of these rows narrows 'for every input' (looked for: loops, veiled, ifaces, maps, wideKeys, modest, calm, conditions, laid).
  DERIVED. THE GIVEN ROWS OF THIS SEAT. 5 by the template 'for every input the law returns true; each argument reads behind the call as it read before'; 0 by the template 'total and deterministic' (their statements: YtinpigpeoakeaaaTotals.lean).
  GIVEN WITH THE SEED: the statements are not yours to turn. If you find one false, say at which input.
  Laid BY PROGRAM, IN A SANDBOX (cutbox-rows.mjs): the forced cells as the released guide's own fill.sh prints them over the translation a3dff1b1a4f16083… (all of the seat's roots in one cut). By AI agents, Wed Nov 11 2026. No macro, syntax, notation, axiom, sorry.
-/
import Derived.Test.YtinpigpeoakeaaaChecked
import GoSem.Claim
import GoSem.ClaimJoined
import GoSem.ClaimMapViews
import Derived.JoinedTies
import Derived.KernelRfl
namespace Go.Proofs.Ytinpigpeoakeaaa
/- THE CELL 'sum', in the pinned program and in every row, IS THE sha256 OF THE DUMP (.gsa) THAT YtinpigpeoakeaaaProg.lean LOADS. Nothing in Lean hashes anything: it is a label: what it is worth is what the hold of that sum in a sandbox is worth. -/
noncomputable def Try.pinned : Pinned := { name := "ytinpigpeoakeaaa", sum := "a3dff1b1a4f16083c1fbfe55086a18a9ed07adbb0e5115dfcdbf71c91f105f19", checked := Try.checked }
namespace Rows
def none {H : Type} : Left H := { results := [], args := [] }

/-- 'laws.FnExactWKeys': WHATEVER THE INPUT: true; the input reads as it did. -/
def fnExactWKeysSpec : ChangeSpec := { name := "fnExactWKeys", fn := fun _ => fun
  | [d1, d2] => { results := [.lit (.bool true)], args := [d1, d2] }
  | _ => none }
def fnExactWKeysRow : OpenClaim := { program := "ytinpigpeoakeaaa", sum := "a3dff1b1a4f16083c1fbfe55086a18a9ed07adbb0e5115dfcdbf71c91f105f19", func := "pub-greenwood/laws.FnExactWKeys", spec := "fnExactWKeys", unfollowed := true, recurses := true, apart := false }
def FnExactWKeysSaid : Prop := fnExactWKeysRow.holds Try.pinned (OpenSpec.ofChange fnExactWKeysSpec)

/-- ITS FALSE NEIGHBOUR: 'it returns false'. Refute it at one input. -/
def fnExactWKeysWrong : ChangeSpec := { name := "fnExactWKeys", fn := fun _ => fun
  | [d1, d2] => { results := [.lit (.bool false)], args := [d1, d2] }
  | _ => none }
def FnExactWKeysWrongFalsely : Prop := fnExactWKeysRow.holds Try.pinned (OpenSpec.ofChange fnExactWKeysWrong)

/-- 'laws.FnWBytes': WHATEVER THE INPUT: true; the input reads as it did. -/
def fnWBytesSpec : ChangeSpec := { name := "fnWBytes", fn := fun _ => fun
  | [d1, d2] => { results := [.lit (.bool true)], args := [d1, d2] }
  | _ => none }
def fnWBytesRow : OpenClaim := { program := "ytinpigpeoakeaaa", sum := "a3dff1b1a4f16083c1fbfe55086a18a9ed07adbb0e5115dfcdbf71c91f105f19", func := "pub-greenwood/laws.FnWBytes", spec := "fnWBytes", unfollowed := true, recurses := true, apart := false }
def FnWBytesSaid : Prop := fnWBytesRow.holds Try.pinned (OpenSpec.ofChange fnWBytesSpec)

/-- ITS FALSE NEIGHBOUR: 'it returns false'. Refute it at one input. -/
def fnWBytesWrong : ChangeSpec := { name := "fnWBytes", fn := fun _ => fun
  | [d1, d2] => { results := [.lit (.bool false)], args := [d1, d2] }
  | _ => none }
def FnWBytesWrongFalsely : Prop := fnWBytesRow.holds Try.pinned (OpenSpec.ofChange fnWBytesWrong)

/-- 'laws.FnExactWGet': WHATEVER THE INPUT: true; the input reads as it did. -/
def fnExactWGetSpec : ChangeSpec := { name := "fnExactWGet", fn := fun _ => fun
  | [d1, d2, d3] => { results := [.lit (.bool true)], args := [d1, d2, d3] }
  | _ => none }
def fnExactWGetRow : OpenClaim := { program := "ytinpigpeoakeaaa", sum := "a3dff1b1a4f16083c1fbfe55086a18a9ed07adbb0e5115dfcdbf71c91f105f19", func := "pub-greenwood/laws.FnExactWGet", spec := "fnExactWGet", unfollowed := true, recurses := true, apart := false }
def FnExactWGetSaid : Prop := fnExactWGetRow.holds Try.pinned (OpenSpec.ofChange fnExactWGetSpec)

/-- ITS FALSE NEIGHBOUR: 'it returns false'. Refute it at one input. -/
def fnExactWGetWrong : ChangeSpec := { name := "fnExactWGet", fn := fun _ => fun
  | [d1, d2, d3] => { results := [.lit (.bool false)], args := [d1, d2, d3] }
  | _ => none }
def FnExactWGetWrongFalsely : Prop := fnExactWGetRow.holds Try.pinned (OpenSpec.ofChange fnExactWGetWrong)

/-- 'laws.FnWPopAll': WHATEVER THE INPUT: true; the input reads as it did. -/
def fnWPopAllSpec : ChangeSpec := { name := "fnWPopAll", fn := fun _ => fun
  | [d1, d2, d3] => { results := [.lit (.bool true)], args := [d1, d2, d3] }
  | _ => none }
def fnWPopAllRow : OpenClaim := { program := "ytinpigpeoakeaaa", sum := "a3dff1b1a4f16083c1fbfe55086a18a9ed07adbb0e5115dfcdbf71c91f105f19", func := "pub-greenwood/laws.FnWPopAll", spec := "fnWPopAll", unfollowed := true, recurses := true, apart := false }
def FnWPopAllSaid : Prop := fnWPopAllRow.holds Try.pinned (OpenSpec.ofChange fnWPopAllSpec)

/-- ITS FALSE NEIGHBOUR: 'it returns false'. Refute it at one input. -/
def fnWPopAllWrong : ChangeSpec := { name := "fnWPopAll", fn := fun _ => fun
  | [d1, d2, d3] => { results := [.lit (.bool false)], args := [d1, d2, d3] }
  | _ => none }
def FnWPopAllWrongFalsely : Prop := fnWPopAllRow.holds Try.pinned (OpenSpec.ofChange fnWPopAllWrong)

/-- 'laws.FnExactWCopy': WHATEVER THE INPUT: true; the input reads as it did. -/
def fnExactWCopySpec : ChangeSpec := { name := "fnExactWCopy", fn := fun _ => fun
  | [d1, d2, d3, d4, d5] => { results := [.lit (.bool true)], args := [d1, d2, d3, d4, d5] }
  | _ => none }
def fnExactWCopyRow : OpenClaim := { program := "ytinpigpeoakeaaa", sum := "a3dff1b1a4f16083c1fbfe55086a18a9ed07adbb0e5115dfcdbf71c91f105f19", func := "pub-greenwood/laws.FnExactWCopy", spec := "fnExactWCopy", unfollowed := true, recurses := true, apart := false }
def FnExactWCopySaid : Prop := fnExactWCopyRow.holds Try.pinned (OpenSpec.ofChange fnExactWCopySpec)

/-- ITS FALSE NEIGHBOUR: 'it returns false'. Refute it at one input. -/
def fnExactWCopyWrong : ChangeSpec := { name := "fnExactWCopy", fn := fun _ => fun
  | [d1, d2, d3, d4, d5] => { results := [.lit (.bool false)], args := [d1, d2, d3, d4, d5] }
  | _ => none }
def FnExactWCopyWrongFalsely : Prop := fnExactWCopyRow.holds Try.pinned (OpenSpec.ofChange fnExactWCopyWrong)

/- THE SECOND FORM. 'bulk': how many values and letters a reading holds, each counted each time it is reached (what is shared counts as often as it is met; a slice's spare places count too). A statement '..UptoSaid' is the law's where the arguments, and the package variables that the reading takes, are together of bulk at most 1048576: NARROWER than '..Said'. Prove '..Said' where nothing that the law and all that it calls make is longer than what came in: it says more and counts as full. Else prove '..UptoSaid'. A law counts once. -/
mutual
def uptoBulk {H : Type} : DataW H → Nat
  | .lit (.string bytes) => bytes.length + 1
  | .lit _ => 1
  | .nil => 1
  | .ptr d => uptoBulk d + 1
  | .slice elems spare => uptoBulkAll elems + uptoBulkAll spare + 1
  | .agg parts => uptoBulkAll parts + 1
  | .iface _ d => uptoBulk d + 1
  | .map entries => uptoBulkEntries entries + 1
  | .held _ => 1
def uptoBulkAll {H : Type} : List (DataW H) → Nat
  | [] => 0
  | d :: r => uptoBulk d + uptoBulkAll r
def uptoBulkEntries {H : Type} : List (Lit × DataW H) → Nat
  | [] => 0
  | x :: r => uptoBulkEntry x + uptoBulkEntries r
def uptoBulkEntry {H : Type} : Lit × DataW H → Nat
  | (.string bytes, d) => bytes.length + uptoBulk d + 1
  | (_, d) => uptoBulk d + 1
 end
def uptoSmall : (H : Type) → List (DataW H) → Bool := fun _ ds => decide (uptoBulkAll ds ≤ 1048576)
def OpenSpec.upto (s : _root_.Go.ChangeSpec) : _root_.Go.OpenSpec := { _root_.Go.OpenSpec.ofChange s with cond := some uptoSmall }

/-- 'laws.FnExactWKeys', WHERE WHAT IT READS IS OF BULK AT MOST 1048576: true; the input reads as it did. -/
def fnExactWKeysUptoRow : OpenClaim := { program := "ytinpigpeoakeaaa", sum := "a3dff1b1a4f16083c1fbfe55086a18a9ed07adbb0e5115dfcdbf71c91f105f19", func := "pub-greenwood/laws.FnExactWKeys", spec := "fnExactWKeys", unfollowed := true, recurses := true, apart := false, narrowed := true }
def FnExactWKeysUptoSaid : Prop := fnExactWKeysUptoRow.holds Try.pinned (OpenSpec.upto fnExactWKeysSpec)

/-- 'laws.FnWBytes', WHERE WHAT IT READS IS OF BULK AT MOST 1048576: true; the input reads as it did. -/
def fnWBytesUptoRow : OpenClaim := { program := "ytinpigpeoakeaaa", sum := "a3dff1b1a4f16083c1fbfe55086a18a9ed07adbb0e5115dfcdbf71c91f105f19", func := "pub-greenwood/laws.FnWBytes", spec := "fnWBytes", unfollowed := true, recurses := true, apart := false, narrowed := true }
def FnWBytesUptoSaid : Prop := fnWBytesUptoRow.holds Try.pinned (OpenSpec.upto fnWBytesSpec)

/-- 'laws.FnExactWGet', WHERE WHAT IT READS IS OF BULK AT MOST 1048576: true; the input reads as it did. -/
def fnExactWGetUptoRow : OpenClaim := { program := "ytinpigpeoakeaaa", sum := "a3dff1b1a4f16083c1fbfe55086a18a9ed07adbb0e5115dfcdbf71c91f105f19", func := "pub-greenwood/laws.FnExactWGet", spec := "fnExactWGet", unfollowed := true, recurses := true, apart := false, narrowed := true }
def FnExactWGetUptoSaid : Prop := fnExactWGetUptoRow.holds Try.pinned (OpenSpec.upto fnExactWGetSpec)

/-- 'laws.FnWPopAll', WHERE WHAT IT READS IS OF BULK AT MOST 1048576: true; the input reads as it did. -/
def fnWPopAllUptoRow : OpenClaim := { program := "ytinpigpeoakeaaa", sum := "a3dff1b1a4f16083c1fbfe55086a18a9ed07adbb0e5115dfcdbf71c91f105f19", func := "pub-greenwood/laws.FnWPopAll", spec := "fnWPopAll", unfollowed := true, recurses := true, apart := false, narrowed := true }
def FnWPopAllUptoSaid : Prop := fnWPopAllUptoRow.holds Try.pinned (OpenSpec.upto fnWPopAllSpec)

/-- 'laws.FnExactWCopy', WHERE WHAT IT READS IS OF BULK AT MOST 1048576: true; the input reads as it did. -/
def fnExactWCopyUptoRow : OpenClaim := { program := "ytinpigpeoakeaaa", sum := "a3dff1b1a4f16083c1fbfe55086a18a9ed07adbb0e5115dfcdbf71c91f105f19", func := "pub-greenwood/laws.FnExactWCopy", spec := "fnExactWCopy", unfollowed := true, recurses := true, apart := false, narrowed := true }
def FnExactWCopyUptoSaid : Prop := fnExactWCopyUptoRow.holds Try.pinned (OpenSpec.upto fnExactWCopySpec)

end Rows
end Go.Proofs.Ytinpigpeoakeaaa
