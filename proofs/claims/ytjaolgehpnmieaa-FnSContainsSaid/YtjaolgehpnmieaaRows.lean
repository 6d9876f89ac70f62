/-
  No cell of these rows narrows 'for every input' (looked for: loops, veiled, ifaces, maps, wideKeys, modest, calm, conditions, laid).
  DERIVED. THE GIVEN ROWS OF THIS SEAT. 6 by the template 'for every input the law returns true; each argument reads behind the call as it read before'; 0 by the template 'total and deterministic' (their statements: YtjaolgehpnmieaaTotals.lean).
  GIVEN WITH THE SEED: the statements are not yours to turn. If you find one false, say at which input.
  Laid BY PROGRAM, IN A SANDBOX (cutbox-rows.mjs): the forced cells as the released guide's own fill.sh prints them over the translation 3bee59cc88394a9d… (all of the seat's roots in one cut). By AI agents, Wed Nov 11 2026. No macro, syntax, notation, axiom, sorry.
-/
import Derived.Test.YtjaolgehpnmieaaChecked
import GoSem.Claim
import GoSem.ClaimJoined
import GoSem.ClaimMapViews
import Derived.JoinedTies
import Derived.KernelRfl
namespace Go.Proofs.Ytjaolgehpnmieaa
/- THE CELL 'sum', in the pinned program and in every row, IS THE sha256 OF THE DUMP (.gsa) THAT YtjaolgehpnmieaaProg.lean LOADS. Nothing in Lean hashes anything: it is a label: what it is worth is what the hold of that sum in a sandbox is worth. -/
noncomputable def Try.pinned : Pinned := { name := "ytjaolgehpnmieaa", sum := "3bee59cc88394a9da1aca814114155524250c14452ff18d24eb960ac479cb8a2", checked := Try.checked }
namespace Rows
def none {H : Type} : Left H := { results := [], args := [] }

/-- 'laws.FnExactSMax': WHATEVER THE INPUT: true; the input reads as it did. -/
def fnExactSMaxSpec : ChangeSpec := { name := "fnExactSMax", fn := fun _ => fun
  | [d] => { results := [.lit (.bool true)], args := [d] }
  | _ => none }
def fnExactSMaxRow : OpenClaim := { program := "ytjaolgehpnmieaa", sum := "3bee59cc88394a9da1aca814114155524250c14452ff18d24eb960ac479cb8a2", func := "pub-greenwood/laws.FnExactSMax", spec := "fnExactSMax", unfollowed := true, recurses := true, apart := false }
def FnExactSMaxSaid : Prop := fnExactSMaxRow.holds Try.pinned (OpenSpec.ofChange fnExactSMaxSpec)

/-- ITS FALSE NEIGHBOUR: 'it returns false'. Refute it at one input. -/
def fnExactSMaxWrong : ChangeSpec := { name := "fnExactSMax", fn := fun _ => fun
  | [d] => { results := [.lit (.bool false)], args := [d] }
  | _ => none }
def FnExactSMaxWrongFalsely : Prop := fnExactSMaxRow.holds Try.pinned (OpenSpec.ofChange fnExactSMaxWrong)

/-- 'laws.FnExactSClear': WHATEVER THE INPUT: true; the input reads as it did. -/
def fnExactSClearSpec : ChangeSpec := { name := "fnExactSClear", fn := fun _ => fun
  | [d1, d2] => { results := [.lit (.bool true)], args := [d1, d2] }
  | _ => none }
def fnExactSClearRow : OpenClaim := { program := "ytjaolgehpnmieaa", sum := "3bee59cc88394a9da1aca814114155524250c14452ff18d24eb960ac479cb8a2", func := "pub-greenwood/laws.FnExactSClear", spec := "fnExactSClear", unfollowed := true, recurses := true, apart := false }
def FnExactSClearSaid : Prop := fnExactSClearRow.holds Try.pinned (OpenSpec.ofChange fnExactSClearSpec)

/-- ITS FALSE NEIGHBOUR: 'it returns false'. Refute it at one input. -/
def fnExactSClearWrong : ChangeSpec := { name := "fnExactSClear", fn := fun _ => fun
  | [d1, d2] => { results := [.lit (.bool false)], args := [d1, d2] }
  | _ => none }
def FnExactSClearWrongFalsely : Prop := fnExactSClearRow.holds Try.pinned (OpenSpec.ofChange fnExactSClearWrong)

/-- 'laws.FnExactSReverse': WHATEVER THE INPUT: true; the input reads as it did. -/
def fnExactSReverseSpec : ChangeSpec := { name := "fnExactSReverse", fn := fun _ => fun
  | [d1, d2] => { results := [.lit (.bool true)], args := [d1, d2] }
  | _ => none }
def fnExactSReverseRow : OpenClaim := { program := "ytjaolgehpnmieaa", sum := "3bee59cc88394a9da1aca814114155524250c14452ff18d24eb960ac479cb8a2", func := "pub-greenwood/laws.FnExactSReverse", spec := "fnExactSReverse", unfollowed := true, recurses := true, apart := false }
def FnExactSReverseSaid : Prop := fnExactSReverseRow.holds Try.pinned (OpenSpec.ofChange fnExactSReverseSpec)

/-- ITS FALSE NEIGHBOUR: 'it returns false'. Refute it at one input. -/
def fnExactSReverseWrong : ChangeSpec := { name := "fnExactSReverse", fn := fun _ => fun
  | [d1, d2] => { results := [.lit (.bool false)], args := [d1, d2] }
  | _ => none }
def FnExactSReverseWrongFalsely : Prop := fnExactSReverseRow.holds Try.pinned (OpenSpec.ofChange fnExactSReverseWrong)

/-- 'laws.FnSLoads': WHATEVER THE INPUT: true; the input reads as it did. -/
def fnSLoadsSpec : ChangeSpec := { name := "fnSLoads", fn := fun _ => fun
  | [d] => { results := [.lit (.bool true)], args := [d] }
  | _ => none }
def fnSLoadsRow : OpenClaim := { program := "ytjaolgehpnmieaa", sum := "3bee59cc88394a9da1aca814114155524250c14452ff18d24eb960ac479cb8a2", func := "pub-greenwood/laws.FnSLoads", spec := "fnSLoads", unfollowed := true, recurses := true, apart := false }
def FnSLoadsSaid : Prop := fnSLoadsRow.holds Try.pinned (OpenSpec.ofChange fnSLoadsSpec)

/-- ITS FALSE NEIGHBOUR: 'it returns false'. Refute it at one input. -/
def fnSLoadsWrong : ChangeSpec := { name := "fnSLoads", fn := fun _ => fun
  | [d] => { results := [.lit (.bool false)], args := [d] }
  | _ => none }
def FnSLoadsWrongFalsely : Prop := fnSLoadsRow.holds Try.pinned (OpenSpec.ofChange fnSLoadsWrong)

/-- 'laws.FnExactSDelete': WHATEVER THE INPUT: true; the input reads as it did. -/
def fnExactSDeleteSpec : ChangeSpec := { name := "fnExactSDelete", fn := fun _ => fun
  | [d1, d2] => { results := [.lit (.bool true)], args := [d1, d2] }
  | _ => none }
def fnExactSDeleteRow : OpenClaim := { program := "ytjaolgehpnmieaa", sum := "3bee59cc88394a9da1aca814114155524250c14452ff18d24eb960ac479cb8a2", func := "pub-greenwood/laws.FnExactSDelete", spec := "fnExactSDelete", unfollowed := true, recurses := true, apart := false }
def FnExactSDeleteSaid : Prop := fnExactSDeleteRow.holds Try.pinned (OpenSpec.ofChange fnExactSDeleteSpec)

/-- ITS FALSE NEIGHBOUR: 'it returns false'. Refute it at one input. -/
def fnExactSDeleteWrong : ChangeSpec := { name := "fnExactSDelete", fn := fun _ => fun
  | [d1, d2] => { results := [.lit (.bool false)], args := [d1, d2] }
  | _ => none }
def FnExactSDeleteWrongFalsely : Prop := fnExactSDeleteRow.holds Try.pinned (OpenSpec.ofChange fnExactSDeleteWrong)

/-- 'laws.FnSContains': WHATEVER THE INPUT: true; the input reads as it did. -/
def fnSContainsSpec : ChangeSpec := { name := "fnSContains", fn := fun _ => fun
  | [d1, d2] => { results := [.lit (.bool true)], args := [d1, d2] }
  | _ => none }
def fnSContainsRow : OpenClaim := { program := "ytjaolgehpnmieaa", sum := "3bee59cc88394a9da1aca814114155524250c14452ff18d24eb960ac479cb8a2", func := "pub-greenwood/laws.FnSContains", spec := "fnSContains", unfollowed := true, recurses := true, apart := false }
def FnSContainsSaid : Prop := fnSContainsRow.holds Try.pinned (OpenSpec.ofChange fnSContainsSpec)

/-- ITS FALSE NEIGHBOUR: 'it returns false'. Refute it at one input. -/
def fnSContainsWrong : ChangeSpec := { name := "fnSContains", fn := fun _ => fun
  | [d1, d2] => { results := [.lit (.bool false)], args := [d1, d2] }
  | _ => none }
def FnSContainsWrongFalsely : Prop := fnSContainsRow.holds Try.pinned (OpenSpec.ofChange fnSContainsWrong)

/- THE SECOND FORM. 'bulk': how many values and letters a reading holds, each counted each time it is reached (what is shared counts as often as it is met; a slice's spare places count too). A statement '..UptoSaid' is the law's where the arguments, and the package variables that the reading takes, are together of bulk at most 1048576: NARROWER than '..Said'. Prove '..Said' where nothing that the law and all that it calls make is longer than what came in: it says more and counts as full. Else prove '..UptoSaid'. A law counts once. -/
mutual
def uptoBulk {H : Type} : DataW H → Nat
  | .lit (.string bytes) => bytes.length + 1
  | .lit _ => 1
  | .nil => 1
  | .ptr d => uptoBulk d + 1
  | .slice elems spare => uptoBulkAll elems + uptoBulkAll spare + 1
  | .agg parts => uptoBulkAll parts + 1
  | .iface _ d => uptoBulk d + 1
  | .map entries => uptoBulkEntries entries + 1
  | .held _ => 1
def uptoBulkAll {H : Type} : List (DataW H) → Nat
  | [] => 0
  | d :: r => uptoBulk d + uptoBulkAll r
def uptoBulkEntries {H : Type} : List (Lit × DataW H) → Nat
  | [] => 0
  | x :: r => uptoBulkEntry x + uptoBulkEntries r
def uptoBulkEntry {H : Type} : Lit × DataW H → Nat
  | (.string bytes, d) => bytes.length + uptoBulk d + 1
  | (_, d) => uptoBulk d + 1
 end
def uptoSmall : (H : Type) → List (DataW H) → Bool := fun _ ds => decide (uptoBulkAll ds ≤ 1048576)
def OpenSpec.upto (s : _root_.Go.ChangeSpec) : _root_.Go.OpenSpec := { _root_.Go.OpenSpec.ofChange s with cond := some uptoSmall }

/-- 'laws.FnExactSMax', WHERE WHAT IT READS IS OF BULK AT MOST 1048576: true; the input reads as it did. -/
def fnExactSMaxUptoRow : OpenClaim := { program := "ytjaolgehpnmieaa", sum := "3bee59cc88394a9da1aca814114155524250c14452ff18d24eb960ac479cb8a2", func := "pub-greenwood/laws.FnExactSMax", spec := "fnExactSMax", unfollowed := true, recurses := true, apart := false, narrowed := true }
def FnExactSMaxUptoSaid : Prop := fnExactSMaxUptoRow.holds Try.pinned (OpenSpec.upto fnExactSMaxSpec)

/-- 'laws.FnExactSClear', WHERE WHAT IT READS IS OF BULK AT MOST 1048576: true; the input reads as it did. -/
def fnExactSClearUptoRow : OpenClaim := { program := "ytjaolgehpnmieaa", sum := "3bee59cc88394a9da1aca814114155524250c14452ff18d24eb960ac479cb8a2", func := "pub-greenwood/laws.FnExactSClear", spec := "fnExactSClear", unfollowed := true, recurses := true, apart := false, narrowed := true }
def FnExactSClearUptoSaid : Prop := fnExactSClearUptoRow.holds Try.pinned (OpenSpec.upto fnExactSClearSpec)

/-- 'laws.FnExactSReverse', WHERE WHAT IT READS IS OF BULK AT MOST 1048576: true; the input reads as it did. -/
def fnExactSReverseUptoRow : OpenClaim := { program := "ytjaolgehpnmieaa", sum := "3bee59cc88394a9da1aca814114155524250c14452ff18d24eb960ac479cb8a2", func := "pub-greenwood/laws.FnExactSReverse", spec := "fnExactSReverse", unfollowed := true, recurses := true, apart := false, narrowed := true }
def FnExactSReverseUptoSaid : Prop := fnExactSReverseUptoRow.holds Try.pinned (OpenSpec.upto fnExactSReverseSpec)

/-- 'laws.FnSLoads', WHERE WHAT IT READS IS OF BULK AT MOST 1048576: true; the input reads as it did. -/
def fnSLoadsUptoRow : OpenClaim := { program := "ytjaolgehpnmieaa", sum := "3bee59cc88394a9da1aca814114155524250c14452ff18d24eb960ac479cb8a2", func := "pub-greenwood/laws.FnSLoads", spec := "fnSLoads", unfollowed := true, recurses := true, apart := false, narrowed := true }
def FnSLoadsUptoSaid : Prop := fnSLoadsUptoRow.holds Try.pinned (OpenSpec.upto fnSLoadsSpec)

/-- 'laws.FnExactSDelete', WHERE WHAT IT READS IS OF BULK AT MOST 1048576: true; the input reads as it did. -/
def fnExactSDeleteUptoRow : OpenClaim := { program := "ytjaolgehpnmieaa", sum := "3bee59cc88394a9da1aca814114155524250c14452ff18d24eb960ac479cb8a2", func := "pub-greenwood/laws.FnExactSDelete", spec := "fnExactSDelete", unfollowed := true, recurses := true, apart := false, narrowed := true }
def FnExactSDeleteUptoSaid : Prop := fnExactSDeleteUptoRow.holds Try.pinned (OpenSpec.upto fnExactSDeleteSpec)

/-- 'laws.FnSContains', WHERE WHAT IT READS IS OF BULK AT MOST 1048576: true; the input reads as it did. -/
def fnSContainsUptoRow : OpenClaim := { program := "ytjaolgehpnmieaa", sum := "3bee59cc88394a9da1aca814114155524250c14452ff18d24eb960ac479cb8a2", func := "pub-greenwood/laws.FnSContains", spec := "fnSContains", unfollowed := true, recurses := true, apart := false, narrowed := true }
def FnSContainsUptoSaid : Prop := fnSContainsUptoRow.holds Try.pinned (OpenSpec.upto fnSContainsSpec)

end Rows
end Go.Proofs.Ytjaolgehpnmieaa
