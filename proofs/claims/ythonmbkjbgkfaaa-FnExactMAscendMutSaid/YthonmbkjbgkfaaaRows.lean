/-
  No cell of these rows narrows 'for every input' (looked for: loops, veiled, ifaces, maps, wideKeys, modest, calm, conditions, laid).
  DERIVED. THE GIVEN ROWS OF THIS SEAT. 8 by the template 'for every input the law returns true; each argument reads behind the call as it read before'; 0 by the template 'total and deterministic' (their statements: YthonmbkjbgkfaaaTotals.lean).
  GIVEN WITH THE SEED: the statements are not yours to turn. If you find one false, say at which input.
  Laid BY PROGRAM, IN A SANDBOX (cutbox-rows.mjs): the forced cells as the released guide's own fill.sh prints them over the translation aa090bb125f5ef0e… (all of the seat's roots in one cut). By AI agents, Wed Nov 11 2026. No macro, syntax, notation, axiom, sorry.
-/
import Derived.Test.YthonmbkjbgkfaaaChecked
import GoSem.Claim
import GoSem.ClaimJoined
import GoSem.ClaimMapViews
import Derived.JoinedTies
import Derived.KernelRfl
namespace Go.Proofs.Ythonmbkjbgkfaaa
/- THE CELL 'sum', in the pinned program and in every row, IS THE sha256 OF THE DUMP (.gsa) THAT YthonmbkjbgkfaaaProg.lean LOADS. Nothing in Lean hashes anything: it is a label: what it is worth is what the hold of that sum in a sandbox is worth. -/
noncomputable def Try.pinned : Pinned := { name := "ythonmbkjbgkfaaa", sum := "aa090bb125f5ef0e7a5ba40c08f631571339a5c20acaf96127e3967461e4556e", checked := Try.checked }
namespace Rows
def none {H : Type} : Left H := { results := [], args := [] }

/-- 'laws.FnExactMLen': WHATEVER THE INPUT: true; the input reads as it did. -/
def fnExactMLenSpec : ChangeSpec := { name := "fnExactMLen", fn := fun _ => fun
  | [d1, d2] => { results := [.lit (.bool true)], args := [d1, d2] }
  | _ => none }
def fnExactMLenRow : OpenClaim := { program := "ythonmbkjbgkfaaa", sum := "aa090bb125f5ef0e7a5ba40c08f631571339a5c20acaf96127e3967461e4556e", func := "pub-greenwood/laws.FnExactMLen", spec := "fnExactMLen", unfollowed := true, recurses := true, apart := false }
def FnExactMLenSaid : Prop := fnExactMLenRow.holds Try.pinned (OpenSpec.ofChange fnExactMLenSpec)

/-- ITS FALSE NEIGHBOUR: 'it returns false'. Refute it at one input. -/
def fnExactMLenWrong : ChangeSpec := { name := "fnExactMLen", fn := fun _ => fun
  | [d1, d2] => { results := [.lit (.bool false)], args := [d1, d2] }
  | _ => none }
def FnExactMLenWrongFalsely : Prop := fnExactMLenRow.holds Try.pinned (OpenSpec.ofChange fnExactMLenWrong)

/-- 'laws.FnExactMMax': WHATEVER THE INPUT: true; the input reads as it did. -/
def fnExactMMaxSpec : ChangeSpec := { name := "fnExactMMax", fn := fun _ => fun
  | [d1, d2] => { results := [.lit (.bool true)], args := [d1, d2] }
  | _ => none }
def fnExactMMaxRow : OpenClaim := { program := "ythonmbkjbgkfaaa", sum := "aa090bb125f5ef0e7a5ba40c08f631571339a5c20acaf96127e3967461e4556e", func := "pub-greenwood/laws.FnExactMMax", spec := "fnExactMMax", unfollowed := true, recurses := true, apart := false }
def FnExactMMaxSaid : Prop := fnExactMMaxRow.holds Try.pinned (OpenSpec.ofChange fnExactMMaxSpec)

/-- ITS FALSE NEIGHBOUR: 'it returns false'. Refute it at one input. -/
def fnExactMMaxWrong : ChangeSpec := { name := "fnExactMMax", fn := fun _ => fun
  | [d1, d2] => { results := [.lit (.bool false)], args := [d1, d2] }
  | _ => none }
def FnExactMMaxWrongFalsely : Prop := fnExactMMaxRow.holds Try.pinned (OpenSpec.ofChange fnExactMMaxWrong)

/-- 'laws.FnExactMKeyValues': WHATEVER THE INPUT: true; the input reads as it did. -/
def fnExactMKeyValuesSpec : ChangeSpec := { name := "fnExactMKeyValues", fn := fun _ => fun
  | [d1, d2] => { results := [.lit (.bool true)], args := [d1, d2] }
  | _ => none }
def fnExactMKeyValuesRow : OpenClaim := { program := "ythonmbkjbgkfaaa", sum := "aa090bb125f5ef0e7a5ba40c08f631571339a5c20acaf96127e3967461e4556e", func := "pub-greenwood/laws.FnExactMKeyValues", spec := "fnExactMKeyValues", unfollowed := true, recurses := true, apart := false }
def FnExactMKeyValuesSaid : Prop := fnExactMKeyValuesRow.holds Try.pinned (OpenSpec.ofChange fnExactMKeyValuesSpec)

/-- ITS FALSE NEIGHBOUR: 'it returns false'. Refute it at one input. -/
def fnExactMKeyValuesWrong : ChangeSpec := { name := "fnExactMKeyValues", fn := fun _ => fun
  | [d1, d2] => { results := [.lit (.bool false)], args := [d1, d2] }
  | _ => none }
def FnExactMKeyValuesWrongFalsely : Prop := fnExactMKeyValuesRow.holds Try.pinned (OpenSpec.ofChange fnExactMKeyValuesWrong)

/-- 'laws.FnExactMGetAt': WHATEVER THE INPUT: true; the input reads as it did. -/
def fnExactMGetAtSpec : ChangeSpec := { name := "fnExactMGetAt", fn := fun _ => fun
  | [d1, d2, d3] => { results := [.lit (.bool true)], args := [d1, d2, d3] }
  | _ => none }
def fnExactMGetAtRow : OpenClaim := { program := "ythonmbkjbgkfaaa", sum := "aa090bb125f5ef0e7a5ba40c08f631571339a5c20acaf96127e3967461e4556e", func := "pub-greenwood/laws.FnExactMGetAt", spec := "fnExactMGetAt", unfollowed := true, recurses := true, apart := false }
def FnExactMGetAtSaid : Prop := fnExactMGetAtRow.holds Try.pinned (OpenSpec.ofChange fnExactMGetAtSpec)

/-- ITS FALSE NEIGHBOUR: 'it returns false'. Refute it at one input. -/
def fnExactMGetAtWrong : ChangeSpec := { name := "fnExactMGetAt", fn := fun _ => fun
  | [d1, d2, d3] => { results := [.lit (.bool false)], args := [d1, d2, d3] }
  | _ => none }
def FnExactMGetAtWrongFalsely : Prop := fnExactMGetAtRow.holds Try.pinned (OpenSpec.ofChange fnExactMGetAtWrong)

/-- 'laws.FnExactMScanMut': WHATEVER THE INPUT: true; the input reads as it did. -/
def fnExactMScanMutSpec : ChangeSpec := { name := "fnExactMScanMut", fn := fun _ => fun
  | [d1, d2, d3] => { results := [.lit (.bool true)], args := [d1, d2, d3] }
  | _ => none }
def fnExactMScanMutRow : OpenClaim := { program := "ythonmbkjbgkfaaa", sum := "aa090bb125f5ef0e7a5ba40c08f631571339a5c20acaf96127e3967461e4556e", func := "pub-greenwood/laws.FnExactMScanMut", spec := "fnExactMScanMut", unfollowed := true, recurses := true, apart := false }
def FnExactMScanMutSaid : Prop := fnExactMScanMutRow.holds Try.pinned (OpenSpec.ofChange fnExactMScanMutSpec)

/-- ITS FALSE NEIGHBOUR: 'it returns false'. Refute it at one input. -/
def fnExactMScanMutWrong : ChangeSpec := { name := "fnExactMScanMut", fn := fun _ => fun
  | [d1, d2, d3] => { results := [.lit (.bool false)], args := [d1, d2, d3] }
  | _ => none }
def FnExactMScanMutWrongFalsely : Prop := fnExactMScanMutRow.holds Try.pinned (OpenSpec.ofChange fnExactMScanMutWrong)

/-- 'laws.FnExactMClear': WHATEVER THE INPUT: true; the input reads as it did. -/
def fnExactMClearSpec : ChangeSpec := { name := "fnExactMClear", fn := fun _ => fun
  | [d1, d2, d3] => { results := [.lit (.bool true)], args := [d1, d2, d3] }
  | _ => none }
def fnExactMClearRow : OpenClaim := { program := "ythonmbkjbgkfaaa", sum := "aa090bb125f5ef0e7a5ba40c08f631571339a5c20acaf96127e3967461e4556e", func := "pub-greenwood/laws.FnExactMClear", spec := "fnExactMClear", unfollowed := true, recurses := true, apart := false }
def FnExactMClearSaid : Prop := fnExactMClearRow.holds Try.pinned (OpenSpec.ofChange fnExactMClearSpec)

/-- ITS FALSE NEIGHBOUR: 'it returns false'. Refute it at one input. -/
def fnExactMClearWrong : ChangeSpec := { name := "fnExactMClear", fn := fun _ => fun
  | [d1, d2, d3] => { results := [.lit (.bool false)], args := [d1, d2, d3] }
  | _ => none }
def FnExactMClearWrongFalsely : Prop := fnExactMClearRow.holds Try.pinned (OpenSpec.ofChange fnExactMClearWrong)

/-- 'laws.FnExactMAscendMut': WHATEVER THE INPUT: true; the input reads as it did. -/
def fnExactMAscendMutSpec : ChangeSpec := { name := "fnExactMAscendMut", fn := fun _ => fun
  | [d1, d2, d3, d4] => { results := [.lit (.bool true)], args := [d1, d2, d3, d4] }
  | _ => none }
def fnExactMAscendMutRow : OpenClaim := { program := "ythonmbkjbgkfaaa", sum := "aa090bb125f5ef0e7a5ba40c08f631571339a5c20acaf96127e3967461e4556e", func := "pub-greenwood/laws.FnExactMAscendMut", spec := "fnExactMAscendMut", unfollowed := true, recurses := true, apart := false }
def FnExactMAscendMutSaid : Prop := fnExactMAscendMutRow.holds Try.pinned (OpenSpec.ofChange fnExactMAscendMutSpec)

/-- ITS FALSE NEIGHBOUR: 'it returns false'. Refute it at one input. -/
def fnExactMAscendMutWrong : ChangeSpec := { name := "fnExactMAscendMut", fn := fun _ => fun
  | [d1, d2, d3, d4] => { results := [.lit (.bool false)], args := [d1, d2, d3, d4] }
  | _ => none }
def FnExactMAscendMutWrongFalsely : Prop := fnExactMAscendMutRow.holds Try.pinned (OpenSpec.ofChange fnExactMAscendMutWrong)

/-- 'laws.FnExactMLoad': WHATEVER THE INPUT: true; the input reads as it did. -/
def fnExactMLoadSpec : ChangeSpec := { name := "fnExactMLoad", fn := fun _ => fun
  | [d1, d2] => { results := [.lit (.bool true)], args := [d1, d2] }
  | _ => none }
def fnExactMLoadRow : OpenClaim := { program := "ythonmbkjbgkfaaa", sum := "aa090bb125f5ef0e7a5ba40c08f631571339a5c20acaf96127e3967461e4556e", func := "pub-greenwood/laws.FnExactMLoad", spec := "fnExactMLoad", unfollowed := true, recurses := true, apart := false }
def FnExactMLoadSaid : Prop := fnExactMLoadRow.holds Try.pinned (OpenSpec.ofChange fnExactMLoadSpec)

/-- ITS FALSE NEIGHBOUR: 'it returns false'. Refute it at one input. -/
def fnExactMLoadWrong : ChangeSpec := { name := "fnExactMLoad", fn := fun _ => fun
  | [d1, d2] => { results := [.lit (.bool false)], args := [d1, d2] }
  | _ => none }
def FnExactMLoadWrongFalsely : Prop := fnExactMLoadRow.holds Try.pinned (OpenSpec.ofChange fnExactMLoadWrong)

/- THE SECOND FORM. 'bulk': how many values and letters a reading holds, each counted each time it is reached (what is shared counts as often as it is met; a slice's spare places count too). A statement '..UptoSaid' is the law's where the arguments, and the package variables that the reading takes, are together of bulk at most 1048576: NARROWER than '..Said'. Prove '..Said' where nothing that the law and all that it calls make is longer than what came in: it says more and counts as full. Else prove '..UptoSaid'. A law counts once. -/
mutual
def uptoBulk {H : Type} : DataW H → Nat
  | .lit (.string bytes) => bytes.length + 1
  | .lit _ => 1
  | .nil => 1
  | .ptr d => uptoBulk d + 1
  | .slice elems spare => uptoBulkAll elems + uptoBulkAll spare + 1
  | .agg parts => uptoBulkAll parts + 1
  | .iface _ d => uptoBulk d + 1
  | .map entries => uptoBulkEntries entries + 1
  | .held _ => 1
def uptoBulkAll {H : Type} : List (DataW H) → Nat
  | [] => 0
  | d :: r => uptoBulk d + uptoBulkAll r
def uptoBulkEntries {H : Type} : List (Lit × DataW H) → Nat
  | [] => 0
  | x :: r => uptoBulkEntry x + uptoBulkEntries r
def uptoBulkEntry {H : Type} : Lit × DataW H → Nat
  | (.string bytes, d) => bytes.length + uptoBulk d + 1
  | (_, d) => uptoBulk d + 1
 end
def uptoSmall : (H : Type) → List (DataW H) → Bool := fun _ ds => decide (uptoBulkAll ds ≤ 1048576)
def OpenSpec.upto (s : _root_.Go.ChangeSpec) : _root_.Go.OpenSpec := { _root_.Go.OpenSpec.ofChange s with cond := some uptoSmall }

/-- 'laws.FnExactMLen', WHERE WHAT IT READS IS OF BULK AT MOST 1048576: true; the input reads as it did. -/
def fnExactMLenUptoRow : OpenClaim := { program := "ythonmbkjbgkfaaa", sum := "aa090bb125f5ef0e7a5ba40c08f631571339a5c20acaf96127e3967461e4556e", func := "pub-greenwood/laws.FnExactMLen", spec := "fnExactMLen", unfollowed := true, recurses := true, apart := false, narrowed := true }
def FnExactMLenUptoSaid : Prop := fnExactMLenUptoRow.holds Try.pinned (OpenSpec.upto fnExactMLenSpec)

/-- 'laws.FnExactMMax', WHERE WHAT IT READS IS OF BULK AT MOST 1048576: true; the input reads as it did. -/
def fnExactMMaxUptoRow : OpenClaim := { program := "ythonmbkjbgkfaaa", sum := "aa090bb125f5ef0e7a5ba40c08f631571339a5c20acaf96127e3967461e4556e", func := "pub-greenwood/laws.FnExactMMax", spec := "fnExactMMax", unfollowed := true, recurses := true, apart := false, narrowed := true }
def FnExactMMaxUptoSaid : Prop := fnExactMMaxUptoRow.holds Try.pinned (OpenSpec.upto fnExactMMaxSpec)

/-- 'laws.FnExactMKeyValues', WHERE WHAT IT READS IS OF BULK AT MOST 1048576: true; the input reads as it did. -/
def fnExactMKeyValuesUptoRow : OpenClaim := { program := "ythonmbkjbgkfaaa", sum := "aa090bb125f5ef0e7a5ba40c08f631571339a5c20acaf96127e3967461e4556e", func := "pub-greenwood/laws.FnExactMKeyValues", spec := "fnExactMKeyValues", unfollowed := true, recurses := true, apart := false, narrowed := true }
def FnExactMKeyValuesUptoSaid : Prop := fnExactMKeyValuesUptoRow.holds Try.pinned (OpenSpec.upto fnExactMKeyValuesSpec)

/-- 'laws.FnExactMGetAt', WHERE WHAT IT READS IS OF BULK AT MOST 1048576: true; the input reads as it did. -/
def fnExactMGetAtUptoRow : OpenClaim := { program := "ythonmbkjbgkfaaa", sum := "aa090bb125f5ef0e7a5ba40c08f631571339a5c20acaf96127e3967461e4556e", func := "pub-greenwood/laws.FnExactMGetAt", spec := "fnExactMGetAt", unfollowed := true, recurses := true, apart := false, narrowed := true }
def FnExactMGetAtUptoSaid : Prop := fnExactMGetAtUptoRow.holds Try.pinned (OpenSpec.upto fnExactMGetAtSpec)

/-- 'laws.FnExactMScanMut', WHERE WHAT IT READS IS OF BULK AT MOST 1048576: true; the input reads as it did. -/
def fnExactMScanMutUptoRow : OpenClaim := { program := "ythonmbkjbgkfaaa", sum := "aa090bb125f5ef0e7a5ba40c08f631571339a5c20acaf96127e3967461e4556e", func := "pub-greenwood/laws.FnExactMScanMut", spec := "fnExactMScanMut", unfollowed := true, recurses := true, apart := false, narrowed := true }
def FnExactMScanMutUptoSaid : Prop := fnExactMScanMutUptoRow.holds Try.pinned (OpenSpec.upto fnExactMScanMutSpec)

/-- 'laws.FnExactMClear', WHERE WHAT IT READS IS OF BULK AT MOST 1048576: true; the input reads as it did. -/
def fnExactMClearUptoRow : OpenClaim := { program := "ythonmbkjbgkfaaa", sum := "aa090bb125f5ef0e7a5ba40c08f631571339a5c20acaf96127e3967461e4556e", func := "pub-greenwood/laws.FnExactMClear", spec := "fnExactMClear", unfollowed := true, recurses := true, apart := false, narrowed := true }
def FnExactMClearUptoSaid : Prop := fnExactMClearUptoRow.holds Try.pinned (OpenSpec.upto fnExactMClearSpec)

/-- 'laws.FnExactMAscendMut', WHERE WHAT IT READS IS OF BULK AT MOST 1048576: true; the input reads as it did. -/
def fnExactMAscendMutUptoRow : OpenClaim := { program := "ythonmbkjbgkfaaa", sum := "aa090bb125f5ef0e7a5ba40c08f631571339a5c20acaf96127e3967461e4556e", func := "pub-greenwood/laws.FnExactMAscendMut", spec := "fnExactMAscendMut", unfollowed := true, recurses := true, apart := false, narrowed := true }
def FnExactMAscendMutUptoSaid : Prop := fnExactMAscendMutUptoRow.holds Try.pinned (OpenSpec.upto fnExactMAscendMutSpec)

/-- 'laws.FnExactMLoad', WHERE WHAT IT READS IS OF BULK AT MOST 1048576: true; the input reads as it did. -/
def fnExactMLoadUptoRow : OpenClaim := { program := "ythonmbkjbgkfaaa", sum := "aa090bb125f5ef0e7a5ba40c08f631571339a5c20acaf96127e3967461e4556e", func := "pub-greenwood/laws.FnExactMLoad", spec := "fnExactMLoad", unfollowed := true, recurses := true, apart := false, narrowed := true }
def FnExactMLoadUptoSaid : Prop := fnExactMLoadUptoRow.holds Try.pinned (OpenSpec.upto fnExactMLoadSpec)

end Rows
end Go.Proofs.Ythonmbkjbgkfaaa
