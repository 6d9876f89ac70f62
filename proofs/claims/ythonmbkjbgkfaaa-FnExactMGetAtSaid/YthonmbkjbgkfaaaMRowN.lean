/-
  How an argument that is a list of numbers is read. No condition.
-/
import Derived.Test.YthonmbkjbgkfaaaMRow
import Derived.Test.YthonmbkjbgkfaaaMEq
set_option linter.unusedSimpArgs false
set_option linter.unusedVariables false
namespace Go.Proofs.Ythonmbkjbgkfaaa
open Go Go.Proofs Go.ChangeShapes Go.WideShapes Go.ChangeAt Go.RowKit
set_option maxRecDepth 100000
variable {H : Type} {enc : TypeId × Value → H}
theorem open_nums {w : World} {base : Nat} {v : Value} {d : DataW H} {ps : List MemPlace} (hok : Value.okWide Try.prog w .any base 26 v)
    (h : DataW.Trod enc Try.prog w 0 (fun _ => true) true 26 v d ps) (hz : ∀ b o, MemPlace.cell b o ∈ ps → w.frozen? ⟨b, o, none⟩ = false) : ∃ l : List Int, SlV w 1 v l.length (flat En l) := by
  have hce : Try.prog.cellsOf 3 = En.sz := by kernel_rfl
  have hel : ∀ n cs x, DataW.trod enc Try.prog w 0 (fun _ => true) true n 3 cs = some x → cs.length = En.sz → ∃ a : Int, cs = En.cel a := elem_int Try.underlying3
  exact open_arg (enc := enc) En Try.underlying26 hce hel hok h hz
end Go.Proofs.Ythonmbkjbgkfaaa
