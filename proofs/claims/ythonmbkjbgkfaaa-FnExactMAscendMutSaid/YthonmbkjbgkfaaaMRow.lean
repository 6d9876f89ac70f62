/-
  The map laws' rows: closed facts of the program, and how the arguments are read. No condition.
-/
import Derived.Test.YthonmbkjbgkfaaaTop
import Derived.Test.YthonmbkjbgkfaaaMGrow2
import Derived.Test.YthonmbkjbgkfaaaRows
set_option linter.unusedSimpArgs false
set_option linter.unusedVariables false
namespace Go.Proofs.Ythonmbkjbgkfaaa
open Go Go.Proofs Go.ChangeShapes Go.WideShapes Go.ChangeAt Go.RowKit
theorem own : ownKnob Try.prog.godebug = none := by kernel_rfl
theorem laidOut : laidOutB Try.prog = true := by kernel_rfl
theorem item_td : ∃ f0 f1 : Field, Try.prog.underlying 36 = some (.struct #[f0, f1]) ∧ f0.offset = 0 ∧ f1.offset = 1 ∧ Try.prog.cellsOf f0.type = 1 ∧ Try.prog.cellsOf f1.type = 1 ∧
    Try.prog.underlying f0.type = some (.int .i64) ∧ Try.prog.underlying f1.type = some (.int .i64) := ⟨_, _, Try.underlying36, by kernel_rfl, by kernel_rfl, by kernel_rfl, by kernel_rfl, by kernel_rfl, by kernel_rfl⟩
set_option maxRecDepth 100000
section
variable {H : Type} {enc : TypeId × Value → H}
theorem open_items {w : World} {base : Nat} {v : Value} {d : DataW H} {ps : List MemPlace} (hok : Value.okWide Try.prog w .any base 22 v)
    (h : DataW.Trod enc Try.prog w 0 (fun _ => true) true 22 v d ps) (hz : ∀ b o, MemPlace.cell b o ∈ ps → w.frozen? ⟨b, o, none⟩ = false) : ∃ l : List It, SlI w v l := by
  obtain ⟨f0, f1, he, o0, o1, c0, c1, u0, u1⟩ := item_td
  have hce : Try.prog.cellsOf 36 = Ei.sz := by kernel_rfl
  have hel : ∀ n cs x, DataW.trod enc Try.prog w 0 (fun _ => true) true n 36 cs = some x → cs.length = Ei.sz → ∃ a : It, cs = Ei.cel a := elem_int2 he o0 o1 c0 c1 u0 u1
  exact open_arg (enc := enc) Ei Try.underlying22 hce hel hok h hz
end
end Go.Proofs.Ythonmbkjbgkfaaa
