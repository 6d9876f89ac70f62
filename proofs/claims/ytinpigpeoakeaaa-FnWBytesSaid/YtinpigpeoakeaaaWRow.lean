/-
  The laws' rows over words: closed facts of the program, and how the arguments are read. No condition.
-/
import Derived.Test.YtinpigpeoakeaaaTop
import Derived.Test.YtinpigpeoakeaaaWBase
import Derived.Test.YtinpigpeoakeaaaRows
import Derived.ChangeArms
set_option linter.unusedSimpArgs false
set_option linter.unusedVariables false
namespace Go.Proofs.Ytinpigpeoakeaaa
open Go Go.Proofs Go.ChangeShapes Go.WideShapes Go.ChangeAt Go.RowKit
theorem own : ownKnob Try.prog.godebug = none := by kernel_rfl
theorem laidOut : laidOutB Try.prog = true := by kernel_rfl
theorem word_td : ∃ f0 f1 : Field, Try.prog.underlying 31 = some (.struct #[f0, f1]) ∧ f0.offset = 0 ∧ f1.offset = 1 ∧ Try.prog.cellsOf f0.type = 1 ∧ Try.prog.cellsOf f1.type = 1 ∧
    Try.prog.underlying f0.type = some .string ∧ Try.prog.underlying f1.type = some (.int .i64) := ⟨_, _, Try.underlying31, by kernel_rfl, by kernel_rfl, by kernel_rfl, by kernel_rfl, by kernel_rfl, by kernel_rfl⟩
set_option maxRecDepth 100000
section
variable {H : Type} {enc : TypeId × Value → H}
theorem elem_strint {P : Program} {w : World} {e : TypeId} {f0 f1 : Field} (he : P.underlying e = some (.struct #[f0, f1])) (o0 : f0.offset = 0) (o1 : f1.offset = 1) (c0 : P.cellsOf f0.type = 1) (c1 : P.cellsOf f1.type = 1)
    (u0 : P.underlying f0.type = some .string) (u1 : P.underlying f1.type = some (.int .i64)) :
    ∀ n cs x, DataW.trod enc P w 0 (fun _ => true) true n e cs = some x → cs.length = 2 → ∃ a : ByteArray × Int, cs = [.string a.1, .int .i64 a.2] := by
  intro n cs x h hl
  obtain ⟨xs, k, _, _, _, hxl, hf⟩ := DataW.trod_struct he h
  match xs, hxl, cs, hl with
  | [y0, y1], _, [v0, v1], _ =>
    have g0 := hf 0 f0 rfl
    have g1 := hf 1 f1 rfl
    simp [o0, o1, c0, c1] at g0 g1
    obtain ⟨a, h1, _, _⟩ := DataW.trod_string u0 g0
    obtain ⟨b, h2, _, _⟩ := DataW.trod_int u1 g1
    simp only [List.cons.injEq, and_true] at h1 h2
    exact ⟨(a, b), by rw [h1, h2]⟩
theorem open_words {w : World} {base : Nat} {v : Value} {d : DataW H} {ps : List MemPlace} (hok : Value.okWide Try.prog w .any base 22 v)
    (h : DataW.Trod enc Try.prog w 0 (fun _ => true) true 22 v d ps) (hz : ∀ b o, MemPlace.cell b o ∈ ps → w.frozen? ⟨b, o, none⟩ = false) : ∃ l : List It, SlI w v l := by
  obtain ⟨f0, f1, he, o0, o1, c0, c1, u0, u1⟩ := word_td
  have hce : Try.prog.cellsOf 31 = Ei.sz := by kernel_rfl
  have hel : ∀ n cs x, DataW.trod enc Try.prog w 0 (fun _ => true) true n 31 cs = some x → cs.length = Ei.sz → ∃ a : It, cs = Ei.cel a := elem_strint he o0 o1 c0 c1 u0 u1
  exact open_arg (enc := enc) Ei Try.underlying22 hce hel hok h hz
theorem open_strs {w : World} {base : Nat} {v : Value} {d : DataW H} {ps : List MemPlace} (hok : Value.okWide Try.prog w .any base 28 v)
    (h : DataW.Trod enc Try.prog w 0 (fun _ => true) true 28 v d ps) (hz : ∀ b o, MemPlace.cell b o ∈ ps → w.frozen? ⟨b, o, none⟩ = false) : ∃ l : List ByteArray, SlV w 1 v l.length (flat Es l) := by
  have hce : Try.prog.cellsOf 9 = Es.sz := by kernel_rfl
  have hel : ∀ n cs x, DataW.trod enc Try.prog w 0 (fun _ => true) true n 9 cs = some x → cs.length = Es.sz → ∃ a : ByteArray, cs = Es.cel a := fun n cs x h _ => by
    obtain ⟨s, h1, _⟩ := DataW.trod_string Try.underlying9 h
    exact ⟨s, h1⟩
  exact open_arg (enc := enc) Es Try.underlying28 hce hel hok h hz
end
end Go.Proofs.Ytinpigpeoakeaaa
