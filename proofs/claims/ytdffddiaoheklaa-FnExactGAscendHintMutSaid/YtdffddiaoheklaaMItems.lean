/-
  Items as a program's cells. No condition.
-/
import Derived.Test.YtdffddiaoheklaaMI
set_option linter.unusedSimpArgs false
set_option linter.unusedVariables false
namespace Go.Proofs.Ytdffddiaoheklaa
open Go Go.Proofs
/-- A list's items as a program's cells: key, then value. -/
abbrev Ei : Enc It := E
theorem Ei_sz : Ei.sz = 2 := rfl
abbrev iV (x : It) : Value := itV x
theorem z_item : zK Try.prog 38 = some [.int .i64 0, .int .i64 0] := by kernel_rfl
theorem iV_at {w : World} {b o : Nat} {l : List It} (h : Row w b o (flat Ei l)) {i : Nat} {x : It} (hi : l[i]? = some x) : rdA w b (o + i * 2) 2 = some (iV x) :=
  (row_at Ei h hi).rdA 2 (by simp [Ei, E])
/-- A list of items as a slice. -/
def SlI (w : World) (v : Value) (l : List It) : Prop := SlV w 2 v l.length (flat Ei l)
theorem bu_item (a b : Int) : buildV Try.prog 38 [(0, .int .i64 a), (1, .int .i64 b)] = some (iV (a, b)) := by kernel_rfl
end Go.Proofs.Ytdffddiaoheklaa
