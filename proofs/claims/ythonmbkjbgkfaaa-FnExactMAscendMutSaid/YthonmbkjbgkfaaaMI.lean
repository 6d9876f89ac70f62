/-
  The items of a map from int to int: a key and a value. No condition.
-/
import Derived.Test.YthonmbkjbgkfaaaTree
import Derived.Test.YthonmbkjbgkfaaaFacts
set_option linter.unusedSimpArgs false
set_option linter.unusedVariables false
namespace Go.Proofs.Ythonmbkjbgkfaaa
open Go Go.Proofs
abbrev It := Int × Int
abbrev Rk := Int
def E : Enc It where
  cel x := [.int .i64 x.2, .int .i64 x.1]
  sz := 2
  len _ := rfl
  one x v hv := by simp at hv; rcases hv with rfl | rfl <;> rfl
  pos := by decide
def κ (x : It) : Rk := x.1
abbrev O : SOrd Rk := intOrd
def kV (q : Rk) : Value := .int .i64 q
def vV (x : It) : Value := .int .i64 x.2
def itV (x : It) : Value := .agg #[.int .i64 x.2, .int .i64 x.1]
theorem E_sz : E.sz = 2 := rfl
theorem kV_lt (T : Nat) (a b : Rk) : binV Try.prog .lss T (kV a) (kV b) = some (.bool (O.lt a b)) := by simp [binV, kV, intOrd]
theorem key_at {w : World} {b o : Nat} {xs : List It} (h : Row w b o (flat E xs)) {i : Nat} {x : It} (hi : xs[i]? = some x) : rd w b (o + i * 2 + 1) = some (kV (κ x)) :=
  row_cell (row_at E h hi) (j := 1) rfl
theorem val_at {w : World} {b o : Nat} {xs : List It} (h : Row w b o (flat E xs)) {i : Nat} {x : It} (hi : xs[i]? = some x) : rd w b (o + i * 2 + 0) = some (vV x) :=
  row_cell (row_at E h hi) (j := 0) rfl
theorem it_at {w : World} {b o : Nat} {xs : List It} (h : Row w b o (flat E xs)) {i : Nat} {x : It} (hi : xs[i]? = some x) : rdA w b (o + i * 2) 2 = some (itV x) :=
  (row_at E h hi).rdA 2 (by simp [E])
end Go.Proofs.Ythonmbkjbgkfaaa
