/-
  The items of a tree: a key and a value; the rank of a key under an order. No condition.
-/
import Derived.Test.YtdffddiaoheklaaTree
import Derived.Test.YtdffddiaoheklaaFacts
set_option linter.unusedSimpArgs false
set_option linter.unusedVariables false
namespace Go.Proofs.Ytdffddiaoheklaa
open Go Go.Proofs
abbrev It := Int × Int
abbrev Rk := Int
def E : Enc It where
  cel x := [.int .i64 x.1, .int .i64 x.2]
  sz := 2
  len _ := rfl
  one x v hv := by simp at hv; rcases hv with rfl | rfl <;> rfl
  pos := by decide
/-- The rank of a key. -/
def rk (ord : List Int) (k : Int) : Int := if ord = [] then k else (ord[((k.tmod ord.length + ord.length).tmod ord.length).toNat]?).getD 0
def rkI (ord : List Int) (x : It) : Rk := rk ord x.1
abbrev O : SOrd Rk := intOrd
def zIt : It := (0, 0)
def itV (x : It) : Value := .agg #[.int .i64 x.1, .int .i64 x.2]
theorem E_sz : E.sz = 2 := rfl
theorem it_at {w : World} {b o : Nat} {xs : List It} (h : Row w b o (flat E xs)) {i : Nat} {x : It} (hi : xs[i]? = some x) : rdA w b (o + i * 2) 2 = some (itV x) :=
  (row_at E h hi).rdA 2 (by simp [E])
end Go.Proofs.Ytdffddiaoheklaa
