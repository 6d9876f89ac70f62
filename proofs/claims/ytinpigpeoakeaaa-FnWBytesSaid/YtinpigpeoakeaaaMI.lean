/-
  The items of a map from string to int: a key and a value; the order of strings, byte by byte. No condition.
-/
import Derived.Test.YtinpigpeoakeaaaTree
import Derived.Test.YtinpigpeoakeaaaFacts
import Derived.WideShapes
set_option linter.unusedSimpArgs false
set_option linter.unusedVariables false
namespace Go.Proofs.Ytinpigpeoakeaaa
open Go Go.Proofs
theorem bl_irr : ∀ l : List UInt8, Op.bytesLess l l = false
  | [] => rfl
  | a :: l => by
    have h : ¬ a < a := UInt8.lt_irrefl a
    simp [Op.bytesLess, bl_irr l, h]
theorem bl_tr : ∀ a b c : List UInt8, Op.bytesLess a b = true → Op.bytesLess b c = true → Op.bytesLess a c = true
  | _, [], _, h, _ => by simp [Op.bytesLess] at h
  | _, _ :: _, [], _, h => by simp [Op.bytesLess] at h
  | [], _ :: _, _ :: _, _, _ => rfl
  | x :: a, y :: b, z :: c, h1, h2 => by
    simp only [Op.bytesLess, Bool.or_eq_true, decide_eq_true_eq, Bool.and_eq_true, beq_iff_eq] at h1 h2 ⊢
    rcases h1 with h1 | ⟨rfl, h1⟩
    · rcases h2 with h2 | ⟨rfl, h2⟩
      · exact .inl (UInt8.lt_trans h1 h2)
      · exact .inl h1
    · rcases h2 with h2 | ⟨rfl, h2⟩
      · exact .inl h2
      · exact .inr ⟨rfl, bl_tr a b c h1 h2⟩
theorem bl_tot : ∀ a b : List UInt8, Op.bytesLess a b = false → Op.bytesLess b a = false → a = b
  | [], [], _, _ => rfl
  | [], _ :: _, h, _ => by simp [Op.bytesLess] at h
  | _ :: _, [], _, h => by simp [Op.bytesLess] at h
  | x :: a, y :: b, h1, h2 => by
    simp only [Op.bytesLess, Bool.or_eq_false_iff, decide_eq_false_iff_not, Bool.and_eq_false_iff, beq_eq_false_iff_ne] at h1 h2
    have hxy : x = y := UInt8.le_antisymm (UInt8.not_lt.1 h2.1) (UInt8.not_lt.1 h1.1)
    subst hxy
    rw [bl_tot a b (h1.2.resolve_left fun h => h rfl) (h2.2.resolve_left fun h => h rfl)]
theorem toList_inj {a b : ByteArray} (h : a.toList = b.toList) : a = b := by
  rw [ByteArray.toList_eq, ByteArray.toList_eq] at h
  exact Go.WideShapes.bytes_inj h
def strOrd : SOrd ByteArray where
  lt a b := Op.bytesLess a.toList b.toList
  irr a := bl_irr _
  tr a b c := bl_tr _ _ _
  tot a b h1 h2 := toList_inj (bl_tot _ _ h1 h2)
abbrev It := ByteArray × Int
abbrev Rk := ByteArray
def E : Enc It where
  cel x := [.int .i64 x.2, .string x.1]
  sz := 2
  len _ := rfl
  one x v hv := by simp at hv; rcases hv with rfl | rfl <;> rfl
  pos := by decide
def κ (x : It) : Rk := x.1
abbrev O : SOrd Rk := strOrd
def zIt : It := (ByteArray.empty, 0)
def kV (q : Rk) : Value := .string q
def vV (x : It) : Value := .int .i64 x.2
def itV (x : It) : Value := .agg #[.int .i64 x.2, .string x.1]
theorem E_sz : E.sz = 2 := rfl
theorem kV_lt (T : Nat) (a b : Rk) : binV Try.prog .lss T (kV a) (kV b) = some (.bool (O.lt a b)) := by simp [binV, kV, strOrd]
theorem key_at {w : World} {b o : Nat} {xs : List It} (h : Row w b o (flat E xs)) {i : Nat} {x : It} (hi : xs[i]? = some x) : rd w b (o + i * 2 + 1) = some (kV (κ x)) :=
  row_cell (row_at E h hi) (j := 1) rfl
theorem val_at {w : World} {b o : Nat} {xs : List It} (h : Row w b o (flat E xs)) {i : Nat} {x : It} (hi : xs[i]? = some x) : rd w b (o + i * 2 + 0) = some (vV x) :=
  row_cell (row_at E h hi) (j := 0) rfl
theorem it_at {w : World} {b o : Nat} {xs : List It} (h : Row w b o (flat E xs)) {i : Nat} {x : It} (hi : xs[i]? = some x) : rdA w b (o + i * 2) 2 = some (itV x) :=
  (row_at E h hi).rdA 2 (by simp [E])
end Go.Proofs.Ytinpigpeoakeaaa
