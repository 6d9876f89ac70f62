/-
  What the program's tables say of the types and functions that the walks meet, as closed facts. No condition.
-/
import Derived.Test.YtmbbhmkenmliiaaZA
import Derived.Test.YtmbbhmkenmliiaaProg
import Derived.KernelRfl
/-
  What the program's tables say of the types and functions that the walks meet, as closed facts. No condition.
-/
namespace Go.Proofs.Ytmbbhmkenmliiaa
open Go Go.Proofs
theorem mixed : Try.prog.follows .mixedOrders = true := by kernel_rfl
theorem sl_22 : slK Try.prog 22 = some 2 := by kernel_rfl
theorem pk_3 : ptK Try.prog 3 = false := by kernel_rfl
theorem fn_4 : isFn Try.prog 4 = true := by kernel_rfl
theorem fn_5 : isFn Try.prog 5 = true := by kernel_rfl
theorem fn_6 : isFn Try.prog 6 = true := by kernel_rfl
theorem ni_30 : noInt Try.prog 30 = true := by kernel_rfl
theorem fn_7 : isFn Try.prog 7 = true := by kernel_rfl
theorem sl_31 : slK Try.prog 31 = some 3 := by kernel_rfl
theorem ar_31 : arK Try.prog 31 = none := by kernel_rfl
theorem fo_34_1 : fOff Try.prog 34 1 = some 2 := by kernel_rfl
theorem ld_4 : ldK Try.prog 4 = some none := by kernel_rfl
theorem ar_22 : arK Try.prog 22 = none := by kernel_rfl
theorem ld_27 : ldK Try.prog 27 = some (some 2) := by kernel_rfl
theorem sz_27 : szK Try.prog 27 = some 2 := by kernel_rfl
theorem ld_34 : ldK Try.prog 34 = some (some 3) := by kernel_rfl
theorem pk_34 : ptK Try.prog 34 = false := by kernel_rfl
theorem fn_8 : isFn Try.prog 8 = true := by kernel_rfl
theorem fn_10 : isFn Try.prog 10 = true := by kernel_rfl
theorem fn_9 : isFn Try.prog 9 = true := by kernel_rfl
theorem sl_36 : slK Try.prog 36 = some 1 := by kernel_rfl
theorem fn_11 : isFn Try.prog 11 = true := by kernel_rfl
theorem fn_13 : isFn Try.prog 13 = true := by kernel_rfl
theorem fn_12 : isFn Try.prog 12 = true := by kernel_rfl
theorem ld_22 : ldK Try.prog 22 = some none := by kernel_rfl
theorem fn_14 : isFn Try.prog 14 = true := by kernel_rfl
theorem sz_49 : szK Try.prog 49 = some 8 := by kernel_rfl
theorem fn_15 : isFn Try.prog 15 = true := by kernel_rfl
theorem fn_16 : isFn Try.prog 16 = true := by kernel_rfl
theorem fn_17 : isFn Try.prog 17 = true := by kernel_rfl
theorem fo_27_0 : fOff Try.prog 27 0 = some 0 := by kernel_rfl
theorem ld_3 : ldK Try.prog 3 = some none := by kernel_rfl
theorem fo_27_1 : fOff Try.prog 27 1 = some 1 := by kernel_rfl
theorem fn_18 : isFn Try.prog 18 = true := by kernel_rfl
theorem fn_19 : isFn Try.prog 19 = true := by kernel_rfl
theorem fn_20 : isFn Try.prog 20 = true := by kernel_rfl
theorem sz_58 : szK Try.prog 58 = some 1 := by kernel_rfl
theorem fn_22 : isFn Try.prog 22 = true := by kernel_rfl
theorem sl_30 : slK Try.prog 30 = some 3 := by kernel_rfl
theorem ar_30 : arK Try.prog 30 = none := by kernel_rfl
theorem ld_29 : ldK Try.prog 29 = some (some 3) := by kernel_rfl
theorem sz_29 : szK Try.prog 29 = some 3 := by kernel_rfl
theorem fo_29_0 : fOff Try.prog 29 0 = some 0 := by kernel_rfl
theorem fn_23 : isFn Try.prog 23 = true := by kernel_rfl
theorem fn_24 : isFn Try.prog 24 = true := by kernel_rfl
theorem fn_25 : isFn Try.prog 25 = true := by kernel_rfl
theorem fo_29_1 : fOff Try.prog 29 1 = some 1 := by kernel_rfl
theorem fn_26 : isFn Try.prog 26 = true := by kernel_rfl
theorem fn_27 : isFn Try.prog 27 = true := by kernel_rfl
theorem fn_29 : isFn Try.prog 29 = true := by kernel_rfl
theorem fn_30 : isFn Try.prog 30 = true := by kernel_rfl
theorem fn_28 : isFn Try.prog 28 = true := by kernel_rfl
theorem ni_31 : noInt Try.prog 31 = true := by kernel_rfl
theorem fn_31 : isFn Try.prog 31 = true := by kernel_rfl
theorem fo_67_2 : fOff Try.prog 67 2 = some 2 := by kernel_rfl
theorem ld_65 : ldK Try.prog 65 = some none := by kernel_rfl
theorem pk_65 : ptK Try.prog 65 = true := by kernel_rfl
theorem fn_32 : isFn Try.prog 32 = true := by kernel_rfl
theorem fn_33 : isFn Try.prog 33 = true := by kernel_rfl
theorem sz_47 : szK Try.prog 47 = some 2 := by kernel_rfl
theorem fn_34 : isFn Try.prog 34 = true := by kernel_rfl
theorem sz_65 : szK Try.prog 65 = some 1 := by kernel_rfl
theorem ld_47 : ldK Try.prog 47 = some (some 2) := by kernel_rfl
theorem ni_71 : noInt Try.prog 71 = true := by kernel_rfl
theorem fo_74_2 : fOff Try.prog 74 2 = some 2 := by kernel_rfl
theorem sz_71 : szK Try.prog 71 = some 1 := by kernel_rfl
theorem fo_74_1 : fOff Try.prog 74 1 = some 1 := by kernel_rfl
theorem sz_3 : szK Try.prog 3 = some 1 := by kernel_rfl
theorem fo_67_3 : fOff Try.prog 67 3 = some 3 := by kernel_rfl
theorem fo_67_4 : fOff Try.prog 67 4 = some 4 := by kernel_rfl
theorem fo_47_0 : fOff Try.prog 47 0 = some 0 := by kernel_rfl
theorem fn_35 : isFn Try.prog 35 = true := by kernel_rfl
theorem fn_36 : isFn Try.prog 36 = true := by kernel_rfl
theorem fo_74_3 : fOff Try.prog 74 3 = some 3 := by kernel_rfl
theorem ld_72 : ldK Try.prog 72 = some none := by kernel_rfl
theorem fo_67_6 : fOff Try.prog 67 6 = some 7 := by kernel_rfl
theorem sz_80 : szK Try.prog 80 = some 1 := by kernel_rfl
theorem ni_80 : noInt Try.prog 80 = true := by kernel_rfl
theorem fn_37 : isFn Try.prog 37 = true := by kernel_rfl
theorem fo_47_1 : fOff Try.prog 47 1 = some 1 := by kernel_rfl
theorem fn_38 : isFn Try.prog 38 = true := by kernel_rfl
theorem ld_58 : ldK Try.prog 58 = some none := by kernel_rfl
theorem fo_49_0 : fOff Try.prog 49 0 = some 0 := by kernel_rfl
theorem sz_39 : szK Try.prog 39 = some 1 := by kernel_rfl
theorem fo_49_1 : fOff Try.prog 49 1 = some 1 := by kernel_rfl
theorem sz_4 : szK Try.prog 4 = some 1 := by kernel_rfl
theorem ld_49 : ldK Try.prog 49 = some (some 8) := by kernel_rfl
theorem ld_39 : ldK Try.prog 39 = some none := by kernel_rfl
theorem pk_39 : ptK Try.prog 39 = true := by kernel_rfl
theorem fo_49_2 : fOff Try.prog 49 2 = some 2 := by kernel_rfl
theorem fo_49_5 : fOff Try.prog 49 5 = some 5 := by kernel_rfl
theorem ld_45 : ldK Try.prog 45 = some none := by kernel_rfl
theorem sl_45 : slK Try.prog 45 = some 2 := by kernel_rfl
theorem sz_45 : szK Try.prog 45 = some 1 := by kernel_rfl
theorem fn_40 : isFn Try.prog 40 = true := by kernel_rfl
theorem ld_71 : ldK Try.prog 71 = some none := by kernel_rfl
theorem sl_71 : slK Try.prog 71 = some 2 := by kernel_rfl
theorem ni_45 : noInt Try.prog 45 = true := by kernel_rfl
theorem fn_41 : isFn Try.prog 41 = true := by kernel_rfl
theorem ar_45 : arK Try.prog 45 = none := by kernel_rfl
theorem fo_84_1 : fOff Try.prog 84 1 = some 1 := by kernel_rfl
theorem ld_80 : ldK Try.prog 80 = some none := by kernel_rfl
theorem sl_80 : slK Try.prog 80 = some 1 := by kernel_rfl
theorem ar_80 : arK Try.prog 80 = none := by kernel_rfl
theorem fo_84_0 : fOff Try.prog 84 0 = some 0 := by kernel_rfl
theorem ar_71 : arK Try.prog 71 = none := by kernel_rfl
theorem fo_49_6 : fOff Try.prog 49 6 = some 6 := by kernel_rfl
theorem fo_49_3 : fOff Try.prog 49 3 = some 3 := by kernel_rfl
theorem fo_49_4 : fOff Try.prog 49 4 = some 4 := by kernel_rfl
theorem fn_42 : isFn Try.prog 42 = true := by kernel_rfl
theorem fn_43 : isFn Try.prog 43 = true := by kernel_rfl
theorem sz_34 : szK Try.prog 34 = some 3 := by kernel_rfl
theorem ni_36 : noInt Try.prog 36 = true := by kernel_rfl
theorem fo_67_5 : fOff Try.prog 67 5 = some 6 := by kernel_rfl
theorem fn_44 : isFn Try.prog 44 = true := by kernel_rfl
theorem co_3 : coK Try.prog 3 = true := by kernel_rfl
theorem co_91 : coK Try.prog 91 = false := by kernel_rfl
theorem fo_67_7 : fOff Try.prog 67 7 = some 8 := by kernel_rfl
theorem co_94 : coK Try.prog 94 = false := by kernel_rfl
theorem fo_67_8 : fOff Try.prog 67 8 = some 9 := by kernel_rfl
theorem fo_67_0 : fOff Try.prog 67 0 = some 0 := by kernel_rfl
theorem ld_63 : ldK Try.prog 63 = some none := by kernel_rfl
theorem fo_74_0 : fOff Try.prog 74 0 = some 0 := by kernel_rfl
theorem sz_63 : szK Try.prog 63 = some 1 := by kernel_rfl
theorem sz_72 : szK Try.prog 72 = some 1 := by kernel_rfl
theorem fn_45 : isFn Try.prog 45 = true := by kernel_rfl
theorem ld_44 : ldK Try.prog 44 = some none := by kernel_rfl
theorem ni_22 : noInt Try.prog 22 = true := by kernel_rfl
theorem sz_22 : szK Try.prog 22 = some 1 := by kernel_rfl
theorem pk_63 : ptK Try.prog 63 = false := by kernel_rfl
theorem fn_46 : isFn Try.prog 46 = true := by kernel_rfl
theorem pk_72 : ptK Try.prog 72 = true := by kernel_rfl
theorem fn_64 : isFn Try.prog 64 = true := by kernel_rfl
theorem fo_67_1 : fOff Try.prog 67 1 = some 1 := by kernel_rfl
theorem ld_64 : ldK Try.prog 64 = some none := by kernel_rfl
theorem pk_64 : ptK Try.prog 64 = true := by kernel_rfl
theorem sz_64 : szK Try.prog 64 = some 1 := by kernel_rfl
theorem ld_67 : ldK Try.prog 67 = some (some 10) := by kernel_rfl
theorem sz_67 : szK Try.prog 67 = some 10 := by kernel_rfl
theorem fn_65 : isFn Try.prog 65 = true := by kernel_rfl
theorem ow_3 : (slK Try.prog 22 = some 2) ∧ (ptK Try.prog 3 = false) ∧ (isFn Try.prog 4 = true) ∧ (isFn Try.prog 5 = true) ∧ (isFn Try.prog 6 = true) ∧ (noInt Try.prog 30 = true) ∧ (isFn Try.prog 7 = true) ∧ (slK Try.prog 31 = some 3) ∧ (arK Try.prog 31 = none) ∧ (fOff Try.prog 34 1 = some 2) ∧ (ldK Try.prog 4 = some none) ∧ (arK Try.prog 22 = none) ∧ (ldK Try.prog 27 = some (some 2)) ∧ (szK Try.prog 27 = some 2) ∧ (ldK Try.prog 34 = some (some 3)) ∧ (ptK Try.prog 34 = false) := ⟨sl_22, pk_3, fn_4, fn_5, fn_6, ni_30, fn_7, sl_31, ar_31, fo_34_1, ld_4, ar_22, ld_27, sz_27, ld_34, pk_34⟩
theorem ow_4 : (ptK Try.prog 3 = false) ∧ (isFn Try.prog 8 = true) := ⟨pk_3, fn_8⟩
theorem ow_5 : (isFn Try.prog 10 = true) ∧ (slK Try.prog 22 = some 2) ∧ (isFn Try.prog 9 = true) ∧ (slK Try.prog 36 = some 1) ∧ (ptK Try.prog 3 = false) := ⟨fn_10, sl_22, fn_9, sl_36, pk_3⟩
theorem ow_6 : (isFn Try.prog 11 = true) ∧ (isFn Try.prog 13 = true) ∧ (isFn Try.prog 12 = true) ∧ (ldK Try.prog 22 = some none) := ⟨fn_11, fn_13, fn_12, ld_22⟩
theorem ow_7 : (isFn Try.prog 11 = true) ∧ (isFn Try.prog 14 = true) ∧ (szK Try.prog 49 = some 8) ∧ (isFn Try.prog 15 = true) := ⟨fn_11, fn_14, sz_49, fn_15⟩
theorem ow_8 : (ptK Try.prog 3 = false) := pk_3
theorem ow_9 : (isFn Try.prog 11 = true) ∧ (isFn Try.prog 16 = true) := ⟨fn_11, fn_16⟩
theorem ow_11 : (isFn Try.prog 17 = true) ∧ (slK Try.prog 22 = some 2) ∧ (ptK Try.prog 3 = false) ∧ (arK Try.prog 22 = none) ∧ (ldK Try.prog 27 = some (some 2)) ∧ (szK Try.prog 27 = some 2) ∧ (fOff Try.prog 27 0 = some 0) ∧ (ldK Try.prog 3 = some none) ∧ (fOff Try.prog 27 1 = some 1) ∧ (isFn Try.prog 18 = true) := ⟨fn_17, sl_22, pk_3, ar_22, ld_27, sz_27, fo_27_0, ld_3, fo_27_1, fn_18⟩
theorem ow_12 : (isFn Try.prog 19 = true) := fn_19
theorem ow_13 : (isFn Try.prog 20 = true) ∧ (szK Try.prog 58 = some 1) := ⟨fn_20, sz_58⟩
theorem ow_14 : (isFn Try.prog 22 = true) ∧ (szK Try.prog 49 = some 8) := ⟨fn_22, sz_49⟩
theorem ow_15 : (slK Try.prog 30 = some 3) ∧ (ptK Try.prog 3 = false) ∧ (arK Try.prog 30 = none) ∧ (ldK Try.prog 29 = some (some 3)) ∧ (szK Try.prog 29 = some 3) ∧ (fOff Try.prog 29 0 = some 0) ∧ (ldK Try.prog 3 = some none) ∧ (isFn Try.prog 23 = true) ∧ (isFn Try.prog 24 = true) ∧ (isFn Try.prog 25 = true) ∧ (fOff Try.prog 29 1 = some 1) ∧ (fOff Try.prog 27 0 = some 0) ∧ (isFn Try.prog 26 = true) ∧ (isFn Try.prog 27 = true) ∧ (isFn Try.prog 29 = true) ∧ (isFn Try.prog 30 = true) ∧ (isFn Try.prog 28 = true) ∧ (noInt Try.prog 31 = true) := ⟨sl_30, pk_3, ar_30, ld_29, sz_29, fo_29_0, ld_3, fn_23, fn_24, fn_25, fo_29_1, fo_27_0, fn_26, fn_27, fn_29, fn_30, fn_28, ni_31⟩
theorem ow_16 : (isFn Try.prog 31 = true) ∧ (fOff Try.prog 67 2 = some 2) ∧ (ldK Try.prog 65 = some none) ∧ (ptK Try.prog 65 = true) ∧ (isFn Try.prog 32 = true) := ⟨fn_31, fo_67_2, ld_65, pk_65, fn_32⟩
theorem ow_17 : (isFn Try.prog 33 = true) := fn_33
theorem ow_18 : (szK Try.prog 47 = some 2) ∧ (fOff Try.prog 67 2 = some 2) ∧ (ldK Try.prog 65 = some none) ∧ (ptK Try.prog 65 = true) ∧ (isFn Try.prog 33 = true) ∧ (isFn Try.prog 34 = true) ∧ (szK Try.prog 65 = some 1) ∧ (ldK Try.prog 47 = some (some 2)) ∧ (noInt Try.prog 71 = true) ∧ (fOff Try.prog 74 2 = some 2) ∧ (szK Try.prog 71 = some 1) ∧ (fOff Try.prog 74 1 = some 1) ∧ (szK Try.prog 3 = some 1) ∧ (fOff Try.prog 67 3 = some 3) ∧ (fOff Try.prog 67 4 = some 4) ∧ (fOff Try.prog 47 0 = some 0) ∧ (ldK Try.prog 3 = some none) ∧ (isFn Try.prog 35 = true) ∧ (isFn Try.prog 36 = true) ∧ (fOff Try.prog 74 3 = some 3) ∧ (ldK Try.prog 72 = some none) ∧ (fOff Try.prog 67 6 = some 7) ∧ (ptK Try.prog 3 = false) ∧ (szK Try.prog 80 = some 1) ∧ (noInt Try.prog 80 = true) ∧ (isFn Try.prog 37 = true) ∧ (fOff Try.prog 47 1 = some 1) ∧ (isFn Try.prog 18 = true) := ⟨sz_47, fo_67_2, ld_65, pk_65, fn_33, fn_34, sz_65, ld_47, ni_71, fo_74_2, sz_71, fo_74_1, sz_3, fo_67_3, fo_67_4, fo_47_0, ld_3, fn_35, fn_36, fo_74_3, ld_72, fo_67_6, pk_3, sz_80, ni_80, fn_37, fo_47_1, fn_18⟩
theorem ow_19 : (fOff Try.prog 67 2 = some 2) ∧ (ldK Try.prog 65 = some none) ∧ (ptK Try.prog 65 = true) ∧ (isFn Try.prog 38 = true) := ⟨fo_67_2, ld_65, pk_65, fn_38⟩
theorem ow_21 : (ldK Try.prog 58 = some none) := ld_58
theorem ow_22 : (fOff Try.prog 49 0 = some 0) ∧ (szK Try.prog 39 = some 1) ∧ (fOff Try.prog 49 1 = some 1) ∧ (szK Try.prog 4 = some 1) ∧ (ldK Try.prog 49 = some (some 8)) ∧ (szK Try.prog 49 = some 8) := ⟨fo_49_0, sz_39, fo_49_1, sz_4, ld_49, sz_49⟩
theorem ow_23 : (fOff Try.prog 49 0 = some 0) ∧ (ldK Try.prog 39 = some none) ∧ (ptK Try.prog 39 = true) ∧ (fOff Try.prog 49 2 = some 2) ∧ (szK Try.prog 4 = some 1) ∧ (fOff Try.prog 49 5 = some 5) ∧ (ldK Try.prog 45 = some none) ∧ (slK Try.prog 45 = some 2) ∧ (szK Try.prog 45 = some 1) ∧ (fOff Try.prog 67 2 = some 2) ∧ (ldK Try.prog 65 = some none) ∧ (ptK Try.prog 65 = true) ∧ (fOff Try.prog 49 1 = some 1) ∧ (ldK Try.prog 4 = some none) ∧ (isFn Try.prog 40 = true) ∧ (fOff Try.prog 74 2 = some 2) ∧ (ldK Try.prog 71 = some none) ∧ (slK Try.prog 71 = some 2) ∧ (noInt Try.prog 45 = true) ∧ (isFn Try.prog 41 = true) ∧ (ptK Try.prog 3 = false) ∧ (arK Try.prog 45 = none) ∧ (fOff Try.prog 84 1 = some 1) ∧ (ldK Try.prog 3 = some none) ∧ (szK Try.prog 3 = some 1) ∧ (fOff Try.prog 74 3 = some 3) ∧ (ldK Try.prog 72 = some none) ∧ (ldK Try.prog 80 = some none) ∧ (slK Try.prog 80 = some 1) ∧ (arK Try.prog 80 = none) ∧ (fOff Try.prog 84 0 = some 0) ∧ (arK Try.prog 71 = none) ∧ (ldK Try.prog 47 = some (some 2)) ∧ (fOff Try.prog 49 6 = some 6) ∧ (szK Try.prog 47 = some 2) := ⟨fo_49_0, ld_39, pk_39, fo_49_2, sz_4, fo_49_5, ld_45, sl_45, sz_45, fo_67_2, ld_65, pk_65, fo_49_1, ld_4, fn_40, fo_74_2, ld_71, sl_71, ni_45, fn_41, pk_3, ar_45, fo_84_1, ld_3, sz_3, fo_74_3, ld_72, ld_80, sl_80, ar_80, fo_84_0, ar_71, ld_47, fo_49_6, sz_47⟩
theorem ow_24 : (fOff Try.prog 49 0 = some 0) ∧ (ldK Try.prog 39 = some none) ∧ (ptK Try.prog 39 = true) ∧ (fOff Try.prog 49 2 = some 2) ∧ (ldK Try.prog 4 = some none) ∧ (isFn Try.prog 27 = true) ∧ (fOff Try.prog 49 5 = some 5) ∧ (ldK Try.prog 45 = some none) ∧ (slK Try.prog 45 = some 2) ∧ (ptK Try.prog 3 = false) ∧ (fOff Try.prog 49 3 = some 3) ∧ (isFn Try.prog 24 = true) ∧ (arK Try.prog 45 = none) ∧ (fOff Try.prog 84 1 = some 1) ∧ (ldK Try.prog 3 = some none) ∧ (szK Try.prog 3 = some 1) ∧ (fOff Try.prog 84 0 = some 0) ∧ (ldK Try.prog 65 = some none) ∧ (isFn Try.prog 41 = true) ∧ (fOff Try.prog 74 2 = some 2) ∧ (ldK Try.prog 71 = some none) ∧ (slK Try.prog 71 = some 2) ∧ (szK Try.prog 45 = some 1) ∧ (fOff Try.prog 49 4 = some 4) ∧ (szK Try.prog 4 = some 1) ∧ (fOff Try.prog 74 3 = some 3) ∧ (ldK Try.prog 72 = some none) ∧ (ldK Try.prog 80 = some none) ∧ (slK Try.prog 80 = some 1) ∧ (arK Try.prog 80 = none) ∧ (fOff Try.prog 49 1 = some 1) ∧ (isFn Try.prog 40 = true) ∧ (noInt Try.prog 45 = true) ∧ (arK Try.prog 71 = none) ∧ (ldK Try.prog 47 = some (some 2)) ∧ (fOff Try.prog 49 6 = some 6) ∧ (szK Try.prog 47 = some 2) := ⟨fo_49_0, ld_39, pk_39, fo_49_2, ld_4, fn_27, fo_49_5, ld_45, sl_45, pk_3, fo_49_3, fn_24, ar_45, fo_84_1, ld_3, sz_3, fo_84_0, ld_65, fn_41, fo_74_2, ld_71, sl_71, sz_45, fo_49_4, sz_4, fo_74_3, ld_72, ld_80, sl_80, ar_80, fo_49_1, fn_40, ni_45, ar_71, ld_47, fo_49_6, sz_47⟩
theorem ow_25 : (fOff Try.prog 49 0 = some 0) ∧ (ldK Try.prog 39 = some none) ∧ (ptK Try.prog 39 = true) ∧ (fOff Try.prog 49 2 = some 2) ∧ (ldK Try.prog 4 = some none) ∧ (fOff Try.prog 49 5 = some 5) ∧ (ldK Try.prog 45 = some none) ∧ (slK Try.prog 45 = some 2) ∧ (ptK Try.prog 3 = false) ∧ (fOff Try.prog 49 4 = some 4) ∧ (isFn Try.prog 23 = true) ∧ (isFn Try.prog 25 = true) ∧ (arK Try.prog 45 = none) ∧ (fOff Try.prog 84 0 = some 0) ∧ (ldK Try.prog 65 = some none) ∧ (isFn Try.prog 41 = true) ∧ (fOff Try.prog 84 1 = some 1) ∧ (ldK Try.prog 3 = some none) ∧ (szK Try.prog 3 = some 1) ∧ (szK Try.prog 45 = some 1) ∧ (fOff Try.prog 49 3 = some 3) ∧ (szK Try.prog 4 = some 1) ∧ (fOff Try.prog 74 3 = some 3) ∧ (ldK Try.prog 72 = some none) ∧ (ldK Try.prog 80 = some none) ∧ (slK Try.prog 80 = some 1) ∧ (arK Try.prog 80 = none) ∧ (fOff Try.prog 49 1 = some 1) ∧ (isFn Try.prog 40 = true) ∧ (fOff Try.prog 74 2 = some 2) ∧ (ldK Try.prog 71 = some none) ∧ (slK Try.prog 71 = some 2) ∧ (noInt Try.prog 45 = true) ∧ (arK Try.prog 71 = none) ∧ (ldK Try.prog 47 = some (some 2)) ∧ (fOff Try.prog 49 6 = some 6) ∧ (szK Try.prog 47 = some 2) := ⟨fo_49_0, ld_39, pk_39, fo_49_2, ld_4, fo_49_5, ld_45, sl_45, pk_3, fo_49_4, fn_23, fn_25, ar_45, fo_84_0, ld_65, fn_41, fo_84_1, ld_3, sz_3, sz_45, fo_49_3, sz_4, fo_74_3, ld_72, ld_80, sl_80, ar_80, fo_49_1, fn_40, fo_74_2, ld_71, sl_71, ni_45, ar_71, ld_47, fo_49_6, sz_47⟩
theorem ow_26 : (fOff Try.prog 49 0 = some 0) ∧ (ldK Try.prog 39 = some none) ∧ (ptK Try.prog 39 = true) ∧ (fOff Try.prog 49 2 = some 2) ∧ (szK Try.prog 4 = some 1) ∧ (fOff Try.prog 49 5 = some 5) ∧ (ldK Try.prog 45 = some none) ∧ (slK Try.prog 45 = some 2) ∧ (szK Try.prog 45 = some 1) ∧ (fOff Try.prog 67 2 = some 2) ∧ (ldK Try.prog 65 = some none) ∧ (ptK Try.prog 65 = true) ∧ (fOff Try.prog 49 1 = some 1) ∧ (ldK Try.prog 4 = some none) ∧ (isFn Try.prog 40 = true) ∧ (isFn Try.prog 42 = true) ∧ (noInt Try.prog 45 = true) ∧ (fOff Try.prog 74 2 = some 2) ∧ (ldK Try.prog 71 = some none) ∧ (slK Try.prog 71 = some 2) ∧ (arK Try.prog 71 = none) ∧ (ldK Try.prog 47 = some (some 2)) ∧ (fOff Try.prog 49 6 = some 6) ∧ (szK Try.prog 47 = some 2) ∧ (isFn Try.prog 41 = true) ∧ (ptK Try.prog 3 = false) ∧ (arK Try.prog 45 = none) ∧ (fOff Try.prog 84 1 = some 1) ∧ (ldK Try.prog 3 = some none) ∧ (szK Try.prog 3 = some 1) ∧ (isFn Try.prog 24 = true) ∧ (fOff Try.prog 74 3 = some 3) ∧ (ldK Try.prog 72 = some none) ∧ (ldK Try.prog 80 = some none) ∧ (slK Try.prog 80 = some 1) ∧ (arK Try.prog 80 = none) := ⟨fo_49_0, ld_39, pk_39, fo_49_2, sz_4, fo_49_5, ld_45, sl_45, sz_45, fo_67_2, ld_65, pk_65, fo_49_1, ld_4, fn_40, fn_42, ni_45, fo_74_2, ld_71, sl_71, ar_71, ld_47, fo_49_6, sz_47, fn_41, pk_3, ar_45, fo_84_1, ld_3, sz_3, fn_24, fo_74_3, ld_72, ld_80, sl_80, ar_80⟩
theorem ow_27 : (fOff Try.prog 49 0 = some 0) ∧ (ldK Try.prog 39 = some none) ∧ (ptK Try.prog 39 = true) ∧ (fOff Try.prog 49 4 = some 4) ∧ (szK Try.prog 4 = some 1) ∧ (fOff Try.prog 49 3 = some 3) ∧ (fOff Try.prog 49 2 = some 2) ∧ (fOff Try.prog 49 5 = some 5) ∧ (ldK Try.prog 45 = some none) ∧ (slK Try.prog 45 = some 2) ∧ (szK Try.prog 45 = some 1) ∧ (fOff Try.prog 67 2 = some 2) ∧ (ldK Try.prog 65 = some none) ∧ (ptK Try.prog 65 = true) ∧ (fOff Try.prog 49 1 = some 1) ∧ (ldK Try.prog 4 = some none) ∧ (isFn Try.prog 40 = true) ∧ (noInt Try.prog 45 = true) ∧ (isFn Try.prog 41 = true) ∧ (fOff Try.prog 74 3 = some 3) ∧ (ldK Try.prog 72 = some none) ∧ (ldK Try.prog 80 = some none) ∧ (slK Try.prog 80 = some 1) ∧ (arK Try.prog 80 = none) ∧ (ptK Try.prog 3 = false) ∧ (arK Try.prog 45 = none) ∧ (fOff Try.prog 84 0 = some 0) ∧ (fOff Try.prog 74 2 = some 2) ∧ (ldK Try.prog 71 = some none) ∧ (fOff Try.prog 84 1 = some 1) ∧ (ldK Try.prog 3 = some none) ∧ (slK Try.prog 71 = some 2) ∧ (arK Try.prog 71 = none) ∧ (ldK Try.prog 47 = some (some 2)) ∧ (fOff Try.prog 49 6 = some 6) ∧ (szK Try.prog 47 = some 2) := ⟨fo_49_0, ld_39, pk_39, fo_49_4, sz_4, fo_49_3, fo_49_2, fo_49_5, ld_45, sl_45, sz_45, fo_67_2, ld_65, pk_65, fo_49_1, ld_4, fn_40, ni_45, fn_41, fo_74_3, ld_72, ld_80, sl_80, ar_80, pk_3, ar_45, fo_84_0, fo_74_2, ld_71, fo_84_1, ld_3, sl_71, ar_71, ld_47, fo_49_6, sz_47⟩
theorem ow_28 : (isFn Try.prog 43 = true) ∧ (szK Try.prog 34 = some 3) := ⟨fn_43, sz_34⟩
theorem ow_29 : (fOff Try.prog 49 6 = some 6) ∧ (fOff Try.prog 47 1 = some 1) ∧ (ldK Try.prog 3 = some none) := ⟨fo_49_6, fo_47_1, ld_3⟩
theorem ow_30 : (fOff Try.prog 49 6 = some 6) ∧ (fOff Try.prog 47 0 = some 0) ∧ (ldK Try.prog 3 = some none) := ⟨fo_49_6, fo_47_0, ld_3⟩
theorem ow_31 : (fOff Try.prog 67 3 = some 3) ∧ (ldK Try.prog 3 = some none) := ⟨fo_67_3, ld_3⟩
theorem ow_32 : (isFn Try.prog 41 = true) ∧ (fOff Try.prog 74 2 = some 2) ∧ (ldK Try.prog 71 = some none) ∧ (slK Try.prog 71 = some 2) ∧ (ptK Try.prog 3 = false) ∧ (arK Try.prog 71 = none) ∧ (fOff Try.prog 47 1 = some 1) ∧ (ldK Try.prog 3 = some none) ∧ (noInt Try.prog 36 = true) ∧ (fOff Try.prog 74 3 = some 3) ∧ (ldK Try.prog 72 = some none) ∧ (ldK Try.prog 80 = some none) ∧ (slK Try.prog 80 = some 1) ∧ (arK Try.prog 80 = none) ∧ (ldK Try.prog 65 = some none) ∧ (isFn Try.prog 32 = true) := ⟨fn_41, fo_74_2, ld_71, sl_71, pk_3, ar_71, fo_47_1, ld_3, ni_36, fo_74_3, ld_72, ld_80, sl_80, ar_80, ld_65, fn_32⟩
theorem ow_33 : (fOff Try.prog 67 5 = some 6) ∧ (ldK Try.prog 3 = some none) ∧ (ptK Try.prog 3 = false) ∧ (isFn Try.prog 44 = true) ∧ (szK Try.prog 3 = some 1) ∧ (fOff Try.prog 67 6 = some 7) ∧ (fOff Try.prog 67 4 = some 4) ∧ (fOff Try.prog 47 0 = some 0) ∧ (coK Try.prog 3 = true) ∧ (coK Try.prog 91 = false) ∧ (fOff Try.prog 67 7 = some 8) ∧ (szK Try.prog 4 = some 1) ∧ (ldK Try.prog 4 = some none) ∧ (coK Try.prog 94 = false) ∧ (fOff Try.prog 67 8 = some 9) := ⟨fo_67_5, ld_3, pk_3, fn_44, sz_3, fo_67_6, fo_67_4, fo_47_0, co_3, co_91, fo_67_7, sz_4, ld_4, co_94, fo_67_8⟩
theorem ow_34 : (fOff Try.prog 67 0 = some 0) ∧ (ldK Try.prog 63 = some none) ∧ (fOff Try.prog 74 0 = some 0) ∧ (szK Try.prog 63 = some 1) ∧ (fOff Try.prog 74 3 = some 3) ∧ (szK Try.prog 72 = some 1) := ⟨fo_67_0, ld_63, fo_74_0, sz_63, fo_74_3, sz_72⟩
theorem ow_35 : (isFn Try.prog 40 = true) ∧ (szK Try.prog 65 = some 1) ∧ (ldK Try.prog 65 = some none) ∧ (fOff Try.prog 47 1 = some 1) ∧ (ldK Try.prog 3 = some none) ∧ (isFn Try.prog 42 = true) ∧ (fOff Try.prog 74 2 = some 2) ∧ (ldK Try.prog 71 = some none) ∧ (slK Try.prog 71 = some 2) ∧ (arK Try.prog 71 = none) ∧ (fOff Try.prog 47 0 = some 0) ∧ (ldK Try.prog 47 = some (some 2)) ∧ (szK Try.prog 47 = some 2) ∧ (isFn Try.prog 41 = true) ∧ (fOff Try.prog 67 6 = some 7) ∧ (ptK Try.prog 3 = false) ∧ (fOff Try.prog 67 4 = some 4) ∧ (noInt Try.prog 71 = true) ∧ (szK Try.prog 71 = some 1) ∧ (fOff Try.prog 74 1 = some 1) ∧ (szK Try.prog 3 = some 1) ∧ (fOff Try.prog 74 3 = some 3) ∧ (ldK Try.prog 72 = some none) ∧ (ldK Try.prog 80 = some none) ∧ (slK Try.prog 80 = some 1) ∧ (arK Try.prog 80 = none) ∧ (isFn Try.prog 35 = true) ∧ (isFn Try.prog 36 = true) ∧ (noInt Try.prog 80 = true) ∧ (szK Try.prog 80 = some 1) := ⟨fn_40, sz_65, ld_65, fo_47_1, ld_3, fn_42, fo_74_2, ld_71, sl_71, ar_71, fo_47_0, ld_47, sz_47, fn_41, fo_67_6, pk_3, fo_67_4, ni_71, sz_71, fo_74_1, sz_3, fo_74_3, ld_72, ld_80, sl_80, ar_80, fn_35, fn_36, ni_80, sz_80⟩
theorem ow_36 : (fOff Try.prog 67 6 = some 7) ∧ (ldK Try.prog 3 = some none) ∧ (ptK Try.prog 3 = false) ∧ (fOff Try.prog 74 2 = some 2) ∧ (ldK Try.prog 71 = some none) ∧ (slK Try.prog 71 = some 2) ∧ (arK Try.prog 71 = none) ∧ (ldK Try.prog 47 = some (some 2)) ∧ (szK Try.prog 47 = some 2) ∧ (isFn Try.prog 41 = true) ∧ (isFn Try.prog 34 = true) ∧ (szK Try.prog 71 = some 1) ∧ (fOff Try.prog 74 3 = some 3) ∧ (ldK Try.prog 72 = some none) ∧ (ldK Try.prog 80 = some none) ∧ (slK Try.prog 80 = some 1) ∧ (szK Try.prog 80 = some 1) ∧ (isFn Try.prog 37 = true) ∧ (fOff Try.prog 67 4 = some 4) := ⟨fo_67_6, ld_3, pk_3, fo_74_2, ld_71, sl_71, ar_71, ld_47, sz_47, fn_41, fn_34, sz_71, fo_74_3, ld_72, ld_80, sl_80, sz_80, fn_37, fo_67_4⟩
theorem ow_37 : (fOff Try.prog 74 2 = some 2) ∧ (ldK Try.prog 71 = some none) ∧ (slK Try.prog 71 = some 2) ∧ (fOff Try.prog 74 1 = some 1) ∧ (szK Try.prog 3 = some 1) ∧ (isFn Try.prog 41 = true) ∧ (fOff Try.prog 74 3 = some 3) ∧ (ldK Try.prog 72 = some none) ∧ (ldK Try.prog 80 = some none) ∧ (slK Try.prog 80 = some 1) ∧ (ptK Try.prog 3 = false) ∧ (ldK Try.prog 3 = some none) ∧ (arK Try.prog 80 = none) ∧ (ldK Try.prog 65 = some none) := ⟨fo_74_2, ld_71, sl_71, fo_74_1, sz_3, fn_41, fo_74_3, ld_72, ld_80, sl_80, pk_3, ld_3, ar_80, ld_65⟩
theorem ow_38 : (isFn Try.prog 40 = true) ∧ (isFn Try.prog 42 = true) ∧ (isFn Try.prog 41 = true) ∧ (fOff Try.prog 74 3 = some 3) ∧ (ldK Try.prog 72 = some none) ∧ (ldK Try.prog 80 = some none) ∧ (slK Try.prog 80 = some 1) ∧ (arK Try.prog 80 = none) ∧ (isFn Try.prog 38 = true) ∧ (fOff Try.prog 74 2 = some 2) ∧ (ldK Try.prog 71 = some none) ∧ (slK Try.prog 71 = some 2) ∧ (ptK Try.prog 3 = false) ∧ (arK Try.prog 71 = none) ∧ (fOff Try.prog 47 1 = some 1) ∧ (ldK Try.prog 3 = some none) ∧ (fOff Try.prog 47 0 = some 0) ∧ (isFn Try.prog 45 = true) := ⟨fn_40, fn_42, fn_41, fo_74_3, ld_72, ld_80, sl_80, ar_80, fn_38, fo_74_2, ld_71, sl_71, pk_3, ar_71, fo_47_1, ld_3, fo_47_0, fn_45⟩
theorem ow_39 : (ldK Try.prog 44 = some none) ∧ (ldK Try.prog 22 = some none) ∧ (ldK Try.prog 27 = some (some 2)) ∧ (noInt Try.prog 22 = true) ∧ (szK Try.prog 22 = some 1) ∧ (ldK Try.prog 3 = some none) ∧ (ptK Try.prog 3 = false) ∧ (slK Try.prog 22 = some 2) := ⟨ld_44, ld_22, ld_27, ni_22, sz_22, ld_3, pk_3, sl_22⟩
theorem ow_40 : (ldK Try.prog 65 = some none) ∧ (fOff Try.prog 74 0 = some 0) ∧ (ldK Try.prog 63 = some none) ∧ (fOff Try.prog 67 0 = some 0) ∧ (ptK Try.prog 63 = false) ∧ (isFn Try.prog 46 = true) ∧ (szK Try.prog 65 = some 1) := ⟨ld_65, fo_74_0, ld_63, fo_67_0, pk_63, fn_46, sz_65⟩
theorem ow_41 : (fOff Try.prog 74 3 = some 3) ∧ (ldK Try.prog 72 = some none) ∧ (ptK Try.prog 72 = true) := ⟨fo_74_3, ld_72, pk_72⟩
theorem ow_42 : (fOff Try.prog 74 2 = some 2) ∧ (ldK Try.prog 71 = some none) ∧ (slK Try.prog 71 = some 2) ∧ (ptK Try.prog 3 = false) ∧ (arK Try.prog 71 = none) ∧ (fOff Try.prog 47 1 = some 1) ∧ (ldK Try.prog 3 = some none) := ⟨fo_74_2, ld_71, sl_71, pk_3, ar_71, fo_47_1, ld_3⟩
theorem ow_43 : (szK Try.prog 34 = some 3) ∧ (ldK Try.prog 27 = some (some 2)) := ⟨sz_34, ld_27⟩
theorem ow_44 : (ptK Try.prog 3 = false) := pk_3
theorem ow_45 : (isFn Try.prog 40 = true) ∧ (isFn Try.prog 41 = true) ∧ (fOff Try.prog 74 2 = some 2) ∧ (ldK Try.prog 71 = some none) ∧ (slK Try.prog 71 = some 2) ∧ (ptK Try.prog 3 = false) ∧ (arK Try.prog 71 = none) ∧ (fOff Try.prog 47 1 = some 1) ∧ (ldK Try.prog 3 = some none) ∧ (fOff Try.prog 47 0 = some 0) ∧ (fOff Try.prog 74 3 = some 3) ∧ (ldK Try.prog 72 = some none) ∧ (ldK Try.prog 80 = some none) ∧ (slK Try.prog 80 = some 1) ∧ (arK Try.prog 80 = none) ∧ (isFn Try.prog 45 = true) := ⟨fn_40, fn_41, fo_74_2, ld_71, sl_71, pk_3, ar_71, fo_47_1, ld_3, fo_47_0, fo_74_3, ld_72, ld_80, sl_80, ar_80, fn_45⟩
theorem ow_46 : (fOff Try.prog 67 0 = some 0) ∧ (ldK Try.prog 63 = some none) ∧ (fOff Try.prog 74 0 = some 0) ∧ (szK Try.prog 63 = some 1) ∧ (fOff Try.prog 74 1 = some 1) ∧ (ldK Try.prog 3 = some none) ∧ (szK Try.prog 3 = some 1) ∧ (fOff Try.prog 74 2 = some 2) ∧ (ldK Try.prog 71 = some none) ∧ (slK Try.prog 71 = some 2) ∧ (szK Try.prog 71 = some 1) ∧ (fOff Try.prog 67 7 = some 8) ∧ (ldK Try.prog 4 = some none) ∧ (ptK Try.prog 3 = false) ∧ (arK Try.prog 71 = none) ∧ (fOff Try.prog 47 0 = some 0) ∧ (coK Try.prog 3 = true) ∧ (coK Try.prog 91 = false) ∧ (fOff Try.prog 67 8 = some 9) ∧ (coK Try.prog 94 = false) ∧ (isFn Try.prog 41 = true) ∧ (fOff Try.prog 74 3 = some 3) ∧ (szK Try.prog 72 = some 1) ∧ (ldK Try.prog 72 = some none) ∧ (ldK Try.prog 80 = some none) ∧ (slK Try.prog 80 = some 1) ∧ (fOff Try.prog 67 6 = some 7) ∧ (szK Try.prog 80 = some 1) := ⟨fo_67_0, ld_63, fo_74_0, sz_63, fo_74_1, ld_3, sz_3, fo_74_2, ld_71, sl_71, sz_71, fo_67_7, ld_4, pk_3, ar_71, fo_47_0, co_3, co_91, fo_67_8, co_94, fn_41, fo_74_3, sz_72, ld_72, ld_80, sl_80, fo_67_6, sz_80⟩
theorem ow_63 : (isFn Try.prog 64 = true) := fn_64
theorem ow_64 : (fOff Try.prog 67 1 = some 1) ∧ (ldK Try.prog 64 = some none) ∧ (ptK Try.prog 64 = true) ∧ (szK Try.prog 64 = some 1) ∧ (ldK Try.prog 67 = some (some 10)) ∧ (szK Try.prog 67 = some 10) ∧ (isFn Try.prog 65 = true) ∧ (fOff Try.prog 67 0 = some 0) ∧ (szK Try.prog 63 = some 1) := ⟨fo_67_1, ld_64, pk_64, sz_64, ld_67, sz_67, fn_65, fo_67_0, sz_63⟩
theorem ow_65 : (ldK Try.prog 63 = some none) ∧ (ptK Try.prog 63 = false) ∧ (szK Try.prog 63 = some 1) := ⟨ld_63, pk_63, sz_63⟩
end Go.Proofs.Ytmbbhmkenmliiaa
