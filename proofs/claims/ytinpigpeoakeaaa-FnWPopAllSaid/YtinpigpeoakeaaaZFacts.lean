/-
  What the program's tables say of the types and functions that the walks meet, as closed facts. No condition.
-/
import Derived.Test.YtinpigpeoakeaaaZA
import Derived.Test.YtinpigpeoakeaaaProg
import Derived.KernelRfl
/-
  What the program's tables say of the types and functions that the walks meet, as closed facts. No condition.
-/
namespace Go.Proofs.Ytinpigpeoakeaaa
open Go Go.Proofs
theorem mixed : Try.prog.follows .mixedOrders = true := by kernel_rfl
theorem fn_8 : isFn Try.prog 8 = true := by kernel_rfl
theorem fn_10 : isFn Try.prog 10 = true := by kernel_rfl
theorem fn_9 : isFn Try.prog 9 = true := by kernel_rfl
theorem fn_11 : isFn Try.prog 11 = true := by kernel_rfl
theorem pk_3 : ptK Try.prog 3 = false := by kernel_rfl
theorem fn_12 : isFn Try.prog 12 = true := by kernel_rfl
theorem fn_13 : isFn Try.prog 13 = true := by kernel_rfl
theorem fn_14 : isFn Try.prog 14 = true := by kernel_rfl
theorem sl_28 : slK Try.prog 28 = some 1 := by kernel_rfl
theorem ar_28 : arK Try.prog 28 = none := by kernel_rfl
theorem ld_9 : ldK Try.prog 9 = some none := by kernel_rfl
theorem sl_9 : slK Try.prog 9 = none := by kernel_rfl
theorem pk_5 : ptK Try.prog 5 = false := by kernel_rfl
theorem sl_22 : slK Try.prog 22 = some 2 := by kernel_rfl
theorem ar_22 : arK Try.prog 22 = none := by kernel_rfl
theorem ld_31 : ldK Try.prog 31 = some (some 2) := by kernel_rfl
theorem sz_31 : szK Try.prog 31 = some 2 := by kernel_rfl
theorem fo_31_0 : fOff Try.prog 31 0 = some 0 := by kernel_rfl
theorem fn_15 : isFn Try.prog 15 = true := by kernel_rfl
theorem fn_16 : isFn Try.prog 16 = true := by kernel_rfl
theorem fn_17 : isFn Try.prog 17 = true := by kernel_rfl
theorem fn_18 : isFn Try.prog 18 = true := by kernel_rfl
theorem sl_36 : slK Try.prog 36 = some 1 := by kernel_rfl
theorem ar_36 : arK Try.prog 36 = none := by kernel_rfl
theorem sz_4 : szK Try.prog 4 = some 1 := by kernel_rfl
theorem fn_19 : isFn Try.prog 19 = true := by kernel_rfl
theorem ld_4 : ldK Try.prog 4 = some none := by kernel_rfl
theorem pk_9 : ptK Try.prog 9 = false := by kernel_rfl
theorem fn_20 : isFn Try.prog 20 = true := by kernel_rfl
theorem fn_21 : isFn Try.prog 21 = true := by kernel_rfl
theorem fn_22 : isFn Try.prog 22 = true := by kernel_rfl
theorem fn_23 : isFn Try.prog 23 = true := by kernel_rfl
theorem fn_24 : isFn Try.prog 24 = true := by kernel_rfl
theorem fn_25 : isFn Try.prog 25 = true := by kernel_rfl
theorem fn_26 : isFn Try.prog 26 = true := by kernel_rfl
theorem fn_27 : isFn Try.prog 27 = true := by kernel_rfl
theorem fn_28 : isFn Try.prog 28 = true := by kernel_rfl
theorem fn_29 : isFn Try.prog 29 = true := by kernel_rfl
theorem fn_30 : isFn Try.prog 30 = true := by kernel_rfl
theorem fn_31 : isFn Try.prog 31 = true := by kernel_rfl
theorem fn_32 : isFn Try.prog 32 = true := by kernel_rfl
theorem fn_33 : isFn Try.prog 33 = true := by kernel_rfl
theorem ni_22 : noInt Try.prog 22 = true := by kernel_rfl
theorem ni_36 : noInt Try.prog 36 = true := by kernel_rfl
theorem fn_34 : isFn Try.prog 34 = true := by kernel_rfl
theorem fn_35 : isFn Try.prog 35 = true := by kernel_rfl
theorem fn_38 : isFn Try.prog 38 = true := by kernel_rfl
theorem fn_37 : isFn Try.prog 37 = true := by kernel_rfl
theorem fn_36 : isFn Try.prog 36 = true := by kernel_rfl
theorem ni_28 : noInt Try.prog 28 = true := by kernel_rfl
theorem fn_39 : isFn Try.prog 39 = true := by kernel_rfl
theorem fo_31_1 : fOff Try.prog 31 1 = some 1 := by kernel_rfl
theorem ld_3 : ldK Try.prog 3 = some none := by kernel_rfl
theorem fn_40 : isFn Try.prog 40 = true := by kernel_rfl
theorem fn_41 : isFn Try.prog 41 = true := by kernel_rfl
theorem fo_73_2 : fOff Try.prog 73 2 = some 2 := by kernel_rfl
theorem ld_69 : ldK Try.prog 69 = some none := by kernel_rfl
theorem pk_69 : ptK Try.prog 69 = true := by kernel_rfl
theorem fn_42 : isFn Try.prog 42 = true := by kernel_rfl
theorem fn_43 : isFn Try.prog 43 = true := by kernel_rfl
theorem ni_48 : noInt Try.prog 48 = true := by kernel_rfl
theorem fn_44 : isFn Try.prog 44 = true := by kernel_rfl
theorem sl_48 : slK Try.prog 48 = some 1 := by kernel_rfl
theorem ar_48 : arK Try.prog 48 = none := by kernel_rfl
theorem pk_4 : ptK Try.prog 4 = false := by kernel_rfl
theorem pk_28 : ptK Try.prog 28 = false := by kernel_rfl
theorem sz_9 : szK Try.prog 9 = some 1 := by kernel_rfl
theorem fn_45 : isFn Try.prog 45 = true := by kernel_rfl
theorem fn_46 : isFn Try.prog 46 = true := by kernel_rfl
theorem fn_48 : isFn Try.prog 48 = true := by kernel_rfl
theorem fn_47 : isFn Try.prog 47 = true := by kernel_rfl
theorem ld_22 : ldK Try.prog 22 = some none := by kernel_rfl
theorem fn_49 : isFn Try.prog 49 = true := by kernel_rfl
theorem fn_50 : isFn Try.prog 50 = true := by kernel_rfl
theorem pk_31 : ptK Try.prog 31 = false := by kernel_rfl
theorem fn_51 : isFn Try.prog 51 = true := by kernel_rfl
theorem sl_83 : slK Try.prog 83 = some 1 := by kernel_rfl
theorem ar_83 : arK Try.prog 83 = none := by kernel_rfl
theorem co_9 : coK Try.prog 9 = true := by kernel_rfl
theorem fn_52 : isFn Try.prog 52 = true := by kernel_rfl
theorem fn_53 : isFn Try.prog 53 = true := by kernel_rfl
theorem sz_71 : szK Try.prog 71 = some 2 := by kernel_rfl
theorem fn_54 : isFn Try.prog 54 = true := by kernel_rfl
theorem sz_69 : szK Try.prog 69 = some 1 := by kernel_rfl
theorem ld_71 : ldK Try.prog 71 = some (some 2) := by kernel_rfl
theorem ni_87 : noInt Try.prog 87 = true := by kernel_rfl
theorem fo_90_2 : fOff Try.prog 90 2 = some 2 := by kernel_rfl
theorem sz_87 : szK Try.prog 87 = some 1 := by kernel_rfl
theorem fo_90_1 : fOff Try.prog 90 1 = some 1 := by kernel_rfl
theorem sz_3 : szK Try.prog 3 = some 1 := by kernel_rfl
theorem fo_73_3 : fOff Try.prog 73 3 = some 3 := by kernel_rfl
theorem fo_73_4 : fOff Try.prog 73 4 = some 4 := by kernel_rfl
theorem fo_71_0 : fOff Try.prog 71 0 = some 0 := by kernel_rfl
theorem fn_55 : isFn Try.prog 55 = true := by kernel_rfl
theorem fn_56 : isFn Try.prog 56 = true := by kernel_rfl
theorem fo_90_3 : fOff Try.prog 90 3 = some 3 := by kernel_rfl
theorem ld_88 : ldK Try.prog 88 = some none := by kernel_rfl
theorem fo_73_6 : fOff Try.prog 73 6 = some 7 := by kernel_rfl
theorem sz_96 : szK Try.prog 96 = some 1 := by kernel_rfl
theorem ni_96 : noInt Try.prog 96 = true := by kernel_rfl
theorem fn_57 : isFn Try.prog 57 = true := by kernel_rfl
theorem fo_71_1 : fOff Try.prog 71 1 = some 1 := by kernel_rfl
theorem fn_58 : isFn Try.prog 58 = true := by kernel_rfl
theorem ld_87 : ldK Try.prog 87 = some none := by kernel_rfl
theorem sl_87 : slK Try.prog 87 = some 2 := by kernel_rfl
theorem ar_87 : arK Try.prog 87 = none := by kernel_rfl
theorem ld_96 : ldK Try.prog 96 = some none := by kernel_rfl
theorem sl_96 : slK Try.prog 96 = some 1 := by kernel_rfl
theorem ar_96 : arK Try.prog 96 = none := by kernel_rfl
theorem fn_59 : isFn Try.prog 59 = true := by kernel_rfl
theorem fn_60 : isFn Try.prog 60 = true := by kernel_rfl
theorem fo_73_5 : fOff Try.prog 73 5 = some 6 := by kernel_rfl
theorem fn_61 : isFn Try.prog 61 = true := by kernel_rfl
theorem fn_62 : isFn Try.prog 62 = true := by kernel_rfl
theorem fn_63 : isFn Try.prog 63 = true := by kernel_rfl
theorem sz_41 : szK Try.prog 41 = some 1 := by kernel_rfl
theorem fo_73_1 : fOff Try.prog 73 1 = some 1 := by kernel_rfl
theorem ld_68 : ldK Try.prog 68 = some none := by kernel_rfl
theorem pk_68 : ptK Try.prog 68 = true := by kernel_rfl
theorem sz_68 : szK Try.prog 68 = some 1 := by kernel_rfl
theorem ld_73 : ldK Try.prog 73 = some (some 10) := by kernel_rfl
theorem sz_73 : szK Try.prog 73 = some 10 := by kernel_rfl
theorem fn_65 : isFn Try.prog 65 = true := by kernel_rfl
theorem fo_73_0 : fOff Try.prog 73 0 = some 0 := by kernel_rfl
theorem sz_67 : szK Try.prog 67 = some 1 := by kernel_rfl
theorem ni_3 : noInt Try.prog 3 = false := by kernel_rfl
theorem fn_66 : isFn Try.prog 66 = true := by kernel_rfl
theorem co_3 : coK Try.prog 3 = true := by kernel_rfl
theorem co_105 : coK Try.prog 105 = false := by kernel_rfl
theorem fo_73_7 : fOff Try.prog 73 7 = some 8 := by kernel_rfl
theorem co_108 : coK Try.prog 108 = false := by kernel_rfl
theorem fo_73_8 : fOff Try.prog 73 8 = some 9 := by kernel_rfl
theorem ld_67 : ldK Try.prog 67 = some none := by kernel_rfl
theorem fo_90_0 : fOff Try.prog 90 0 = some 0 := by kernel_rfl
theorem sz_88 : szK Try.prog 88 = some 1 := by kernel_rfl
theorem fn_67 : isFn Try.prog 67 = true := by kernel_rfl
theorem pk_88 : ptK Try.prog 88 = true := by kernel_rfl
theorem pk_67 : ptK Try.prog 67 = false := by kernel_rfl
theorem fn_68 : isFn Try.prog 68 = true := by kernel_rfl
theorem fn_69 : isFn Try.prog 69 = true := by kernel_rfl
theorem fn_70 : isFn Try.prog 70 = true := by kernel_rfl
theorem ld_41 : ldK Try.prog 41 = some none := by kernel_rfl
theorem fn_72 : isFn Try.prog 72 = true := by kernel_rfl
theorem ld_80 : ldK Try.prog 80 = some none := by kernel_rfl
theorem sz_22 : szK Try.prog 22 = some 1 := by kernel_rfl
theorem ow_3 : (isFn Try.prog 8 = true) ∧ (isFn Try.prog 10 = true) ∧ (isFn Try.prog 9 = true) ∧ (isFn Try.prog 11 = true) ∧ (ptK Try.prog 3 = false) := ⟨fn_8, fn_10, fn_9, fn_11, pk_3⟩
theorem ow_4 : (isFn Try.prog 8 = true) ∧ (isFn Try.prog 12 = true) ∧ (isFn Try.prog 13 = true) ∧ (isFn Try.prog 14 = true) ∧ (slK Try.prog 28 = some 1) ∧ (ptK Try.prog 3 = false) ∧ (arK Try.prog 28 = none) ∧ (ldK Try.prog 9 = some none) ∧ (slK Try.prog 9 = none) ∧ (ptK Try.prog 5 = false) ∧ (slK Try.prog 22 = some 2) ∧ (arK Try.prog 22 = none) ∧ (ldK Try.prog 31 = some (some 2)) ∧ (szK Try.prog 31 = some 2) ∧ (fOff Try.prog 31 0 = some 0) ∧ (isFn Try.prog 15 = true) := ⟨fn_8, fn_12, fn_13, fn_14, sl_28, pk_3, ar_28, ld_9, sl_9, pk_5, sl_22, ar_22, ld_31, sz_31, fo_31_0, fn_15⟩
theorem ow_5 : (isFn Try.prog 8 = true) ∧ (isFn Try.prog 16 = true) ∧ (isFn Try.prog 10 = true) ∧ (isFn Try.prog 17 = true) ∧ (isFn Try.prog 11 = true) ∧ (ptK Try.prog 3 = false) := ⟨fn_8, fn_16, fn_10, fn_17, fn_11, pk_3⟩
theorem ow_6 : (isFn Try.prog 8 = true) ∧ (isFn Try.prog 12 = true) ∧ (isFn Try.prog 13 = true) ∧ (isFn Try.prog 14 = true) ∧ (isFn Try.prog 18 = true) ∧ (slK Try.prog 28 = some 1) ∧ (ptK Try.prog 3 = false) ∧ (slK Try.prog 36 = some 1) ∧ (arK Try.prog 36 = none) ∧ (szK Try.prog 4 = some 1) ∧ (isFn Try.prog 19 = true) ∧ (slK Try.prog 22 = some 2) ∧ (ldK Try.prog 4 = some none) ∧ (arK Try.prog 28 = none) ∧ (ldK Try.prog 9 = some none) ∧ (arK Try.prog 22 = none) ∧ (fOff Try.prog 31 0 = some 0) ∧ (ptK Try.prog 9 = false) := ⟨fn_8, fn_12, fn_13, fn_14, fn_18, sl_28, pk_3, sl_36, ar_36, sz_4, fn_19, sl_22, ld_4, ar_28, ld_9, ar_22, fo_31_0, pk_9⟩
theorem ow_7 : (isFn Try.prog 8 = true) ∧ (isFn Try.prog 10 = true) ∧ (slK Try.prog 22 = some 2) ∧ (isFn Try.prog 20 = true) ∧ (isFn Try.prog 12 = true) := ⟨fn_8, fn_10, sl_22, fn_20, fn_12⟩
theorem ow_8 : (slK Try.prog 22 = some 2) ∧ (ptK Try.prog 3 = false) ∧ (arK Try.prog 22 = none) ∧ (ldK Try.prog 31 = some (some 2)) ∧ (szK Try.prog 31 = some 2) ∧ (isFn Try.prog 21 = true) := ⟨sl_22, pk_3, ar_22, ld_31, sz_31, fn_21⟩
theorem ow_9 : (isFn Try.prog 14 = true) ∧ (isFn Try.prog 22 = true) ∧ (isFn Try.prog 23 = true) := ⟨fn_14, fn_22, fn_23⟩
theorem ow_11 : (ptK Try.prog 3 = false) := pk_3
theorem ow_12 : (ptK Try.prog 3 = false) ∧ (isFn Try.prog 11 = true) := ⟨pk_3, fn_11⟩
theorem ow_13 : (isFn Try.prog 10 = true) ∧ (slK Try.prog 22 = some 2) ∧ (isFn Try.prog 14 = true) ∧ (slK Try.prog 28 = some 1) ∧ (ptK Try.prog 3 = false) := ⟨fn_10, sl_22, fn_14, sl_28, pk_3⟩
theorem ow_14 : (isFn Try.prog 24 = true) ∧ (isFn Try.prog 25 = true) := ⟨fn_24, fn_25⟩
theorem ow_15 : (isFn Try.prog 26 = true) ∧ (ptK Try.prog 3 = false) := ⟨fn_26, pk_3⟩
theorem ow_16 : (slK Try.prog 28 = some 1) ∧ (ptK Try.prog 3 = false) ∧ (arK Try.prog 28 = none) ∧ (ldK Try.prog 9 = some none) ∧ (slK Try.prog 9 = none) := ⟨sl_28, pk_3, ar_28, ld_9, sl_9⟩
theorem ow_17 : (isFn Try.prog 27 = true) ∧ (isFn Try.prog 28 = true) ∧ (isFn Try.prog 29 = true) ∧ (isFn Try.prog 30 = true) := ⟨fn_27, fn_28, fn_29, fn_30⟩
theorem ow_18 : (isFn Try.prog 31 = true) ∧ (isFn Try.prog 32 = true) := ⟨fn_31, fn_32⟩
theorem ow_19 : (isFn Try.prog 24 = true) ∧ (slK Try.prog 36 = some 1) ∧ (ptK Try.prog 3 = false) ∧ (arK Try.prog 36 = none) ∧ (ldK Try.prog 4 = some none) ∧ (isFn Try.prog 33 = true) ∧ (noInt Try.prog 22 = true) ∧ (noInt Try.prog 36 = true) ∧ (isFn Try.prog 34 = true) := ⟨fn_24, sl_36, pk_3, ar_36, ld_4, fn_33, ni_22, ni_36, fn_34⟩
theorem ow_20 : (isFn Try.prog 35 = true) ∧ (isFn Try.prog 38 = true) ∧ (isFn Try.prog 37 = true) ∧ (isFn Try.prog 36 = true) := ⟨fn_35, fn_38, fn_37, fn_36⟩
theorem ow_21 : (fOff Try.prog 31 0 = some 0) ∧ (ldK Try.prog 9 = some none) ∧ (slK Try.prog 9 = none) ∧ (ptK Try.prog 3 = false) := ⟨fo_31_0, ld_9, sl_9, pk_3⟩
theorem ow_22 : (isFn Try.prog 37 = true) ∧ (slK Try.prog 22 = some 2) ∧ (ptK Try.prog 3 = false) ∧ (arK Try.prog 22 = none) ∧ (ldK Try.prog 31 = some (some 2)) ∧ (szK Try.prog 31 = some 2) ∧ (fOff Try.prog 31 0 = some 0) ∧ (ldK Try.prog 9 = some none) ∧ (noInt Try.prog 28 = true) := ⟨fn_37, sl_22, pk_3, ar_22, ld_31, sz_31, fo_31_0, ld_9, ni_28⟩
theorem ow_23 : (slK Try.prog 28 = some 1) ∧ (ptK Try.prog 3 = false) ∧ (arK Try.prog 28 = none) ∧ (ldK Try.prog 9 = some none) ∧ (ptK Try.prog 9 = false) := ⟨sl_28, pk_3, ar_28, ld_9, pk_9⟩
theorem ow_24 : (isFn Try.prog 39 = true) ∧ (slK Try.prog 22 = some 2) ∧ (ptK Try.prog 3 = false) ∧ (arK Try.prog 22 = none) ∧ (ldK Try.prog 31 = some (some 2)) ∧ (szK Try.prog 31 = some 2) ∧ (fOff Try.prog 31 0 = some 0) ∧ (ldK Try.prog 9 = some none) ∧ (fOff Try.prog 31 1 = some 1) ∧ (ldK Try.prog 3 = some none) ∧ (isFn Try.prog 40 = true) := ⟨fn_39, sl_22, pk_3, ar_22, ld_31, sz_31, fo_31_0, ld_9, fo_31_1, ld_3, fn_40⟩
theorem ow_25 : (isFn Try.prog 41 = true) ∧ (fOff Try.prog 73 2 = some 2) ∧ (ldK Try.prog 69 = some none) ∧ (ptK Try.prog 69 = true) ∧ (isFn Try.prog 42 = true) := ⟨fn_41, fo_73_2, ld_69, pk_69, fn_42⟩
theorem ow_26 : (slK Try.prog 28 = some 1) ∧ (ptK Try.prog 3 = false) ∧ (arK Try.prog 28 = none) ∧ (ldK Try.prog 9 = some none) ∧ (ptK Try.prog 9 = false) := ⟨sl_28, pk_3, ar_28, ld_9, pk_9⟩
theorem ow_27 : (isFn Try.prog 24 = true) ∧ (slK Try.prog 28 = some 1) ∧ (ptK Try.prog 3 = false) ∧ (arK Try.prog 28 = none) ∧ (ldK Try.prog 9 = some none) ∧ (isFn Try.prog 43 = true) ∧ (noInt Try.prog 48 = true) ∧ (noInt Try.prog 36 = true) := ⟨fn_24, sl_28, pk_3, ar_28, ld_9, fn_43, ni_48, ni_36⟩
theorem ow_28 : (isFn Try.prog 37 = true) ∧ (slK Try.prog 28 = some 1) ∧ (ptK Try.prog 3 = false) ∧ (arK Try.prog 28 = none) ∧ (ldK Try.prog 9 = some none) ∧ (isFn Try.prog 44 = true) ∧ (slK Try.prog 22 = some 2) ∧ (arK Try.prog 22 = none) ∧ (fOff Try.prog 31 1 = some 1) ∧ (ldK Try.prog 3 = some none) ∧ (noInt Try.prog 48 = true) ∧ (noInt Try.prog 36 = true) := ⟨fn_37, sl_28, pk_3, ar_28, ld_9, fn_44, sl_22, ar_22, fo_31_1, ld_3, ni_48, ni_36⟩
theorem ow_29 : (slK Try.prog 48 = some 1) ∧ (ptK Try.prog 3 = false) ∧ (arK Try.prog 48 = none) ∧ (ldK Try.prog 3 = some none) := ⟨sl_48, pk_3, ar_48, ld_3⟩
theorem ow_30 : (slK Try.prog 36 = some 1) ∧ (ptK Try.prog 3 = false) ∧ (arK Try.prog 36 = none) ∧ (ldK Try.prog 4 = some none) ∧ (ptK Try.prog 4 = false) := ⟨sl_36, pk_3, ar_36, ld_4, pk_4⟩
theorem ow_31 : (ptK Try.prog 28 = false) ∧ (noInt Try.prog 28 = true) := ⟨pk_28, ni_28⟩
theorem ow_32 : (slK Try.prog 28 = some 1) ∧ (ptK Try.prog 3 = false) ∧ (arK Try.prog 28 = none) ∧ (ldK Try.prog 9 = some none) ∧ (szK Try.prog 9 = some 1) := ⟨sl_28, pk_3, ar_28, ld_9, sz_9⟩
theorem ow_33 : (isFn Try.prog 45 = true) ∧ (isFn Try.prog 46 = true) := ⟨fn_45, fn_46⟩
theorem ow_34 : (isFn Try.prog 48 = true) ∧ (isFn Try.prog 47 = true) ∧ (ldK Try.prog 22 = some none) := ⟨fn_48, fn_47, ld_22⟩
theorem ow_35 : (isFn Try.prog 24 = true) ∧ (isFn Try.prog 49 = true) ∧ (isFn Try.prog 50 = true) ∧ (slK Try.prog 22 = some 2) ∧ (ptK Try.prog 3 = false) ∧ (arK Try.prog 22 = none) ∧ (fOff Try.prog 31 0 = some 0) ∧ (ldK Try.prog 9 = some none) ∧ (fOff Try.prog 31 1 = some 1) ∧ (ldK Try.prog 3 = some none) ∧ (isFn Try.prog 40 = true) ∧ (isFn Try.prog 34 = true) := ⟨fn_24, fn_49, fn_50, sl_22, pk_3, ar_22, fo_31_0, ld_9, fo_31_1, ld_3, fn_40, fn_34⟩
theorem ow_36 : (slK Try.prog 22 = some 2) ∧ (ptK Try.prog 3 = false) ∧ (arK Try.prog 22 = none) ∧ (ldK Try.prog 31 = some (some 2)) ∧ (ptK Try.prog 31 = false) := ⟨sl_22, pk_3, ar_22, ld_31, pk_31⟩
theorem ow_37 : (isFn Try.prog 51 = true) := fn_51
theorem ow_38 : (slK Try.prog 83 = some 1) ∧ (ptK Try.prog 3 = false) ∧ (arK Try.prog 83 = none) ∧ (ldK Try.prog 22 = some none) ∧ (slK Try.prog 22 = some 2) ∧ (coK Try.prog 9 = true) ∧ (isFn Try.prog 52 = true) ∧ (noInt Try.prog 22 = true) := ⟨sl_83, pk_3, ar_83, ld_22, sl_22, co_9, fn_52, ni_22⟩
theorem ow_39 : (isFn Try.prog 53 = true) := fn_53
theorem ow_40 : (szK Try.prog 71 = some 2) ∧ (fOff Try.prog 73 2 = some 2) ∧ (ldK Try.prog 69 = some none) ∧ (ptK Try.prog 69 = true) ∧ (isFn Try.prog 53 = true) ∧ (isFn Try.prog 54 = true) ∧ (szK Try.prog 69 = some 1) ∧ (ldK Try.prog 71 = some (some 2)) ∧ (noInt Try.prog 87 = true) ∧ (fOff Try.prog 90 2 = some 2) ∧ (szK Try.prog 87 = some 1) ∧ (fOff Try.prog 90 1 = some 1) ∧ (szK Try.prog 3 = some 1) ∧ (fOff Try.prog 73 3 = some 3) ∧ (fOff Try.prog 73 4 = some 4) ∧ (fOff Try.prog 71 0 = some 0) ∧ (ldK Try.prog 3 = some none) ∧ (isFn Try.prog 55 = true) ∧ (isFn Try.prog 56 = true) ∧ (fOff Try.prog 90 3 = some 3) ∧ (ldK Try.prog 88 = some none) ∧ (fOff Try.prog 73 6 = some 7) ∧ (ptK Try.prog 3 = false) ∧ (szK Try.prog 96 = some 1) ∧ (noInt Try.prog 96 = true) ∧ (isFn Try.prog 57 = true) ∧ (fOff Try.prog 71 1 = some 1) ∧ (ldK Try.prog 9 = some none) ∧ (isFn Try.prog 40 = true) := ⟨sz_71, fo_73_2, ld_69, pk_69, fn_53, fn_54, sz_69, ld_71, ni_87, fo_90_2, sz_87, fo_90_1, sz_3, fo_73_3, fo_73_4, fo_71_0, ld_3, fn_55, fn_56, fo_90_3, ld_88, fo_73_6, pk_3, sz_96, ni_96, fn_57, fo_71_1, ld_9, fn_40⟩
theorem ow_41 : (fOff Try.prog 73 3 = some 3) ∧ (ldK Try.prog 3 = some none) := ⟨fo_73_3, ld_3⟩
theorem ow_42 : (isFn Try.prog 58 = true) ∧ (fOff Try.prog 90 2 = some 2) ∧ (ldK Try.prog 87 = some none) ∧ (slK Try.prog 87 = some 2) ∧ (ptK Try.prog 3 = false) ∧ (arK Try.prog 87 = none) ∧ (fOff Try.prog 71 1 = some 1) ∧ (ldK Try.prog 9 = some none) ∧ (noInt Try.prog 28 = true) ∧ (fOff Try.prog 90 3 = some 3) ∧ (ldK Try.prog 88 = some none) ∧ (ldK Try.prog 96 = some none) ∧ (slK Try.prog 96 = some 1) ∧ (arK Try.prog 96 = none) ∧ (ldK Try.prog 69 = some none) ∧ (isFn Try.prog 42 = true) := ⟨fn_58, fo_90_2, ld_87, sl_87, pk_3, ar_87, fo_71_1, ld_9, ni_28, fo_90_3, ld_88, ld_96, sl_96, ar_96, ld_69, fn_42⟩
theorem ow_43 : (isFn Try.prog 59 = true) := fn_59
theorem ow_44 : (slK Try.prog 22 = some 2) ∧ (ptK Try.prog 3 = false) ∧ (arK Try.prog 22 = none) ∧ (fOff Try.prog 31 0 = some 0) ∧ (ldK Try.prog 9 = some none) ∧ (ptK Try.prog 9 = false) := ⟨sl_22, pk_3, ar_22, fo_31_0, ld_9, pk_9⟩
theorem ow_45 : (fOff Try.prog 73 2 = some 2) ∧ (ldK Try.prog 69 = some none) ∧ (ptK Try.prog 69 = true) ∧ (fOff Try.prog 73 4 = some 4) ∧ (fOff Try.prog 71 1 = some 1) ∧ (ldK Try.prog 9 = some none) ∧ (fOff Try.prog 71 0 = some 0) ∧ (ldK Try.prog 3 = some none) ∧ (isFn Try.prog 60 = true) ∧ (fOff Try.prog 90 1 = some 1) ∧ (ptK Try.prog 3 = false) ∧ (szK Try.prog 3 = some 1) ∧ (isFn Try.prog 58 = true) ∧ (fOff Try.prog 90 2 = some 2) ∧ (ldK Try.prog 87 = some none) ∧ (slK Try.prog 87 = some 2) ∧ (arK Try.prog 87 = none) ∧ (ldK Try.prog 71 = some (some 2)) ∧ (szK Try.prog 71 = some 2) ∧ (fOff Try.prog 73 5 = some 6) ∧ (szK Try.prog 87 = some 1) ∧ (fOff Try.prog 73 3 = some 3) ∧ (szK Try.prog 69 = some 1) ∧ (fOff Try.prog 90 3 = some 3) ∧ (ldK Try.prog 88 = some none) ∧ (ldK Try.prog 96 = some none) ∧ (slK Try.prog 96 = some 1) ∧ (arK Try.prog 96 = none) ∧ (isFn Try.prog 61 = true) := ⟨fo_73_2, ld_69, pk_69, fo_73_4, fo_71_1, ld_9, fo_71_0, ld_3, fn_60, fo_90_1, pk_3, sz_3, fn_58, fo_90_2, ld_87, sl_87, ar_87, ld_71, sz_71, fo_73_5, sz_87, fo_73_3, sz_69, fo_90_3, ld_88, ld_96, sl_96, ar_96, fn_61⟩
theorem ow_46 : (fOff Try.prog 73 2 = some 2) ∧ (ldK Try.prog 69 = some none) ∧ (ptK Try.prog 69 = true) ∧ (fOff Try.prog 73 4 = some 4) ∧ (fOff Try.prog 71 1 = some 1) ∧ (ldK Try.prog 9 = some none) ∧ (fOff Try.prog 71 0 = some 0) ∧ (ldK Try.prog 3 = some none) ∧ (isFn Try.prog 60 = true) ∧ (fOff Try.prog 90 1 = some 1) ∧ (ptK Try.prog 3 = false) ∧ (szK Try.prog 3 = some 1) ∧ (isFn Try.prog 58 = true) ∧ (fOff Try.prog 90 2 = some 2) ∧ (ldK Try.prog 87 = some none) ∧ (slK Try.prog 87 = some 2) ∧ (arK Try.prog 87 = none) ∧ (ldK Try.prog 71 = some (some 2)) ∧ (szK Try.prog 71 = some 2) ∧ (fOff Try.prog 73 5 = some 6) ∧ (szK Try.prog 87 = some 1) ∧ (fOff Try.prog 73 3 = some 3) ∧ (szK Try.prog 69 = some 1) ∧ (fOff Try.prog 90 3 = some 3) ∧ (ldK Try.prog 88 = some none) ∧ (ldK Try.prog 96 = some none) ∧ (slK Try.prog 96 = some 1) ∧ (arK Try.prog 96 = none) ∧ (isFn Try.prog 61 = true) := ⟨fo_73_2, ld_69, pk_69, fo_73_4, fo_71_1, ld_9, fo_71_0, ld_3, fn_60, fo_90_1, pk_3, sz_3, fn_58, fo_90_2, ld_87, sl_87, ar_87, ld_71, sz_71, fo_73_5, sz_87, fo_73_3, sz_69, fo_90_3, ld_88, ld_96, sl_96, ar_96, fn_61⟩
theorem ow_47 : (isFn Try.prog 62 = true) := fn_62
theorem ow_48 : (isFn Try.prog 63 = true) ∧ (szK Try.prog 41 = some 1) := ⟨fn_63, sz_41⟩
theorem ow_49 : (fOff Try.prog 73 1 = some 1) ∧ (ldK Try.prog 68 = some none) ∧ (ptK Try.prog 68 = true) ∧ (szK Try.prog 68 = some 1) ∧ (ldK Try.prog 73 = some (some 10)) ∧ (szK Try.prog 73 = some 10) ∧ (isFn Try.prog 65 = true) ∧ (fOff Try.prog 73 0 = some 0) ∧ (szK Try.prog 67 = some 1) := ⟨fo_73_1, ld_68, pk_68, sz_68, ld_73, sz_73, fn_65, fo_73_0, sz_67⟩
theorem ow_50 : (isFn Try.prog 49 = true) := fn_49
theorem ow_51 : (slK Try.prog 22 = some 2) ∧ (ptK Try.prog 3 = false) ∧ (arK Try.prog 22 = none) ∧ (ldK Try.prog 31 = some (some 2)) ∧ (szK Try.prog 31 = some 2) ∧ (fOff Try.prog 31 0 = some 0) ∧ (ldK Try.prog 9 = some none) ∧ (isFn Try.prog 44 = true) ∧ (noInt Try.prog 22 = true) ∧ (fOff Try.prog 31 1 = some 1) ∧ (ldK Try.prog 3 = some none) ∧ (szK Try.prog 3 = some 1) ∧ (noInt Try.prog 36 = true) := ⟨sl_22, pk_3, ar_22, ld_31, sz_31, fo_31_0, ld_9, fn_44, ni_22, fo_31_1, ld_3, sz_3, ni_36⟩
theorem ow_52 : (ptK Try.prog 3 = false) ∧ (coK Try.prog 9 = true) ∧ (slK Try.prog 22 = some 2) ∧ (noInt Try.prog 3 = false) := ⟨pk_3, co_9, sl_22, ni_3⟩
theorem ow_53 : (fOff Try.prog 73 5 = some 6) ∧ (ldK Try.prog 3 = some none) ∧ (ptK Try.prog 3 = false) ∧ (isFn Try.prog 66 = true) ∧ (szK Try.prog 3 = some 1) ∧ (fOff Try.prog 73 6 = some 7) ∧ (fOff Try.prog 73 4 = some 4) ∧ (fOff Try.prog 71 0 = some 0) ∧ (coK Try.prog 3 = true) ∧ (coK Try.prog 105 = false) ∧ (fOff Try.prog 73 7 = some 8) ∧ (szK Try.prog 4 = some 1) ∧ (ldK Try.prog 4 = some none) ∧ (coK Try.prog 108 = false) ∧ (fOff Try.prog 73 8 = some 9) := ⟨fo_73_5, ld_3, pk_3, fn_66, sz_3, fo_73_6, fo_73_4, fo_71_0, co_3, co_105, fo_73_7, sz_4, ld_4, co_108, fo_73_8⟩
theorem ow_54 : (fOff Try.prog 73 0 = some 0) ∧ (ldK Try.prog 67 = some none) ∧ (fOff Try.prog 90 0 = some 0) ∧ (szK Try.prog 67 = some 1) ∧ (fOff Try.prog 90 3 = some 3) ∧ (szK Try.prog 88 = some 1) := ⟨fo_73_0, ld_67, fo_90_0, sz_67, fo_90_3, sz_88⟩
theorem ow_55 : (isFn Try.prog 60 = true) ∧ (szK Try.prog 69 = some 1) ∧ (ldK Try.prog 69 = some none) ∧ (fOff Try.prog 71 1 = some 1) ∧ (ldK Try.prog 9 = some none) ∧ (isFn Try.prog 67 = true) ∧ (fOff Try.prog 90 2 = some 2) ∧ (ldK Try.prog 87 = some none) ∧ (slK Try.prog 87 = some 2) ∧ (arK Try.prog 87 = none) ∧ (fOff Try.prog 71 0 = some 0) ∧ (ldK Try.prog 3 = some none) ∧ (ldK Try.prog 71 = some (some 2)) ∧ (szK Try.prog 71 = some 2) ∧ (isFn Try.prog 58 = true) ∧ (fOff Try.prog 73 6 = some 7) ∧ (ptK Try.prog 3 = false) ∧ (fOff Try.prog 73 4 = some 4) ∧ (noInt Try.prog 87 = true) ∧ (szK Try.prog 87 = some 1) ∧ (fOff Try.prog 90 1 = some 1) ∧ (szK Try.prog 3 = some 1) ∧ (fOff Try.prog 90 3 = some 3) ∧ (ldK Try.prog 88 = some none) ∧ (ldK Try.prog 96 = some none) ∧ (slK Try.prog 96 = some 1) ∧ (arK Try.prog 96 = none) ∧ (isFn Try.prog 55 = true) ∧ (isFn Try.prog 56 = true) ∧ (noInt Try.prog 96 = true) ∧ (szK Try.prog 96 = some 1) := ⟨fn_60, sz_69, ld_69, fo_71_1, ld_9, fn_67, fo_90_2, ld_87, sl_87, ar_87, fo_71_0, ld_3, ld_71, sz_71, fn_58, fo_73_6, pk_3, fo_73_4, ni_87, sz_87, fo_90_1, sz_3, fo_90_3, ld_88, ld_96, sl_96, ar_96, fn_55, fn_56, ni_96, sz_96⟩
theorem ow_56 : (fOff Try.prog 73 6 = some 7) ∧ (ldK Try.prog 3 = some none) ∧ (ptK Try.prog 3 = false) ∧ (fOff Try.prog 90 2 = some 2) ∧ (ldK Try.prog 87 = some none) ∧ (slK Try.prog 87 = some 2) ∧ (arK Try.prog 87 = none) ∧ (ldK Try.prog 71 = some (some 2)) ∧ (szK Try.prog 71 = some 2) ∧ (isFn Try.prog 58 = true) ∧ (isFn Try.prog 54 = true) ∧ (szK Try.prog 87 = some 1) ∧ (fOff Try.prog 90 3 = some 3) ∧ (ldK Try.prog 88 = some none) ∧ (ldK Try.prog 96 = some none) ∧ (slK Try.prog 96 = some 1) ∧ (szK Try.prog 96 = some 1) ∧ (isFn Try.prog 57 = true) ∧ (fOff Try.prog 73 4 = some 4) := ⟨fo_73_6, ld_3, pk_3, fo_90_2, ld_87, sl_87, ar_87, ld_71, sz_71, fn_58, fn_54, sz_87, fo_90_3, ld_88, ld_96, sl_96, sz_96, fn_57, fo_73_4⟩
theorem ow_57 : (fOff Try.prog 90 2 = some 2) ∧ (ldK Try.prog 87 = some none) ∧ (slK Try.prog 87 = some 2) ∧ (fOff Try.prog 90 1 = some 1) ∧ (szK Try.prog 3 = some 1) ∧ (isFn Try.prog 58 = true) ∧ (fOff Try.prog 90 3 = some 3) ∧ (ldK Try.prog 88 = some none) ∧ (ldK Try.prog 96 = some none) ∧ (slK Try.prog 96 = some 1) ∧ (ptK Try.prog 3 = false) ∧ (ldK Try.prog 3 = some none) ∧ (arK Try.prog 96 = none) ∧ (ldK Try.prog 69 = some none) := ⟨fo_90_2, ld_87, sl_87, fo_90_1, sz_3, fn_58, fo_90_3, ld_88, ld_96, sl_96, pk_3, ld_3, ar_96, ld_69⟩
theorem ow_58 : (fOff Try.prog 90 3 = some 3) ∧ (ldK Try.prog 88 = some none) ∧ (ptK Try.prog 88 = true) := ⟨fo_90_3, ld_88, pk_88⟩
theorem ow_59 : (fOff Try.prog 73 2 = some 2) ∧ (ldK Try.prog 69 = some none) ∧ (ptK Try.prog 69 = true) ∧ (fOff Try.prog 73 4 = some 4) ∧ (fOff Try.prog 71 0 = some 0) ∧ (ldK Try.prog 3 = some none) ∧ (isFn Try.prog 60 = true) ∧ (isFn Try.prog 67 = true) ∧ (fOff Try.prog 90 2 = some 2) ∧ (ldK Try.prog 87 = some none) ∧ (slK Try.prog 87 = some 2) ∧ (arK Try.prog 87 = none) ∧ (isFn Try.prog 58 = true) ∧ (fOff Try.prog 90 3 = some 3) ∧ (ldK Try.prog 88 = some none) ∧ (ldK Try.prog 96 = some none) ∧ (slK Try.prog 96 = some 1) ∧ (arK Try.prog 96 = none) := ⟨fo_73_2, ld_69, pk_69, fo_73_4, fo_71_0, ld_3, fn_60, fn_67, fo_90_2, ld_87, sl_87, ar_87, fn_58, fo_90_3, ld_88, ld_96, sl_96, ar_96⟩
theorem ow_60 : (ldK Try.prog 69 = some none) ∧ (fOff Try.prog 90 0 = some 0) ∧ (ldK Try.prog 67 = some none) ∧ (fOff Try.prog 73 0 = some 0) ∧ (ptK Try.prog 67 = false) ∧ (isFn Try.prog 68 = true) ∧ (szK Try.prog 69 = some 1) := ⟨ld_69, fo_90_0, ld_67, fo_73_0, pk_67, fn_68, sz_69⟩
theorem ow_61 : (fOff Try.prog 73 2 = some 2) ∧ (ldK Try.prog 69 = some none) ∧ (ptK Try.prog 69 = true) ∧ (fOff Try.prog 73 4 = some 4) ∧ (fOff Try.prog 71 0 = some 0) ∧ (ldK Try.prog 3 = some none) ∧ (isFn Try.prog 69 = true) ∧ (szK Try.prog 71 = some 2) ∧ (fOff Try.prog 90 2 = some 2) ∧ (ldK Try.prog 87 = some none) ∧ (slK Try.prog 87 = some 2) ∧ (ptK Try.prog 3 = false) ∧ (isFn Try.prog 58 = true) ∧ (fOff Try.prog 90 3 = some 3) ∧ (ldK Try.prog 88 = some none) ∧ (ldK Try.prog 96 = some none) ∧ (slK Try.prog 96 = some 1) ∧ (arK Try.prog 96 = none) ∧ (szK Try.prog 69 = some 1) ∧ (fOff Try.prog 73 3 = some 3) ∧ (szK Try.prog 3 = some 1) := ⟨fo_73_2, ld_69, pk_69, fo_73_4, fo_71_0, ld_3, fn_69, sz_71, fo_90_2, ld_87, sl_87, pk_3, fn_58, fo_90_3, ld_88, ld_96, sl_96, ar_96, sz_69, fo_73_3, sz_3⟩
theorem ow_62 : (fOff Try.prog 73 2 = some 2) ∧ (ldK Try.prog 69 = some none) ∧ (ptK Try.prog 69 = true) ∧ (isFn Try.prog 70 = true) := ⟨fo_73_2, ld_69, pk_69, fn_70⟩
theorem ow_64 : (ldK Try.prog 41 = some none) := ld_41
theorem ow_65 : (ldK Try.prog 67 = some none) ∧ (ptK Try.prog 67 = false) ∧ (szK Try.prog 67 = some 1) := ⟨ld_67, pk_67, sz_67⟩
theorem ow_66 : (ptK Try.prog 3 = false) := pk_3
theorem ow_67 : (fOff Try.prog 90 2 = some 2) ∧ (ldK Try.prog 87 = some none) ∧ (slK Try.prog 87 = some 2) ∧ (ptK Try.prog 3 = false) ∧ (arK Try.prog 87 = none) ∧ (fOff Try.prog 71 1 = some 1) ∧ (ldK Try.prog 9 = some none) ∧ (ptK Try.prog 9 = false) := ⟨fo_90_2, ld_87, sl_87, pk_3, ar_87, fo_71_1, ld_9, pk_9⟩
theorem ow_68 : (fOff Try.prog 73 0 = some 0) ∧ (ldK Try.prog 67 = some none) ∧ (fOff Try.prog 90 0 = some 0) ∧ (szK Try.prog 67 = some 1) ∧ (fOff Try.prog 90 1 = some 1) ∧ (ldK Try.prog 3 = some none) ∧ (szK Try.prog 3 = some 1) ∧ (fOff Try.prog 90 2 = some 2) ∧ (ldK Try.prog 87 = some none) ∧ (slK Try.prog 87 = some 2) ∧ (szK Try.prog 87 = some 1) ∧ (fOff Try.prog 73 7 = some 8) ∧ (ldK Try.prog 4 = some none) ∧ (ptK Try.prog 3 = false) ∧ (arK Try.prog 87 = none) ∧ (fOff Try.prog 71 0 = some 0) ∧ (coK Try.prog 3 = true) ∧ (coK Try.prog 105 = false) ∧ (fOff Try.prog 73 8 = some 9) ∧ (coK Try.prog 108 = false) ∧ (isFn Try.prog 58 = true) ∧ (fOff Try.prog 90 3 = some 3) ∧ (szK Try.prog 88 = some 1) ∧ (ldK Try.prog 88 = some none) ∧ (ldK Try.prog 96 = some none) ∧ (slK Try.prog 96 = some 1) ∧ (fOff Try.prog 73 6 = some 7) ∧ (szK Try.prog 96 = some 1) := ⟨fo_73_0, ld_67, fo_90_0, sz_67, fo_90_1, ld_3, sz_3, fo_90_2, ld_87, sl_87, sz_87, fo_73_7, ld_4, pk_3, ar_87, fo_71_0, co_3, co_105, fo_73_8, co_108, fn_58, fo_90_3, sz_88, ld_88, ld_96, sl_96, fo_73_6, sz_96⟩
theorem ow_69 : (isFn Try.prog 60 = true) ∧ (fOff Try.prog 90 2 = some 2) ∧ (ldK Try.prog 87 = some none) ∧ (slK Try.prog 87 = some 2) ∧ (ptK Try.prog 3 = false) ∧ (isFn Try.prog 67 = true) ∧ (isFn Try.prog 58 = true) ∧ (arK Try.prog 87 = none) ∧ (ldK Try.prog 71 = some (some 2)) ∧ (szK Try.prog 71 = some 2) ∧ (fOff Try.prog 73 4 = some 4) ∧ (szK Try.prog 87 = some 1) ∧ (fOff Try.prog 90 1 = some 1) ∧ (ldK Try.prog 3 = some none) ∧ (szK Try.prog 3 = some 1) ∧ (fOff Try.prog 90 3 = some 3) ∧ (ldK Try.prog 88 = some none) ∧ (ldK Try.prog 96 = some none) ∧ (slK Try.prog 96 = some 1) ∧ (arK Try.prog 96 = none) ∧ (fOff Try.prog 71 1 = some 1) ∧ (ldK Try.prog 9 = some none) ∧ (isFn Try.prog 69 = true) ∧ (ldK Try.prog 69 = some none) ∧ (fOff Try.prog 73 5 = some 6) ∧ (isFn Try.prog 72 = true) := ⟨fn_60, fo_90_2, ld_87, sl_87, pk_3, fn_67, fn_58, ar_87, ld_71, sz_71, fo_73_4, sz_87, fo_90_1, ld_3, sz_3, fo_90_3, ld_88, ld_96, sl_96, ar_96, fo_71_1, ld_9, fn_69, ld_69, fo_73_5, fn_72⟩
theorem ow_70 : (isFn Try.prog 60 = true) ∧ (isFn Try.prog 58 = true) ∧ (fOff Try.prog 90 2 = some 2) ∧ (ldK Try.prog 87 = some none) ∧ (slK Try.prog 87 = some 2) ∧ (ptK Try.prog 3 = false) ∧ (arK Try.prog 87 = none) ∧ (fOff Try.prog 71 1 = some 1) ∧ (ldK Try.prog 9 = some none) ∧ (fOff Try.prog 71 0 = some 0) ∧ (ldK Try.prog 3 = some none) ∧ (fOff Try.prog 90 3 = some 3) ∧ (ldK Try.prog 88 = some none) ∧ (ldK Try.prog 96 = some none) ∧ (slK Try.prog 96 = some 1) ∧ (arK Try.prog 96 = none) ∧ (isFn Try.prog 70 = true) := ⟨fn_60, fn_58, fo_90_2, ld_87, sl_87, pk_3, ar_87, fo_71_1, ld_9, fo_71_0, ld_3, fo_90_3, ld_88, ld_96, sl_96, ar_96, fn_70⟩
theorem ow_71 : (ldK Try.prog 80 = some none) ∧ (ldK Try.prog 22 = some none) ∧ (ldK Try.prog 31 = some (some 2)) ∧ (noInt Try.prog 22 = true) ∧ (szK Try.prog 22 = some 1) ∧ (ldK Try.prog 3 = some none) ∧ (ptK Try.prog 3 = false) ∧ (slK Try.prog 22 = some 2) := ⟨ld_80, ld_22, ld_31, ni_22, sz_22, ld_3, pk_3, sl_22⟩
theorem ow_72 : (fOff Try.prog 90 2 = some 2) ∧ (ldK Try.prog 87 = some none) ∧ (slK Try.prog 87 = some 2) ∧ (ptK Try.prog 3 = false) ∧ (fOff Try.prog 90 3 = some 3) ∧ (ldK Try.prog 88 = some none) ∧ (ldK Try.prog 96 = some none) ∧ (slK Try.prog 96 = some 1) ∧ (arK Try.prog 96 = none) ∧ (isFn Try.prog 60 = true) ∧ (fOff Try.prog 73 6 = some 7) ∧ (ldK Try.prog 3 = some none) ∧ (arK Try.prog 87 = none) ∧ (ldK Try.prog 71 = some (some 2)) ∧ (noInt Try.prog 87 = true) ∧ (szK Try.prog 87 = some 1) ∧ (isFn Try.prog 58 = true) ∧ (noInt Try.prog 96 = true) ∧ (szK Try.prog 96 = some 1) ∧ (fOff Try.prog 90 1 = some 1) ∧ (szK Try.prog 3 = some 1) ∧ (fOff Try.prog 73 4 = some 4) ∧ (szK Try.prog 71 = some 2) ∧ (szK Try.prog 69 = some 1) ∧ (ldK Try.prog 69 = some none) := ⟨fo_90_2, ld_87, sl_87, pk_3, fo_90_3, ld_88, ld_96, sl_96, ar_96, fn_60, fo_73_6, ld_3, ar_87, ld_71, ni_87, sz_87, fn_58, ni_96, sz_96, fo_90_1, sz_3, fo_73_4, sz_71, sz_69, ld_69⟩
end Go.Proofs.Ytinpigpeoakeaaa
