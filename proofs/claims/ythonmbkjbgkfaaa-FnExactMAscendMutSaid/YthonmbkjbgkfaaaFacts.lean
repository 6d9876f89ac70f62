/-
  What the program's tables say of the types and functions that the walks meet, as closed facts. No condition.
-/
import Derived.Test.YthonmbkjbgkfaaaWr
import Derived.Test.YthonmbkjbgkfaaaProg
import Derived.KernelRfl
namespace Go.Proofs.Ythonmbkjbgkfaaa
open Go Go.Proofs
theorem mixed : Try.prog.follows .mixedOrders = true := by kernel_rfl
theorem sl_22 : slK Try.prog 22 = some 2 := by kernel_rfl
theorem pk_3 : ptK Try.prog 3 = false := by kernel_rfl
theorem fn_12 : isFn Try.prog 12 = true := by kernel_rfl
theorem fn_11 : isFn Try.prog 11 = true := by kernel_rfl
theorem fn_13 : isFn Try.prog 13 = true := by kernel_rfl
theorem fn_14 : isFn Try.prog 14 = true := by kernel_rfl
theorem fn_15 : isFn Try.prog 15 = true := by kernel_rfl
theorem sl_26 : slK Try.prog 26 = some 1 := by kernel_rfl
theorem fn_17 : isFn Try.prog 17 = true := by kernel_rfl
theorem fn_16 : isFn Try.prog 16 = true := by kernel_rfl
theorem fn_18 : isFn Try.prog 18 = true := by kernel_rfl
theorem fn_20 : isFn Try.prog 20 = true := by kernel_rfl
theorem fn_19 : isFn Try.prog 19 = true := by kernel_rfl
theorem fn_21 : isFn Try.prog 21 = true := by kernel_rfl
theorem fn_23 : isFn Try.prog 23 = true := by kernel_rfl
theorem fn_22 : isFn Try.prog 22 = true := by kernel_rfl
theorem fn_24 : isFn Try.prog 24 = true := by kernel_rfl
theorem fn_25 : isFn Try.prog 25 = true := by kernel_rfl
theorem fn_26 : isFn Try.prog 26 = true := by kernel_rfl
theorem fn_27 : isFn Try.prog 27 = true := by kernel_rfl
theorem sz_38 : szK Try.prog 38 = some 3 := by kernel_rfl
theorem fn_28 : isFn Try.prog 28 = true := by kernel_rfl
theorem ld_38 : ldK Try.prog 38 = some (some 3) := by kernel_rfl
theorem pk_38 : ptK Try.prog 38 = false := by kernel_rfl
theorem fn_29 : isFn Try.prog 29 = true := by kernel_rfl
theorem fn_30 : isFn Try.prog 30 = true := by kernel_rfl
theorem fn_31 : isFn Try.prog 31 = true := by kernel_rfl
theorem fn_32 : isFn Try.prog 32 = true := by kernel_rfl
theorem fn_33 : isFn Try.prog 33 = true := by kernel_rfl
theorem fn_34 : isFn Try.prog 34 = true := by kernel_rfl
theorem fn_35 : isFn Try.prog 35 = true := by kernel_rfl
theorem fn_36 : isFn Try.prog 36 = true := by kernel_rfl
theorem fn_37 : isFn Try.prog 37 = true := by kernel_rfl
theorem fn_38 : isFn Try.prog 38 = true := by kernel_rfl
theorem fn_39 : isFn Try.prog 39 = true := by kernel_rfl
theorem fn_40 : isFn Try.prog 40 = true := by kernel_rfl
theorem fn_41 : isFn Try.prog 41 = true := by kernel_rfl
theorem fn_42 : isFn Try.prog 42 = true := by kernel_rfl
theorem fn_43 : isFn Try.prog 43 = true := by kernel_rfl
theorem fn_44 : isFn Try.prog 44 = true := by kernel_rfl
theorem ar_22 : arK Try.prog 22 = none := by kernel_rfl
theorem ld_36 : ldK Try.prog 36 = some (some 2) := by kernel_rfl
theorem fn_45 : isFn Try.prog 45 = true := by kernel_rfl
theorem fn_46 : isFn Try.prog 46 = true := by kernel_rfl
theorem fn_47 : isFn Try.prog 47 = true := by kernel_rfl
theorem sz_36 : szK Try.prog 36 = some 2 := by kernel_rfl
theorem fn_48 : isFn Try.prog 48 = true := by kernel_rfl
theorem fn_50 : isFn Try.prog 50 = true := by kernel_rfl
theorem fn_49 : isFn Try.prog 49 = true := by kernel_rfl
theorem fo_42_0 : fOff Try.prog 42 0 = some 0 := by kernel_rfl
theorem ld_26 : ldK Try.prog 26 = some none := by kernel_rfl
theorem fn_51 : isFn Try.prog 51 = true := by kernel_rfl
theorem fn_52 : isFn Try.prog 52 = true := by kernel_rfl
theorem fo_36_0 : fOff Try.prog 36 0 = some 0 := by kernel_rfl
theorem ld_3 : ldK Try.prog 3 = some none := by kernel_rfl
theorem ni_26 : noInt Try.prog 26 = true := by kernel_rfl
theorem fo_36_1 : fOff Try.prog 36 1 = some 1 := by kernel_rfl
theorem ar_26 : arK Try.prog 26 = none := by kernel_rfl
theorem fn_53 : isFn Try.prog 53 = true := by kernel_rfl
theorem ni_47 : noInt Try.prog 47 = true := by kernel_rfl
theorem sl_47 : slK Try.prog 47 = some 3 := by kernel_rfl
theorem ar_47 : arK Try.prog 47 = none := by kernel_rfl
theorem fn_55 : isFn Try.prog 55 = true := by kernel_rfl
theorem fn_54 : isFn Try.prog 54 = true := by kernel_rfl
theorem ld_22 : ldK Try.prog 22 = some none := by kernel_rfl
theorem fn_56 : isFn Try.prog 56 = true := by kernel_rfl
theorem pk_36 : ptK Try.prog 36 = false := by kernel_rfl
theorem fn_57 : isFn Try.prog 57 = true := by kernel_rfl
theorem fn_58 : isFn Try.prog 58 = true := by kernel_rfl
theorem fn_59 : isFn Try.prog 59 = true := by kernel_rfl
theorem ld_42 : ldK Try.prog 42 = some (some 3) := by kernel_rfl
theorem fn_60 : isFn Try.prog 60 = true := by kernel_rfl
theorem fn_61 : isFn Try.prog 61 = true := by kernel_rfl
theorem fn_62 : isFn Try.prog 62 = true := by kernel_rfl
theorem fn_63 : isFn Try.prog 63 = true := by kernel_rfl
theorem fn_64 : isFn Try.prog 64 = true := by kernel_rfl
theorem fo_92_3 : fOff Try.prog 92 3 = some 3 := by kernel_rfl
theorem fn_65 : isFn Try.prog 65 = true := by kernel_rfl
theorem ni_22 : noInt Try.prog 22 = true := by kernel_rfl
theorem fn_66 : isFn Try.prog 66 = true := by kernel_rfl
theorem fn_67 : isFn Try.prog 67 = true := by kernel_rfl
theorem fn_68 : isFn Try.prog 68 = true := by kernel_rfl
theorem fn_69 : isFn Try.prog 69 = true := by kernel_rfl
theorem fn_70 : isFn Try.prog 70 = true := by kernel_rfl
theorem fn_71 : isFn Try.prog 71 = true := by kernel_rfl
theorem fn_72 : isFn Try.prog 72 = true := by kernel_rfl
theorem sz_100 : szK Try.prog 100 = some 1 := by kernel_rfl
theorem sz_3 : szK Try.prog 3 = some 1 := by kernel_rfl
theorem fo_92_2 : fOff Try.prog 92 2 = some 2 := by kernel_rfl
theorem sz_88 : szK Try.prog 88 = some 1 := by kernel_rfl
theorem sz_90 : szK Try.prog 90 = some 2 := by kernel_rfl
theorem ld_88 : ldK Try.prog 88 = some none := by kernel_rfl
theorem pk_88 : ptK Try.prog 88 = true := by kernel_rfl
theorem fn_74 : isFn Try.prog 74 = true := by kernel_rfl
theorem fn_75 : isFn Try.prog 75 = true := by kernel_rfl
theorem ld_90 : ldK Try.prog 90 = some (some 2) := by kernel_rfl
theorem ni_104 : noInt Try.prog 104 = true := by kernel_rfl
theorem fo_107_2 : fOff Try.prog 107 2 = some 2 := by kernel_rfl
theorem sz_104 : szK Try.prog 104 = some 1 := by kernel_rfl
theorem fo_107_1 : fOff Try.prog 107 1 = some 1 := by kernel_rfl
theorem fo_92_4 : fOff Try.prog 92 4 = some 4 := by kernel_rfl
theorem fo_90_0 : fOff Try.prog 90 0 = some 0 := by kernel_rfl
theorem fn_76 : isFn Try.prog 76 = true := by kernel_rfl
theorem fn_77 : isFn Try.prog 77 = true := by kernel_rfl
theorem fo_107_3 : fOff Try.prog 107 3 = some 3 := by kernel_rfl
theorem ld_105 : ldK Try.prog 105 = some none := by kernel_rfl
theorem fo_92_6 : fOff Try.prog 92 6 = some 7 := by kernel_rfl
theorem sz_113 : szK Try.prog 113 = some 1 := by kernel_rfl
theorem ni_113 : noInt Try.prog 113 = true := by kernel_rfl
theorem fn_78 : isFn Try.prog 78 = true := by kernel_rfl
theorem fo_90_1 : fOff Try.prog 90 1 = some 1 := by kernel_rfl
theorem fn_79 : isFn Try.prog 79 = true := by kernel_rfl
theorem fn_80 : isFn Try.prog 80 = true := by kernel_rfl
theorem fn_81 : isFn Try.prog 81 = true := by kernel_rfl
theorem fn_82 : isFn Try.prog 82 = true := by kernel_rfl
theorem ld_104 : ldK Try.prog 104 = some none := by kernel_rfl
theorem sl_104 : slK Try.prog 104 = some 2 := by kernel_rfl
theorem ar_104 : arK Try.prog 104 = none := by kernel_rfl
theorem ld_113 : ldK Try.prog 113 = some none := by kernel_rfl
theorem sl_113 : slK Try.prog 113 = some 1 := by kernel_rfl
theorem ar_113 : arK Try.prog 113 = none := by kernel_rfl
theorem fn_83 : isFn Try.prog 83 = true := by kernel_rfl
theorem fn_84 : isFn Try.prog 84 = true := by kernel_rfl
theorem ld_100 : ldK Try.prog 100 = some none := by kernel_rfl
theorem fo_92_5 : fOff Try.prog 92 5 = some 6 := by kernel_rfl
theorem fn_86 : isFn Try.prog 86 = true := by kernel_rfl
theorem co_3 : coK Try.prog 3 = true := by kernel_rfl
theorem co_122 : coK Try.prog 122 = false := by kernel_rfl
theorem fo_92_7 : fOff Try.prog 92 7 = some 8 := by kernel_rfl
theorem sz_4 : szK Try.prog 4 = some 1 := by kernel_rfl
theorem ld_4 : ldK Try.prog 4 = some none := by kernel_rfl
theorem co_125 : coK Try.prog 125 = false := by kernel_rfl
theorem fo_92_8 : fOff Try.prog 92 8 = some 9 := by kernel_rfl
theorem fo_92_0 : fOff Try.prog 92 0 = some 0 := by kernel_rfl
theorem ld_86 : ldK Try.prog 86 = some none := by kernel_rfl
theorem fo_107_0 : fOff Try.prog 107 0 = some 0 := by kernel_rfl
theorem sz_86 : szK Try.prog 86 = some 1 := by kernel_rfl
theorem sz_105 : szK Try.prog 105 = some 1 := by kernel_rfl
theorem fn_87 : isFn Try.prog 87 = true := by kernel_rfl
theorem fn_88 : isFn Try.prog 88 = true := by kernel_rfl
theorem pk_86 : ptK Try.prog 86 = false := by kernel_rfl
theorem fn_89 : isFn Try.prog 89 = true := by kernel_rfl
theorem pk_105 : ptK Try.prog 105 = true := by kernel_rfl
theorem ld_77 : ldK Try.prog 77 = some none := by kernel_rfl
theorem sz_22 : szK Try.prog 22 = some 1 := by kernel_rfl
theorem fn_106 : isFn Try.prog 106 = true := by kernel_rfl
theorem fo_92_1 : fOff Try.prog 92 1 = some 1 := by kernel_rfl
theorem ld_87 : ldK Try.prog 87 = some none := by kernel_rfl
theorem pk_87 : ptK Try.prog 87 = true := by kernel_rfl
theorem sz_87 : szK Try.prog 87 = some 1 := by kernel_rfl
theorem ld_92 : ldK Try.prog 92 = some (some 10) := by kernel_rfl
theorem sz_92 : szK Try.prog 92 = some 10 := by kernel_rfl
theorem fn_107 : isFn Try.prog 107 = true := by kernel_rfl
theorem ow_3 : (slK Try.prog 22 = some 2) ∧ (ptK Try.prog 3 = false) ∧ (isFn Try.prog 12 = true) ∧ (isFn Try.prog 11 = true) ∧ (isFn Try.prog 13 = true) := ⟨sl_22, pk_3, fn_12, fn_11, fn_13⟩
theorem ow_4 : (slK Try.prog 22 = some 2) ∧ (ptK Try.prog 3 = false) ∧ (isFn Try.prog 12 = true) ∧ (isFn Try.prog 14 = true) ∧ (isFn Try.prog 13 = true) := ⟨sl_22, pk_3, fn_12, fn_14, fn_13⟩
theorem ow_5 : (slK Try.prog 22 = some 2) ∧ (ptK Try.prog 3 = false) ∧ (isFn Try.prog 12 = true) ∧ (isFn Try.prog 15 = true) ∧ (isFn Try.prog 13 = true) := ⟨sl_22, pk_3, fn_12, fn_15, fn_13⟩
theorem ow_6 : (slK Try.prog 22 = some 2) ∧ (ptK Try.prog 3 = false) ∧ (slK Try.prog 26 = some 1) ∧ (isFn Try.prog 12 = true) ∧ (isFn Try.prog 17 = true) ∧ (isFn Try.prog 16 = true) ∧ (isFn Try.prog 13 = true) := ⟨sl_22, pk_3, sl_26, fn_12, fn_17, fn_16, fn_13⟩
theorem ow_7 : (slK Try.prog 22 = some 2) ∧ (ptK Try.prog 3 = false) ∧ (isFn Try.prog 12 = true) ∧ (isFn Try.prog 18 = true) ∧ (isFn Try.prog 13 = true) := ⟨sl_22, pk_3, fn_12, fn_18, fn_13⟩
theorem ow_8 : (slK Try.prog 22 = some 2) ∧ (ptK Try.prog 3 = false) ∧ (isFn Try.prog 12 = true) ∧ (isFn Try.prog 20 = true) ∧ (isFn Try.prog 19 = true) ∧ (isFn Try.prog 13 = true) := ⟨sl_22, pk_3, fn_12, fn_20, fn_19, fn_13⟩
theorem ow_9 : (slK Try.prog 22 = some 2) ∧ (ptK Try.prog 3 = false) ∧ (isFn Try.prog 12 = true) ∧ (isFn Try.prog 21 = true) ∧ (isFn Try.prog 13 = true) := ⟨sl_22, pk_3, fn_12, fn_21, fn_13⟩
theorem ow_10 : (slK Try.prog 22 = some 2) ∧ (ptK Try.prog 3 = false) ∧ (isFn Try.prog 23 = true) ∧ (isFn Try.prog 22 = true) ∧ (isFn Try.prog 13 = true) ∧ (isFn Try.prog 24 = true) := ⟨sl_22, pk_3, fn_23, fn_22, fn_13, fn_24⟩
theorem ow_11 : (isFn Try.prog 25 = true) ∧ (isFn Try.prog 26 = true) ∧ (slK Try.prog 22 = some 2) ∧ (ptK Try.prog 3 = false) := ⟨fn_25, fn_26, sl_22, pk_3⟩
theorem ow_13 : (ptK Try.prog 3 = false) := pk_3
theorem ow_14 : (isFn Try.prog 27 = true) ∧ (szK Try.prog 38 = some 3) ∧ (isFn Try.prog 28 = true) ∧ (ldK Try.prog 38 = some (some 3)) ∧ (ptK Try.prog 38 = false) := ⟨fn_27, sz_38, fn_28, ld_38, pk_38⟩
theorem ow_15 : (isFn Try.prog 29 = true) ∧ (isFn Try.prog 26 = true) ∧ (isFn Try.prog 30 = true) ∧ (isFn Try.prog 31 = true) ∧ (isFn Try.prog 32 = true) := ⟨fn_29, fn_26, fn_30, fn_31, fn_32⟩
theorem ow_16 : (isFn Try.prog 33 = true) ∧ (isFn Try.prog 34 = true) ∧ (isFn Try.prog 35 = true) := ⟨fn_33, fn_34, fn_35⟩
theorem ow_18 : (isFn Try.prog 36 = true) ∧ (isFn Try.prog 37 = true) ∧ (isFn Try.prog 38 = true) := ⟨fn_36, fn_37, fn_38⟩
theorem ow_19 : (isFn Try.prog 39 = true) ∧ (isFn Try.prog 40 = true) ∧ (ptK Try.prog 3 = false) ∧ (isFn Try.prog 35 = true) ∧ (isFn Try.prog 38 = true) := ⟨fn_39, fn_40, pk_3, fn_35, fn_38⟩
theorem ow_21 : (isFn Try.prog 41 = true) ∧ (isFn Try.prog 42 = true) ∧ (isFn Try.prog 38 = true) := ⟨fn_41, fn_42, fn_38⟩
theorem ow_22 : (isFn Try.prog 43 = true) ∧ (isFn Try.prog 44 = true) ∧ (isFn Try.prog 35 = true) ∧ (isFn Try.prog 38 = true) := ⟨fn_43, fn_44, fn_35, fn_38⟩
theorem ow_24 : (slK Try.prog 22 = some 2) ∧ (ptK Try.prog 3 = false) ∧ (arK Try.prog 22 = none) ∧ (ldK Try.prog 36 = some (some 2)) ∧ (isFn Try.prog 45 = true) := ⟨sl_22, pk_3, ar_22, ld_36, fn_45⟩
theorem ow_25 : (isFn Try.prog 46 = true) ∧ (isFn Try.prog 47 = true) := ⟨fn_46, fn_47⟩
theorem ow_26 : (slK Try.prog 22 = some 2) ∧ (ptK Try.prog 3 = false) ∧ (arK Try.prog 22 = none) ∧ (ldK Try.prog 36 = some (some 2)) ∧ (szK Try.prog 36 = some 2) ∧ (isFn Try.prog 48 = true) := ⟨sl_22, pk_3, ar_22, ld_36, sz_36, fn_48⟩
theorem ow_27 : (isFn Try.prog 46 = true) ∧ (isFn Try.prog 50 = true) ∧ (isFn Try.prog 49 = true) ∧ (szK Try.prog 38 = some 3) := ⟨fn_46, fn_50, fn_49, sz_38⟩
theorem ow_28 : (fOff Try.prog 42 0 = some 0) ∧ (ldK Try.prog 26 = some none) ∧ (isFn Try.prog 26 = true) ∧ (slK Try.prog 22 = some 2) ∧ (ptK Try.prog 3 = false) ∧ (isFn Try.prog 51 = true) ∧ (szK Try.prog 38 = some 3) := ⟨fo_42_0, ld_26, fn_26, sl_22, pk_3, fn_51, sz_38⟩
theorem ow_29 : (isFn Try.prog 46 = true) ∧ (isFn Try.prog 52 = true) := ⟨fn_46, fn_52⟩
theorem ow_30 : (slK Try.prog 22 = some 2) ∧ (ptK Try.prog 3 = false) ∧ (arK Try.prog 22 = none) ∧ (ldK Try.prog 36 = some (some 2)) ∧ (szK Try.prog 36 = some 2) ∧ (fOff Try.prog 36 0 = some 0) ∧ (ldK Try.prog 3 = some none) ∧ (noInt Try.prog 26 = true) := ⟨sl_22, pk_3, ar_22, ld_36, sz_36, fo_36_0, ld_3, ni_26⟩
theorem ow_31 : (slK Try.prog 22 = some 2) ∧ (ptK Try.prog 3 = false) ∧ (arK Try.prog 22 = none) ∧ (ldK Try.prog 36 = some (some 2)) ∧ (szK Try.prog 36 = some 2) ∧ (fOff Try.prog 36 1 = some 1) ∧ (ldK Try.prog 3 = some none) ∧ (noInt Try.prog 26 = true) := ⟨sl_22, pk_3, ar_22, ld_36, sz_36, fo_36_1, ld_3, ni_26⟩
theorem ow_32 : (slK Try.prog 26 = some 1) ∧ (ptK Try.prog 3 = false) ∧ (arK Try.prog 26 = none) ∧ (ldK Try.prog 3 = some none) := ⟨sl_26, pk_3, ar_26, ld_3⟩
theorem ow_33 : (isFn Try.prog 46 = true) ∧ (slK Try.prog 26 = some 1) ∧ (ptK Try.prog 3 = false) ∧ (arK Try.prog 26 = none) ∧ (ldK Try.prog 3 = some none) ∧ (isFn Try.prog 53 = true) ∧ (isFn Try.prog 49 = true) ∧ (noInt Try.prog 47 = true) := ⟨fn_46, sl_26, pk_3, ar_26, ld_3, fn_53, fn_49, ni_47⟩
theorem ow_34 : (fOff Try.prog 42 0 = some 0) ∧ (ldK Try.prog 26 = some none) ∧ (isFn Try.prog 26 = true) ∧ (slK Try.prog 26 = some 1) ∧ (ptK Try.prog 3 = false) ∧ (arK Try.prog 26 = none) ∧ (ldK Try.prog 3 = some none) ∧ (isFn Try.prog 51 = true) ∧ (noInt Try.prog 47 = true) := ⟨fo_42_0, ld_26, fn_26, sl_26, pk_3, ar_26, ld_3, fn_51, ni_47⟩
theorem ow_35 : (slK Try.prog 47 = some 3) ∧ (ptK Try.prog 3 = false) ∧ (arK Try.prog 47 = none) ∧ (ldK Try.prog 38 = some (some 3)) ∧ (ptK Try.prog 38 = false) := ⟨sl_47, pk_3, ar_47, ld_38, pk_38⟩
theorem ow_36 : (isFn Try.prog 46 = true) ∧ (isFn Try.prog 55 = true) ∧ (isFn Try.prog 54 = true) ∧ (ldK Try.prog 22 = some none) := ⟨fn_46, fn_55, fn_54, ld_22⟩
theorem ow_37 : (fOff Try.prog 42 0 = some 0) ∧ (ldK Try.prog 26 = some none) ∧ (isFn Try.prog 26 = true) ∧ (isFn Try.prog 56 = true) := ⟨fo_42_0, ld_26, fn_26, fn_56⟩
theorem ow_38 : (slK Try.prog 22 = some 2) ∧ (ptK Try.prog 3 = false) ∧ (arK Try.prog 22 = none) ∧ (ldK Try.prog 36 = some (some 2)) ∧ (ptK Try.prog 36 = false) := ⟨sl_22, pk_3, ar_22, ld_36, pk_36⟩
theorem ow_39 : (isFn Try.prog 46 = true) ∧ (isFn Try.prog 57 = true) ∧ (isFn Try.prog 47 = true) ∧ (slK Try.prog 22 = some 2) ∧ (ptK Try.prog 3 = false) ∧ (arK Try.prog 22 = none) ∧ (ldK Try.prog 36 = some (some 2)) ∧ (szK Try.prog 36 = some 2) ∧ (fOff Try.prog 36 0 = some 0) ∧ (ldK Try.prog 3 = some none) ∧ (fOff Try.prog 36 1 = some 1) ∧ (isFn Try.prog 58 = true) ∧ (isFn Try.prog 49 = true) ∧ (noInt Try.prog 47 = true) ∧ (isFn Try.prog 59 = true) := ⟨fn_46, fn_57, fn_47, sl_22, pk_3, ar_22, ld_36, sz_36, fo_36_0, ld_3, fo_36_1, fn_58, fn_49, ni_47, fn_59⟩
theorem ow_40 : (ldK Try.prog 42 = some (some 3)) ∧ (isFn Try.prog 44 = true) := ⟨ld_42, fn_44⟩
theorem ow_41 : (isFn Try.prog 46 = true) ∧ (isFn Try.prog 55 = true) ∧ (isFn Try.prog 60 = true) ∧ (ldK Try.prog 22 = some none) := ⟨fn_46, fn_55, fn_60, ld_22⟩
theorem ow_42 : (fOff Try.prog 42 0 = some 0) ∧ (ldK Try.prog 26 = some none) ∧ (isFn Try.prog 26 = true) ∧ (ldK Try.prog 36 = some (some 2)) ∧ (isFn Try.prog 61 = true) ∧ (isFn Try.prog 56 = true) := ⟨fo_42_0, ld_26, fn_26, ld_36, fn_61, fn_56⟩
theorem ow_43 : (isFn Try.prog 46 = true) ∧ (slK Try.prog 22 = some 2) ∧ (ptK Try.prog 3 = false) ∧ (arK Try.prog 22 = none) ∧ (ldK Try.prog 36 = some (some 2)) ∧ (szK Try.prog 36 = some 2) ∧ (fOff Try.prog 36 0 = some 0) ∧ (ldK Try.prog 3 = some none) ∧ (fOff Try.prog 36 1 = some 1) ∧ (isFn Try.prog 62 = true) ∧ (isFn Try.prog 49 = true) ∧ (noInt Try.prog 47 = true) ∧ (isFn Try.prog 59 = true) := ⟨fn_46, sl_22, pk_3, ar_22, ld_36, sz_36, fo_36_0, ld_3, fo_36_1, fn_62, fn_49, ni_47, fn_59⟩
theorem ow_44 : (slK Try.prog 22 = some 2) ∧ (ptK Try.prog 3 = false) ∧ (arK Try.prog 22 = none) ∧ (ldK Try.prog 36 = some (some 2)) ∧ (szK Try.prog 36 = some 2) ∧ (fOff Try.prog 42 0 = some 0) ∧ (ldK Try.prog 26 = some none) ∧ (isFn Try.prog 48 = true) ∧ (szK Try.prog 38 = some 3) ∧ (ldK Try.prog 38 = some (some 3)) ∧ (noInt Try.prog 47 = true) := ⟨sl_22, pk_3, ar_22, ld_36, sz_36, fo_42_0, ld_26, fn_48, sz_38, ld_38, ni_47⟩
theorem ow_45 : (fOff Try.prog 36 0 = some 0) ∧ (ldK Try.prog 3 = some none) ∧ (isFn Try.prog 63 = true) ∧ (ptK Try.prog 3 = false) := ⟨fo_36_0, ld_3, fn_63, pk_3⟩
theorem ow_46 : (isFn Try.prog 64 = true) ∧ (slK Try.prog 22 = some 2) ∧ (ptK Try.prog 3 = false) ∧ (arK Try.prog 22 = none) ∧ (ldK Try.prog 36 = some (some 2)) ∧ (szK Try.prog 36 = some 2) ∧ (fOff Try.prog 36 0 = some 0) ∧ (ldK Try.prog 3 = some none) ∧ (fOff Try.prog 36 1 = some 1) ∧ (isFn Try.prog 58 = true) := ⟨fn_64, sl_22, pk_3, ar_22, ld_36, sz_36, fo_36_0, ld_3, fo_36_1, fn_58⟩
theorem ow_47 : (fOff Try.prog 92 3 = some 3) ∧ (ldK Try.prog 3 = some none) := ⟨fo_92_3, ld_3⟩
theorem ow_48 : (ldK Try.prog 36 = some (some 2)) ∧ (isFn Try.prog 65 = true) ∧ (slK Try.prog 22 = some 2) ∧ (noInt Try.prog 22 = true) ∧ (ptK Try.prog 3 = false) ∧ (arK Try.prog 22 = none) ∧ (szK Try.prog 38 = some 3) := ⟨ld_36, fn_65, sl_22, ni_22, pk_3, ar_22, sz_38⟩
theorem ow_49 : (isFn Try.prog 66 = true) ∧ (szK Try.prog 38 = some 3) := ⟨fn_66, sz_38⟩
theorem ow_50 : (isFn Try.prog 67 = true) := fn_67
theorem ow_51 : (isFn Try.prog 68 = true) ∧ (szK Try.prog 38 = some 3) ∧ (ldK Try.prog 38 = some (some 3)) := ⟨fn_68, sz_38, ld_38⟩
theorem ow_52 : (isFn Try.prog 69 = true) := fn_69
theorem ow_53 : (isFn Try.prog 70 = true) := fn_70
theorem ow_54 : (isFn Try.prog 71 = true) := fn_71
theorem ow_55 : (isFn Try.prog 72 = true) ∧ (szK Try.prog 100 = some 1) := ⟨fn_72, sz_100⟩
theorem ow_56 : (ptK Try.prog 3 = false) ∧ (slK Try.prog 22 = some 2) := ⟨pk_3, sl_22⟩
theorem ow_57 : (fOff Try.prog 92 3 = some 3) ∧ (szK Try.prog 3 = some 1) ∧ (fOff Try.prog 92 2 = some 2) ∧ (szK Try.prog 88 = some 1) := ⟨fo_92_3, sz_3, fo_92_2, sz_88⟩
theorem ow_58 : (szK Try.prog 90 = some 2) ∧ (fOff Try.prog 92 2 = some 2) ∧ (ldK Try.prog 88 = some none) ∧ (ptK Try.prog 88 = true) ∧ (isFn Try.prog 74 = true) ∧ (isFn Try.prog 75 = true) ∧ (szK Try.prog 88 = some 1) ∧ (ldK Try.prog 90 = some (some 2)) ∧ (noInt Try.prog 104 = true) ∧ (fOff Try.prog 107 2 = some 2) ∧ (szK Try.prog 104 = some 1) ∧ (fOff Try.prog 107 1 = some 1) ∧ (szK Try.prog 3 = some 1) ∧ (fOff Try.prog 92 3 = some 3) ∧ (fOff Try.prog 92 4 = some 4) ∧ (fOff Try.prog 90 0 = some 0) ∧ (ldK Try.prog 3 = some none) ∧ (isFn Try.prog 76 = true) ∧ (isFn Try.prog 77 = true) ∧ (fOff Try.prog 107 3 = some 3) ∧ (ldK Try.prog 105 = some none) ∧ (fOff Try.prog 92 6 = some 7) ∧ (ptK Try.prog 3 = false) ∧ (szK Try.prog 113 = some 1) ∧ (noInt Try.prog 113 = true) ∧ (isFn Try.prog 78 = true) ∧ (fOff Try.prog 90 1 = some 1) ∧ (isFn Try.prog 58 = true) := ⟨sz_90, fo_92_2, ld_88, pk_88, fn_74, fn_75, sz_88, ld_90, ni_104, fo_107_2, sz_104, fo_107_1, sz_3, fo_92_3, fo_92_4, fo_90_0, ld_3, fn_76, fn_77, fo_107_3, ld_105, fo_92_6, pk_3, sz_113, ni_113, fn_78, fo_90_1, fn_58⟩
theorem ow_59 : (isFn Try.prog 55 = true) ∧ (isFn Try.prog 79 = true) ∧ (ldK Try.prog 22 = some none) := ⟨fn_55, fn_79, ld_22⟩
theorem ow_60 : (isFn Try.prog 80 = true) := fn_80
theorem ow_61 : (ldK Try.prog 36 = some (some 2)) ∧ (isFn Try.prog 65 = true) ∧ (slK Try.prog 22 = some 2) := ⟨ld_36, fn_65, sl_22⟩
theorem ow_62 : (szK Try.prog 90 = some 2) ∧ (fOff Try.prog 92 2 = some 2) ∧ (ldK Try.prog 88 = some none) ∧ (ptK Try.prog 88 = true) ∧ (fOff Try.prog 90 1 = some 1) ∧ (ldK Try.prog 3 = some none) ∧ (fOff Try.prog 90 0 = some 0) ∧ (isFn Try.prog 58 = true) ∧ (isFn Try.prog 81 = true) ∧ (fOff Try.prog 107 1 = some 1) ∧ (ptK Try.prog 3 = false) ∧ (szK Try.prog 3 = some 1) ∧ (isFn Try.prog 82 = true) ∧ (fOff Try.prog 107 2 = some 2) ∧ (ldK Try.prog 104 = some none) ∧ (slK Try.prog 104 = some 2) ∧ (fOff Try.prog 92 6 = some 7) ∧ (arK Try.prog 104 = none) ∧ (ldK Try.prog 90 = some (some 2)) ∧ (noInt Try.prog 104 = true) ∧ (szK Try.prog 104 = some 1) ∧ (fOff Try.prog 92 3 = some 3) ∧ (fOff Try.prog 92 4 = some 4) ∧ (fOff Try.prog 107 3 = some 3) ∧ (ldK Try.prog 105 = some none) ∧ (ldK Try.prog 113 = some none) ∧ (slK Try.prog 113 = some 1) ∧ (arK Try.prog 113 = none) := ⟨sz_90, fo_92_2, ld_88, pk_88, fo_90_1, ld_3, fo_90_0, fn_58, fn_81, fo_107_1, pk_3, sz_3, fn_82, fo_107_2, ld_104, sl_104, fo_92_6, ar_104, ld_90, ni_104, sz_104, fo_92_3, fo_92_4, fo_107_3, ld_105, ld_113, sl_113, ar_113⟩
theorem ow_63 : (slK Try.prog 26 = some 1) ∧ (ptK Try.prog 3 = false) ∧ (arK Try.prog 26 = none) ∧ (ldK Try.prog 3 = some none) := ⟨sl_26, pk_3, ar_26, ld_3⟩
theorem ow_64 : (isFn Try.prog 74 = true) := fn_74
theorem ow_65 : (slK Try.prog 22 = some 2) ∧ (ptK Try.prog 3 = false) ∧ (arK Try.prog 22 = none) ∧ (ldK Try.prog 36 = some (some 2)) ∧ (isFn Try.prog 45 = true) := ⟨sl_22, pk_3, ar_22, ld_36, fn_45⟩
theorem ow_66 : (szK Try.prog 38 = some 3) ∧ (ldK Try.prog 36 = some (some 2)) := ⟨sz_38, ld_36⟩
theorem ow_67 : (fOff Try.prog 92 2 = some 2) ∧ (ldK Try.prog 88 = some none) ∧ (ptK Try.prog 88 = true) ∧ (fOff Try.prog 92 4 = some 4) ∧ (fOff Try.prog 90 1 = some 1) ∧ (ldK Try.prog 3 = some none) ∧ (fOff Try.prog 90 0 = some 0) ∧ (isFn Try.prog 81 = true) ∧ (isFn Try.prog 82 = true) ∧ (fOff Try.prog 107 2 = some 2) ∧ (ldK Try.prog 104 = some none) ∧ (slK Try.prog 104 = some 2) ∧ (ptK Try.prog 3 = false) ∧ (arK Try.prog 104 = none) ∧ (ldK Try.prog 90 = some (some 2)) ∧ (szK Try.prog 90 = some 2) ∧ (fOff Try.prog 107 3 = some 3) ∧ (ldK Try.prog 105 = some none) ∧ (ldK Try.prog 113 = some none) ∧ (slK Try.prog 113 = some 1) ∧ (arK Try.prog 113 = none) := ⟨fo_92_2, ld_88, pk_88, fo_92_4, fo_90_1, ld_3, fo_90_0, fn_81, fn_82, fo_107_2, ld_104, sl_104, pk_3, ar_104, ld_90, sz_90, fo_107_3, ld_105, ld_113, sl_113, ar_113⟩
theorem ow_68 : (ptK Try.prog 3 = false) ∧ (slK Try.prog 22 = some 2) ∧ (szK Try.prog 38 = some 3) ∧ (noInt Try.prog 22 = true) ∧ (arK Try.prog 22 = none) ∧ (ldK Try.prog 36 = some (some 2)) := ⟨pk_3, sl_22, sz_38, ni_22, ar_22, ld_36⟩
theorem ow_69 : (isFn Try.prog 47 = true) ∧ (fOff Try.prog 92 2 = some 2) ∧ (ldK Try.prog 88 = some none) ∧ (ptK Try.prog 88 = true) ∧ (isFn Try.prog 83 = true) := ⟨fn_47, fo_92_2, ld_88, pk_88, fn_83⟩
theorem ow_70 : (fOff Try.prog 92 2 = some 2) ∧ (ldK Try.prog 88 = some none) ∧ (ptK Try.prog 88 = true) ∧ (ptK Try.prog 3 = false) ∧ (fOff Try.prog 92 3 = some 3) ∧ (ldK Try.prog 3 = some none) ∧ (fOff Try.prog 92 4 = some 4) ∧ (fOff Try.prog 90 1 = some 1) ∧ (fOff Try.prog 90 0 = some 0) ∧ (isFn Try.prog 81 = true) ∧ (isFn Try.prog 82 = true) ∧ (fOff Try.prog 107 2 = some 2) ∧ (ldK Try.prog 104 = some none) ∧ (slK Try.prog 104 = some 2) ∧ (arK Try.prog 104 = none) ∧ (fOff Try.prog 107 3 = some 3) ∧ (ldK Try.prog 105 = some none) ∧ (ldK Try.prog 113 = some none) ∧ (slK Try.prog 113 = some 1) ∧ (arK Try.prog 113 = none) ∧ (fOff Try.prog 107 1 = some 1) := ⟨fo_92_2, ld_88, pk_88, pk_3, fo_92_3, ld_3, fo_92_4, fo_90_1, fo_90_0, fn_81, fn_82, fo_107_2, ld_104, sl_104, ar_104, fo_107_3, ld_105, ld_113, sl_113, ar_113, fo_107_1⟩
theorem ow_71 : (fOff Try.prog 92 2 = some 2) ∧ (ldK Try.prog 88 = some none) ∧ (ptK Try.prog 88 = true) ∧ (isFn Try.prog 84 = true) := ⟨fo_92_2, ld_88, pk_88, fn_84⟩
theorem ow_73 : (ldK Try.prog 100 = some none) := ld_100
theorem ow_74 : (fOff Try.prog 92 5 = some 6) ∧ (ldK Try.prog 3 = some none) ∧ (ptK Try.prog 3 = false) ∧ (isFn Try.prog 86 = true) ∧ (szK Try.prog 3 = some 1) ∧ (fOff Try.prog 92 6 = some 7) ∧ (fOff Try.prog 92 4 = some 4) ∧ (fOff Try.prog 90 0 = some 0) ∧ (coK Try.prog 3 = true) ∧ (coK Try.prog 122 = false) ∧ (fOff Try.prog 92 7 = some 8) ∧ (szK Try.prog 4 = some 1) ∧ (ldK Try.prog 4 = some none) ∧ (coK Try.prog 125 = false) ∧ (fOff Try.prog 92 8 = some 9) := ⟨fo_92_5, ld_3, pk_3, fn_86, sz_3, fo_92_6, fo_92_4, fo_90_0, co_3, co_122, fo_92_7, sz_4, ld_4, co_125, fo_92_8⟩
theorem ow_75 : (fOff Try.prog 92 0 = some 0) ∧ (ldK Try.prog 86 = some none) ∧ (fOff Try.prog 107 0 = some 0) ∧ (szK Try.prog 86 = some 1) ∧ (fOff Try.prog 107 3 = some 3) ∧ (szK Try.prog 105 = some 1) := ⟨fo_92_0, ld_86, fo_107_0, sz_86, fo_107_3, sz_105⟩
theorem ow_76 : (isFn Try.prog 81 = true) ∧ (szK Try.prog 88 = some 1) ∧ (ldK Try.prog 88 = some none) ∧ (fOff Try.prog 90 1 = some 1) ∧ (ldK Try.prog 3 = some none) ∧ (isFn Try.prog 87 = true) ∧ (fOff Try.prog 107 2 = some 2) ∧ (ldK Try.prog 104 = some none) ∧ (slK Try.prog 104 = some 2) ∧ (arK Try.prog 104 = none) ∧ (fOff Try.prog 90 0 = some 0) ∧ (ldK Try.prog 90 = some (some 2)) ∧ (szK Try.prog 90 = some 2) ∧ (isFn Try.prog 82 = true) ∧ (fOff Try.prog 92 6 = some 7) ∧ (ptK Try.prog 3 = false) ∧ (fOff Try.prog 92 4 = some 4) ∧ (noInt Try.prog 104 = true) ∧ (szK Try.prog 104 = some 1) ∧ (fOff Try.prog 107 1 = some 1) ∧ (szK Try.prog 3 = some 1) ∧ (fOff Try.prog 107 3 = some 3) ∧ (ldK Try.prog 105 = some none) ∧ (ldK Try.prog 113 = some none) ∧ (slK Try.prog 113 = some 1) ∧ (arK Try.prog 113 = none) ∧ (isFn Try.prog 76 = true) ∧ (isFn Try.prog 77 = true) ∧ (noInt Try.prog 113 = true) ∧ (szK Try.prog 113 = some 1) := ⟨fn_81, sz_88, ld_88, fo_90_1, ld_3, fn_87, fo_107_2, ld_104, sl_104, ar_104, fo_90_0, ld_90, sz_90, fn_82, fo_92_6, pk_3, fo_92_4, ni_104, sz_104, fo_107_1, sz_3, fo_107_3, ld_105, ld_113, sl_113, ar_113, fn_76, fn_77, ni_113, sz_113⟩
theorem ow_77 : (fOff Try.prog 92 6 = some 7) ∧ (ldK Try.prog 3 = some none) ∧ (ptK Try.prog 3 = false) ∧ (fOff Try.prog 107 2 = some 2) ∧ (ldK Try.prog 104 = some none) ∧ (slK Try.prog 104 = some 2) ∧ (arK Try.prog 104 = none) ∧ (ldK Try.prog 90 = some (some 2)) ∧ (szK Try.prog 90 = some 2) ∧ (isFn Try.prog 82 = true) ∧ (isFn Try.prog 75 = true) ∧ (szK Try.prog 104 = some 1) ∧ (fOff Try.prog 107 3 = some 3) ∧ (ldK Try.prog 105 = some none) ∧ (ldK Try.prog 113 = some none) ∧ (slK Try.prog 113 = some 1) ∧ (szK Try.prog 113 = some 1) ∧ (isFn Try.prog 78 = true) ∧ (fOff Try.prog 92 4 = some 4) := ⟨fo_92_6, ld_3, pk_3, fo_107_2, ld_104, sl_104, ar_104, ld_90, sz_90, fn_82, fn_75, sz_104, fo_107_3, ld_105, ld_113, sl_113, sz_113, fn_78, fo_92_4⟩
theorem ow_78 : (fOff Try.prog 107 2 = some 2) ∧ (ldK Try.prog 104 = some none) ∧ (slK Try.prog 104 = some 2) ∧ (fOff Try.prog 107 1 = some 1) ∧ (szK Try.prog 3 = some 1) ∧ (isFn Try.prog 82 = true) ∧ (fOff Try.prog 107 3 = some 3) ∧ (ldK Try.prog 105 = some none) ∧ (ldK Try.prog 113 = some none) ∧ (slK Try.prog 113 = some 1) ∧ (ptK Try.prog 3 = false) ∧ (ldK Try.prog 3 = some none) ∧ (arK Try.prog 113 = none) ∧ (ldK Try.prog 88 = some none) := ⟨fo_107_2, ld_104, sl_104, fo_107_1, sz_3, fn_82, fo_107_3, ld_105, ld_113, sl_113, pk_3, ld_3, ar_113, ld_88⟩
theorem ow_79 : (isFn Try.prog 71 = true) := fn_71
theorem ow_80 : (fOff Try.prog 92 2 = some 2) ∧ (ldK Try.prog 88 = some none) ∧ (ptK Try.prog 88 = true) ∧ (isFn Try.prog 88 = true) := ⟨fo_92_2, ld_88, pk_88, fn_88⟩
theorem ow_81 : (ldK Try.prog 88 = some none) ∧ (fOff Try.prog 107 0 = some 0) ∧ (ldK Try.prog 86 = some none) ∧ (fOff Try.prog 92 0 = some 0) ∧ (ptK Try.prog 86 = false) ∧ (isFn Try.prog 89 = true) ∧ (szK Try.prog 88 = some 1) := ⟨ld_88, fo_107_0, ld_86, fo_92_0, pk_86, fn_89, sz_88⟩
theorem ow_82 : (fOff Try.prog 107 3 = some 3) ∧ (ldK Try.prog 105 = some none) ∧ (ptK Try.prog 105 = true) := ⟨fo_107_3, ld_105, pk_105⟩
theorem ow_83 : (isFn Try.prog 81 = true) ∧ (isFn Try.prog 82 = true) ∧ (fOff Try.prog 107 2 = some 2) ∧ (ldK Try.prog 104 = some none) ∧ (slK Try.prog 104 = some 2) ∧ (ptK Try.prog 3 = false) ∧ (arK Try.prog 104 = none) ∧ (fOff Try.prog 90 1 = some 1) ∧ (ldK Try.prog 3 = some none) ∧ (noInt Try.prog 26 = true) ∧ (fOff Try.prog 90 0 = some 0) ∧ (fOff Try.prog 107 3 = some 3) ∧ (ldK Try.prog 105 = some none) ∧ (ldK Try.prog 113 = some none) ∧ (slK Try.prog 113 = some 1) ∧ (arK Try.prog 113 = none) ∧ (isFn Try.prog 83 = true) := ⟨fn_81, fn_82, fo_107_2, ld_104, sl_104, pk_3, ar_104, fo_90_1, ld_3, ni_26, fo_90_0, fo_107_3, ld_105, ld_113, sl_113, ar_113, fn_83⟩
theorem ow_84 : (isFn Try.prog 81 = true) ∧ (isFn Try.prog 82 = true) ∧ (fOff Try.prog 107 2 = some 2) ∧ (ldK Try.prog 104 = some none) ∧ (slK Try.prog 104 = some 2) ∧ (ptK Try.prog 3 = false) ∧ (arK Try.prog 104 = none) ∧ (fOff Try.prog 90 1 = some 1) ∧ (ldK Try.prog 3 = some none) ∧ (fOff Try.prog 90 0 = some 0) ∧ (fOff Try.prog 107 3 = some 3) ∧ (ldK Try.prog 105 = some none) ∧ (ldK Try.prog 113 = some none) ∧ (slK Try.prog 113 = some 1) ∧ (arK Try.prog 113 = none) ∧ (isFn Try.prog 84 = true) := ⟨fn_81, fn_82, fo_107_2, ld_104, sl_104, pk_3, ar_104, fo_90_1, ld_3, fo_90_0, fo_107_3, ld_105, ld_113, sl_113, ar_113, fn_84⟩
theorem ow_85 : (ldK Try.prog 77 = some none) ∧ (ldK Try.prog 22 = some none) ∧ (ldK Try.prog 36 = some (some 2)) ∧ (noInt Try.prog 22 = true) ∧ (szK Try.prog 22 = some 1) ∧ (ldK Try.prog 3 = some none) ∧ (ptK Try.prog 3 = false) ∧ (slK Try.prog 22 = some 2) := ⟨ld_77, ld_22, ld_36, ni_22, sz_22, ld_3, pk_3, sl_22⟩
theorem ow_86 : (ptK Try.prog 3 = false) := pk_3
theorem ow_87 : (fOff Try.prog 107 2 = some 2) ∧ (ldK Try.prog 104 = some none) ∧ (slK Try.prog 104 = some 2) ∧ (ptK Try.prog 3 = false) ∧ (arK Try.prog 104 = none) ∧ (fOff Try.prog 90 1 = some 1) ∧ (ldK Try.prog 3 = some none) := ⟨fo_107_2, ld_104, sl_104, pk_3, ar_104, fo_90_1, ld_3⟩
theorem ow_88 : (isFn Try.prog 81 = true) ∧ (isFn Try.prog 87 = true) ∧ (isFn Try.prog 82 = true) ∧ (fOff Try.prog 107 3 = some 3) ∧ (ldK Try.prog 105 = some none) ∧ (ldK Try.prog 113 = some none) ∧ (slK Try.prog 113 = some 1) ∧ (arK Try.prog 113 = none) ∧ (isFn Try.prog 88 = true) ∧ (fOff Try.prog 107 2 = some 2) ∧ (ldK Try.prog 104 = some none) ∧ (slK Try.prog 104 = some 2) ∧ (ptK Try.prog 3 = false) ∧ (arK Try.prog 104 = none) ∧ (fOff Try.prog 90 1 = some 1) ∧ (ldK Try.prog 3 = some none) ∧ (fOff Try.prog 90 0 = some 0) ∧ (isFn Try.prog 84 = true) := ⟨fn_81, fn_87, fn_82, fo_107_3, ld_105, ld_113, sl_113, ar_113, fn_88, fo_107_2, ld_104, sl_104, pk_3, ar_104, fo_90_1, ld_3, fo_90_0, fn_84⟩
theorem ow_89 : (fOff Try.prog 92 0 = some 0) ∧ (ldK Try.prog 86 = some none) ∧ (fOff Try.prog 107 0 = some 0) ∧ (szK Try.prog 86 = some 1) ∧ (fOff Try.prog 107 1 = some 1) ∧ (ldK Try.prog 3 = some none) ∧ (szK Try.prog 3 = some 1) ∧ (fOff Try.prog 107 2 = some 2) ∧ (ldK Try.prog 104 = some none) ∧ (slK Try.prog 104 = some 2) ∧ (szK Try.prog 104 = some 1) ∧ (fOff Try.prog 92 7 = some 8) ∧ (ldK Try.prog 4 = some none) ∧ (ptK Try.prog 3 = false) ∧ (arK Try.prog 104 = none) ∧ (fOff Try.prog 90 0 = some 0) ∧ (coK Try.prog 3 = true) ∧ (coK Try.prog 122 = false) ∧ (fOff Try.prog 92 8 = some 9) ∧ (coK Try.prog 125 = false) ∧ (isFn Try.prog 82 = true) ∧ (fOff Try.prog 107 3 = some 3) ∧ (szK Try.prog 105 = some 1) ∧ (ldK Try.prog 105 = some none) ∧ (ldK Try.prog 113 = some none) ∧ (slK Try.prog 113 = some 1) ∧ (fOff Try.prog 92 6 = some 7) ∧ (szK Try.prog 113 = some 1) := ⟨fo_92_0, ld_86, fo_107_0, sz_86, fo_107_1, ld_3, sz_3, fo_107_2, ld_104, sl_104, sz_104, fo_92_7, ld_4, pk_3, ar_104, fo_90_0, co_3, co_122, fo_92_8, co_125, fn_82, fo_107_3, sz_105, ld_105, ld_113, sl_113, fo_92_6, sz_113⟩
theorem ow_105 : (isFn Try.prog 106 = true) := fn_106
theorem ow_106 : (fOff Try.prog 92 1 = some 1) ∧ (ldK Try.prog 87 = some none) ∧ (ptK Try.prog 87 = true) ∧ (szK Try.prog 87 = some 1) ∧ (ldK Try.prog 92 = some (some 10)) ∧ (szK Try.prog 92 = some 10) ∧ (isFn Try.prog 107 = true) ∧ (fOff Try.prog 92 0 = some 0) ∧ (szK Try.prog 86 = some 1) := ⟨fo_92_1, ld_87, pk_87, sz_87, ld_92, sz_92, fn_107, fo_92_0, sz_86⟩
theorem ow_107 : (ldK Try.prog 86 = some none) ∧ (ptK Try.prog 86 = false) ∧ (szK Try.prog 86 = some 1) := ⟨ld_86, pk_86, sz_86⟩
end Go.Proofs.Ythonmbkjbgkfaaa
