/-
  What the program's tables say of the types and functions that the walks meet, as closed facts. No condition.
-/
import Derived.Test.YtjaolgehpnmieaaZA
import Derived.Test.YtjaolgehpnmieaaProg
import Derived.KernelRfl
/-
  What the program's tables say of the types and functions that the walks meet, as closed facts. No condition.
-/
namespace Go.Proofs.Ytjaolgehpnmieaa
open Go Go.Proofs
theorem mixed : Try.prog.follows .mixedOrders = true := by kernel_rfl
theorem sl_22 : slK Try.prog 22 = some 1 := by kernel_rfl
theorem pk_3 : ptK Try.prog 3 = false := by kernel_rfl
theorem fn_9 : isFn Try.prog 9 = true := by kernel_rfl
theorem fn_10 : isFn Try.prog 10 = true := by kernel_rfl
theorem fn_11 : isFn Try.prog 11 = true := by kernel_rfl
theorem fn_12 : isFn Try.prog 12 = true := by kernel_rfl
theorem fn_13 : isFn Try.prog 13 = true := by kernel_rfl
theorem fn_15 : isFn Try.prog 15 = true := by kernel_rfl
theorem fn_16 : isFn Try.prog 16 = true := by kernel_rfl
theorem fn_14 : isFn Try.prog 14 = true := by kernel_rfl
theorem fn_17 : isFn Try.prog 17 = true := by kernel_rfl
theorem fn_18 : isFn Try.prog 18 = true := by kernel_rfl
theorem fn_19 : isFn Try.prog 19 = true := by kernel_rfl
theorem sl_28 : slK Try.prog 28 = some 1 := by kernel_rfl
theorem ar_28 : arK Try.prog 28 = none := by kernel_rfl
theorem ld_4 : ldK Try.prog 4 = some none := by kernel_rfl
theorem fn_20 : isFn Try.prog 20 = true := by kernel_rfl
theorem pk_4 : ptK Try.prog 4 = false := by kernel_rfl
theorem fn_21 : isFn Try.prog 21 = true := by kernel_rfl
theorem sz_32 : szK Try.prog 32 = some 2 := by kernel_rfl
theorem fn_24 : isFn Try.prog 24 = true := by kernel_rfl
theorem fn_23 : isFn Try.prog 23 = true := by kernel_rfl
theorem fn_22 : isFn Try.prog 22 = true := by kernel_rfl
theorem ld_32 : ldK Try.prog 32 = some (some 2) := by kernel_rfl
theorem pk_32 : ptK Try.prog 32 = false := by kernel_rfl
theorem fn_25 : isFn Try.prog 25 = true := by kernel_rfl
theorem fn_27 : isFn Try.prog 27 = true := by kernel_rfl
theorem fn_26 : isFn Try.prog 26 = true := by kernel_rfl
theorem fn_28 : isFn Try.prog 28 = true := by kernel_rfl
theorem fn_29 : isFn Try.prog 29 = true := by kernel_rfl
theorem ar_22 : arK Try.prog 22 = none := by kernel_rfl
theorem ld_3 : ldK Try.prog 3 = some none := by kernel_rfl
theorem fn_30 : isFn Try.prog 30 = true := by kernel_rfl
theorem fn_31 : isFn Try.prog 31 = true := by kernel_rfl
theorem fn_32 : isFn Try.prog 32 = true := by kernel_rfl
theorem fn_33 : isFn Try.prog 33 = true := by kernel_rfl
theorem fn_34 : isFn Try.prog 34 = true := by kernel_rfl
theorem ni_28 : noInt Try.prog 28 = true := by kernel_rfl
theorem fn_35 : isFn Try.prog 35 = true := by kernel_rfl
theorem fn_36 : isFn Try.prog 36 = true := by kernel_rfl
theorem fn_38 : isFn Try.prog 38 = true := by kernel_rfl
theorem fn_37 : isFn Try.prog 37 = true := by kernel_rfl
theorem fo_38_0 : fOff Try.prog 38 0 = some 0 := by kernel_rfl
theorem fo_36_0 : fOff Try.prog 36 0 = some 0 := by kernel_rfl
theorem fo_38_1 : fOff Try.prog 38 1 = some 2 := by kernel_rfl
theorem fo_41_0 : fOff Try.prog 41 0 = some 0 := by kernel_rfl
theorem ld_22 : ldK Try.prog 22 = some none := by kernel_rfl
theorem sl_42 : slK Try.prog 42 = some 2 := by kernel_rfl
theorem fn_39 : isFn Try.prog 39 = true := by kernel_rfl
theorem sz_38 : szK Try.prog 38 = some 3 := by kernel_rfl
theorem ni_42 : noInt Try.prog 42 = true := by kernel_rfl
theorem fn_40 : isFn Try.prog 40 = true := by kernel_rfl
theorem fn_41 : isFn Try.prog 41 = true := by kernel_rfl
theorem fn_42 : isFn Try.prog 42 = true := by kernel_rfl
theorem ar_42 : arK Try.prog 42 = none := by kernel_rfl
theorem ld_36 : ldK Try.prog 36 = some (some 2) := by kernel_rfl
theorem sz_36 : szK Try.prog 36 = some 2 := by kernel_rfl
theorem ni_22 : noInt Try.prog 22 = true := by kernel_rfl
theorem fn_43 : isFn Try.prog 43 = true := by kernel_rfl
theorem fn_45 : isFn Try.prog 45 = true := by kernel_rfl
theorem fn_44 : isFn Try.prog 44 = true := by kernel_rfl
theorem fn_47 : isFn Try.prog 47 = true := by kernel_rfl
theorem fn_46 : isFn Try.prog 46 = true := by kernel_rfl
theorem fo_80_0 : fOff Try.prog 80 0 = some 0 := by kernel_rfl
theorem fn_48 : isFn Try.prog 48 = true := by kernel_rfl
theorem fn_49 : isFn Try.prog 49 = true := by kernel_rfl
theorem fn_50 : isFn Try.prog 50 = true := by kernel_rfl
theorem ld_38 : ldK Try.prog 38 = some (some 3) := by kernel_rfl
theorem ni_54 : noInt Try.prog 54 = true := by kernel_rfl
theorem fn_51 : isFn Try.prog 51 = true := by kernel_rfl
theorem sz_74 : szK Try.prog 74 = some 0 := by kernel_rfl
theorem fn_52 : isFn Try.prog 52 = true := by kernel_rfl
theorem fn_53 : isFn Try.prog 53 = true := by kernel_rfl
theorem fn_54 : isFn Try.prog 54 = true := by kernel_rfl
theorem fn_55 : isFn Try.prog 55 = true := by kernel_rfl
theorem fn_56 : isFn Try.prog 56 = true := by kernel_rfl
theorem fn_57 : isFn Try.prog 57 = true := by kernel_rfl
theorem fn_58 : isFn Try.prog 58 = true := by kernel_rfl
theorem fn_59 : isFn Try.prog 59 = true := by kernel_rfl
theorem ld_74 : ldK Try.prog 74 = some (some 0) := by kernel_rfl
theorem sz_76 : szK Try.prog 76 = some 1 := by kernel_rfl
theorem fo_78_2 : fOff Try.prog 78 2 = some 2 := by kernel_rfl
theorem ld_73 : ldK Try.prog 73 = some none := by kernel_rfl
theorem pk_73 : ptK Try.prog 73 = true := by kernel_rfl
theorem fo_76_1 : fOff Try.prog 76 1 = some 0 := by kernel_rfl
theorem fo_76_0 : fOff Try.prog 76 0 = none := by kernel_rfl
theorem fz_76_0 : fZero Try.prog 76 0 = true := by kernel_rfl
theorem fn_62 : isFn Try.prog 62 = true := by kernel_rfl
theorem fo_96_1 : fOff Try.prog 96 1 = some 1 := by kernel_rfl
theorem sz_3 : szK Try.prog 3 = some 1 := by kernel_rfl
theorem fn_63 : isFn Try.prog 63 = true := by kernel_rfl
theorem fo_96_2 : fOff Try.prog 96 2 = some 2 := by kernel_rfl
theorem ld_93 : ldK Try.prog 93 = some none := by kernel_rfl
theorem sl_93 : slK Try.prog 93 = some 1 := by kernel_rfl
theorem fo_78_6 : fOff Try.prog 78 6 = some 6 := by kernel_rfl
theorem ar_93 : arK Try.prog 93 = none := by kernel_rfl
theorem ld_76 : ldK Try.prog 76 = some (some 1) := by kernel_rfl
theorem ni_93 : noInt Try.prog 93 = true := by kernel_rfl
theorem sz_93 : szK Try.prog 93 = some 1 := by kernel_rfl
theorem fo_78_3 : fOff Try.prog 78 3 = some 3 := by kernel_rfl
theorem fo_78_4 : fOff Try.prog 78 4 = some 4 := by kernel_rfl
theorem fo_96_3 : fOff Try.prog 96 3 = some 3 := by kernel_rfl
theorem ld_94 : ldK Try.prog 94 = some none := by kernel_rfl
theorem ld_97 : ldK Try.prog 97 = some none := by kernel_rfl
theorem sl_97 : slK Try.prog 97 = some 1 := by kernel_rfl
theorem ar_97 : arK Try.prog 97 = none := by kernel_rfl
theorem fn_64 : isFn Try.prog 64 = true := by kernel_rfl
theorem fn_65 : isFn Try.prog 65 = true := by kernel_rfl
theorem fn_66 : isFn Try.prog 66 = true := by kernel_rfl
theorem sz_73 : szK Try.prog 73 = some 1 := by kernel_rfl
theorem fn_67 : isFn Try.prog 67 = true := by kernel_rfl
theorem fn_68 : isFn Try.prog 68 = true := by kernel_rfl
theorem fn_69 : isFn Try.prog 69 = true := by kernel_rfl
theorem fn_70 : isFn Try.prog 70 = true := by kernel_rfl
theorem fn_71 : isFn Try.prog 71 = true := by kernel_rfl
theorem sz_97 : szK Try.prog 97 = some 1 := by kernel_rfl
theorem ni_97 : noInt Try.prog 97 = true := by kernel_rfl
theorem fn_72 : isFn Try.prog 72 = true := by kernel_rfl
theorem fn_73 : isFn Try.prog 73 = true := by kernel_rfl
theorem fn_74 : isFn Try.prog 74 = true := by kernel_rfl
theorem ld_57 : ldK Try.prog 57 = some none := by kernel_rfl
theorem ld_68 : ldK Try.prog 68 = some none := by kernel_rfl
theorem sz_22 : szK Try.prog 22 = some 1 := by kernel_rfl
theorem fo_96_0 : fOff Try.prog 96 0 = some 0 := by kernel_rfl
theorem ld_71 : ldK Try.prog 71 = some none := by kernel_rfl
theorem fo_78_0 : fOff Try.prog 78 0 = some 0 := by kernel_rfl
theorem pk_71 : ptK Try.prog 71 = false := by kernel_rfl
theorem fn_75 : isFn Try.prog 75 = true := by kernel_rfl
theorem pk_94 : ptK Try.prog 94 = true := by kernel_rfl
theorem fn_76 : isFn Try.prog 76 = true := by kernel_rfl
theorem fo_78_5 : fOff Try.prog 78 5 = some 5 := by kernel_rfl
theorem fn_77 : isFn Try.prog 77 = true := by kernel_rfl
theorem fn_78 : isFn Try.prog 78 = true := by kernel_rfl
theorem co_74 : coK Try.prog 74 = true := by kernel_rfl
theorem co_115 : coK Try.prog 115 = false := by kernel_rfl
theorem fo_78_7 : fOff Try.prog 78 7 = some 7 := by kernel_rfl
theorem sz_4 : szK Try.prog 4 = some 1 := by kernel_rfl
theorem co_118 : coK Try.prog 118 = false := by kernel_rfl
theorem fo_78_8 : fOff Try.prog 78 8 = some 8 := by kernel_rfl
theorem sz_71 : szK Try.prog 71 = some 1 := by kernel_rfl
theorem sz_94 : szK Try.prog 94 = some 1 := by kernel_rfl
theorem fn_79 : isFn Try.prog 79 = true := by kernel_rfl
theorem fn_80 : isFn Try.prog 80 = true := by kernel_rfl
theorem fn_98 : isFn Try.prog 98 = true := by kernel_rfl
theorem ld_78 : ldK Try.prog 78 = some (some 9) := by kernel_rfl
theorem sz_78 : szK Try.prog 78 = some 9 := by kernel_rfl
theorem fn_99 : isFn Try.prog 99 = true := by kernel_rfl
theorem fo_78_1 : fOff Try.prog 78 1 = some 1 := by kernel_rfl
theorem ld_72 : ldK Try.prog 72 = some none := by kernel_rfl
theorem pk_72 : ptK Try.prog 72 = true := by kernel_rfl
theorem sz_72 : szK Try.prog 72 = some 1 := by kernel_rfl
theorem fn_100 : isFn Try.prog 100 = true := by kernel_rfl
theorem ow_3 : (slK Try.prog 22 = some 1) ∧ (ptK Try.prog 3 = false) ∧ (isFn Try.prog 9 = true) := ⟨sl_22, pk_3, fn_9⟩
theorem ow_4 : (slK Try.prog 22 = some 1) ∧ (ptK Try.prog 3 = false) ∧ (isFn Try.prog 10 = true) := ⟨sl_22, pk_3, fn_10⟩
theorem ow_5 : (slK Try.prog 22 = some 1) ∧ (ptK Try.prog 3 = false) ∧ (isFn Try.prog 11 = true) := ⟨sl_22, pk_3, fn_11⟩
theorem ow_6 : (slK Try.prog 22 = some 1) ∧ (ptK Try.prog 3 = false) ∧ (isFn Try.prog 12 = true) ∧ (isFn Try.prog 13 = true) ∧ (isFn Try.prog 15 = true) ∧ (isFn Try.prog 16 = true) ∧ (isFn Try.prog 14 = true) := ⟨sl_22, pk_3, fn_12, fn_13, fn_15, fn_16, fn_14⟩
theorem ow_7 : (slK Try.prog 22 = some 1) ∧ (ptK Try.prog 3 = false) ∧ (isFn Try.prog 17 = true) := ⟨sl_22, pk_3, fn_17⟩
theorem ow_8 : (slK Try.prog 22 = some 1) ∧ (ptK Try.prog 3 = false) ∧ (isFn Try.prog 18 = true) ∧ (isFn Try.prog 19 = true) ∧ (slK Try.prog 28 = some 1) ∧ (arK Try.prog 28 = none) ∧ (ldK Try.prog 4 = some none) ∧ (isFn Try.prog 20 = true) ∧ (ptK Try.prog 4 = false) ∧ (isFn Try.prog 13 = true) := ⟨sl_22, pk_3, fn_18, fn_19, sl_28, ar_28, ld_4, fn_20, pk_4, fn_13⟩
theorem ow_9 : (isFn Try.prog 21 = true) ∧ (szK Try.prog 32 = some 2) ∧ (isFn Try.prog 24 = true) ∧ (isFn Try.prog 23 = true) ∧ (isFn Try.prog 22 = true) ∧ (ldK Try.prog 32 = some (some 2)) ∧ (ptK Try.prog 32 = false) := ⟨fn_21, sz_32, fn_24, fn_23, fn_22, ld_32, pk_32⟩
theorem ow_10 : (isFn Try.prog 25 = true) ∧ (isFn Try.prog 24 = true) ∧ (isFn Try.prog 27 = true) ∧ (isFn Try.prog 26 = true) ∧ (ptK Try.prog 3 = false) ∧ (isFn Try.prog 14 = true) := ⟨fn_25, fn_24, fn_27, fn_26, pk_3, fn_14⟩
theorem ow_11 : (isFn Try.prog 28 = true) ∧ (isFn Try.prog 24 = true) ∧ (isFn Try.prog 29 = true) ∧ (isFn Try.prog 26 = true) ∧ (isFn Try.prog 14 = true) := ⟨fn_28, fn_24, fn_29, fn_26, fn_14⟩
theorem ow_12 : (slK Try.prog 22 = some 1) ∧ (ptK Try.prog 3 = false) ∧ (arK Try.prog 22 = none) ∧ (ldK Try.prog 3 = some none) := ⟨sl_22, pk_3, ar_22, ld_3⟩
theorem ow_13 : (isFn Try.prog 16 = true) ∧ (slK Try.prog 22 = some 1) ∧ (ptK Try.prog 3 = false) := ⟨fn_16, sl_22, pk_3⟩
theorem ow_14 : (slK Try.prog 22 = some 1) ∧ (ptK Try.prog 3 = false) ∧ (arK Try.prog 22 = none) ∧ (ldK Try.prog 3 = some none) := ⟨sl_22, pk_3, ar_22, ld_3⟩
theorem ow_15 : (isFn Try.prog 30 = true) ∧ (slK Try.prog 22 = some 1) ∧ (ptK Try.prog 3 = false) ∧ (arK Try.prog 22 = none) ∧ (ldK Try.prog 3 = some none) ∧ (isFn Try.prog 31 = true) ∧ (isFn Try.prog 32 = true) := ⟨fn_30, sl_22, pk_3, ar_22, ld_3, fn_31, fn_32⟩
theorem ow_16 : (isFn Try.prog 30 = true) ∧ (isFn Try.prog 32 = true) := ⟨fn_30, fn_32⟩
theorem ow_17 : (isFn Try.prog 19 = true) ∧ (isFn Try.prog 24 = true) ∧ (isFn Try.prog 33 = true) ∧ (isFn Try.prog 26 = true) ∧ (isFn Try.prog 14 = true) := ⟨fn_19, fn_24, fn_33, fn_26, fn_14⟩
theorem ow_18 : (isFn Try.prog 30 = true) ∧ (slK Try.prog 22 = some 1) ∧ (ptK Try.prog 3 = false) ∧ (arK Try.prog 22 = none) ∧ (ldK Try.prog 3 = some none) ∧ (isFn Try.prog 34 = true) ∧ (noInt Try.prog 28 = true) := ⟨fn_30, sl_22, pk_3, ar_22, ld_3, fn_34, ni_28⟩
theorem ow_19 : (isFn Try.prog 30 = true) ∧ (slK Try.prog 22 = some 1) ∧ (ptK Try.prog 3 = false) ∧ (arK Try.prog 22 = none) ∧ (ldK Try.prog 3 = some none) ∧ (isFn Try.prog 35 = true) ∧ (isFn Try.prog 32 = true) := ⟨fn_30, sl_22, pk_3, ar_22, ld_3, fn_35, fn_32⟩
theorem ow_20 : (isFn Try.prog 36 = true) ∧ (ptK Try.prog 3 = false) := ⟨fn_36, pk_3⟩
theorem ow_21 : (isFn Try.prog 30 = true) ∧ (isFn Try.prog 38 = true) ∧ (isFn Try.prog 37 = true) ∧ (szK Try.prog 32 = some 2) := ⟨fn_30, fn_38, fn_37, sz_32⟩
theorem ow_22 : (fOff Try.prog 38 0 = some 0) ∧ (fOff Try.prog 36 0 = some 0) ∧ (ldK Try.prog 3 = some none) ∧ (fOff Try.prog 38 1 = some 2) ∧ (ldK Try.prog 4 = some none) ∧ (szK Try.prog 32 = some 2) := ⟨fo_38_0, fo_36_0, ld_3, fo_38_1, ld_4, sz_32⟩
theorem ow_23 : (fOff Try.prog 41 0 = some 0) ∧ (ldK Try.prog 22 = some none) ∧ (isFn Try.prog 27 = true) ∧ (slK Try.prog 42 = some 2) ∧ (ptK Try.prog 3 = false) ∧ (isFn Try.prog 39 = true) ∧ (szK Try.prog 38 = some 3) := ⟨fo_41_0, ld_22, fn_27, sl_42, pk_3, fn_39, sz_38⟩
theorem ow_24 : (slK Try.prog 22 = some 1) ∧ (ptK Try.prog 3 = false) ∧ (arK Try.prog 22 = none) ∧ (ldK Try.prog 3 = some none) ∧ (noInt Try.prog 42 = true) := ⟨sl_22, pk_3, ar_22, ld_3, ni_42⟩
theorem ow_25 : (isFn Try.prog 30 = true) ∧ (isFn Try.prog 40 = true) ∧ (isFn Try.prog 41 = true) ∧ (slK Try.prog 22 = some 1) ∧ (ptK Try.prog 3 = false) ∧ (arK Try.prog 22 = none) ∧ (ldK Try.prog 3 = some none) ∧ (isFn Try.prog 42 = true) ∧ (isFn Try.prog 32 = true) := ⟨fn_30, fn_40, fn_41, sl_22, pk_3, ar_22, ld_3, fn_42, fn_32⟩
theorem ow_26 : (slK Try.prog 42 = some 2) ∧ (ptK Try.prog 3 = false) ∧ (arK Try.prog 42 = none) ∧ (ldK Try.prog 36 = some (some 2)) ∧ (szK Try.prog 36 = some 2) ∧ (fOff Try.prog 36 0 = some 0) ∧ (ldK Try.prog 3 = some none) ∧ (noInt Try.prog 22 = true) := ⟨sl_42, pk_3, ar_42, ld_36, sz_36, fo_36_0, ld_3, ni_22⟩
theorem ow_27 : (slK Try.prog 42 = some 2) ∧ (ptK Try.prog 3 = false) ∧ (arK Try.prog 42 = none) ∧ (ldK Try.prog 36 = some (some 2)) ∧ (szK Try.prog 36 = some 2) ∧ (isFn Try.prog 43 = true) := ⟨sl_42, pk_3, ar_42, ld_36, sz_36, fn_43⟩
theorem ow_28 : (isFn Try.prog 30 = true) ∧ (isFn Try.prog 45 = true) ∧ (isFn Try.prog 44 = true) ∧ (ldK Try.prog 22 = some none) := ⟨fn_30, fn_45, fn_44, ld_22⟩
theorem ow_29 : (fOff Try.prog 41 0 = some 0) ∧ (ldK Try.prog 22 = some none) ∧ (isFn Try.prog 27 = true) ∧ (isFn Try.prog 47 = true) ∧ (isFn Try.prog 46 = true) := ⟨fo_41_0, ld_22, fn_27, fn_47, fn_46⟩
theorem ow_30 : (slK Try.prog 22 = some 1) ∧ (ptK Try.prog 3 = false) ∧ (arK Try.prog 22 = none) ∧ (ldK Try.prog 3 = some none) ∧ (isFn Try.prog 42 = true) := ⟨sl_22, pk_3, ar_22, ld_3, fn_42⟩
theorem ow_31 : (fOff Try.prog 80 0 = some 0) ∧ (isFn Try.prog 48 = true) := ⟨fo_80_0, fn_48⟩
theorem ow_32 : (fOff Try.prog 80 0 = some 0) ∧ (isFn Try.prog 49 = true) := ⟨fo_80_0, fn_49⟩
theorem ow_33 : (fOff Try.prog 41 0 = some 0) ∧ (ldK Try.prog 22 = some none) ∧ (isFn Try.prog 27 = true) ∧ (slK Try.prog 42 = some 2) ∧ (ptK Try.prog 3 = false) ∧ (arK Try.prog 42 = none) ∧ (ldK Try.prog 36 = some (some 2)) ∧ (szK Try.prog 36 = some 2) ∧ (isFn Try.prog 50 = true) ∧ (szK Try.prog 38 = some 3) ∧ (ldK Try.prog 38 = some (some 3)) ∧ (noInt Try.prog 54 = true) := ⟨fo_41_0, ld_22, fn_27, sl_42, pk_3, ar_42, ld_36, sz_36, fn_50, sz_38, ld_38, ni_54⟩
theorem ow_34 : (fOff Try.prog 80 0 = some 0) ∧ (isFn Try.prog 51 = true) ∧ (szK Try.prog 74 = some 0) := ⟨fo_80_0, fn_51, sz_74⟩
theorem ow_35 : (fOff Try.prog 80 0 = some 0) ∧ (isFn Try.prog 52 = true) := ⟨fo_80_0, fn_52⟩
theorem ow_36 : (slK Try.prog 22 = some 1) ∧ (ptK Try.prog 3 = false) ∧ (arK Try.prog 22 = none) ∧ (ldK Try.prog 3 = some none) := ⟨sl_22, pk_3, ar_22, ld_3⟩
theorem ow_37 : (szK Try.prog 32 = some 2) := sz_32
theorem ow_38 : (fOff Try.prog 80 0 = some 0) ∧ (isFn Try.prog 53 = true) ∧ (szK Try.prog 74 = some 0) := ⟨fo_80_0, fn_53, sz_74⟩
theorem ow_39 : (isFn Try.prog 54 = true) ∧ (szK Try.prog 38 = some 3) ∧ (ldK Try.prog 38 = some (some 3)) := ⟨fn_54, sz_38, ld_38⟩
theorem ow_40 : (fOff Try.prog 80 0 = some 0) ∧ (isFn Try.prog 55 = true) := ⟨fo_80_0, fn_55⟩
theorem ow_41 : (fOff Try.prog 80 0 = some 0) ∧ (isFn Try.prog 56 = true) := ⟨fo_80_0, fn_56⟩
theorem ow_42 : (fOff Try.prog 80 0 = some 0) ∧ (isFn Try.prog 57 = true) := ⟨fo_80_0, fn_57⟩
theorem ow_43 : (ldK Try.prog 36 = some (some 2)) ∧ (isFn Try.prog 58 = true) ∧ (slK Try.prog 42 = some 2) ∧ (noInt Try.prog 42 = true) ∧ (ptK Try.prog 3 = false) ∧ (arK Try.prog 42 = none) ∧ (szK Try.prog 38 = some 3) := ⟨ld_36, fn_58, sl_42, ni_42, pk_3, ar_42, sz_38⟩
theorem ow_44 : (fOff Try.prog 80 0 = some 0) ∧ (isFn Try.prog 59 = true) := ⟨fo_80_0, fn_59⟩
theorem ow_46 : (ptK Try.prog 3 = false) ∧ (slK Try.prog 42 = some 2) := ⟨pk_3, sl_42⟩
theorem ow_47 : (slK Try.prog 42 = some 2) ∧ (ptK Try.prog 3 = false) ∧ (arK Try.prog 42 = none) ∧ (ldK Try.prog 36 = some (some 2)) ∧ (noInt Try.prog 42 = true) := ⟨sl_42, pk_3, ar_42, ld_36, ni_42⟩
theorem ow_48 : (ldK Try.prog 74 = some (some 0)) ∧ (szK Try.prog 76 = some 1) ∧ (fOff Try.prog 78 2 = some 2) ∧ (ldK Try.prog 73 = some none) ∧ (ptK Try.prog 73 = true) ∧ (fOff Try.prog 76 1 = some 0) ∧ (ldK Try.prog 3 = some none) ∧ (fOff Try.prog 76 0 = none) ∧ (fZero Try.prog 76 0 = true) ∧ (isFn Try.prog 57 = true) ∧ (szK Try.prog 74 = some 0) ∧ (isFn Try.prog 62 = true) ∧ (fOff Try.prog 96 1 = some 1) ∧ (ptK Try.prog 3 = false) ∧ (szK Try.prog 3 = some 1) ∧ (isFn Try.prog 63 = true) ∧ (fOff Try.prog 96 2 = some 2) ∧ (ldK Try.prog 93 = some none) ∧ (slK Try.prog 93 = some 1) ∧ (fOff Try.prog 78 6 = some 6) ∧ (arK Try.prog 93 = none) ∧ (ldK Try.prog 76 = some (some 1)) ∧ (noInt Try.prog 93 = true) ∧ (szK Try.prog 93 = some 1) ∧ (fOff Try.prog 78 3 = some 3) ∧ (fOff Try.prog 78 4 = some 4) ∧ (fOff Try.prog 96 3 = some 3) ∧ (ldK Try.prog 94 = some none) ∧ (ldK Try.prog 97 = some none) ∧ (slK Try.prog 97 = some 1) ∧ (arK Try.prog 97 = none) := ⟨ld_74, sz_76, fo_78_2, ld_73, pk_73, fo_76_1, ld_3, fo_76_0, fz_76_0, fn_57, sz_74, fn_62, fo_96_1, pk_3, sz_3, fn_63, fo_96_2, ld_93, sl_93, fo_78_6, ar_93, ld_76, ni_93, sz_93, fo_78_3, fo_78_4, fo_96_3, ld_94, ld_97, sl_97, ar_97⟩
theorem ow_49 : (isFn Try.prog 56 = true) ∧ (fOff Try.prog 78 2 = some 2) ∧ (ldK Try.prog 73 = some none) ∧ (ptK Try.prog 73 = true) ∧ (isFn Try.prog 64 = true) := ⟨fn_56, fo_78_2, ld_73, pk_73, fn_64⟩
theorem ow_50 : (ldK Try.prog 36 = some (some 2)) ∧ (isFn Try.prog 58 = true) ∧ (szK Try.prog 38 = some 3) ∧ (isFn Try.prog 54 = true) := ⟨ld_36, fn_58, sz_38, fn_54⟩
theorem ow_51 : (isFn Try.prog 65 = true) ∧ (szK Try.prog 74 = some 0) := ⟨fn_65, sz_74⟩
theorem ow_52 : (fOff Try.prog 78 2 = some 2) ∧ (ldK Try.prog 73 = some none) ∧ (ptK Try.prog 73 = true) ∧ (fOff Try.prog 78 4 = some 4) ∧ (fOff Try.prog 76 0 = none) ∧ (fZero Try.prog 76 0 = true) ∧ (ldK Try.prog 74 = some (some 0)) ∧ (szK Try.prog 74 = some 0) ∧ (isFn Try.prog 66 = true) ∧ (szK Try.prog 76 = some 1) ∧ (fOff Try.prog 96 2 = some 2) ∧ (ldK Try.prog 93 = some none) ∧ (slK Try.prog 93 = some 1) ∧ (ptK Try.prog 3 = false) ∧ (isFn Try.prog 63 = true) ∧ (fOff Try.prog 96 3 = some 3) ∧ (ldK Try.prog 94 = some none) ∧ (ldK Try.prog 97 = some none) ∧ (slK Try.prog 97 = some 1) ∧ (arK Try.prog 97 = none) ∧ (szK Try.prog 73 = some 1) ∧ (fOff Try.prog 78 3 = some 3) ∧ (ldK Try.prog 3 = some none) ∧ (szK Try.prog 3 = some 1) := ⟨fo_78_2, ld_73, pk_73, fo_78_4, fo_76_0, fz_76_0, ld_74, sz_74, fn_66, sz_76, fo_96_2, ld_93, sl_93, pk_3, fn_63, fo_96_3, ld_94, ld_97, sl_97, ar_97, sz_73, fo_78_3, ld_3, sz_3⟩
theorem ow_53 : (isFn Try.prog 67 = true) ∧ (szK Try.prog 74 = some 0) := ⟨fn_67, sz_74⟩
theorem ow_54 : (ptK Try.prog 3 = false) ∧ (slK Try.prog 42 = some 2) ∧ (szK Try.prog 38 = some 3) ∧ (noInt Try.prog 42 = true) ∧ (arK Try.prog 42 = none) ∧ (ldK Try.prog 36 = some (some 2)) := ⟨pk_3, sl_42, sz_38, ni_42, ar_42, ld_36⟩
theorem ow_55 : (fOff Try.prog 78 3 = some 3) ∧ (szK Try.prog 3 = some 1) ∧ (fOff Try.prog 78 2 = some 2) ∧ (szK Try.prog 73 = some 1) := ⟨fo_78_3, sz_3, fo_78_2, sz_73⟩
theorem ow_56 : (fOff Try.prog 78 3 = some 3) ∧ (ldK Try.prog 3 = some none) := ⟨fo_78_3, ld_3⟩
theorem ow_57 : (ldK Try.prog 74 = some (some 0)) ∧ (szK Try.prog 76 = some 1) ∧ (fOff Try.prog 78 2 = some 2) ∧ (ldK Try.prog 73 = some none) ∧ (ptK Try.prog 73 = true) ∧ (isFn Try.prog 68 = true) ∧ (isFn Try.prog 69 = true) ∧ (szK Try.prog 73 = some 1) ∧ (ldK Try.prog 76 = some (some 1)) ∧ (noInt Try.prog 93 = true) ∧ (fOff Try.prog 96 2 = some 2) ∧ (szK Try.prog 93 = some 1) ∧ (fOff Try.prog 96 1 = some 1) ∧ (szK Try.prog 3 = some 1) ∧ (fOff Try.prog 78 3 = some 3) ∧ (fOff Try.prog 78 4 = some 4) ∧ (fOff Try.prog 76 0 = none) ∧ (fZero Try.prog 76 0 = true) ∧ (szK Try.prog 74 = some 0) ∧ (isFn Try.prog 70 = true) ∧ (isFn Try.prog 71 = true) ∧ (fOff Try.prog 96 3 = some 3) ∧ (ldK Try.prog 94 = some none) ∧ (fOff Try.prog 78 6 = some 6) ∧ (ldK Try.prog 3 = some none) ∧ (ptK Try.prog 3 = false) ∧ (szK Try.prog 97 = some 1) ∧ (noInt Try.prog 97 = true) ∧ (isFn Try.prog 72 = true) ∧ (fOff Try.prog 76 1 = some 0) ∧ (isFn Try.prog 57 = true) := ⟨ld_74, sz_76, fo_78_2, ld_73, pk_73, fn_68, fn_69, sz_73, ld_76, ni_93, fo_96_2, sz_93, fo_96_1, sz_3, fo_78_3, fo_78_4, fo_76_0, fz_76_0, sz_74, fn_70, fn_71, fo_96_3, ld_94, fo_78_6, ld_3, pk_3, sz_97, ni_97, fn_72, fo_76_1, fn_57⟩
theorem ow_58 : (slK Try.prog 42 = some 2) ∧ (ptK Try.prog 3 = false) ∧ (arK Try.prog 42 = none) ∧ (ldK Try.prog 36 = some (some 2)) ∧ (isFn Try.prog 73 = true) := ⟨sl_42, pk_3, ar_42, ld_36, fn_73⟩
theorem ow_59 : (isFn Try.prog 74 = true) := fn_74
theorem ow_60 : (ldK Try.prog 57 = some none) := ld_57
theorem ow_61 : (ldK Try.prog 68 = some none) ∧ (ldK Try.prog 22 = some none) ∧ (noInt Try.prog 22 = true) ∧ (szK Try.prog 22 = some 1) ∧ (ldK Try.prog 3 = some none) ∧ (ptK Try.prog 3 = false) ∧ (slK Try.prog 22 = some 1) := ⟨ld_68, ld_22, ni_22, sz_22, ld_3, pk_3, sl_22⟩
theorem ow_62 : (ldK Try.prog 73 = some none) ∧ (fOff Try.prog 96 0 = some 0) ∧ (ldK Try.prog 71 = some none) ∧ (fOff Try.prog 78 0 = some 0) ∧ (ptK Try.prog 71 = false) ∧ (isFn Try.prog 75 = true) ∧ (szK Try.prog 73 = some 1) := ⟨ld_73, fo_96_0, ld_71, fo_78_0, pk_71, fn_75, sz_73⟩
theorem ow_63 : (fOff Try.prog 96 3 = some 3) ∧ (ldK Try.prog 94 = some none) ∧ (ptK Try.prog 94 = true) := ⟨fo_96_3, ld_94, pk_94⟩
theorem ow_64 : (isFn Try.prog 63 = true) ∧ (fOff Try.prog 96 2 = some 2) ∧ (ldK Try.prog 93 = some none) ∧ (slK Try.prog 93 = some 1) ∧ (ptK Try.prog 3 = false) ∧ (arK Try.prog 93 = none) ∧ (fOff Try.prog 76 1 = some 0) ∧ (ldK Try.prog 3 = some none) ∧ (noInt Try.prog 22 = true) ∧ (fOff Try.prog 96 3 = some 3) ∧ (ldK Try.prog 94 = some none) ∧ (ldK Try.prog 97 = some none) ∧ (slK Try.prog 97 = some 1) ∧ (arK Try.prog 97 = none) ∧ (ldK Try.prog 73 = some none) ∧ (isFn Try.prog 64 = true) := ⟨fn_63, fo_96_2, ld_93, sl_93, pk_3, ar_93, fo_76_1, ld_3, ni_22, fo_96_3, ld_94, ld_97, sl_97, ar_97, ld_73, fn_64⟩
theorem ow_65 : (fOff Try.prog 78 2 = some 2) ∧ (ldK Try.prog 73 = some none) ∧ (ptK Try.prog 73 = true) ∧ (fOff Try.prog 78 4 = some 4) ∧ (fOff Try.prog 76 0 = none) ∧ (fZero Try.prog 76 0 = true) ∧ (ldK Try.prog 74 = some (some 0)) ∧ (szK Try.prog 74 = some 0) ∧ (isFn Try.prog 62 = true) ∧ (isFn Try.prog 76 = true) ∧ (fOff Try.prog 96 2 = some 2) ∧ (ldK Try.prog 93 = some none) ∧ (slK Try.prog 93 = some 1) ∧ (arK Try.prog 93 = none) ∧ (isFn Try.prog 63 = true) ∧ (fOff Try.prog 96 3 = some 3) ∧ (ldK Try.prog 94 = some none) ∧ (ldK Try.prog 97 = some none) ∧ (slK Try.prog 97 = some 1) ∧ (arK Try.prog 97 = none) := ⟨fo_78_2, ld_73, pk_73, fo_78_4, fo_76_0, fz_76_0, ld_74, sz_74, fn_62, fn_76, fo_96_2, ld_93, sl_93, ar_93, fn_63, fo_96_3, ld_94, ld_97, sl_97, ar_97⟩
theorem ow_66 : (isFn Try.prog 62 = true) ∧ (fOff Try.prog 96 2 = some 2) ∧ (ldK Try.prog 93 = some none) ∧ (slK Try.prog 93 = some 1) ∧ (ptK Try.prog 3 = false) ∧ (isFn Try.prog 76 = true) ∧ (isFn Try.prog 63 = true) ∧ (arK Try.prog 93 = none) ∧ (ldK Try.prog 76 = some (some 1)) ∧ (szK Try.prog 76 = some 1) ∧ (fOff Try.prog 78 4 = some 4) ∧ (szK Try.prog 93 = some 1) ∧ (fOff Try.prog 96 1 = some 1) ∧ (ldK Try.prog 3 = some none) ∧ (szK Try.prog 3 = some 1) ∧ (fOff Try.prog 96 3 = some 3) ∧ (ldK Try.prog 94 = some none) ∧ (ldK Try.prog 97 = some none) ∧ (slK Try.prog 97 = some 1) ∧ (arK Try.prog 97 = none) ∧ (fOff Try.prog 76 1 = some 0) ∧ (isFn Try.prog 66 = true) ∧ (ldK Try.prog 73 = some none) ∧ (fOff Try.prog 78 5 = some 5) ∧ (isFn Try.prog 77 = true) := ⟨fn_62, fo_96_2, ld_93, sl_93, pk_3, fn_76, fn_63, ar_93, ld_76, sz_76, fo_78_4, sz_93, fo_96_1, ld_3, sz_3, fo_96_3, ld_94, ld_97, sl_97, ar_97, fo_76_1, fn_66, ld_73, fo_78_5, fn_77⟩
theorem ow_67 : (fOff Try.prog 78 2 = some 2) ∧ (ldK Try.prog 73 = some none) ∧ (ptK Try.prog 73 = true) ∧ (fOff Try.prog 78 4 = some 4) ∧ (fOff Try.prog 76 1 = some 0) ∧ (ldK Try.prog 3 = some none) ∧ (fOff Try.prog 76 0 = none) ∧ (fZero Try.prog 76 0 = true) ∧ (ldK Try.prog 74 = some (some 0)) ∧ (szK Try.prog 74 = some 0) ∧ (isFn Try.prog 62 = true) ∧ (isFn Try.prog 63 = true) ∧ (fOff Try.prog 96 2 = some 2) ∧ (ldK Try.prog 93 = some none) ∧ (slK Try.prog 93 = some 1) ∧ (ptK Try.prog 3 = false) ∧ (arK Try.prog 93 = none) ∧ (ldK Try.prog 76 = some (some 1)) ∧ (szK Try.prog 76 = some 1) ∧ (fOff Try.prog 96 3 = some 3) ∧ (ldK Try.prog 94 = some none) ∧ (ldK Try.prog 97 = some none) ∧ (slK Try.prog 97 = some 1) ∧ (arK Try.prog 97 = none) := ⟨fo_78_2, ld_73, pk_73, fo_78_4, fo_76_1, ld_3, fo_76_0, fz_76_0, ld_74, sz_74, fn_62, fn_63, fo_96_2, ld_93, sl_93, pk_3, ar_93, ld_76, sz_76, fo_96_3, ld_94, ld_97, sl_97, ar_97⟩
theorem ow_68 : (fOff Try.prog 78 5 = some 5) ∧ (ldK Try.prog 3 = some none) ∧ (ptK Try.prog 3 = false) ∧ (isFn Try.prog 78 = true) ∧ (szK Try.prog 3 = some 1) ∧ (fOff Try.prog 78 6 = some 6) ∧ (fOff Try.prog 78 4 = some 4) ∧ (fOff Try.prog 76 0 = none) ∧ (fZero Try.prog 76 0 = true) ∧ (ldK Try.prog 74 = some (some 0)) ∧ (coK Try.prog 74 = true) ∧ (coK Try.prog 115 = false) ∧ (fOff Try.prog 78 7 = some 7) ∧ (szK Try.prog 4 = some 1) ∧ (ldK Try.prog 4 = some none) ∧ (coK Try.prog 118 = false) ∧ (fOff Try.prog 78 8 = some 8) := ⟨fo_78_5, ld_3, pk_3, fn_78, sz_3, fo_78_6, fo_78_4, fo_76_0, fz_76_0, ld_74, co_74, co_115, fo_78_7, sz_4, ld_4, co_118, fo_78_8⟩
theorem ow_69 : (fOff Try.prog 78 0 = some 0) ∧ (ldK Try.prog 71 = some none) ∧ (fOff Try.prog 96 0 = some 0) ∧ (szK Try.prog 71 = some 1) ∧ (fOff Try.prog 96 3 = some 3) ∧ (szK Try.prog 94 = some 1) := ⟨fo_78_0, ld_71, fo_96_0, sz_71, fo_96_3, sz_94⟩
theorem ow_70 : (isFn Try.prog 62 = true) ∧ (szK Try.prog 73 = some 1) ∧ (ldK Try.prog 73 = some none) ∧ (fOff Try.prog 76 1 = some 0) ∧ (ldK Try.prog 3 = some none) ∧ (isFn Try.prog 76 = true) ∧ (fOff Try.prog 96 2 = some 2) ∧ (ldK Try.prog 93 = some none) ∧ (slK Try.prog 93 = some 1) ∧ (arK Try.prog 93 = none) ∧ (fOff Try.prog 76 0 = none) ∧ (fZero Try.prog 76 0 = true) ∧ (ldK Try.prog 74 = some (some 0)) ∧ (szK Try.prog 74 = some 0) ∧ (ldK Try.prog 76 = some (some 1)) ∧ (szK Try.prog 76 = some 1) ∧ (isFn Try.prog 63 = true) ∧ (fOff Try.prog 78 6 = some 6) ∧ (ptK Try.prog 3 = false) ∧ (fOff Try.prog 78 4 = some 4) ∧ (noInt Try.prog 93 = true) ∧ (szK Try.prog 93 = some 1) ∧ (fOff Try.prog 96 1 = some 1) ∧ (szK Try.prog 3 = some 1) ∧ (fOff Try.prog 96 3 = some 3) ∧ (ldK Try.prog 94 = some none) ∧ (ldK Try.prog 97 = some none) ∧ (slK Try.prog 97 = some 1) ∧ (arK Try.prog 97 = none) ∧ (isFn Try.prog 70 = true) ∧ (isFn Try.prog 71 = true) ∧ (noInt Try.prog 97 = true) ∧ (szK Try.prog 97 = some 1) := ⟨fn_62, sz_73, ld_73, fo_76_1, ld_3, fn_76, fo_96_2, ld_93, sl_93, ar_93, fo_76_0, fz_76_0, ld_74, sz_74, ld_76, sz_76, fn_63, fo_78_6, pk_3, fo_78_4, ni_93, sz_93, fo_96_1, sz_3, fo_96_3, ld_94, ld_97, sl_97, ar_97, fn_70, fn_71, ni_97, sz_97⟩
theorem ow_71 : (fOff Try.prog 78 6 = some 6) ∧ (ldK Try.prog 3 = some none) ∧ (ptK Try.prog 3 = false) ∧ (fOff Try.prog 96 2 = some 2) ∧ (ldK Try.prog 93 = some none) ∧ (slK Try.prog 93 = some 1) ∧ (arK Try.prog 93 = none) ∧ (ldK Try.prog 76 = some (some 1)) ∧ (szK Try.prog 76 = some 1) ∧ (isFn Try.prog 63 = true) ∧ (isFn Try.prog 69 = true) ∧ (szK Try.prog 93 = some 1) ∧ (fOff Try.prog 96 3 = some 3) ∧ (ldK Try.prog 94 = some none) ∧ (ldK Try.prog 97 = some none) ∧ (slK Try.prog 97 = some 1) ∧ (szK Try.prog 97 = some 1) ∧ (isFn Try.prog 72 = true) ∧ (fOff Try.prog 78 4 = some 4) := ⟨fo_78_6, ld_3, pk_3, fo_96_2, ld_93, sl_93, ar_93, ld_76, sz_76, fn_63, fn_69, sz_93, fo_96_3, ld_94, ld_97, sl_97, sz_97, fn_72, fo_78_4⟩
theorem ow_72 : (fOff Try.prog 96 2 = some 2) ∧ (ldK Try.prog 93 = some none) ∧ (slK Try.prog 93 = some 1) ∧ (fOff Try.prog 96 1 = some 1) ∧ (szK Try.prog 3 = some 1) ∧ (isFn Try.prog 63 = true) ∧ (fOff Try.prog 96 3 = some 3) ∧ (ldK Try.prog 94 = some none) ∧ (ldK Try.prog 97 = some none) ∧ (slK Try.prog 97 = some 1) ∧ (ptK Try.prog 3 = false) ∧ (ldK Try.prog 3 = some none) ∧ (arK Try.prog 97 = none) ∧ (ldK Try.prog 73 = some none) := ⟨fo_96_2, ld_93, sl_93, fo_96_1, sz_3, fn_63, fo_96_3, ld_94, ld_97, sl_97, pk_3, ld_3, ar_97, ld_73⟩
theorem ow_73 : (fOff Try.prog 36 0 = some 0) ∧ (ldK Try.prog 3 = some none) ∧ (isFn Try.prog 79 = true) ∧ (ptK Try.prog 3 = false) := ⟨fo_36_0, ld_3, fn_79, pk_3⟩
theorem ow_74 : (fOff Try.prog 78 2 = some 2) ∧ (ldK Try.prog 73 = some none) ∧ (ptK Try.prog 73 = true) ∧ (isFn Try.prog 80 = true) := ⟨fo_78_2, ld_73, pk_73, fn_80⟩
theorem ow_75 : (fOff Try.prog 78 0 = some 0) ∧ (ldK Try.prog 71 = some none) ∧ (fOff Try.prog 96 0 = some 0) ∧ (szK Try.prog 71 = some 1) ∧ (fOff Try.prog 96 1 = some 1) ∧ (ldK Try.prog 3 = some none) ∧ (szK Try.prog 3 = some 1) ∧ (fOff Try.prog 96 2 = some 2) ∧ (ldK Try.prog 93 = some none) ∧ (slK Try.prog 93 = some 1) ∧ (szK Try.prog 93 = some 1) ∧ (fOff Try.prog 78 7 = some 7) ∧ (ldK Try.prog 4 = some none) ∧ (ptK Try.prog 3 = false) ∧ (arK Try.prog 93 = none) ∧ (fOff Try.prog 76 0 = none) ∧ (fZero Try.prog 76 0 = true) ∧ (ldK Try.prog 74 = some (some 0)) ∧ (coK Try.prog 74 = true) ∧ (coK Try.prog 115 = false) ∧ (szK Try.prog 74 = some 0) ∧ (fOff Try.prog 78 8 = some 8) ∧ (coK Try.prog 118 = false) ∧ (isFn Try.prog 63 = true) ∧ (fOff Try.prog 96 3 = some 3) ∧ (szK Try.prog 94 = some 1) ∧ (ldK Try.prog 94 = some none) ∧ (ldK Try.prog 97 = some none) ∧ (slK Try.prog 97 = some 1) ∧ (fOff Try.prog 78 6 = some 6) ∧ (szK Try.prog 97 = some 1) := ⟨fo_78_0, ld_71, fo_96_0, sz_71, fo_96_1, ld_3, sz_3, fo_96_2, ld_93, sl_93, sz_93, fo_78_7, ld_4, pk_3, ar_93, fo_76_0, fz_76_0, ld_74, co_74, co_115, sz_74, fo_78_8, co_118, fn_63, fo_96_3, sz_94, ld_94, ld_97, sl_97, fo_78_6, sz_97⟩
theorem ow_76 : (fOff Try.prog 96 2 = some 2) ∧ (ldK Try.prog 93 = some none) ∧ (slK Try.prog 93 = some 1) ∧ (ptK Try.prog 3 = false) ∧ (arK Try.prog 93 = none) ∧ (fOff Try.prog 76 1 = some 0) ∧ (ldK Try.prog 3 = some none) := ⟨fo_96_2, ld_93, sl_93, pk_3, ar_93, fo_76_1, ld_3⟩
theorem ow_77 : (fOff Try.prog 96 2 = some 2) ∧ (ldK Try.prog 93 = some none) ∧ (slK Try.prog 93 = some 1) ∧ (ptK Try.prog 3 = false) ∧ (fOff Try.prog 96 3 = some 3) ∧ (ldK Try.prog 94 = some none) ∧ (ldK Try.prog 97 = some none) ∧ (slK Try.prog 97 = some 1) ∧ (arK Try.prog 97 = none) ∧ (isFn Try.prog 62 = true) ∧ (fOff Try.prog 78 6 = some 6) ∧ (ldK Try.prog 3 = some none) ∧ (arK Try.prog 93 = none) ∧ (ldK Try.prog 76 = some (some 1)) ∧ (noInt Try.prog 93 = true) ∧ (szK Try.prog 93 = some 1) ∧ (isFn Try.prog 63 = true) ∧ (noInt Try.prog 97 = true) ∧ (szK Try.prog 97 = some 1) ∧ (fOff Try.prog 96 1 = some 1) ∧ (szK Try.prog 3 = some 1) ∧ (fOff Try.prog 78 4 = some 4) ∧ (szK Try.prog 76 = some 1) ∧ (szK Try.prog 73 = some 1) ∧ (ldK Try.prog 73 = some none) := ⟨fo_96_2, ld_93, sl_93, pk_3, fo_96_3, ld_94, ld_97, sl_97, ar_97, fn_62, fo_78_6, ld_3, ar_93, ld_76, ni_93, sz_93, fn_63, ni_97, sz_97, fo_96_1, sz_3, fo_78_4, sz_76, sz_73, ld_73⟩
theorem ow_78 : (ptK Try.prog 3 = false) := pk_3
theorem ow_79 : (slK Try.prog 22 = some 1) ∧ (ptK Try.prog 3 = false) ∧ (arK Try.prog 22 = none) ∧ (ldK Try.prog 3 = some none) := ⟨sl_22, pk_3, ar_22, ld_3⟩
theorem ow_80 : (isFn Try.prog 62 = true) ∧ (isFn Try.prog 63 = true) ∧ (fOff Try.prog 96 2 = some 2) ∧ (ldK Try.prog 93 = some none) ∧ (slK Try.prog 93 = some 1) ∧ (ptK Try.prog 3 = false) ∧ (arK Try.prog 93 = none) ∧ (fOff Try.prog 76 1 = some 0) ∧ (ldK Try.prog 3 = some none) ∧ (fOff Try.prog 76 0 = none) ∧ (fZero Try.prog 76 0 = true) ∧ (ldK Try.prog 74 = some (some 0)) ∧ (fOff Try.prog 96 3 = some 3) ∧ (ldK Try.prog 94 = some none) ∧ (ldK Try.prog 97 = some none) ∧ (slK Try.prog 97 = some 1) ∧ (arK Try.prog 97 = none) ∧ (isFn Try.prog 80 = true) := ⟨fn_62, fn_63, fo_96_2, ld_93, sl_93, pk_3, ar_93, fo_76_1, ld_3, fo_76_0, fz_76_0, ld_74, fo_96_3, ld_94, ld_97, sl_97, ar_97, fn_80⟩
theorem ow_96 : (fOff Try.prog 80 0 = some 0) ∧ (isFn Try.prog 98 = true) ∧ (ldK Try.prog 78 = some (some 9)) ∧ (szK Try.prog 78 = some 9) := ⟨fo_80_0, fn_98, ld_78, sz_78⟩
theorem ow_97 : (fOff Try.prog 80 0 = some 0) ∧ (isFn Try.prog 99 = true) ∧ (ldK Try.prog 78 = some (some 9)) ∧ (szK Try.prog 78 = some 9) := ⟨fo_80_0, fn_99, ld_78, sz_78⟩
theorem ow_98 : (isFn Try.prog 99 = true) := fn_99
theorem ow_99 : (fOff Try.prog 78 1 = some 1) ∧ (ldK Try.prog 72 = some none) ∧ (ptK Try.prog 72 = true) ∧ (szK Try.prog 72 = some 1) ∧ (ldK Try.prog 78 = some (some 9)) ∧ (szK Try.prog 78 = some 9) ∧ (isFn Try.prog 100 = true) ∧ (fOff Try.prog 78 0 = some 0) ∧ (szK Try.prog 71 = some 1) := ⟨fo_78_1, ld_72, pk_72, sz_72, ld_78, sz_78, fn_100, fo_78_0, sz_71⟩
theorem ow_100 : (ldK Try.prog 71 = some none) ∧ (ptK Try.prog 71 = false) ∧ (szK Try.prog 71 = some 1) := ⟨ld_71, pk_71, sz_71⟩
end Go.Proofs.Ytjaolgehpnmieaa
