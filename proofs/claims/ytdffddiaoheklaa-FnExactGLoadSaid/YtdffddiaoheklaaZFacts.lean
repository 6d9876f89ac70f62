/-
  What the program's tables say of the types and functions that the walks meet, as closed facts. No condition.
-/
import Derived.Test.YtdffddiaoheklaaZA
import Derived.Test.YtdffddiaoheklaaProg
import Derived.KernelRfl
/-
  What the program's tables say of the types and functions that the walks meet, as closed facts. No condition.
-/
namespace Go.Proofs.Ytdffddiaoheklaa
open Go Go.Proofs
theorem mixed : Try.prog.follows .mixedOrders = true := by kernel_rfl
theorem ld_24 : ldK Try.prog 24 = some (some 3) := by kernel_rfl
theorem fn_15 : isFn Try.prog 15 = true := by kernel_rfl
theorem sl_25 : slK Try.prog 25 = some 2 := by kernel_rfl
theorem pk_3 : ptK Try.prog 3 = false := by kernel_rfl
theorem fn_17 : isFn Try.prog 17 = true := by kernel_rfl
theorem fn_18 : isFn Try.prog 18 = true := by kernel_rfl
theorem fn_16 : isFn Try.prog 16 = true := by kernel_rfl
theorem fo_24_1 : fOff Try.prog 24 1 = some 1 := by kernel_rfl
theorem ld_3 : ldK Try.prog 3 = some none := by kernel_rfl
theorem fn_19 : isFn Try.prog 19 = true := by kernel_rfl
theorem fn_20 : isFn Try.prog 20 = true := by kernel_rfl
theorem sl_22 : slK Try.prog 22 = some 1 := by kernel_rfl
theorem fn_22 : isFn Try.prog 22 = true := by kernel_rfl
theorem fn_21 : isFn Try.prog 21 = true := by kernel_rfl
theorem fn_23 : isFn Try.prog 23 = true := by kernel_rfl
theorem fn_25 : isFn Try.prog 25 = true := by kernel_rfl
theorem fn_24 : isFn Try.prog 24 = true := by kernel_rfl
theorem fn_26 : isFn Try.prog 26 = true := by kernel_rfl
theorem fn_27 : isFn Try.prog 27 = true := by kernel_rfl
theorem fn_30 : isFn Try.prog 30 = true := by kernel_rfl
theorem fn_29 : isFn Try.prog 29 = true := by kernel_rfl
theorem fn_28 : isFn Try.prog 28 = true := by kernel_rfl
theorem fn_31 : isFn Try.prog 31 = true := by kernel_rfl
theorem fn_32 : isFn Try.prog 32 = true := by kernel_rfl
theorem fn_33 : isFn Try.prog 33 = true := by kernel_rfl
theorem fn_35 : isFn Try.prog 35 = true := by kernel_rfl
theorem fn_34 : isFn Try.prog 34 = true := by kernel_rfl
theorem fo_24_0 : fOff Try.prog 24 0 = some 0 := by kernel_rfl
theorem ld_22 : ldK Try.prog 22 = some none := by kernel_rfl
theorem fn_36 : isFn Try.prog 36 = true := by kernel_rfl
theorem fn_37 : isFn Try.prog 37 = true := by kernel_rfl
theorem ld_38 : ldK Try.prog 38 = some (some 2) := by kernel_rfl
theorem fn_38 : isFn Try.prog 38 = true := by kernel_rfl
theorem ar_25 : arK Try.prog 25 = none := by kernel_rfl
theorem sz_38 : szK Try.prog 38 = some 2 := by kernel_rfl
theorem fn_39 : isFn Try.prog 39 = true := by kernel_rfl
theorem fn_40 : isFn Try.prog 40 = true := by kernel_rfl
theorem fn_41 : isFn Try.prog 41 = true := by kernel_rfl
theorem fn_42 : isFn Try.prog 42 = true := by kernel_rfl
theorem fn_43 : isFn Try.prog 43 = true := by kernel_rfl
theorem fn_44 : isFn Try.prog 44 = true := by kernel_rfl
theorem fn_45 : isFn Try.prog 45 = true := by kernel_rfl
theorem sz_48 : szK Try.prog 48 = some 3 := by kernel_rfl
theorem fn_46 : isFn Try.prog 46 = true := by kernel_rfl
theorem ld_48 : ldK Try.prog 48 = some (some 3) := by kernel_rfl
theorem pk_48 : ptK Try.prog 48 = false := by kernel_rfl
theorem sz_24 : szK Try.prog 24 = some 3 := by kernel_rfl
theorem fn_47 : isFn Try.prog 47 = true := by kernel_rfl
theorem fn_48 : isFn Try.prog 48 = true := by kernel_rfl
theorem fn_49 : isFn Try.prog 49 = true := by kernel_rfl
theorem fn_50 : isFn Try.prog 50 = true := by kernel_rfl
theorem fn_51 : isFn Try.prog 51 = true := by kernel_rfl
theorem fn_52 : isFn Try.prog 52 = true := by kernel_rfl
theorem fn_53 : isFn Try.prog 53 = true := by kernel_rfl
theorem pk_38 : ptK Try.prog 38 = false := by kernel_rfl
theorem fn_54 : isFn Try.prog 54 = true := by kernel_rfl
theorem fn_55 : isFn Try.prog 55 = true := by kernel_rfl
theorem sl_61 : slK Try.prog 61 = some 1 := by kernel_rfl
theorem ar_61 : arK Try.prog 61 = none := by kernel_rfl
theorem ld_25 : ldK Try.prog 25 = some none := by kernel_rfl
theorem co_9 : coK Try.prog 9 = true := by kernel_rfl
theorem fn_56 : isFn Try.prog 56 = true := by kernel_rfl
theorem ni_25 : noInt Try.prog 25 = true := by kernel_rfl
theorem fn_57 : isFn Try.prog 57 = true := by kernel_rfl
theorem fn_58 : isFn Try.prog 58 = true := by kernel_rfl
theorem fn_60 : isFn Try.prog 60 = true := by kernel_rfl
theorem fn_59 : isFn Try.prog 59 = true := by kernel_rfl
theorem ni_41 : noInt Try.prog 41 = true := by kernel_rfl
theorem sl_41 : slK Try.prog 41 = some 3 := by kernel_rfl
theorem ar_41 : arK Try.prog 41 = none := by kernel_rfl
theorem fn_61 : isFn Try.prog 61 = true := by kernel_rfl
theorem fn_62 : isFn Try.prog 62 = true := by kernel_rfl
theorem fn_63 : isFn Try.prog 63 = true := by kernel_rfl
theorem fn_64 : isFn Try.prog 64 = true := by kernel_rfl
theorem fn_65 : isFn Try.prog 65 = true := by kernel_rfl
theorem fn_66 : isFn Try.prog 66 = true := by kernel_rfl
theorem fn_68 : isFn Try.prog 68 = true := by kernel_rfl
theorem fn_67 : isFn Try.prog 67 = true := by kernel_rfl
theorem fn_69 : isFn Try.prog 69 = true := by kernel_rfl
theorem fn_70 : isFn Try.prog 70 = true := by kernel_rfl
theorem fn_71 : isFn Try.prog 71 = true := by kernel_rfl
theorem fn_72 : isFn Try.prog 72 = true := by kernel_rfl
theorem fn_73 : isFn Try.prog 73 = true := by kernel_rfl
theorem fn_74 : isFn Try.prog 74 = true := by kernel_rfl
theorem ar_22 : arK Try.prog 22 = none := by kernel_rfl
theorem fn_75 : isFn Try.prog 75 = true := by kernel_rfl
theorem fn_76 : isFn Try.prog 76 = true := by kernel_rfl
theorem fn_77 : isFn Try.prog 77 = true := by kernel_rfl
theorem fn_78 : isFn Try.prog 78 = true := by kernel_rfl
theorem fn_80 : isFn Try.prog 80 = true := by kernel_rfl
theorem fn_81 : isFn Try.prog 81 = true := by kernel_rfl
theorem fn_79 : isFn Try.prog 79 = true := by kernel_rfl
theorem fn_82 : isFn Try.prog 82 = true := by kernel_rfl
theorem ni_3 : noInt Try.prog 3 = false := by kernel_rfl
theorem fn_83 : isFn Try.prog 83 = true := by kernel_rfl
theorem fo_98_2 : fOff Try.prog 98 2 = some 2 := by kernel_rfl
theorem sz_96 : szK Try.prog 96 = some 1 := by kernel_rfl
theorem fo_98_3 : fOff Try.prog 98 3 = some 3 := by kernel_rfl
theorem sz_3 : szK Try.prog 3 = some 1 := by kernel_rfl
theorem fn_85 : isFn Try.prog 85 = true := by kernel_rfl
theorem fn_86 : isFn Try.prog 86 = true := by kernel_rfl
theorem fo_38_0 : fOff Try.prog 38 0 = some 0 := by kernel_rfl
theorem fn_87 : isFn Try.prog 87 = true := by kernel_rfl
theorem fn_88 : isFn Try.prog 88 = true := by kernel_rfl
theorem fn_89 : isFn Try.prog 89 = true := by kernel_rfl
theorem fn_90 : isFn Try.prog 90 = true := by kernel_rfl
theorem fn_91 : isFn Try.prog 91 = true := by kernel_rfl
theorem fn_93 : isFn Try.prog 93 = true := by kernel_rfl
theorem fn_94 : isFn Try.prog 94 = true := by kernel_rfl
theorem fn_95 : isFn Try.prog 95 = true := by kernel_rfl
theorem fn_96 : isFn Try.prog 96 = true := by kernel_rfl
theorem fn_97 : isFn Try.prog 97 = true := by kernel_rfl
theorem fn_98 : isFn Try.prog 98 = true := by kernel_rfl
theorem fn_99 : isFn Try.prog 99 = true := by kernel_rfl
theorem fo_98_1 : fOff Try.prog 98 1 = some 1 := by kernel_rfl
theorem sz_95 : szK Try.prog 95 = some 1 := by kernel_rfl
theorem ld_95 : ldK Try.prog 95 = some none := by kernel_rfl
theorem fn_100 : isFn Try.prog 100 = true := by kernel_rfl
theorem fo_98_0 : fOff Try.prog 98 0 = some 0 := by kernel_rfl
theorem sz_94 : szK Try.prog 94 = some 1 := by kernel_rfl
theorem fo_98_6 : fOff Try.prog 98 6 = some 6 := by kernel_rfl
theorem sz_86 : szK Try.prog 86 = some 1 := by kernel_rfl
theorem fo_89_0 : fOff Try.prog 89 0 = some 0 := by kernel_rfl
theorem fn_101 : isFn Try.prog 101 = true := by kernel_rfl
theorem fn_102 : isFn Try.prog 102 = true := by kernel_rfl
theorem sz_22 : szK Try.prog 22 = some 1 := by kernel_rfl
theorem fo_24_2 : fOff Try.prog 24 2 = some 2 := by kernel_rfl
theorem ld_4 : ldK Try.prog 4 = some none := by kernel_rfl
theorem sz_89 : szK Try.prog 89 = some 2 := by kernel_rfl
theorem ld_96 : ldK Try.prog 96 = some none := by kernel_rfl
theorem pk_96 : ptK Try.prog 96 = true := by kernel_rfl
theorem fn_105 : isFn Try.prog 105 = true := by kernel_rfl
theorem fn_106 : isFn Try.prog 106 = true := by kernel_rfl
theorem fn_107 : isFn Try.prog 107 = true := by kernel_rfl
theorem fo_116_1 : fOff Try.prog 116 1 = some 1 := by kernel_rfl
theorem fn_108 : isFn Try.prog 108 = true := by kernel_rfl
theorem fo_116_2 : fOff Try.prog 116 2 = some 2 := by kernel_rfl
theorem fo_98_8 : fOff Try.prog 98 8 = some 9 := by kernel_rfl
theorem fn_109 : isFn Try.prog 109 = true := by kernel_rfl
theorem sz_25 : szK Try.prog 25 = some 1 := by kernel_rfl
theorem fo_98_7 : fOff Try.prog 98 7 = some 7 := by kernel_rfl
theorem fo_116_3 : fOff Try.prog 116 3 = some 3 := by kernel_rfl
theorem ld_114 : ldK Try.prog 114 = some none := by kernel_rfl
theorem ld_117 : ldK Try.prog 117 = some none := by kernel_rfl
theorem sl_117 : slK Try.prog 117 = some 1 := by kernel_rfl
theorem ar_117 : arK Try.prog 117 = none := by kernel_rfl
theorem fn_110 : isFn Try.prog 110 = true := by kernel_rfl
theorem ld_70 : ldK Try.prog 70 = some none := by kernel_rfl
theorem fn_111 : isFn Try.prog 111 = true := by kernel_rfl
theorem fn_112 : isFn Try.prog 112 = true := by kernel_rfl
theorem fn_113 : isFn Try.prog 113 = true := by kernel_rfl
theorem fn_114 : isFn Try.prog 114 = true := by kernel_rfl
theorem pk_114 : ptK Try.prog 114 = true := by kernel_rfl
theorem ld_94 : ldK Try.prog 94 = some none := by kernel_rfl
theorem pk_94 : ptK Try.prog 94 = false := by kernel_rfl
theorem fo_98_9 : fOff Try.prog 98 9 = some 10 := by kernel_rfl
theorem fn_115 : isFn Try.prog 115 = true := by kernel_rfl
theorem co_38 : coK Try.prog 38 = true := by kernel_rfl
theorem co_124 : coK Try.prog 124 = false := by kernel_rfl
theorem fo_98_4 : fOff Try.prog 98 4 = some 4 := by kernel_rfl
theorem sz_4 : szK Try.prog 4 = some 1 := by kernel_rfl
theorem co_127 : coK Try.prog 127 = false := by kernel_rfl
theorem fo_98_5 : fOff Try.prog 98 5 = some 5 := by kernel_rfl
theorem pk_22 : ptK Try.prog 22 = false := by kernel_rfl
theorem ni_22 : noInt Try.prog 22 = true := by kernel_rfl
theorem fn_104 : isFn Try.prog 104 = true := by kernel_rfl
theorem fn_116 : isFn Try.prog 116 = true := by kernel_rfl
theorem fn_117 : isFn Try.prog 117 = true := by kernel_rfl
theorem fn_118 : isFn Try.prog 118 = true := by kernel_rfl
theorem fn_119 : isFn Try.prog 119 = true := by kernel_rfl
theorem sz_117 : szK Try.prog 117 = some 1 := by kernel_rfl
theorem ni_117 : noInt Try.prog 117 = true := by kernel_rfl
theorem fn_120 : isFn Try.prog 120 = true := by kernel_rfl
theorem fo_116_0 : fOff Try.prog 116 0 = some 0 := by kernel_rfl
theorem fn_121 : isFn Try.prog 121 = true := by kernel_rfl
theorem ld_86 : ldK Try.prog 86 = some none := by kernel_rfl
theorem pk_82 : ptK Try.prog 82 = true := by kernel_rfl
theorem fn_122 : isFn Try.prog 122 = true := by kernel_rfl
theorem fn_123 : isFn Try.prog 123 = true := by kernel_rfl
theorem sz_114 : szK Try.prog 114 = some 1 := by kernel_rfl
theorem cv_3_138 : cvK Try.prog 3 138 = some .u64 := by kernel_rfl
theorem pk_138 : ptK Try.prog 138 = false := by kernel_rfl
theorem cv_138_3 : cvK Try.prog 138 3 = some .i64 := by kernel_rfl
theorem fo_80_0 : fOff Try.prog 80 0 = some 0 := by kernel_rfl
theorem sl_77 : slK Try.prog 77 = none := by kernel_rfl
theorem ar_77 : arK Try.prog 77 = some (8, 1) := by kernel_rfl
theorem fo_80_1 : fOff Try.prog 80 1 = some 8 := by kernel_rfl
theorem sl_78 : slK Try.prog 78 = none := by kernel_rfl
theorem ar_78 : arK Try.prog 78 = some (8, 1) := by kernel_rfl
theorem ld_5 : ldK Try.prog 5 = some none := by kernel_rfl
theorem cv_5_3 : cvK Try.prog 5 3 = some .i64 := by kernel_rfl
theorem cv_3_5 : cvK Try.prog 3 5 = some .u8 := by kernel_rfl
theorem pk_5 : ptK Try.prog 5 = false := by kernel_rfl
theorem sz_5 : szK Try.prog 5 = some 1 := by kernel_rfl
theorem fn_140 : isFn Try.prog 140 = true := by kernel_rfl
theorem ld_98 : ldK Try.prog 98 = some (some 11) := by kernel_rfl
theorem sz_98 : szK Try.prog 98 = some 11 := by kernel_rfl
theorem ow_3 : (ldK Try.prog 24 = some (some 3)) ∧ (isFn Try.prog 15 = true) ∧ (slK Try.prog 25 = some 2) ∧ (ptK Try.prog 3 = false) ∧ (isFn Try.prog 17 = true) ∧ (isFn Try.prog 18 = true) ∧ (isFn Try.prog 16 = true) ∧ (fOff Try.prog 24 1 = some 1) ∧ (ldK Try.prog 3 = some none) ∧ (isFn Try.prog 19 = true) := ⟨ld_24, fn_15, sl_25, pk_3, fn_17, fn_18, fn_16, fo_24_1, ld_3, fn_19⟩
theorem ow_4 : (ldK Try.prog 24 = some (some 3)) ∧ (isFn Try.prog 15 = true) ∧ (slK Try.prog 25 = some 2) ∧ (ptK Try.prog 3 = false) ∧ (isFn Try.prog 17 = true) ∧ (isFn Try.prog 18 = true) ∧ (isFn Try.prog 20 = true) ∧ (fOff Try.prog 24 1 = some 1) ∧ (ldK Try.prog 3 = some none) ∧ (isFn Try.prog 19 = true) := ⟨ld_24, fn_15, sl_25, pk_3, fn_17, fn_18, fn_20, fo_24_1, ld_3, fn_19⟩
theorem ow_5 : (ldK Try.prog 24 = some (some 3)) ∧ (isFn Try.prog 15 = true) ∧ (slK Try.prog 25 = some 2) ∧ (ptK Try.prog 3 = false) ∧ (slK Try.prog 22 = some 1) ∧ (isFn Try.prog 17 = true) ∧ (isFn Try.prog 18 = true) ∧ (isFn Try.prog 22 = true) ∧ (isFn Try.prog 21 = true) ∧ (fOff Try.prog 24 1 = some 1) ∧ (ldK Try.prog 3 = some none) ∧ (isFn Try.prog 19 = true) := ⟨ld_24, fn_15, sl_25, pk_3, sl_22, fn_17, fn_18, fn_22, fn_21, fo_24_1, ld_3, fn_19⟩
theorem ow_6 : (ldK Try.prog 24 = some (some 3)) ∧ (isFn Try.prog 15 = true) ∧ (slK Try.prog 25 = some 2) ∧ (ptK Try.prog 3 = false) ∧ (isFn Try.prog 17 = true) ∧ (isFn Try.prog 18 = true) ∧ (isFn Try.prog 23 = true) ∧ (fOff Try.prog 24 1 = some 1) ∧ (ldK Try.prog 3 = some none) ∧ (isFn Try.prog 19 = true) := ⟨ld_24, fn_15, sl_25, pk_3, fn_17, fn_18, fn_23, fo_24_1, ld_3, fn_19⟩
theorem ow_7 : (ldK Try.prog 24 = some (some 3)) ∧ (isFn Try.prog 15 = true) ∧ (slK Try.prog 25 = some 2) ∧ (ptK Try.prog 3 = false) ∧ (isFn Try.prog 17 = true) ∧ (isFn Try.prog 18 = true) ∧ (isFn Try.prog 25 = true) ∧ (isFn Try.prog 24 = true) ∧ (fOff Try.prog 24 1 = some 1) ∧ (ldK Try.prog 3 = some none) ∧ (isFn Try.prog 19 = true) := ⟨ld_24, fn_15, sl_25, pk_3, fn_17, fn_18, fn_25, fn_24, fo_24_1, ld_3, fn_19⟩
theorem ow_8 : (ldK Try.prog 24 = some (some 3)) ∧ (isFn Try.prog 15 = true) ∧ (slK Try.prog 25 = some 2) ∧ (ptK Try.prog 3 = false) ∧ (isFn Try.prog 26 = true) ∧ (isFn Try.prog 27 = true) ∧ (isFn Try.prog 30 = true) ∧ (isFn Try.prog 29 = true) ∧ (isFn Try.prog 28 = true) := ⟨ld_24, fn_15, sl_25, pk_3, fn_26, fn_27, fn_30, fn_29, fn_28⟩
theorem ow_9 : (ldK Try.prog 24 = some (some 3)) ∧ (isFn Try.prog 15 = true) ∧ (slK Try.prog 25 = some 2) ∧ (ptK Try.prog 3 = false) ∧ (isFn Try.prog 26 = true) ∧ (isFn Try.prog 27 = true) ∧ (isFn Try.prog 31 = true) ∧ (isFn Try.prog 32 = true) ∧ (isFn Try.prog 33 = true) ∧ (isFn Try.prog 28 = true) := ⟨ld_24, fn_15, sl_25, pk_3, fn_26, fn_27, fn_31, fn_32, fn_33, fn_28⟩
theorem ow_10 : (ldK Try.prog 24 = some (some 3)) ∧ (isFn Try.prog 15 = true) ∧ (slK Try.prog 25 = some 2) ∧ (ptK Try.prog 3 = false) ∧ (isFn Try.prog 17 = true) ∧ (isFn Try.prog 35 = true) ∧ (isFn Try.prog 34 = true) ∧ (fOff Try.prog 24 1 = some 1) ∧ (ldK Try.prog 3 = some none) ∧ (isFn Try.prog 19 = true) ∧ (fOff Try.prog 24 0 = some 0) ∧ (ldK Try.prog 22 = some none) ∧ (isFn Try.prog 36 = true) := ⟨ld_24, fn_15, sl_25, pk_3, fn_17, fn_35, fn_34, fo_24_1, ld_3, fn_19, fo_24_0, ld_22, fn_36⟩
theorem ow_11 : (ldK Try.prog 24 = some (some 3)) ∧ (isFn Try.prog 15 = true) ∧ (slK Try.prog 25 = some 2) ∧ (ptK Try.prog 3 = false) ∧ (isFn Try.prog 17 = true) ∧ (isFn Try.prog 18 = true) ∧ (isFn Try.prog 37 = true) ∧ (fOff Try.prog 24 1 = some 1) ∧ (ldK Try.prog 3 = some none) ∧ (isFn Try.prog 19 = true) ∧ (ldK Try.prog 38 = some (some 2)) := ⟨ld_24, fn_15, sl_25, pk_3, fn_17, fn_18, fn_37, fo_24_1, ld_3, fn_19, ld_38⟩
theorem ow_12 : (ldK Try.prog 24 = some (some 3)) ∧ (isFn Try.prog 15 = true) ∧ (slK Try.prog 25 = some 2) ∧ (ptK Try.prog 3 = false) ∧ (isFn Try.prog 17 = true) ∧ (isFn Try.prog 18 = true) ∧ (isFn Try.prog 38 = true) ∧ (fOff Try.prog 24 1 = some 1) ∧ (ldK Try.prog 3 = some none) ∧ (isFn Try.prog 19 = true) ∧ (ldK Try.prog 38 = some (some 2)) := ⟨ld_24, fn_15, sl_25, pk_3, fn_17, fn_18, fn_38, fo_24_1, ld_3, fn_19, ld_38⟩
theorem ow_13 : (ldK Try.prog 24 = some (some 3)) ∧ (isFn Try.prog 15 = true) ∧ (slK Try.prog 25 = some 2) ∧ (ptK Try.prog 3 = false) ∧ (isFn Try.prog 26 = true) ∧ (isFn Try.prog 27 = true) ∧ (isFn Try.prog 29 = true) ∧ (arK Try.prog 25 = none) ∧ (ldK Try.prog 38 = some (some 2)) ∧ (szK Try.prog 38 = some 2) ∧ (isFn Try.prog 39 = true) ∧ (isFn Try.prog 40 = true) ∧ (isFn Try.prog 41 = true) := ⟨ld_24, fn_15, sl_25, pk_3, fn_26, fn_27, fn_29, ar_25, ld_38, sz_38, fn_39, fn_40, fn_41⟩
theorem ow_14 : (ldK Try.prog 24 = some (some 3)) ∧ (isFn Try.prog 15 = true) ∧ (slK Try.prog 25 = some 2) ∧ (ptK Try.prog 3 = false) ∧ (isFn Try.prog 26 = true) ∧ (isFn Try.prog 27 = true) ∧ (isFn Try.prog 42 = true) ∧ (isFn Try.prog 43 = true) ∧ (isFn Try.prog 28 = true) ∧ (isFn Try.prog 44 = true) ∧ (ldK Try.prog 38 = some (some 2)) ∧ (isFn Try.prog 39 = true) ∧ (isFn Try.prog 40 = true) := ⟨ld_24, fn_15, sl_25, pk_3, fn_26, fn_27, fn_42, fn_43, fn_28, fn_44, ld_38, fn_39, fn_40⟩
theorem ow_15 : (fOff Try.prog 24 0 = some 0) ∧ (ldK Try.prog 22 = some none) ∧ (slK Try.prog 22 = some 1) ∧ (ptK Try.prog 3 = false) := ⟨fo_24_0, ld_22, sl_22, pk_3⟩
theorem ow_16 : (ldK Try.prog 24 = some (some 3)) ∧ (isFn Try.prog 45 = true) ∧ (szK Try.prog 48 = some 3) ∧ (isFn Try.prog 46 = true) ∧ (ldK Try.prog 48 = some (some 3)) ∧ (ptK Try.prog 48 = false) := ⟨ld_24, fn_45, sz_48, fn_46, ld_48, pk_48⟩
theorem ow_17 : (szK Try.prog 24 = some 3) := sz_24
theorem ow_19 : (ptK Try.prog 3 = false) := pk_3
theorem ow_20 : (ldK Try.prog 24 = some (some 3)) ∧ (isFn Try.prog 29 = true) ∧ (fOff Try.prog 24 0 = some 0) ∧ (ldK Try.prog 22 = some none) ∧ (isFn Try.prog 47 = true) ∧ (isFn Try.prog 28 = true) := ⟨ld_24, fn_29, fo_24_0, ld_22, fn_47, fn_28⟩
theorem ow_21 : (ldK Try.prog 24 = some (some 3)) ∧ (isFn Try.prog 48 = true) ∧ (isFn Try.prog 49 = true) ∧ (isFn Try.prog 33 = true) := ⟨ld_24, fn_48, fn_49, fn_33⟩
theorem ow_23 : (ldK Try.prog 24 = some (some 3)) ∧ (isFn Try.prog 50 = true) ∧ (isFn Try.prog 51 = true) ∧ (isFn Try.prog 28 = true) := ⟨ld_24, fn_50, fn_51, fn_28⟩
theorem ow_24 : (ldK Try.prog 24 = some (some 3)) ∧ (isFn Try.prog 52 = true) ∧ (isFn Try.prog 53 = true) ∧ (isFn Try.prog 33 = true) := ⟨ld_24, fn_52, fn_53, fn_33⟩
theorem ow_26 : (fOff Try.prog 24 1 = some 1) ∧ (ldK Try.prog 3 = some none) ∧ (isFn Try.prog 19 = true) := ⟨fo_24_1, ld_3, fn_19⟩
theorem ow_27 : (isFn Try.prog 17 = true) ∧ (isFn Try.prog 18 = true) ∧ (slK Try.prog 25 = some 2) ∧ (isFn Try.prog 29 = true) ∧ (ptK Try.prog 3 = false) := ⟨fn_17, fn_18, sl_25, fn_29, pk_3⟩
theorem ow_28 : (slK Try.prog 25 = some 2) ∧ (ptK Try.prog 3 = false) ∧ (arK Try.prog 25 = none) ∧ (ldK Try.prog 38 = some (some 2)) ∧ (ptK Try.prog 38 = false) := ⟨sl_25, pk_3, ar_25, ld_38, pk_38⟩
theorem ow_29 : (ldK Try.prog 24 = some (some 3)) ∧ (isFn Try.prog 54 = true) ∧ (isFn Try.prog 55 = true) := ⟨ld_24, fn_54, fn_55⟩
theorem ow_30 : (slK Try.prog 61 = some 1) ∧ (ptK Try.prog 3 = false) ∧ (arK Try.prog 61 = none) ∧ (ldK Try.prog 25 = some none) ∧ (slK Try.prog 25 = some 2) ∧ (coK Try.prog 9 = true) ∧ (isFn Try.prog 56 = true) ∧ (noInt Try.prog 25 = true) := ⟨sl_61, pk_3, ar_61, ld_25, sl_25, co_9, fn_56, ni_25⟩
theorem ow_31 : (ldK Try.prog 24 = some (some 3)) ∧ (isFn Try.prog 54 = true) ∧ (isFn Try.prog 57 = true) ∧ (isFn Try.prog 58 = true) ∧ (slK Try.prog 25 = some 2) ∧ (ptK Try.prog 3 = false) ∧ (arK Try.prog 25 = none) ∧ (ldK Try.prog 38 = some (some 2)) ∧ (szK Try.prog 38 = some 2) ∧ (isFn Try.prog 60 = true) ∧ (isFn Try.prog 59 = true) ∧ (noInt Try.prog 41 = true) ∧ (isFn Try.prog 55 = true) := ⟨ld_24, fn_54, fn_57, fn_58, sl_25, pk_3, ar_25, ld_38, sz_38, fn_60, fn_59, ni_41, fn_55⟩
theorem ow_32 : (ldK Try.prog 24 = some (some 3)) ∧ (isFn Try.prog 54 = true) ∧ (slK Try.prog 25 = some 2) ∧ (ptK Try.prog 3 = false) ∧ (arK Try.prog 25 = none) ∧ (ldK Try.prog 38 = some (some 2)) ∧ (szK Try.prog 38 = some 2) ∧ (isFn Try.prog 60 = true) ∧ (isFn Try.prog 59 = true) ∧ (noInt Try.prog 41 = true) ∧ (isFn Try.prog 55 = true) := ⟨ld_24, fn_54, sl_25, pk_3, ar_25, ld_38, sz_38, fn_60, fn_59, ni_41, fn_55⟩
theorem ow_33 : (slK Try.prog 41 = some 3) ∧ (ptK Try.prog 3 = false) ∧ (arK Try.prog 41 = none) ∧ (ldK Try.prog 48 = some (some 3)) ∧ (ptK Try.prog 48 = false) := ⟨sl_41, pk_3, ar_41, ld_48, pk_48⟩
theorem ow_34 : (ldK Try.prog 24 = some (some 3)) ∧ (isFn Try.prog 61 = true) ∧ (isFn Try.prog 62 = true) ∧ (isFn Try.prog 33 = true) ∧ (isFn Try.prog 28 = true) := ⟨ld_24, fn_61, fn_62, fn_33, fn_28⟩
theorem ow_36 : (slK Try.prog 25 = some 2) ∧ (ptK Try.prog 3 = false) ∧ (arK Try.prog 25 = none) ∧ (ldK Try.prog 38 = some (some 2)) ∧ (isFn Try.prog 63 = true) := ⟨sl_25, pk_3, ar_25, ld_38, fn_63⟩
theorem ow_37 : (ldK Try.prog 24 = some (some 3)) ∧ (ldK Try.prog 38 = some (some 2)) ∧ (isFn Try.prog 64 = true) ∧ (isFn Try.prog 65 = true) ∧ (isFn Try.prog 28 = true) := ⟨ld_24, ld_38, fn_64, fn_65, fn_28⟩
theorem ow_38 : (ldK Try.prog 24 = some (some 3)) ∧ (ldK Try.prog 38 = some (some 2)) ∧ (isFn Try.prog 66 = true) ∧ (isFn Try.prog 65 = true) ∧ (isFn Try.prog 28 = true) := ⟨ld_24, ld_38, fn_66, fn_65, fn_28⟩
theorem ow_39 : (ldK Try.prog 24 = some (some 3)) ∧ (isFn Try.prog 54 = true) ∧ (ldK Try.prog 38 = some (some 2)) ∧ (isFn Try.prog 68 = true) ∧ (isFn Try.prog 67 = true) ∧ (ldK Try.prog 25 = some none) := ⟨ld_24, fn_54, ld_38, fn_68, fn_67, ld_25⟩
theorem ow_40 : (ldK Try.prog 24 = some (some 3)) ∧ (isFn Try.prog 54 = true) ∧ (ldK Try.prog 38 = some (some 2)) ∧ (isFn Try.prog 68 = true) ∧ (isFn Try.prog 69 = true) ∧ (ldK Try.prog 25 = some none) := ⟨ld_24, fn_54, ld_38, fn_68, fn_69, ld_25⟩
theorem ow_41 : (ldK Try.prog 24 = some (some 3)) ∧ (isFn Try.prog 54 = true) ∧ (isFn Try.prog 58 = true) := ⟨ld_24, fn_54, fn_58⟩
theorem ow_42 : (ldK Try.prog 24 = some (some 3)) ∧ (isFn Try.prog 54 = true) ∧ (isFn Try.prog 68 = true) ∧ (isFn Try.prog 70 = true) ∧ (ldK Try.prog 25 = some none) := ⟨ld_24, fn_54, fn_68, fn_70, ld_25⟩
theorem ow_43 : (ptK Try.prog 3 = false) ∧ (slK Try.prog 25 = some 2) := ⟨pk_3, sl_25⟩
theorem ow_44 : (ldK Try.prog 24 = some (some 3)) ∧ (isFn Try.prog 54 = true) ∧ (isFn Try.prog 68 = true) ∧ (isFn Try.prog 71 = true) ∧ (ldK Try.prog 25 = some none) := ⟨ld_24, fn_54, fn_68, fn_71, ld_25⟩
theorem ow_45 : (ldK Try.prog 24 = some (some 3)) ∧ (isFn Try.prog 54 = true) ∧ (isFn Try.prog 72 = true) ∧ (isFn Try.prog 59 = true) ∧ (szK Try.prog 48 = some 3) := ⟨ld_24, fn_54, fn_72, fn_59, sz_48⟩
theorem ow_46 : (fOff Try.prog 24 0 = some 0) ∧ (ldK Try.prog 22 = some none) ∧ (isFn Try.prog 47 = true) ∧ (isFn Try.prog 73 = true) ∧ (szK Try.prog 48 = some 3) := ⟨fo_24_0, ld_22, fn_47, fn_73, sz_48⟩
theorem ow_47 : (slK Try.prog 25 = some 2) ∧ (ptK Try.prog 3 = false) ∧ (arK Try.prog 25 = none) ∧ (ldK Try.prog 38 = some (some 2)) ∧ (szK Try.prog 38 = some 2) ∧ (isFn Try.prog 74 = true) := ⟨sl_25, pk_3, ar_25, ld_38, sz_38, fn_74⟩
theorem ow_48 : (ldK Try.prog 24 = some (some 3)) ∧ (isFn Try.prog 54 = true) ∧ (slK Try.prog 22 = some 1) ∧ (ptK Try.prog 3 = false) ∧ (arK Try.prog 22 = none) ∧ (ldK Try.prog 3 = some none) ∧ (isFn Try.prog 75 = true) ∧ (isFn Try.prog 59 = true) ∧ (noInt Try.prog 41 = true) := ⟨ld_24, fn_54, sl_22, pk_3, ar_22, ld_3, fn_75, fn_59, ni_41⟩
theorem ow_49 : (fOff Try.prog 24 0 = some 0) ∧ (ldK Try.prog 22 = some none) ∧ (isFn Try.prog 47 = true) ∧ (slK Try.prog 22 = some 1) ∧ (ptK Try.prog 3 = false) ∧ (arK Try.prog 22 = none) ∧ (ldK Try.prog 3 = some none) ∧ (isFn Try.prog 73 = true) ∧ (noInt Try.prog 41 = true) := ⟨fo_24_0, ld_22, fn_47, sl_22, pk_3, ar_22, ld_3, fn_73, ni_41⟩
theorem ow_50 : (ldK Try.prog 24 = some (some 3)) ∧ (isFn Try.prog 54 = true) ∧ (isFn Try.prog 68 = true) ∧ (isFn Try.prog 76 = true) ∧ (ldK Try.prog 25 = some none) := ⟨ld_24, fn_54, fn_68, fn_76, ld_25⟩
theorem ow_51 : (fOff Try.prog 24 0 = some 0) ∧ (ldK Try.prog 22 = some none) ∧ (isFn Try.prog 47 = true) ∧ (isFn Try.prog 43 = true) := ⟨fo_24_0, ld_22, fn_47, fn_43⟩
theorem ow_52 : (ldK Try.prog 24 = some (some 3)) ∧ (isFn Try.prog 54 = true) ∧ (slK Try.prog 25 = some 2) ∧ (ptK Try.prog 3 = false) ∧ (arK Try.prog 25 = none) ∧ (ldK Try.prog 38 = some (some 2)) ∧ (szK Try.prog 38 = some 2) ∧ (isFn Try.prog 77 = true) ∧ (isFn Try.prog 59 = true) ∧ (noInt Try.prog 41 = true) := ⟨ld_24, fn_54, sl_25, pk_3, ar_25, ld_38, sz_38, fn_77, fn_59, ni_41⟩
theorem ow_53 : (fOff Try.prog 24 0 = some 0) ∧ (ldK Try.prog 22 = some none) ∧ (isFn Try.prog 47 = true) ∧ (slK Try.prog 25 = some 2) ∧ (ptK Try.prog 3 = false) ∧ (arK Try.prog 25 = none) ∧ (ldK Try.prog 38 = some (some 2)) ∧ (szK Try.prog 38 = some 2) ∧ (szK Try.prog 48 = some 3) ∧ (isFn Try.prog 78 = true) ∧ (isFn Try.prog 73 = true) ∧ (ldK Try.prog 48 = some (some 3)) ∧ (noInt Try.prog 41 = true) := ⟨fo_24_0, ld_22, fn_47, sl_25, pk_3, ar_25, ld_38, sz_38, sz_48, fn_78, fn_73, ld_48, ni_41⟩
theorem ow_54 : (fOff Try.prog 24 0 = some 0) ∧ (ldK Try.prog 22 = some none) ∧ (isFn Try.prog 80 = true) ∧ (ldK Try.prog 24 = some (some 3)) ∧ (isFn Try.prog 81 = true) ∧ (isFn Try.prog 79 = true) ∧ (slK Try.prog 25 = some 2) ∧ (ptK Try.prog 3 = false) ∧ (arK Try.prog 25 = none) ∧ (ldK Try.prog 38 = some (some 2)) ∧ (szK Try.prog 38 = some 2) ∧ (isFn Try.prog 60 = true) := ⟨fo_24_0, ld_22, fn_80, ld_24, fn_81, fn_79, sl_25, pk_3, ar_25, ld_38, sz_38, fn_60⟩
theorem ow_55 : (isFn Try.prog 82 = true) := fn_82
theorem ow_56 : (ptK Try.prog 3 = false) ∧ (coK Try.prog 9 = true) ∧ (slK Try.prog 25 = some 2) ∧ (noInt Try.prog 3 = false) := ⟨pk_3, co_9, sl_25, ni_3⟩
theorem ow_57 : (isFn Try.prog 83 = true) ∧ (fOff Try.prog 98 2 = some 2) ∧ (szK Try.prog 96 = some 1) ∧ (fOff Try.prog 98 3 = some 3) ∧ (szK Try.prog 3 = some 1) := ⟨fn_83, fo_98_2, sz_96, fo_98_3, sz_3⟩
theorem ow_58 : (fOff Try.prog 98 3 = some 3) ∧ (ldK Try.prog 3 = some none) := ⟨fo_98_3, ld_3⟩
theorem ow_59 : (szK Try.prog 48 = some 3) ∧ (ldK Try.prog 38 = some (some 2)) := ⟨sz_48, ld_38⟩
theorem ow_60 : (ldK Try.prog 38 = some (some 2)) ∧ (isFn Try.prog 85 = true) ∧ (szK Try.prog 38 = some 2) := ⟨ld_38, fn_85, sz_38⟩
theorem ow_61 : (ldK Try.prog 24 = some (some 3)) ∧ (isFn Try.prog 54 = true) ∧ (slK Try.prog 25 = some 2) ∧ (ptK Try.prog 3 = false) ∧ (arK Try.prog 25 = none) ∧ (ldK Try.prog 38 = some (some 2)) ∧ (szK Try.prog 38 = some 2) ∧ (isFn Try.prog 86 = true) ∧ (isFn Try.prog 59 = true) ∧ (noInt Try.prog 41 = true) ∧ (isFn Try.prog 55 = true) := ⟨ld_24, fn_54, sl_25, pk_3, ar_25, ld_38, sz_38, fn_86, fn_59, ni_41, fn_55⟩
theorem ow_62 : (slK Try.prog 25 = some 2) ∧ (ptK Try.prog 3 = false) ∧ (arK Try.prog 25 = none) ∧ (ldK Try.prog 38 = some (some 2)) ∧ (szK Try.prog 38 = some 2) ∧ (fOff Try.prog 24 0 = some 0) ∧ (ldK Try.prog 22 = some none) ∧ (isFn Try.prog 74 = true) ∧ (szK Try.prog 48 = some 3) ∧ (ldK Try.prog 48 = some (some 3)) ∧ (noInt Try.prog 41 = true) := ⟨sl_25, pk_3, ar_25, ld_38, sz_38, fo_24_0, ld_22, fn_74, sz_48, ld_48, ni_41⟩
theorem ow_63 : (fOff Try.prog 38 0 = some 0) ∧ (ldK Try.prog 3 = some none) ∧ (isFn Try.prog 87 = true) ∧ (ptK Try.prog 3 = false) := ⟨fo_38_0, ld_3, fn_87, pk_3⟩
theorem ow_64 : (ldK Try.prog 24 = some (some 3)) ∧ (isFn Try.prog 54 = true) ∧ (ldK Try.prog 38 = some (some 2)) ∧ (isFn Try.prog 68 = true) ∧ (isFn Try.prog 88 = true) ∧ (ldK Try.prog 25 = some none) := ⟨ld_24, fn_54, ld_38, fn_68, fn_88, ld_25⟩
theorem ow_65 : (fOff Try.prog 24 0 = some 0) ∧ (ldK Try.prog 22 = some none) ∧ (isFn Try.prog 47 = true) ∧ (ldK Try.prog 38 = some (some 2)) ∧ (isFn Try.prog 89 = true) ∧ (isFn Try.prog 43 = true) := ⟨fo_24_0, ld_22, fn_47, ld_38, fn_89, fn_43⟩
theorem ow_66 : (ldK Try.prog 24 = some (some 3)) ∧ (isFn Try.prog 54 = true) ∧ (ldK Try.prog 38 = some (some 2)) ∧ (isFn Try.prog 68 = true) ∧ (isFn Try.prog 90 = true) ∧ (ldK Try.prog 25 = some none) := ⟨ld_24, fn_54, ld_38, fn_68, fn_90, ld_25⟩
theorem ow_67 : (ldK Try.prog 38 = some (some 2)) ∧ (isFn Try.prog 91 = true) := ⟨ld_38, fn_91⟩
theorem ow_69 : (ldK Try.prog 38 = some (some 2)) ∧ (isFn Try.prog 93 = true) := ⟨ld_38, fn_93⟩
theorem ow_70 : (isFn Try.prog 94 = true) := fn_94
theorem ow_71 : (isFn Try.prog 95 = true) := fn_95
theorem ow_72 : (isFn Try.prog 96 = true) ∧ (szK Try.prog 38 = some 2) := ⟨fn_96, sz_38⟩
theorem ow_73 : (isFn Try.prog 97 = true) ∧ (szK Try.prog 48 = some 3) ∧ (ldK Try.prog 48 = some (some 3)) := ⟨fn_97, sz_48, ld_48⟩
theorem ow_74 : (ldK Try.prog 38 = some (some 2)) ∧ (isFn Try.prog 78 = true) ∧ (slK Try.prog 25 = some 2) ∧ (noInt Try.prog 25 = true) ∧ (ptK Try.prog 3 = false) ∧ (arK Try.prog 25 = none) ∧ (szK Try.prog 48 = some 3) := ⟨ld_38, fn_78, sl_25, ni_25, pk_3, ar_25, sz_48⟩
theorem ow_75 : (isFn Try.prog 98 = true) ∧ (szK Try.prog 38 = some 2) := ⟨fn_98, sz_38⟩
theorem ow_76 : (isFn Try.prog 94 = true) := fn_94
theorem ow_77 : (ldK Try.prog 38 = some (some 2)) ∧ (isFn Try.prog 99 = true) ∧ (szK Try.prog 38 = some 2) := ⟨ld_38, fn_99, sz_38⟩
theorem ow_78 : (slK Try.prog 25 = some 2) ∧ (ptK Try.prog 3 = false) ∧ (arK Try.prog 25 = none) ∧ (ldK Try.prog 38 = some (some 2)) ∧ (isFn Try.prog 63 = true) := ⟨sl_25, pk_3, ar_25, ld_38, fn_63⟩
theorem ow_79 : (fOff Try.prog 98 1 = some 1) ∧ (szK Try.prog 95 = some 1) ∧ (ldK Try.prog 95 = some none) ∧ (isFn Try.prog 100 = true) ∧ (fOff Try.prog 98 0 = some 0) ∧ (szK Try.prog 94 = some 1) ∧ (fOff Try.prog 98 6 = some 6) ∧ (szK Try.prog 86 = some 1) ∧ (fOff Try.prog 89 0 = some 0) ∧ (ldK Try.prog 3 = some none) ∧ (isFn Try.prog 101 = true) := ⟨fo_98_1, sz_95, ld_95, fn_100, fo_98_0, sz_94, fo_98_6, sz_86, fo_89_0, ld_3, fn_101⟩
theorem ow_80 : (isFn Try.prog 102 = true) ∧ (szK Try.prog 22 = some 1) := ⟨fn_102, sz_22⟩
theorem ow_81 : (fOff Try.prog 24 1 = some 1) ∧ (ldK Try.prog 3 = some none) ∧ (fOff Try.prog 24 2 = some 2) ∧ (ldK Try.prog 4 = some none) ∧ (szK Try.prog 89 = some 2) := ⟨fo_24_1, ld_3, fo_24_2, ld_4, sz_89⟩
theorem ow_82 : (isFn Try.prog 83 = true) ∧ (isFn Try.prog 58 = true) ∧ (fOff Try.prog 98 2 = some 2) ∧ (ldK Try.prog 96 = some none) ∧ (ptK Try.prog 96 = true) ∧ (isFn Try.prog 105 = true) := ⟨fn_83, fn_58, fo_98_2, ld_96, pk_96, fn_105⟩
theorem ow_85 : (ldK Try.prog 38 = some (some 2)) ∧ (isFn Try.prog 106 = true) ∧ (szK Try.prog 38 = some 2) := ⟨ld_38, fn_106, sz_38⟩
theorem ow_86 : (isFn Try.prog 83 = true) ∧ (fOff Try.prog 98 2 = some 2) ∧ (ldK Try.prog 96 = some none) ∧ (ptK Try.prog 96 = true) ∧ (ldK Try.prog 38 = some (some 2)) ∧ (isFn Try.prog 106 = true) ∧ (szK Try.prog 38 = some 2) ∧ (isFn Try.prog 107 = true) ∧ (fOff Try.prog 116 1 = some 1) ∧ (ldK Try.prog 3 = some none) ∧ (ptK Try.prog 3 = false) ∧ (szK Try.prog 3 = some 1) ∧ (isFn Try.prog 108 = true) ∧ (fOff Try.prog 116 2 = some 2) ∧ (ldK Try.prog 25 = some none) ∧ (slK Try.prog 25 = some 2) ∧ (fOff Try.prog 98 8 = some 9) ∧ (arK Try.prog 25 = none) ∧ (isFn Try.prog 109 = true) ∧ (noInt Try.prog 25 = true) ∧ (szK Try.prog 25 = some 1) ∧ (fOff Try.prog 98 3 = some 3) ∧ (fOff Try.prog 98 7 = some 7) ∧ (fOff Try.prog 116 3 = some 3) ∧ (ldK Try.prog 114 = some none) ∧ (ldK Try.prog 117 = some none) ∧ (slK Try.prog 117 = some 1) ∧ (arK Try.prog 117 = none) := ⟨fn_83, fo_98_2, ld_96, pk_96, ld_38, fn_106, sz_38, fn_107, fo_116_1, ld_3, pk_3, sz_3, fn_108, fo_116_2, ld_25, sl_25, fo_98_8, ar_25, fn_109, ni_25, sz_25, fo_98_3, fo_98_7, fo_116_3, ld_114, ld_117, sl_117, ar_117⟩
theorem ow_87 : (slK Try.prog 22 = some 1) ∧ (ptK Try.prog 3 = false) ∧ (arK Try.prog 22 = none) ∧ (ldK Try.prog 3 = some none) := ⟨sl_22, pk_3, ar_22, ld_3⟩
theorem ow_88 : (ldK Try.prog 38 = some (some 2)) ∧ (isFn Try.prog 91 = true) := ⟨ld_38, fn_91⟩
theorem ow_89 : (ldK Try.prog 38 = some (some 2)) ∧ (isFn Try.prog 78 = true) ∧ (slK Try.prog 25 = some 2) := ⟨ld_38, fn_78, sl_25⟩
theorem ow_90 : (ldK Try.prog 38 = some (some 2)) ∧ (isFn Try.prog 91 = true) := ⟨ld_38, fn_91⟩
theorem ow_91 : (isFn Try.prog 83 = true) ∧ (fOff Try.prog 98 2 = some 2) ∧ (ldK Try.prog 96 = some none) ∧ (ptK Try.prog 96 = true) ∧ (ldK Try.prog 38 = some (some 2)) ∧ (isFn Try.prog 110 = true) := ⟨fn_83, fo_98_2, ld_96, pk_96, ld_38, fn_110⟩
theorem ow_92 : (ldK Try.prog 70 = some none) ∧ (ldK Try.prog 25 = some none) ∧ (ldK Try.prog 38 = some (some 2)) ∧ (noInt Try.prog 25 = true) ∧ (szK Try.prog 25 = some 1) ∧ (ldK Try.prog 3 = some none) ∧ (ptK Try.prog 3 = false) ∧ (slK Try.prog 25 = some 2) := ⟨ld_70, ld_25, ld_38, ni_25, sz_25, ld_3, pk_3, sl_25⟩
theorem ow_93 : (isFn Try.prog 83 = true) ∧ (fOff Try.prog 98 2 = some 2) ∧ (ldK Try.prog 96 = some none) ∧ (ptK Try.prog 96 = true) ∧ (ldK Try.prog 38 = some (some 2)) ∧ (isFn Try.prog 111 = true) := ⟨fn_83, fo_98_2, ld_96, pk_96, ld_38, fn_111⟩
theorem ow_94 : (isFn Try.prog 83 = true) ∧ (fOff Try.prog 98 2 = some 2) ∧ (ldK Try.prog 96 = some none) ∧ (ptK Try.prog 96 = true) ∧ (isFn Try.prog 112 = true) := ⟨fn_83, fo_98_2, ld_96, pk_96, fn_112⟩
theorem ow_95 : (isFn Try.prog 83 = true) ∧ (fOff Try.prog 98 2 = some 2) ∧ (ldK Try.prog 96 = some none) ∧ (ptK Try.prog 96 = true) ∧ (isFn Try.prog 113 = true) := ⟨fn_83, fo_98_2, ld_96, pk_96, fn_113⟩
theorem ow_96 : (isFn Try.prog 83 = true) ∧ (fOff Try.prog 98 2 = some 2) ∧ (ldK Try.prog 96 = some none) ∧ (ptK Try.prog 96 = true) ∧ (fOff Try.prog 98 7 = some 7) ∧ (ldK Try.prog 38 = some (some 2)) ∧ (szK Try.prog 38 = some 2) ∧ (isFn Try.prog 107 = true) ∧ (isFn Try.prog 108 = true) ∧ (fOff Try.prog 116 2 = some 2) ∧ (ldK Try.prog 25 = some none) ∧ (slK Try.prog 25 = some 2) ∧ (arK Try.prog 25 = none) ∧ (fOff Try.prog 116 3 = some 3) ∧ (ldK Try.prog 114 = some none) ∧ (ldK Try.prog 117 = some none) ∧ (slK Try.prog 117 = some 1) ∧ (arK Try.prog 117 = none) := ⟨fn_83, fo_98_2, ld_96, pk_96, fo_98_7, ld_38, sz_38, fn_107, fn_108, fo_116_2, ld_25, sl_25, ar_25, fo_116_3, ld_114, ld_117, sl_117, ar_117⟩
theorem ow_97 : (ptK Try.prog 3 = false) ∧ (slK Try.prog 25 = some 2) ∧ (szK Try.prog 48 = some 3) ∧ (noInt Try.prog 25 = true) ∧ (arK Try.prog 25 = none) ∧ (ldK Try.prog 38 = some (some 2)) := ⟨pk_3, sl_25, sz_48, ni_25, ar_25, ld_38⟩
theorem ow_98 : (isFn Try.prog 83 = true) ∧ (fOff Try.prog 98 2 = some 2) ∧ (ldK Try.prog 96 = some none) ∧ (ptK Try.prog 96 = true) ∧ (ptK Try.prog 3 = false) ∧ (fOff Try.prog 98 3 = some 3) ∧ (ldK Try.prog 3 = some none) ∧ (fOff Try.prog 98 7 = some 7) ∧ (ldK Try.prog 38 = some (some 2)) ∧ (szK Try.prog 38 = some 2) ∧ (isFn Try.prog 107 = true) ∧ (isFn Try.prog 108 = true) ∧ (fOff Try.prog 116 2 = some 2) ∧ (ldK Try.prog 25 = some none) ∧ (slK Try.prog 25 = some 2) ∧ (arK Try.prog 25 = none) ∧ (fOff Try.prog 116 3 = some 3) ∧ (ldK Try.prog 114 = some none) ∧ (ldK Try.prog 117 = some none) ∧ (slK Try.prog 117 = some 1) ∧ (arK Try.prog 117 = none) ∧ (fOff Try.prog 116 1 = some 1) := ⟨fn_83, fo_98_2, ld_96, pk_96, pk_3, fo_98_3, ld_3, fo_98_7, ld_38, sz_38, fn_107, fn_108, fo_116_2, ld_25, sl_25, ar_25, fo_116_3, ld_114, ld_117, sl_117, ar_117, fo_116_1⟩
theorem ow_99 : (isFn Try.prog 83 = true) ∧ (fOff Try.prog 98 2 = some 2) ∧ (ldK Try.prog 96 = some none) ∧ (ptK Try.prog 96 = true) ∧ (fOff Try.prog 98 7 = some 7) ∧ (ldK Try.prog 38 = some (some 2)) ∧ (szK Try.prog 38 = some 2) ∧ (isFn Try.prog 107 = true) ∧ (isFn Try.prog 114 = true) ∧ (fOff Try.prog 116 2 = some 2) ∧ (ldK Try.prog 25 = some none) ∧ (slK Try.prog 25 = some 2) ∧ (arK Try.prog 25 = none) ∧ (fOff Try.prog 116 3 = some 3) ∧ (ldK Try.prog 114 = some none) ∧ (ptK Try.prog 114 = true) ∧ (ldK Try.prog 117 = some none) ∧ (slK Try.prog 117 = some 1) ∧ (arK Try.prog 117 = none) ∧ (ptK Try.prog 3 = false) := ⟨fn_83, fo_98_2, ld_96, pk_96, fo_98_7, ld_38, sz_38, fn_107, fn_114, fo_116_2, ld_25, sl_25, ar_25, fo_116_3, ld_114, pk_114, ld_117, sl_117, ar_117, pk_3⟩
theorem ow_100 : (ldK Try.prog 94 = some none) ∧ (ptK Try.prog 94 = false) ∧ (szK Try.prog 94 = some 1) := ⟨ld_94, pk_94, sz_94⟩
theorem ow_101 : (fOff Try.prog 98 9 = some 10) ∧ (ldK Try.prog 3 = some none) ∧ (ptK Try.prog 3 = false) ∧ (isFn Try.prog 115 = true) ∧ (szK Try.prog 3 = some 1) ∧ (fOff Try.prog 98 8 = some 9) ∧ (fOff Try.prog 98 7 = some 7) ∧ (ldK Try.prog 38 = some (some 2)) ∧ (coK Try.prog 38 = true) ∧ (coK Try.prog 124 = false) ∧ (fOff Try.prog 98 4 = some 4) ∧ (szK Try.prog 4 = some 1) ∧ (ldK Try.prog 4 = some none) ∧ (coK Try.prog 127 = false) ∧ (fOff Try.prog 98 5 = some 5) := ⟨fo_98_9, ld_3, pk_3, fn_115, sz_3, fo_98_8, fo_98_7, ld_38, co_38, co_124, fo_98_4, sz_4, ld_4, co_127, fo_98_5⟩
theorem ow_102 : (ptK Try.prog 22 = false) ∧ (noInt Try.prog 22 = true) := ⟨pk_22, ni_22⟩
theorem ow_103 : (ldK Try.prog 22 = some none) ∧ (fOff Try.prog 38 0 = some 0) ∧ (ldK Try.prog 3 = some none) ∧ (isFn Try.prog 104 = true) ∧ (ptK Try.prog 3 = false) := ⟨ld_22, fo_38_0, ld_3, fn_104, pk_3⟩
theorem ow_104 : (slK Try.prog 22 = some 1) ∧ (ptK Try.prog 3 = false) ∧ (isFn Try.prog 116 = true) ∧ (arK Try.prog 22 = none) ∧ (ldK Try.prog 3 = some none) := ⟨sl_22, pk_3, fn_116, ar_22, ld_3⟩
theorem ow_105 : (isFn Try.prog 107 = true) ∧ (isFn Try.prog 108 = true) ∧ (fOff Try.prog 116 2 = some 2) ∧ (ldK Try.prog 25 = some none) ∧ (noInt Try.prog 25 = true) ∧ (slK Try.prog 25 = some 2) ∧ (ptK Try.prog 3 = false) ∧ (fOff Try.prog 116 3 = some 3) ∧ (ldK Try.prog 114 = some none) ∧ (ldK Try.prog 117 = some none) ∧ (slK Try.prog 117 = some 1) ∧ (arK Try.prog 117 = none) ∧ (isFn Try.prog 105 = true) ∧ (arK Try.prog 25 = none) ∧ (ldK Try.prog 38 = some (some 2)) := ⟨fn_107, fn_108, fo_116_2, ld_25, ni_25, sl_25, pk_3, fo_116_3, ld_114, ld_117, sl_117, ar_117, fn_105, ar_25, ld_38⟩
theorem ow_106 : (fOff Try.prog 98 2 = some 2) ∧ (ldK Try.prog 96 = some none) ∧ (ptK Try.prog 96 = true) ∧ (isFn Try.prog 101 = true) ∧ (isFn Try.prog 117 = true) ∧ (szK Try.prog 96 = some 1) ∧ (ldK Try.prog 38 = some (some 2)) ∧ (noInt Try.prog 25 = true) ∧ (fOff Try.prog 116 2 = some 2) ∧ (szK Try.prog 25 = some 1) ∧ (fOff Try.prog 116 1 = some 1) ∧ (szK Try.prog 3 = some 1) ∧ (fOff Try.prog 98 3 = some 3) ∧ (fOff Try.prog 98 7 = some 7) ∧ (szK Try.prog 38 = some 2) ∧ (isFn Try.prog 118 = true) ∧ (isFn Try.prog 107 = true) ∧ (isFn Try.prog 119 = true) ∧ (fOff Try.prog 116 3 = some 3) ∧ (ldK Try.prog 114 = some none) ∧ (fOff Try.prog 98 8 = some 9) ∧ (ldK Try.prog 3 = some none) ∧ (ptK Try.prog 3 = false) ∧ (szK Try.prog 117 = some 1) ∧ (noInt Try.prog 117 = true) ∧ (isFn Try.prog 120 = true) ∧ (isFn Try.prog 106 = true) := ⟨fo_98_2, ld_96, pk_96, fn_101, fn_117, sz_96, ld_38, ni_25, fo_116_2, sz_25, fo_116_1, sz_3, fo_98_3, fo_98_7, sz_38, fn_118, fn_107, fn_119, fo_116_3, ld_114, fo_98_8, ld_3, pk_3, sz_117, ni_117, fn_120, fn_106⟩
theorem ow_107 : (ldK Try.prog 96 = some none) ∧ (fOff Try.prog 116 0 = some 0) ∧ (ldK Try.prog 94 = some none) ∧ (fOff Try.prog 98 0 = some 0) ∧ (ptK Try.prog 94 = false) ∧ (isFn Try.prog 121 = true) ∧ (szK Try.prog 96 = some 1) := ⟨ld_96, fo_116_0, ld_94, fo_98_0, pk_94, fn_121, sz_96⟩
theorem ow_108 : (fOff Try.prog 116 3 = some 3) ∧ (ldK Try.prog 114 = some none) ∧ (ptK Try.prog 114 = true) := ⟨fo_116_3, ld_114, pk_114⟩
theorem ow_109 : (fOff Try.prog 98 6 = some 6) ∧ (ldK Try.prog 86 = some none) ∧ (ldK Try.prog 38 = some (some 2)) := ⟨fo_98_6, ld_86, ld_38⟩
theorem ow_110 : (isFn Try.prog 107 = true) ∧ (ldK Try.prog 38 = some (some 2)) ∧ (isFn Try.prog 114 = true) ∧ (isFn Try.prog 108 = true) ∧ (fOff Try.prog 116 3 = some 3) ∧ (ldK Try.prog 114 = some none) ∧ (ldK Try.prog 117 = some none) ∧ (slK Try.prog 117 = some 1) ∧ (arK Try.prog 117 = none) ∧ (ptK Try.prog 3 = false) ∧ (isFn Try.prog 110 = true) ∧ (fOff Try.prog 116 2 = some 2) ∧ (ldK Try.prog 25 = some none) ∧ (slK Try.prog 25 = some 2) ∧ (arK Try.prog 25 = none) ∧ (isFn Try.prog 112 = true) := ⟨fn_107, ld_38, fn_114, fn_108, fo_116_3, ld_114, ld_117, sl_117, ar_117, pk_3, fn_110, fo_116_2, ld_25, sl_25, ar_25, fn_112⟩
theorem ow_111 : (isFn Try.prog 107 = true) ∧ (ldK Try.prog 38 = some (some 2)) ∧ (isFn Try.prog 114 = true) ∧ (isFn Try.prog 108 = true) ∧ (fOff Try.prog 116 3 = some 3) ∧ (ldK Try.prog 114 = some none) ∧ (ldK Try.prog 117 = some none) ∧ (slK Try.prog 117 = some 1) ∧ (arK Try.prog 117 = none) ∧ (ptK Try.prog 3 = false) ∧ (isFn Try.prog 111 = true) ∧ (fOff Try.prog 116 2 = some 2) ∧ (ldK Try.prog 25 = some none) ∧ (slK Try.prog 25 = some 2) ∧ (arK Try.prog 25 = none) ∧ (isFn Try.prog 113 = true) := ⟨fn_107, ld_38, fn_114, fn_108, fo_116_3, ld_114, ld_117, sl_117, ar_117, pk_3, fn_111, fo_116_2, ld_25, sl_25, ar_25, fn_113⟩
theorem ow_112 : (isFn Try.prog 107 = true) ∧ (isFn Try.prog 108 = true) ∧ (fOff Try.prog 116 2 = some 2) ∧ (ldK Try.prog 25 = some none) ∧ (slK Try.prog 25 = some 2) ∧ (ptK Try.prog 3 = false) ∧ (arK Try.prog 25 = none) ∧ (ldK Try.prog 38 = some (some 2)) ∧ (fOff Try.prog 116 3 = some 3) ∧ (ldK Try.prog 114 = some none) ∧ (ldK Try.prog 117 = some none) ∧ (slK Try.prog 117 = some 1) ∧ (arK Try.prog 117 = none) ∧ (isFn Try.prog 112 = true) := ⟨fn_107, fn_108, fo_116_2, ld_25, sl_25, pk_3, ar_25, ld_38, fo_116_3, ld_114, ld_117, sl_117, ar_117, fn_112⟩
theorem ow_113 : (isFn Try.prog 107 = true) ∧ (isFn Try.prog 108 = true) ∧ (fOff Try.prog 116 2 = some 2) ∧ (ldK Try.prog 25 = some none) ∧ (slK Try.prog 25 = some 2) ∧ (ptK Try.prog 3 = false) ∧ (arK Try.prog 25 = none) ∧ (ldK Try.prog 38 = some (some 2)) ∧ (fOff Try.prog 116 3 = some 3) ∧ (ldK Try.prog 114 = some none) ∧ (ldK Try.prog 117 = some none) ∧ (slK Try.prog 117 = some 1) ∧ (arK Try.prog 117 = none) ∧ (isFn Try.prog 113 = true) := ⟨fn_107, fn_108, fo_116_2, ld_25, sl_25, pk_3, ar_25, ld_38, fo_116_3, ld_114, ld_117, sl_117, ar_117, fn_113⟩
theorem ow_114 : (ptK Try.prog 82 = true) ∧ (ldK Try.prog 38 = some (some 2)) ∧ (isFn Try.prog 122 = true) ∧ (isFn Try.prog 123 = true) := ⟨pk_82, ld_38, fn_122, fn_123⟩
theorem ow_115 : (ptK Try.prog 3 = false) := pk_3
theorem ow_116 : (ptK Try.prog 3 = false) := pk_3
theorem ow_117 : (fOff Try.prog 98 0 = some 0) ∧ (ldK Try.prog 94 = some none) ∧ (fOff Try.prog 116 3 = some 3) ∧ (szK Try.prog 114 = some 1) := ⟨fo_98_0, ld_94, fo_116_3, sz_114⟩
theorem ow_118 : (ldK Try.prog 96 = some none) ∧ (fOff Try.prog 116 0 = some 0) ∧ (ldK Try.prog 94 = some none) ∧ (fOff Try.prog 98 0 = some 0) ∧ (ptK Try.prog 94 = false) ∧ (isFn Try.prog 121 = true) ∧ (szK Try.prog 96 = some 1) ∧ (ptK Try.prog 82 = true) ∧ (ldK Try.prog 38 = some (some 2)) ∧ (isFn Try.prog 122 = true) ∧ (isFn Try.prog 123 = true) ∧ (fOff Try.prog 116 2 = some 2) ∧ (ldK Try.prog 25 = some none) ∧ (slK Try.prog 25 = some 2) ∧ (arK Try.prog 25 = none) ∧ (szK Try.prog 38 = some 2) ∧ (isFn Try.prog 108 = true) ∧ (fOff Try.prog 98 8 = some 9) ∧ (ldK Try.prog 3 = some none) ∧ (ptK Try.prog 3 = false) ∧ (fOff Try.prog 98 7 = some 7) ∧ (noInt Try.prog 25 = true) ∧ (szK Try.prog 25 = some 1) ∧ (fOff Try.prog 116 1 = some 1) ∧ (szK Try.prog 3 = some 1) ∧ (fOff Try.prog 116 3 = some 3) ∧ (ldK Try.prog 114 = some none) ∧ (ldK Try.prog 117 = some none) ∧ (slK Try.prog 117 = some 1) ∧ (arK Try.prog 117 = none) ∧ (isFn Try.prog 118 = true) ∧ (isFn Try.prog 119 = true) ∧ (noInt Try.prog 117 = true) ∧ (szK Try.prog 117 = some 1) := ⟨ld_96, fo_116_0, ld_94, fo_98_0, pk_94, fn_121, sz_96, pk_82, ld_38, fn_122, fn_123, fo_116_2, ld_25, sl_25, ar_25, sz_38, fn_108, fo_98_8, ld_3, pk_3, fo_98_7, ni_25, sz_25, fo_116_1, sz_3, fo_116_3, ld_114, ld_117, sl_117, ar_117, fn_118, fn_119, ni_117, sz_117⟩
theorem ow_119 : (fOff Try.prog 98 8 = some 9) ∧ (ldK Try.prog 3 = some none) ∧ (ptK Try.prog 3 = false) ∧ (fOff Try.prog 116 2 = some 2) ∧ (ldK Try.prog 25 = some none) ∧ (slK Try.prog 25 = some 2) ∧ (arK Try.prog 25 = none) ∧ (ldK Try.prog 38 = some (some 2)) ∧ (szK Try.prog 38 = some 2) ∧ (isFn Try.prog 108 = true) ∧ (isFn Try.prog 117 = true) ∧ (szK Try.prog 25 = some 1) ∧ (fOff Try.prog 116 3 = some 3) ∧ (ldK Try.prog 114 = some none) ∧ (ldK Try.prog 117 = some none) ∧ (slK Try.prog 117 = some 1) ∧ (szK Try.prog 117 = some 1) ∧ (isFn Try.prog 120 = true) ∧ (fOff Try.prog 98 7 = some 7) := ⟨fo_98_8, ld_3, pk_3, fo_116_2, ld_25, sl_25, ar_25, ld_38, sz_38, fn_108, fn_117, sz_25, fo_116_3, ld_114, ld_117, sl_117, sz_117, fn_120, fo_98_7⟩
theorem ow_120 : (fOff Try.prog 116 2 = some 2) ∧ (ldK Try.prog 25 = some none) ∧ (slK Try.prog 25 = some 2) ∧ (fOff Try.prog 116 1 = some 1) ∧ (szK Try.prog 3 = some 1) ∧ (isFn Try.prog 108 = true) ∧ (fOff Try.prog 116 3 = some 3) ∧ (ldK Try.prog 114 = some none) ∧ (ldK Try.prog 117 = some none) ∧ (slK Try.prog 117 = some 1) ∧ (ptK Try.prog 3 = false) ∧ (ldK Try.prog 3 = some none) ∧ (arK Try.prog 117 = none) ∧ (ldK Try.prog 96 = some none) := ⟨fo_116_2, ld_25, sl_25, fo_116_1, sz_3, fn_108, fo_116_3, ld_114, ld_117, sl_117, pk_3, ld_3, ar_117, ld_96⟩
theorem ow_121 : (fOff Try.prog 98 0 = some 0) ∧ (ldK Try.prog 94 = some none) ∧ (fOff Try.prog 116 0 = some 0) ∧ (szK Try.prog 94 = some 1) ∧ (fOff Try.prog 116 1 = some 1) ∧ (ldK Try.prog 3 = some none) ∧ (szK Try.prog 3 = some 1) ∧ (fOff Try.prog 116 2 = some 2) ∧ (ldK Try.prog 25 = some none) ∧ (slK Try.prog 25 = some 2) ∧ (szK Try.prog 25 = some 1) ∧ (fOff Try.prog 98 4 = some 4) ∧ (ldK Try.prog 4 = some none) ∧ (ptK Try.prog 3 = false) ∧ (arK Try.prog 25 = none) ∧ (ldK Try.prog 38 = some (some 2)) ∧ (coK Try.prog 38 = true) ∧ (coK Try.prog 124 = false) ∧ (szK Try.prog 38 = some 2) ∧ (fOff Try.prog 98 5 = some 5) ∧ (coK Try.prog 127 = false) ∧ (isFn Try.prog 108 = true) ∧ (fOff Try.prog 116 3 = some 3) ∧ (szK Try.prog 114 = some 1) ∧ (ldK Try.prog 114 = some none) ∧ (ldK Try.prog 117 = some none) ∧ (slK Try.prog 117 = some 1) ∧ (fOff Try.prog 98 8 = some 9) ∧ (szK Try.prog 117 = some 1) := ⟨fo_98_0, ld_94, fo_116_0, sz_94, fo_116_1, ld_3, sz_3, fo_116_2, ld_25, sl_25, sz_25, fo_98_4, ld_4, pk_3, ar_25, ld_38, co_38, co_124, sz_38, fo_98_5, co_127, fn_108, fo_116_3, sz_114, ld_114, ld_117, sl_117, fo_98_8, sz_117⟩
theorem ow_122 : (fOff Try.prog 116 2 = some 2) ∧ (ldK Try.prog 25 = some none) ∧ (slK Try.prog 25 = some 2) ∧ (ptK Try.prog 3 = false) ∧ (cvK Try.prog 3 138 = some .u64) ∧ (ptK Try.prog 138 = false) ∧ (cvK Try.prog 138 3 = some .i64) ∧ (fOff Try.prog 98 6 = some 6) ∧ (ldK Try.prog 86 = some none) ∧ (ldK Try.prog 38 = some (some 2)) ∧ (arK Try.prog 25 = none) := ⟨fo_116_2, ld_25, sl_25, pk_3, cv_3_138, pk_138, cv_138_3, fo_98_6, ld_86, ld_38, ar_25⟩
theorem ow_123 : (fOff Try.prog 116 2 = some 2) ∧ (ldK Try.prog 25 = some none) ∧ (slK Try.prog 25 = some 2) ∧ (ptK Try.prog 3 = false) ∧ (fOff Try.prog 80 0 = some 0) ∧ (slK Try.prog 77 = none) ∧ (arK Try.prog 77 = some (8, 1)) ∧ (ldK Try.prog 4 = some none) ∧ (fOff Try.prog 80 1 = some 8) ∧ (slK Try.prog 78 = none) ∧ (arK Try.prog 78 = some (8, 1)) ∧ (ldK Try.prog 5 = some none) ∧ (cvK Try.prog 5 3 = some .i64) ∧ (arK Try.prog 25 = none) ∧ (ldK Try.prog 38 = some (some 2)) ∧ (isFn Try.prog 109 = true) ∧ (szK Try.prog 4 = some 1) ∧ (isFn Try.prog 108 = true) ∧ (cvK Try.prog 3 5 = some .u8) ∧ (ptK Try.prog 5 = false) ∧ (szK Try.prog 5 = some 1) := ⟨fo_116_2, ld_25, sl_25, pk_3, fo_80_0, sl_77, ar_77, ld_4, fo_80_1, sl_78, ar_78, ld_5, cv_5_3, ar_25, ld_38, fn_109, sz_4, fn_108, cv_3_5, pk_5, sz_5⟩
theorem ow_139 : (isFn Try.prog 140 = true) := fn_140
theorem ow_140 : (fOff Try.prog 98 1 = some 1) ∧ (ldK Try.prog 95 = some none) ∧ (isFn Try.prog 100 = true) ∧ (fOff Try.prog 98 0 = some 0) ∧ (szK Try.prog 94 = some 1) ∧ (ldK Try.prog 98 = some (some 11)) ∧ (szK Try.prog 98 = some 11) := ⟨fo_98_1, ld_95, fn_100, fo_98_0, sz_94, ld_98, sz_98⟩
end Go.Proofs.Ytdffddiaoheklaa
