/-
  What the program's tables say of the types and functions that the walks meet, as closed facts. No condition.
-/
import Derived.Test.YtbnnkcofnmipoaaZA
import Derived.Test.YtbnnkcofnmipoaaProg
import Derived.KernelRfl
/-
  What the program's tables say of the types and functions that the walks meet, as closed facts. No condition.
-/
namespace Go.Proofs.Ytbnnkcofnmipoaa
open Go Go.Proofs
theorem mixed : Try.prog.follows .mixedOrders = true := by kernel_rfl
theorem ld_24 : ldK Try.prog 24 = some (some 3) := by kernel_rfl
theorem fn_12 : isFn Try.prog 12 = true := by kernel_rfl
theorem sl_25 : slK Try.prog 25 = some 2 := by kernel_rfl
theorem pk_3 : ptK Try.prog 3 = false := by kernel_rfl
theorem fn_13 : isFn Try.prog 13 = true := by kernel_rfl
theorem fn_14 : isFn Try.prog 14 = true := by kernel_rfl
theorem cv_5_3 : cvK Try.prog 5 3 = some .i64 := by kernel_rfl
theorem fn_16 : isFn Try.prog 16 = true := by kernel_rfl
theorem fn_15 : isFn Try.prog 15 = true := by kernel_rfl
theorem sl_28 : slK Try.prog 28 = some 3 := by kernel_rfl
theorem ar_28 : arK Try.prog 28 = none := by kernel_rfl
theorem ld_35 : ldK Try.prog 35 = some (some 3) := by kernel_rfl
theorem sz_35 : szK Try.prog 35 = some 3 := by kernel_rfl
theorem fo_35_1 : fOff Try.prog 35 1 = some 2 := by kernel_rfl
theorem ld_4 : ldK Try.prog 4 = some none := by kernel_rfl
theorem fo_24_0 : fOff Try.prog 24 0 = some 0 := by kernel_rfl
theorem ld_22 : ldK Try.prog 22 = some none := by kernel_rfl
theorem fn_17 : isFn Try.prog 17 = true := by kernel_rfl
theorem sl_38 : slK Try.prog 38 = some 3 := by kernel_rfl
theorem fn_19 : isFn Try.prog 19 = true := by kernel_rfl
theorem fn_20 : isFn Try.prog 20 = true := by kernel_rfl
theorem fn_21 : isFn Try.prog 21 = true := by kernel_rfl
theorem fn_22 : isFn Try.prog 22 = true := by kernel_rfl
theorem fn_18 : isFn Try.prog 18 = true := by kernel_rfl
theorem fo_24_1 : fOff Try.prog 24 1 = some 1 := by kernel_rfl
theorem ld_3 : ldK Try.prog 3 = some none := by kernel_rfl
theorem fn_23 : isFn Try.prog 23 = true := by kernel_rfl
theorem fn_24 : isFn Try.prog 24 = true := by kernel_rfl
theorem ni_38 : noInt Try.prog 38 = true := by kernel_rfl
theorem fn_25 : isFn Try.prog 25 = true := by kernel_rfl
theorem ar_25 : arK Try.prog 25 = none := by kernel_rfl
theorem ld_33 : ldK Try.prog 33 = some (some 2) := by kernel_rfl
theorem pk_35 : ptK Try.prog 35 = false := by kernel_rfl
theorem fn_26 : isFn Try.prog 26 = true := by kernel_rfl
theorem fn_27 : isFn Try.prog 27 = true := by kernel_rfl
theorem fn_28 : isFn Try.prog 28 = true := by kernel_rfl
theorem fn_29 : isFn Try.prog 29 = true := by kernel_rfl
theorem fn_30 : isFn Try.prog 30 = true := by kernel_rfl
theorem fn_31 : isFn Try.prog 31 = true := by kernel_rfl
theorem fn_32 : isFn Try.prog 32 = true := by kernel_rfl
theorem pk_53 : ptK Try.prog 53 = false := by kernel_rfl
theorem cv_53_3 : cvK Try.prog 53 3 = some .i64 := by kernel_rfl
theorem fn_33 : isFn Try.prog 33 = true := by kernel_rfl
theorem ni_55 : noInt Try.prog 55 = true := by kernel_rfl
theorem fn_35 : isFn Try.prog 35 = true := by kernel_rfl
theorem fn_34 : isFn Try.prog 34 = true := by kernel_rfl
theorem sl_58 : slK Try.prog 58 = some 1 := by kernel_rfl
theorem ar_58 : arK Try.prog 58 = none := by kernel_rfl
theorem ld_25 : ldK Try.prog 25 = some none := by kernel_rfl
theorem sz_33 : szK Try.prog 33 = some 2 := by kernel_rfl
theorem fo_33_0 : fOff Try.prog 33 0 = some 0 := by kernel_rfl
theorem sl_55 : slK Try.prog 55 = some 4 := by kernel_rfl
theorem fn_37 : isFn Try.prog 37 = true := by kernel_rfl
theorem fn_36 : isFn Try.prog 36 = true := by kernel_rfl
theorem ld_63 : ldK Try.prog 63 = some (some 3) := by kernel_rfl
theorem ld_57 : ldK Try.prog 57 = some (some 4) := by kernel_rfl
theorem fo_57_0 : fOff Try.prog 57 0 = some 0 := by kernel_rfl
theorem fo_57_1 : fOff Try.prog 57 1 = some 2 := by kernel_rfl
theorem fn_38 : isFn Try.prog 38 = true := by kernel_rfl
theorem sl_70 : slK Try.prog 70 = some 1 := by kernel_rfl
theorem ld_71 : ldK Try.prog 71 = some none := by kernel_rfl
theorem ni_71 : noInt Try.prog 71 = true := by kernel_rfl
theorem sz_71 : szK Try.prog 71 = some 1 := by kernel_rfl
theorem fn_40 : isFn Try.prog 40 = true := by kernel_rfl
theorem sl_72 : slK Try.prog 72 = some 3 := by kernel_rfl
theorem ar_72 : arK Try.prog 72 = none := by kernel_rfl
theorem fo_75_0 : fOff Try.prog 75 0 = some 0 := by kernel_rfl
theorem ar_70 : arK Try.prog 70 = none := by kernel_rfl
theorem sl_22 : slK Try.prog 22 = some 1 := by kernel_rfl
theorem sl_81 : slK Try.prog 81 = some 3 := by kernel_rfl
theorem fn_42 : isFn Try.prog 42 = true := by kernel_rfl
theorem fn_41 : isFn Try.prog 41 = true := by kernel_rfl
theorem fn_43 : isFn Try.prog 43 = true := by kernel_rfl
theorem fn_45 : isFn Try.prog 45 = true := by kernel_rfl
theorem fn_44 : isFn Try.prog 44 = true := by kernel_rfl
theorem ni_28 : noInt Try.prog 28 = true := by kernel_rfl
theorem fn_46 : isFn Try.prog 46 = true := by kernel_rfl
theorem co_9 : coK Try.prog 9 = true := by kernel_rfl
theorem fn_47 : isFn Try.prog 47 = true := by kernel_rfl
theorem ni_25 : noInt Try.prog 25 = true := by kernel_rfl
theorem fn_48 : isFn Try.prog 48 = true := by kernel_rfl
theorem fn_49 : isFn Try.prog 49 = true := by kernel_rfl
theorem fn_50 : isFn Try.prog 50 = true := by kernel_rfl
theorem fn_51 : isFn Try.prog 51 = true := by kernel_rfl
theorem sz_24 : szK Try.prog 24 = some 3 := by kernel_rfl
theorem fn_52 : isFn Try.prog 52 = true := by kernel_rfl
theorem sz_102 : szK Try.prog 102 = some 17 := by kernel_rfl
theorem fn_53 : isFn Try.prog 53 = true := by kernel_rfl
theorem fn_54 : isFn Try.prog 54 = true := by kernel_rfl
theorem fn_55 : isFn Try.prog 55 = true := by kernel_rfl
theorem fn_56 : isFn Try.prog 56 = true := by kernel_rfl
theorem fn_57 : isFn Try.prog 57 = true := by kernel_rfl
theorem pk_33 : ptK Try.prog 33 = false := by kernel_rfl
theorem fn_58 : isFn Try.prog 58 = true := by kernel_rfl
theorem fn_59 : isFn Try.prog 59 = true := by kernel_rfl
theorem ar_55 : arK Try.prog 55 = none := by kernel_rfl
theorem sz_57 : szK Try.prog 57 = some 4 := by kernel_rfl
theorem fn_61 : isFn Try.prog 61 = true := by kernel_rfl
theorem fn_60 : isFn Try.prog 60 = true := by kernel_rfl
theorem sz_115 : szK Try.prog 115 = some 4 := by kernel_rfl
theorem fn_62 : isFn Try.prog 62 = true := by kernel_rfl
theorem ni_58 : noInt Try.prog 58 = true := by kernel_rfl
theorem fn_63 : isFn Try.prog 63 = true := by kernel_rfl
theorem fn_64 : isFn Try.prog 64 = true := by kernel_rfl
theorem fn_65 : isFn Try.prog 65 = true := by kernel_rfl
theorem fn_66 : isFn Try.prog 66 = true := by kernel_rfl
theorem fn_67 : isFn Try.prog 67 = true := by kernel_rfl
theorem sl_124 : slK Try.prog 124 = some 1 := by kernel_rfl
theorem ar_124 : arK Try.prog 124 = none := by kernel_rfl
theorem ld_84 : ldK Try.prog 84 = some none := by kernel_rfl
theorem fn_68 : isFn Try.prog 68 = true := by kernel_rfl
theorem fn_70 : isFn Try.prog 70 = true := by kernel_rfl
theorem fn_71 : isFn Try.prog 71 = true := by kernel_rfl
theorem ld_58 : ldK Try.prog 58 = some none := by kernel_rfl
theorem ni_72 : noInt Try.prog 72 = true := by kernel_rfl
theorem fn_72 : isFn Try.prog 72 = true := by kernel_rfl
theorem fn_73 : isFn Try.prog 73 = true := by kernel_rfl
theorem fn_75 : isFn Try.prog 75 = true := by kernel_rfl
theorem fn_76 : isFn Try.prog 76 = true := by kernel_rfl
theorem fn_74 : isFn Try.prog 74 = true := by kernel_rfl
theorem fn_77 : isFn Try.prog 77 = true := by kernel_rfl
theorem ni_3 : noInt Try.prog 3 = false := by kernel_rfl
theorem fn_78 : isFn Try.prog 78 = true := by kernel_rfl
theorem fn_79 : isFn Try.prog 79 = true := by kernel_rfl
theorem fn_80 : isFn Try.prog 80 = true := by kernel_rfl
theorem ar_38 : arK Try.prog 38 = none := by kernel_rfl
theorem ld_46 : ldK Try.prog 46 = some (some 3) := by kernel_rfl
theorem sz_46 : szK Try.prog 46 = some 3 := by kernel_rfl
theorem fo_46_0 : fOff Try.prog 46 0 = some 0 := by kernel_rfl
theorem fo_46_1 : fOff Try.prog 46 1 = some 1 := by kernel_rfl
theorem fn_81 : isFn Try.prog 81 = true := by kernel_rfl
theorem ni_70 : noInt Try.prog 70 = true := by kernel_rfl
theorem fn_82 : isFn Try.prog 82 = true := by kernel_rfl
theorem fn_83 : isFn Try.prog 83 = true := by kernel_rfl
theorem fn_84 : isFn Try.prog 84 = true := by kernel_rfl
theorem fn_85 : isFn Try.prog 85 = true := by kernel_rfl
theorem fn_86 : isFn Try.prog 86 = true := by kernel_rfl
theorem fn_87 : isFn Try.prog 87 = true := by kernel_rfl
theorem fn_88 : isFn Try.prog 88 = true := by kernel_rfl
theorem fo_102_0 : fOff Try.prog 102 0 = some 0 := by kernel_rfl
theorem pk_84 : ptK Try.prog 84 = true := by kernel_rfl
theorem fo_102_2 : fOff Try.prog 102 2 = some 2 := by kernel_rfl
theorem fo_102_1 : fOff Try.prog 102 1 = some 1 := by kernel_rfl
theorem fn_89 : isFn Try.prog 89 = true := by kernel_rfl
theorem sz_4 : szK Try.prog 4 = some 1 := by kernel_rfl
theorem fo_102_7 : fOff Try.prog 102 7 = some 14 := by kernel_rfl
theorem ld_100 : ldK Try.prog 100 = some none := by kernel_rfl
theorem sl_100 : slK Try.prog 100 = some 2 := by kernel_rfl
theorem sz_100 : szK Try.prog 100 = some 1 := by kernel_rfl
theorem fn_90 : isFn Try.prog 90 = true := by kernel_rfl
theorem fn_91 : isFn Try.prog 91 = true := by kernel_rfl
theorem fn_92 : isFn Try.prog 92 = true := by kernel_rfl
theorem fn_93 : isFn Try.prog 93 = true := by kernel_rfl
theorem pk_117 : ptK Try.prog 117 = true := by kernel_rfl
theorem fo_152_0 : fOff Try.prog 152 0 = some 0 := by kernel_rfl
theorem fo_152_1 : fOff Try.prog 152 1 = some 1 := by kernel_rfl
theorem pk_119 : ptK Try.prog 119 = true := by kernel_rfl
theorem fn_94 : isFn Try.prog 94 = true := by kernel_rfl
theorem fo_156_6 : fOff Try.prog 156 6 = some 6 := by kernel_rfl
theorem ld_112 : ldK Try.prog 112 = some none := by kernel_rfl
theorem fo_115_0 : fOff Try.prog 115 0 = some 0 := by kernel_rfl
theorem sz_112 : szK Try.prog 112 = some 1 := by kernel_rfl
theorem fo_156_2 : fOff Try.prog 156 2 = some 2 := by kernel_rfl
theorem ld_96 : ldK Try.prog 96 = some none := by kernel_rfl
theorem pk_96 : ptK Try.prog 96 = true := by kernel_rfl
theorem ld_115 : ldK Try.prog 115 = some (some 4) := by kernel_rfl
theorem fn_96 : isFn Try.prog 96 = true := by kernel_rfl
theorem ni_157 : noInt Try.prog 157 = true := by kernel_rfl
theorem sl_157 : slK Try.prog 157 = some 2 := by kernel_rfl
theorem fn_97 : isFn Try.prog 97 = true := by kernel_rfl
theorem fo_165_3 : fOff Try.prog 165 3 = some 3 := by kernel_rfl
theorem ld_163 : ldK Try.prog 163 = some none := by kernel_rfl
theorem pk_163 : ptK Try.prog 163 = true := by kernel_rfl
theorem fo_165_2 : fOff Try.prog 165 2 = some 2 := by kernel_rfl
theorem fo_156_9 : fOff Try.prog 156 9 = some 10 := by kernel_rfl
theorem fo_156_7 : fOff Try.prog 156 7 = some 7 := by kernel_rfl
theorem sz_25 : szK Try.prog 25 = some 1 := by kernel_rfl
theorem ld_166 : ldK Try.prog 166 = some none := by kernel_rfl
theorem sl_166 : slK Try.prog 166 = some 1 := by kernel_rfl
theorem ar_166 : arK Try.prog 166 = none := by kernel_rfl
theorem sz_96 : szK Try.prog 96 = some 1 := by kernel_rfl
theorem sz_166 : szK Try.prog 166 = some 1 := by kernel_rfl
theorem ar_157 : arK Try.prog 157 = none := by kernel_rfl
theorem fo_161_0 : fOff Try.prog 161 0 = some 0 := by kernel_rfl
theorem fo_165_1 : fOff Try.prog 165 1 = some 1 := by kernel_rfl
theorem sz_3 : szK Try.prog 3 = some 1 := by kernel_rfl
theorem fo_156_3 : fOff Try.prog 156 3 = some 3 := by kernel_rfl
theorem fn_98 : isFn Try.prog 98 = true := by kernel_rfl
theorem fo_161_1 : fOff Try.prog 161 1 = some 1 := by kernel_rfl
theorem fo_63_0 : fOff Try.prog 63 0 = some 0 := by kernel_rfl
theorem fo_63_1 : fOff Try.prog 63 1 = some 1 := by kernel_rfl
theorem fo_63_2 : fOff Try.prog 63 2 = some 2 := by kernel_rfl
theorem fn_100 : isFn Try.prog 100 = true := by kernel_rfl
theorem fn_99 : isFn Try.prog 99 = true := by kernel_rfl
theorem fn_101 : isFn Try.prog 101 = true := by kernel_rfl
theorem fn_102 : isFn Try.prog 102 = true := by kernel_rfl
theorem fo_115_1 : fOff Try.prog 115 1 = some 1 := by kernel_rfl
theorem sl_71 : slK Try.prog 71 = some 9 := by kernel_rfl
theorem ar_71 : arK Try.prog 71 = none := by kernel_rfl
theorem ld_78 : ldK Try.prog 78 = some (some 9) := by kernel_rfl
theorem sz_78 : szK Try.prog 78 = some 9 := by kernel_rfl
theorem fo_78_1 : fOff Try.prog 78 1 = some 1 := by kernel_rfl
theorem fn_104 : isFn Try.prog 104 = true := by kernel_rfl
theorem fo_78_0 : fOff Try.prog 78 0 = some 0 := by kernel_rfl
theorem fo_78_6 : fOff Try.prog 78 6 = some 8 := by kernel_rfl
theorem fn_105 : isFn Try.prog 105 = true := by kernel_rfl
theorem ni_124 : noInt Try.prog 124 = true := by kernel_rfl
theorem fn_106 : isFn Try.prog 106 = true := by kernel_rfl
theorem fo_35_0 : fOff Try.prog 35 0 = some 0 := by kernel_rfl
theorem ni_125 : noInt Try.prog 125 = true := by kernel_rfl
theorem fn_107 : isFn Try.prog 107 = true := by kernel_rfl
theorem sz_58 : szK Try.prog 58 = some 1 := by kernel_rfl
theorem fn_108 : isFn Try.prog 108 = true := by kernel_rfl
theorem fn_109 : isFn Try.prog 109 = true := by kernel_rfl
theorem fo_183_0 : fOff Try.prog 183 0 = some 0 := by kernel_rfl
theorem fn_110 : isFn Try.prog 110 = true := by kernel_rfl
theorem fn_111 : isFn Try.prog 111 = true := by kernel_rfl
theorem fn_112 : isFn Try.prog 112 = true := by kernel_rfl
theorem fo_156_1 : fOff Try.prog 156 1 = some 1 := by kernel_rfl
theorem sz_154 : szK Try.prog 154 = some 1 := by kernel_rfl
theorem ld_154 : ldK Try.prog 154 = some none := by kernel_rfl
theorem fn_113 : isFn Try.prog 113 = true := by kernel_rfl
theorem fo_156_0 : fOff Try.prog 156 0 = some 0 := by kernel_rfl
theorem sz_153 : szK Try.prog 153 = some 1 := by kernel_rfl
theorem fo_138_0 : fOff Try.prog 138 0 = some 0 := by kernel_rfl
theorem fn_114 : isFn Try.prog 114 = true := by kernel_rfl
theorem fn_115 : isFn Try.prog 115 = true := by kernel_rfl
theorem sz_22 : szK Try.prog 22 = some 1 := by kernel_rfl
theorem fo_24_2 : fOff Try.prog 24 2 = some 2 := by kernel_rfl
theorem sz_138 : szK Try.prog 138 = some 2 := by kernel_rfl
theorem fn_118 : isFn Try.prog 118 = true := by kernel_rfl
theorem fn_119 : isFn Try.prog 119 = true := by kernel_rfl
theorem fo_102_5 : fOff Try.prog 102 5 = some 5 := by kernel_rfl
theorem fo_102_4 : fOff Try.prog 102 4 = some 4 := by kernel_rfl
theorem fo_102_3 : fOff Try.prog 102 3 = some 3 := by kernel_rfl
theorem ni_100 : noInt Try.prog 100 = true := by kernel_rfl
theorem ar_100 : arK Try.prog 100 = none := by kernel_rfl
theorem fo_98_0 : fOff Try.prog 98 0 = some 0 := by kernel_rfl
theorem fo_98_1 : fOff Try.prog 98 1 = some 1 := by kernel_rfl
theorem fo_102_8 : fOff Try.prog 102 8 = some 15 := by kernel_rfl
theorem sz_84 : szK Try.prog 84 = some 1 := by kernel_rfl
theorem pk_100 : ptK Try.prog 100 = false := by kernel_rfl
theorem fo_102_6 : fOff Try.prog 102 6 = some 6 := by kernel_rfl
theorem sl_99 : slK Try.prog 99 = none := by kernel_rfl
theorem fn_120 : isFn Try.prog 120 = true := by kernel_rfl
theorem ld_102 : ldK Try.prog 102 = some (some 17) := by kernel_rfl
theorem fn_121 : isFn Try.prog 121 = true := by kernel_rfl
theorem fn_122 : isFn Try.prog 122 = true := by kernel_rfl
theorem fn_123 : isFn Try.prog 123 = true := by kernel_rfl
theorem fn_124 : isFn Try.prog 124 = true := by kernel_rfl
theorem fo_156_8 : fOff Try.prog 156 8 = some 9 := by kernel_rfl
theorem ni_166 : noInt Try.prog 166 = true := by kernel_rfl
theorem fn_125 : isFn Try.prog 125 = true := by kernel_rfl
theorem fn_126 : isFn Try.prog 126 = true := by kernel_rfl
theorem fo_115_3 : fOff Try.prog 115 3 = some 3 := by kernel_rfl
theorem ld_113 : ldK Try.prog 113 = some none := by kernel_rfl
theorem sl_113 : slK Try.prog 113 = some 3 := by kernel_rfl
theorem sz_113 : szK Try.prog 113 = some 1 := by kernel_rfl
theorem fo_115_2 : fOff Try.prog 115 2 = some 2 := by kernel_rfl
theorem fo_165_0 : fOff Try.prog 165 0 = some 0 := by kernel_rfl
theorem ld_153 : ldK Try.prog 153 = some none := by kernel_rfl
theorem pk_153 : ptK Try.prog 153 = false := by kernel_rfl
theorem fn_127 : isFn Try.prog 127 = true := by kernel_rfl
theorem pk_111 : ptK Try.prog 111 = true := by kernel_rfl
theorem fn_128 : isFn Try.prog 128 = true := by kernel_rfl
theorem fn_129 : isFn Try.prog 129 = true := by kernel_rfl
theorem fn_130 : isFn Try.prog 130 = true := by kernel_rfl
theorem ar_113 : arK Try.prog 113 = none := by kernel_rfl
theorem ld_205 : ldK Try.prog 205 = some (some 3) := by kernel_rfl
theorem sz_205 : szK Try.prog 205 = some 3 := by kernel_rfl
theorem fo_205_0 : fOff Try.prog 205 0 = some 0 := by kernel_rfl
theorem fo_205_1 : fOff Try.prog 205 1 = some 2 := by kernel_rfl
theorem fn_131 : isFn Try.prog 131 = true := by kernel_rfl
theorem fn_132 : isFn Try.prog 132 = true := by kernel_rfl
theorem fn_134 : isFn Try.prog 134 = true := by kernel_rfl
theorem fn_135 : isFn Try.prog 135 = true := by kernel_rfl
theorem fn_136 : isFn Try.prog 136 = true := by kernel_rfl
theorem fo_78_5 : fOff Try.prog 78 5 = some 7 := by kernel_rfl
theorem fo_78_2 : fOff Try.prog 78 2 = some 2 := by kernel_rfl
theorem fn_137 : isFn Try.prog 137 = true := by kernel_rfl
theorem fn_138 : isFn Try.prog 138 = true := by kernel_rfl
theorem fn_139 : isFn Try.prog 139 = true := by kernel_rfl
theorem fn_140 : isFn Try.prog 140 = true := by kernel_rfl
theorem fn_141 : isFn Try.prog 141 = true := by kernel_rfl
theorem fn_142 : isFn Try.prog 142 = true := by kernel_rfl
theorem fo_78_4 : fOff Try.prog 78 4 = some 6 := by kernel_rfl
theorem fn_143 : isFn Try.prog 143 = true := by kernel_rfl
theorem fn_144 : isFn Try.prog 144 = true := by kernel_rfl
theorem fn_145 : isFn Try.prog 145 = true := by kernel_rfl
theorem fo_78_3 : fOff Try.prog 78 3 = some 4 := by kernel_rfl
theorem fn_146 : isFn Try.prog 146 = true := by kernel_rfl
theorem fn_147 : isFn Try.prog 147 = true := by kernel_rfl
theorem ar_81 : arK Try.prog 81 = none := by kernel_rfl
theorem fo_134_0 : fOff Try.prog 134 0 = some 0 := by kernel_rfl
theorem fo_134_1 : fOff Try.prog 134 1 = some 1 := by kernel_rfl
theorem ld_134 : ldK Try.prog 134 = some (some 3) := by kernel_rfl
theorem sz_134 : szK Try.prog 134 = some 3 := by kernel_rfl
theorem fn_148 : isFn Try.prog 148 = true := by kernel_rfl
theorem fn_149 : isFn Try.prog 149 = true := by kernel_rfl
theorem co_33 : coK Try.prog 33 = true := by kernel_rfl
theorem co_218 : coK Try.prog 218 = false := by kernel_rfl
theorem fo_156_4 : fOff Try.prog 156 4 = some 4 := by kernel_rfl
theorem co_221 : coK Try.prog 221 = false := by kernel_rfl
theorem fo_156_5 : fOff Try.prog 156 5 = some 5 := by kernel_rfl
theorem pk_22 : ptK Try.prog 22 = false := by kernel_rfl
theorem ni_22 : noInt Try.prog 22 = true := by kernel_rfl
theorem fn_117 : isFn Try.prog 117 = true := by kernel_rfl
theorem ar_22 : arK Try.prog 22 = none := by kernel_rfl
theorem fn_150 : isFn Try.prog 150 = true := by kernel_rfl
theorem sz_163 : szK Try.prog 163 = some 1 := by kernel_rfl
theorem fn_151 : isFn Try.prog 151 = true := by kernel_rfl
theorem cv_3_224 : cvK Try.prog 3 224 = some .u64 := by kernel_rfl
theorem pk_224 : ptK Try.prog 224 = false := by kernel_rfl
theorem cv_224_3 : cvK Try.prog 224 3 = some .i64 := by kernel_rfl
theorem fo_109_0 : fOff Try.prog 109 0 = some 0 := by kernel_rfl
theorem sl_106 : slK Try.prog 106 = none := by kernel_rfl
theorem ar_106 : arK Try.prog 106 = some (8, 1) := by kernel_rfl
theorem fo_109_1 : fOff Try.prog 109 1 = some 8 := by kernel_rfl
theorem sl_107 : slK Try.prog 107 = none := by kernel_rfl
theorem ar_107 : arK Try.prog 107 = some (8, 1) := by kernel_rfl
theorem ld_5 : ldK Try.prog 5 = some none := by kernel_rfl
theorem cv_3_5 : cvK Try.prog 3 5 = some .u8 := by kernel_rfl
theorem pk_5 : ptK Try.prog 5 = false := by kernel_rfl
theorem sz_5 : szK Try.prog 5 = some 1 := by kernel_rfl
theorem ni_113 : noInt Try.prog 113 = true := by kernel_rfl
theorem ld_170 : ldK Try.prog 170 = some none := by kernel_rfl
theorem ld_156 : ldK Try.prog 156 = some (some 11) := by kernel_rfl
theorem sz_156 : szK Try.prog 156 = some 11 := by kernel_rfl
theorem fn_152 : isFn Try.prog 152 = true := by kernel_rfl
theorem fn_153 : isFn Try.prog 153 = true := by kernel_rfl
theorem fn_154 : isFn Try.prog 154 = true := by kernel_rfl
theorem ni_227 : noInt Try.prog 227 = true := by kernel_rfl
theorem sl_227 : slK Try.prog 227 = some 1 := by kernel_rfl
theorem ar_227 : arK Try.prog 227 = none := by kernel_rfl
theorem fn_155 : isFn Try.prog 155 = true := by kernel_rfl
theorem fn_156 : isFn Try.prog 156 = true := by kernel_rfl
theorem fn_157 : isFn Try.prog 157 = true := by kernel_rfl
theorem fn_158 : isFn Try.prog 158 = true := by kernel_rfl
theorem fn_159 : isFn Try.prog 159 = true := by kernel_rfl
theorem fn_160 : isFn Try.prog 160 = true := by kernel_rfl
theorem fn_161 : isFn Try.prog 161 = true := by kernel_rfl
theorem fn_162 : isFn Try.prog 162 = true := by kernel_rfl
theorem fn_163 : isFn Try.prog 163 = true := by kernel_rfl
theorem fn_164 : isFn Try.prog 164 = true := by kernel_rfl
theorem fn_165 : isFn Try.prog 165 = true := by kernel_rfl
theorem fn_166 : isFn Try.prog 166 = true := by kernel_rfl
theorem fn_167 : isFn Try.prog 167 = true := by kernel_rfl
theorem fn_168 : isFn Try.prog 168 = true := by kernel_rfl
theorem fn_169 : isFn Try.prog 169 = true := by kernel_rfl
theorem fn_170 : isFn Try.prog 170 = true := by kernel_rfl
theorem ow_3 : (ldK Try.prog 24 = some (some 3)) ∧ (isFn Try.prog 12 = true) ∧ (slK Try.prog 25 = some 2) ∧ (ptK Try.prog 3 = false) ∧ (isFn Try.prog 13 = true) ∧ (isFn Try.prog 14 = true) ∧ (cvK Try.prog 5 3 = some .i64) ∧ (isFn Try.prog 16 = true) ∧ (isFn Try.prog 15 = true) ∧ (slK Try.prog 28 = some 3) ∧ (arK Try.prog 28 = none) ∧ (ldK Try.prog 35 = some (some 3)) ∧ (szK Try.prog 35 = some 3) ∧ (fOff Try.prog 35 1 = some 2) ∧ (ldK Try.prog 4 = some none) ∧ (fOff Try.prog 24 0 = some 0) ∧ (ldK Try.prog 22 = some none) ∧ (isFn Try.prog 17 = true) := ⟨ld_24, fn_12, sl_25, pk_3, fn_13, fn_14, cv_5_3, fn_16, fn_15, sl_28, ar_28, ld_35, sz_35, fo_35_1, ld_4, fo_24_0, ld_22, fn_17⟩
theorem ow_4 : (ldK Try.prog 24 = some (some 3)) ∧ (isFn Try.prog 12 = true) ∧ (slK Try.prog 25 = some 2) ∧ (ptK Try.prog 3 = false) ∧ (slK Try.prog 38 = some 3) ∧ (isFn Try.prog 19 = true) ∧ (isFn Try.prog 20 = true) ∧ (isFn Try.prog 21 = true) ∧ (isFn Try.prog 22 = true) ∧ (isFn Try.prog 18 = true) ∧ (fOff Try.prog 24 1 = some 1) ∧ (ldK Try.prog 3 = some none) ∧ (isFn Try.prog 23 = true) := ⟨ld_24, fn_12, sl_25, pk_3, sl_38, fn_19, fn_20, fn_21, fn_22, fn_18, fo_24_1, ld_3, fn_23⟩
theorem ow_5 : (ldK Try.prog 24 = some (some 3)) ∧ (isFn Try.prog 12 = true) ∧ (slK Try.prog 25 = some 2) ∧ (ptK Try.prog 3 = false) ∧ (isFn Try.prog 13 = true) ∧ (isFn Try.prog 14 = true) ∧ (isFn Try.prog 24 = true) ∧ (cvK Try.prog 5 3 = some .i64) ∧ (noInt Try.prog 38 = true) ∧ (isFn Try.prog 25 = true) ∧ (slK Try.prog 28 = some 3) ∧ (arK Try.prog 28 = none) ∧ (ldK Try.prog 35 = some (some 3)) ∧ (arK Try.prog 25 = none) ∧ (ldK Try.prog 33 = some (some 2)) ∧ (ptK Try.prog 35 = false) := ⟨ld_24, fn_12, sl_25, pk_3, fn_13, fn_14, fn_24, cv_5_3, ni_38, fn_25, sl_28, ar_28, ld_35, ar_25, ld_33, pk_35⟩
theorem ow_6 : (ldK Try.prog 24 = some (some 3)) ∧ (isFn Try.prog 12 = true) ∧ (slK Try.prog 25 = some 2) ∧ (ptK Try.prog 3 = false) ∧ (isFn Try.prog 13 = true) ∧ (isFn Try.prog 14 = true) ∧ (isFn Try.prog 26 = true) ∧ (isFn Try.prog 27 = true) ∧ (isFn Try.prog 15 = true) ∧ (isFn Try.prog 28 = true) ∧ (isFn Try.prog 29 = true) ∧ (isFn Try.prog 30 = true) ∧ (isFn Try.prog 31 = true) ∧ (isFn Try.prog 32 = true) := ⟨ld_24, fn_12, sl_25, pk_3, fn_13, fn_14, fn_26, fn_27, fn_15, fn_28, fn_29, fn_30, fn_31, fn_32⟩
theorem ow_7 : (isFn Try.prog 23 = true) ∧ (ptK Try.prog 53 = false) ∧ (cvK Try.prog 53 3 = some .i64) ∧ (ptK Try.prog 3 = false) ∧ (isFn Try.prog 33 = true) ∧ (isFn Try.prog 14 = true) ∧ (noInt Try.prog 55 = true) ∧ (isFn Try.prog 35 = true) ∧ (isFn Try.prog 34 = true) ∧ (slK Try.prog 58 = some 1) ∧ (arK Try.prog 58 = none) ∧ (ldK Try.prog 25 = some none) ∧ (slK Try.prog 25 = some 2) ∧ (arK Try.prog 25 = none) ∧ (ldK Try.prog 33 = some (some 2)) ∧ (szK Try.prog 33 = some 2) ∧ (fOff Try.prog 33 0 = some 0) ∧ (ldK Try.prog 3 = some none) ∧ (slK Try.prog 55 = some 4) := ⟨fn_23, pk_53, cv_53_3, pk_3, fn_33, fn_14, ni_55, fn_35, fn_34, sl_58, ar_58, ld_25, sl_25, ar_25, ld_33, sz_33, fo_33_0, ld_3, sl_55⟩
theorem ow_8 : (ldK Try.prog 24 = some (some 3)) ∧ (isFn Try.prog 12 = true) ∧ (slK Try.prog 25 = some 2) ∧ (ptK Try.prog 3 = false) ∧ (slK Try.prog 55 = some 4) ∧ (isFn Try.prog 19 = true) ∧ (isFn Try.prog 20 = true) ∧ (isFn Try.prog 37 = true) ∧ (isFn Try.prog 36 = true) ∧ (fOff Try.prog 24 1 = some 1) ∧ (ldK Try.prog 3 = some none) ∧ (isFn Try.prog 23 = true) ∧ (ldK Try.prog 63 = some (some 3)) := ⟨ld_24, fn_12, sl_25, pk_3, sl_55, fn_19, fn_20, fn_37, fn_36, fo_24_1, ld_3, fn_23, ld_63⟩
theorem ow_9 : (ldK Try.prog 24 = some (some 3)) ∧ (isFn Try.prog 12 = true) ∧ (slK Try.prog 25 = some 2) ∧ (ptK Try.prog 3 = false) ∧ (isFn Try.prog 13 = true) ∧ (isFn Try.prog 14 = true) ∧ (ldK Try.prog 57 = some (some 4)) ∧ (isFn Try.prog 34 = true) ∧ (fOff Try.prog 57 0 = some 0) ∧ (ldK Try.prog 33 = some (some 2)) ∧ (fOff Try.prog 57 1 = some 2) ∧ (isFn Try.prog 38 = true) ∧ (slK Try.prog 58 = some 1) ∧ (arK Try.prog 58 = none) ∧ (ldK Try.prog 25 = some none) ∧ (isFn Try.prog 30 = true) := ⟨ld_24, fn_12, sl_25, pk_3, fn_13, fn_14, ld_57, fn_34, fo_57_0, ld_33, fo_57_1, fn_38, sl_58, ar_58, ld_25, fn_30⟩
theorem ow_10 : (ldK Try.prog 24 = some (some 3)) ∧ (isFn Try.prog 12 = true) ∧ (slK Try.prog 25 = some 2) ∧ (ptK Try.prog 3 = false) ∧ (slK Try.prog 70 = some 1) ∧ (isFn Try.prog 13 = true) ∧ (isFn Try.prog 14 = true) ∧ (arK Try.prog 25 = none) ∧ (ldK Try.prog 33 = some (some 2)) ∧ (szK Try.prog 33 = some 2) ∧ (ldK Try.prog 71 = some none) ∧ (noInt Try.prog 71 = true) ∧ (szK Try.prog 71 = some 1) ∧ (isFn Try.prog 40 = true) ∧ (slK Try.prog 72 = some 3) ∧ (arK Try.prog 72 = none) ∧ (fOff Try.prog 75 0 = some 0) ∧ (ldK Try.prog 3 = some none) ∧ (arK Try.prog 70 = none) ∧ (ldK Try.prog 4 = some none) := ⟨ld_24, fn_12, sl_25, pk_3, sl_70, fn_13, fn_14, ar_25, ld_33, sz_33, ld_71, ni_71, sz_71, fn_40, sl_72, ar_72, fo_75_0, ld_3, ar_70, ld_4⟩
theorem ow_11 : (slK Try.prog 22 = some 1) ∧ (ptK Try.prog 3 = false) ∧ (slK Try.prog 25 = some 2) ∧ (slK Try.prog 81 = some 3) ∧ (isFn Try.prog 20 = true) ∧ (isFn Try.prog 42 = true) ∧ (isFn Try.prog 41 = true) := ⟨sl_22, pk_3, sl_25, sl_81, fn_20, fn_42, fn_41⟩
theorem ow_12 : (fOff Try.prog 24 0 = some 0) ∧ (ldK Try.prog 22 = some none) ∧ (slK Try.prog 22 = some 1) ∧ (ptK Try.prog 3 = false) := ⟨fo_24_0, ld_22, sl_22, pk_3⟩
theorem ow_13 : (fOff Try.prog 24 1 = some 1) ∧ (ldK Try.prog 3 = some none) ∧ (isFn Try.prog 23 = true) := ⟨fo_24_1, ld_3, fn_23⟩
theorem ow_14 : (isFn Try.prog 19 = true) ∧ (isFn Try.prog 20 = true) ∧ (slK Try.prog 25 = some 2) ∧ (isFn Try.prog 24 = true) ∧ (ptK Try.prog 3 = false) := ⟨fn_19, fn_20, sl_25, fn_24, pk_3⟩
theorem ow_15 : (ldK Try.prog 24 = some (some 3)) ∧ (isFn Try.prog 43 = true) ∧ (slK Try.prog 25 = some 2) ∧ (ptK Try.prog 3 = false) ∧ (arK Try.prog 25 = none) ∧ (ldK Try.prog 33 = some (some 2)) ∧ (szK Try.prog 33 = some 2) ∧ (isFn Try.prog 45 = true) ∧ (isFn Try.prog 44 = true) ∧ (noInt Try.prog 28 = true) ∧ (isFn Try.prog 46 = true) := ⟨ld_24, fn_43, sl_25, pk_3, ar_25, ld_33, sz_33, fn_45, fn_44, ni_28, fn_46⟩
theorem ow_16 : (slK Try.prog 58 = some 1) ∧ (ptK Try.prog 3 = false) ∧ (arK Try.prog 58 = none) ∧ (ldK Try.prog 25 = some none) ∧ (slK Try.prog 25 = some 2) ∧ (coK Try.prog 9 = true) ∧ (isFn Try.prog 47 = true) ∧ (noInt Try.prog 25 = true) := ⟨sl_58, pk_3, ar_58, ld_25, sl_25, co_9, fn_47, ni_25⟩
theorem ow_17 : (slK Try.prog 25 = some 2) ∧ (ptK Try.prog 3 = false) ∧ (arK Try.prog 25 = none) ∧ (ldK Try.prog 33 = some (some 2)) ∧ (szK Try.prog 33 = some 2) ∧ (isFn Try.prog 48 = true) := ⟨sl_25, pk_3, ar_25, ld_33, sz_33, fn_48⟩
theorem ow_18 : (ldK Try.prog 24 = some (some 3)) ∧ (isFn Try.prog 49 = true) ∧ (fOff Try.prog 24 0 = some 0) ∧ (ldK Try.prog 22 = some none) ∧ (isFn Try.prog 17 = true) ∧ (isFn Try.prog 50 = true) ∧ (isFn Try.prog 51 = true) := ⟨ld_24, fn_49, fo_24_0, ld_22, fn_17, fn_50, fn_51⟩
theorem ow_19 : (szK Try.prog 24 = some 3) := sz_24
theorem ow_23 : (ptK Try.prog 3 = false) := pk_3
theorem ow_24 : (ldK Try.prog 24 = some (some 3)) ∧ (isFn Try.prog 43 = true) ∧ (isFn Try.prog 46 = true) := ⟨ld_24, fn_43, fn_46⟩
theorem ow_25 : (ldK Try.prog 24 = some (some 3)) ∧ (isFn Try.prog 43 = true) ∧ (isFn Try.prog 52 = true) ∧ (szK Try.prog 102 = some 17) ∧ (isFn Try.prog 53 = true) ∧ (isFn Try.prog 54 = true) := ⟨ld_24, fn_43, fn_52, sz_102, fn_53, fn_54⟩
theorem ow_26 : (ldK Try.prog 24 = some (some 3)) ∧ (isFn Try.prog 43 = true) ∧ (slK Try.prog 25 = some 2) ∧ (ptK Try.prog 3 = false) ∧ (arK Try.prog 25 = none) ∧ (ldK Try.prog 33 = some (some 2)) ∧ (szK Try.prog 33 = some 2) ∧ (isFn Try.prog 55 = true) ∧ (isFn Try.prog 44 = true) ∧ (noInt Try.prog 28 = true) ∧ (isFn Try.prog 46 = true) := ⟨ld_24, fn_43, sl_25, pk_3, ar_25, ld_33, sz_33, fn_55, fn_44, ni_28, fn_46⟩
theorem ow_27 : (ldK Try.prog 24 = some (some 3)) ∧ (isFn Try.prog 43 = true) ∧ (slK Try.prog 25 = some 2) ∧ (ptK Try.prog 3 = false) ∧ (arK Try.prog 25 = none) ∧ (ldK Try.prog 33 = some (some 2)) ∧ (szK Try.prog 33 = some 2) ∧ (isFn Try.prog 56 = true) ∧ (isFn Try.prog 44 = true) ∧ (noInt Try.prog 28 = true) ∧ (isFn Try.prog 46 = true) := ⟨ld_24, fn_43, sl_25, pk_3, ar_25, ld_33, sz_33, fn_56, fn_44, ni_28, fn_46⟩
theorem ow_28 : (ldK Try.prog 24 = some (some 3)) ∧ (isFn Try.prog 43 = true) ∧ (slK Try.prog 25 = some 2) ∧ (ptK Try.prog 3 = false) ∧ (arK Try.prog 25 = none) ∧ (ldK Try.prog 33 = some (some 2)) ∧ (szK Try.prog 33 = some 2) ∧ (isFn Try.prog 57 = true) ∧ (isFn Try.prog 44 = true) ∧ (noInt Try.prog 28 = true) ∧ (isFn Try.prog 46 = true) := ⟨ld_24, fn_43, sl_25, pk_3, ar_25, ld_33, sz_33, fn_57, fn_44, ni_28, fn_46⟩
theorem ow_29 : (slK Try.prog 28 = some 3) ∧ (ptK Try.prog 3 = false) ∧ (arK Try.prog 28 = none) ∧ (ldK Try.prog 35 = some (some 3)) ∧ (ptK Try.prog 35 = false) := ⟨sl_28, pk_3, ar_28, ld_35, pk_35⟩
theorem ow_30 : (slK Try.prog 25 = some 2) ∧ (ptK Try.prog 3 = false) ∧ (arK Try.prog 25 = none) ∧ (ldK Try.prog 33 = some (some 2)) ∧ (ptK Try.prog 33 = false) := ⟨sl_25, pk_3, ar_25, ld_33, pk_33⟩
theorem ow_31 : (ldK Try.prog 24 = some (some 3)) ∧ (isFn Try.prog 43 = true) ∧ (slK Try.prog 25 = some 2) ∧ (ptK Try.prog 3 = false) ∧ (arK Try.prog 25 = none) ∧ (ldK Try.prog 33 = some (some 2)) ∧ (szK Try.prog 33 = some 2) ∧ (isFn Try.prog 58 = true) ∧ (isFn Try.prog 44 = true) ∧ (noInt Try.prog 28 = true) := ⟨ld_24, fn_43, sl_25, pk_3, ar_25, ld_33, sz_33, fn_58, fn_44, ni_28⟩
theorem ow_32 : (ldK Try.prog 24 = some (some 3)) ∧ (isFn Try.prog 43 = true) ∧ (slK Try.prog 25 = some 2) ∧ (ptK Try.prog 3 = false) ∧ (arK Try.prog 25 = none) ∧ (ldK Try.prog 33 = some (some 2)) ∧ (szK Try.prog 33 = some 2) ∧ (isFn Try.prog 59 = true) ∧ (isFn Try.prog 44 = true) ∧ (noInt Try.prog 28 = true) := ⟨ld_24, fn_43, sl_25, pk_3, ar_25, ld_33, sz_33, fn_59, fn_44, ni_28⟩
theorem ow_33 : (ptK Try.prog 3 = false) := pk_3
theorem ow_34 : (ldK Try.prog 24 = some (some 3)) ∧ (isFn Try.prog 43 = true) ∧ (slK Try.prog 55 = some 4) ∧ (ptK Try.prog 3 = false) ∧ (arK Try.prog 55 = none) ∧ (ldK Try.prog 57 = some (some 4)) ∧ (szK Try.prog 57 = some 4) ∧ (fOff Try.prog 57 0 = some 0) ∧ (ldK Try.prog 33 = some (some 2)) ∧ (fOff Try.prog 57 1 = some 2) ∧ (ldK Try.prog 63 = some (some 3)) ∧ (isFn Try.prog 61 = true) ∧ (isFn Try.prog 60 = true) ∧ (szK Try.prog 115 = some 4) ∧ (isFn Try.prog 62 = true) ∧ (noInt Try.prog 58 = true) ∧ (isFn Try.prog 46 = true) := ⟨ld_24, fn_43, sl_55, pk_3, ar_55, ld_57, sz_57, fo_57_0, ld_33, fo_57_1, ld_63, fn_61, fn_60, sz_115, fn_62, ni_58, fn_46⟩
theorem ow_35 : (ptK Try.prog 3 = false) ∧ (noInt Try.prog 25 = true) := ⟨pk_3, ni_25⟩
theorem ow_36 : (ldK Try.prog 24 = some (some 3)) ∧ (ldK Try.prog 63 = some (some 3)) ∧ (isFn Try.prog 34 = true) ∧ (isFn Try.prog 63 = true) ∧ (isFn Try.prog 64 = true) ∧ (isFn Try.prog 30 = true) := ⟨ld_24, ld_63, fn_34, fn_63, fn_64, fn_30⟩
theorem ow_38 : (ldK Try.prog 24 = some (some 3)) ∧ (isFn Try.prog 43 = true) ∧ (ldK Try.prog 33 = some (some 2)) ∧ (ldK Try.prog 63 = some (some 3)) ∧ (isFn Try.prog 61 = true) ∧ (isFn Try.prog 65 = true) ∧ (szK Try.prog 115 = some 4) ∧ (isFn Try.prog 62 = true) ∧ (isFn Try.prog 66 = true) ∧ (isFn Try.prog 46 = true) := ⟨ld_24, fn_43, ld_33, ld_63, fn_61, fn_65, sz_115, fn_62, fn_66, fn_46⟩
theorem ow_39 : (ldK Try.prog 24 = some (some 3)) ∧ (ldK Try.prog 71 = some none) ∧ (isFn Try.prog 40 = true) ∧ (slK Try.prog 72 = some 3) ∧ (arK Try.prog 72 = none) ∧ (fOff Try.prog 75 0 = some 0) ∧ (ldK Try.prog 3 = some none) ∧ (ptK Try.prog 3 = false) := ⟨ld_24, ld_71, fn_40, sl_72, ar_72, fo_75_0, ld_3, pk_3⟩
theorem ow_40 : (ldK Try.prog 24 = some (some 3)) ∧ (isFn Try.prog 67 = true) ∧ (slK Try.prog 124 = some 1) ∧ (ptK Try.prog 3 = false) ∧ (arK Try.prog 124 = none) ∧ (ldK Try.prog 84 = some none) ∧ (isFn Try.prog 68 = true) ∧ (isFn Try.prog 70 = true) ∧ (isFn Try.prog 71 = true) ∧ (ldK Try.prog 58 = some none) ∧ (noInt Try.prog 72 = true) := ⟨ld_24, fn_67, sl_124, pk_3, ar_124, ld_84, fn_68, fn_70, fn_71, ld_58, ni_72⟩
theorem ow_41 : (isFn Try.prog 72 = true) ∧ (isFn Try.prog 73 = true) ∧ (isFn Try.prog 30 = true) := ⟨fn_72, fn_73, fn_30⟩
theorem ow_43 : (fOff Try.prog 24 0 = some 0) ∧ (ldK Try.prog 22 = some none) ∧ (isFn Try.prog 75 = true) ∧ (ldK Try.prog 24 = some (some 3)) ∧ (isFn Try.prog 76 = true) ∧ (isFn Try.prog 74 = true) ∧ (slK Try.prog 25 = some 2) ∧ (ptK Try.prog 3 = false) ∧ (arK Try.prog 25 = none) ∧ (ldK Try.prog 33 = some (some 2)) ∧ (szK Try.prog 33 = some 2) ∧ (isFn Try.prog 55 = true) := ⟨fo_24_0, ld_22, fn_75, ld_24, fn_76, fn_74, sl_25, pk_3, ar_25, ld_33, sz_33, fn_55⟩
theorem ow_44 : (szK Try.prog 35 = some 3) ∧ (ldK Try.prog 33 = some (some 2)) := ⟨sz_35, ld_33⟩
theorem ow_45 : (ldK Try.prog 33 = some (some 2)) ∧ (isFn Try.prog 57 = true) ∧ (szK Try.prog 33 = some 2) := ⟨ld_33, fn_57, sz_33⟩
theorem ow_46 : (isFn Try.prog 77 = true) := fn_77
theorem ow_47 : (ptK Try.prog 3 = false) ∧ (coK Try.prog 9 = true) ∧ (slK Try.prog 25 = some 2) ∧ (noInt Try.prog 3 = false) := ⟨pk_3, co_9, sl_25, ni_3⟩
theorem ow_48 : (ldK Try.prog 33 = some (some 2)) ∧ (isFn Try.prog 78 = true) ∧ (slK Try.prog 25 = some 2) ∧ (noInt Try.prog 25 = true) ∧ (ptK Try.prog 3 = false) ∧ (arK Try.prog 25 = none) ∧ (szK Try.prog 35 = some 3) := ⟨ld_33, fn_78, sl_25, ni_25, pk_3, ar_25, sz_35⟩
theorem ow_49 : (ldK Try.prog 24 = some (some 3)) ∧ (isFn Try.prog 43 = true) ∧ (isFn Try.prog 52 = true) ∧ (szK Try.prog 102 = some 17) ∧ (isFn Try.prog 79 = true) ∧ (isFn Try.prog 54 = true) ∧ (isFn Try.prog 80 = true) ∧ (isFn Try.prog 53 = true) := ⟨ld_24, fn_43, fn_52, sz_102, fn_79, fn_54, fn_80, fn_53⟩
theorem ow_50 : (slK Try.prog 38 = some 3) ∧ (ptK Try.prog 3 = false) ∧ (arK Try.prog 38 = none) ∧ (ldK Try.prog 46 = some (some 3)) ∧ (szK Try.prog 46 = some 3) ∧ (fOff Try.prog 46 0 = some 0) ∧ (ldK Try.prog 3 = some none) ∧ (slK Try.prog 25 = some 2) ∧ (fOff Try.prog 46 1 = some 1) ∧ (ldK Try.prog 33 = some (some 2)) ∧ (isFn Try.prog 78 = true) ∧ (isFn Try.prog 81 = true) ∧ (szK Try.prog 35 = some 3) ∧ (fOff Try.prog 35 1 = some 2) ∧ (ldK Try.prog 4 = some none) ∧ (ldK Try.prog 35 = some (some 3)) ∧ (noInt Try.prog 28 = true) ∧ (noInt Try.prog 70 = true) := ⟨sl_38, pk_3, ar_38, ld_46, sz_46, fo_46_0, ld_3, sl_25, fo_46_1, ld_33, fn_78, fn_81, sz_35, fo_35_1, ld_4, ld_35, ni_28, ni_70⟩
theorem ow_51 : (slK Try.prog 28 = some 3) ∧ (ptK Try.prog 3 = false) ∧ (slK Try.prog 70 = some 1) ∧ (arK Try.prog 70 = none) ∧ (ldK Try.prog 4 = some none) ∧ (arK Try.prog 28 = none) ∧ (ldK Try.prog 35 = some (some 3)) ∧ (ptK Try.prog 35 = false) := ⟨sl_28, pk_3, sl_70, ar_70, ld_4, ar_28, ld_35, pk_35⟩
theorem ow_52 : (isFn Try.prog 82 = true) ∧ (szK Try.prog 102 = some 17) := ⟨fn_82, sz_102⟩
theorem ow_53 : (slK Try.prog 38 = some 3) ∧ (ptK Try.prog 3 = false) ∧ (arK Try.prog 38 = none) ∧ (ldK Try.prog 46 = some (some 3)) ∧ (szK Try.prog 46 = some 3) ∧ (fOff Try.prog 46 0 = some 0) ∧ (ldK Try.prog 3 = some none) ∧ (isFn Try.prog 83 = true) ∧ (isFn Try.prog 84 = true) ∧ (isFn Try.prog 85 = true) ∧ (fOff Try.prog 46 1 = some 1) ∧ (ldK Try.prog 33 = some (some 2)) ∧ (isFn Try.prog 86 = true) ∧ (isFn Try.prog 87 = true) ∧ (isFn Try.prog 79 = true) ∧ (isFn Try.prog 88 = true) ∧ (isFn Try.prog 44 = true) ∧ (noInt Try.prog 28 = true) := ⟨sl_38, pk_3, ar_38, ld_46, sz_46, fo_46_0, ld_3, fn_83, fn_84, fn_85, fo_46_1, ld_33, fn_86, fn_87, fn_79, fn_88, fn_44, ni_28⟩
theorem ow_54 : (fOff Try.prog 102 0 = some 0) ∧ (ldK Try.prog 84 = some none) ∧ (ptK Try.prog 84 = true) ∧ (fOff Try.prog 102 2 = some 2) ∧ (ldK Try.prog 4 = some none) ∧ (fOff Try.prog 102 1 = some 1) ∧ (isFn Try.prog 89 = true) ∧ (szK Try.prog 4 = some 1) ∧ (fOff Try.prog 102 7 = some 14) ∧ (ldK Try.prog 100 = some none) ∧ (slK Try.prog 100 = some 2) ∧ (szK Try.prog 102 = some 17) ∧ (szK Try.prog 100 = some 1) := ⟨fo_102_0, ld_84, pk_84, fo_102_2, ld_4, fo_102_1, fn_89, sz_4, fo_102_7, ld_100, sl_100, sz_102, sz_100⟩
theorem ow_55 : (ldK Try.prog 33 = some (some 2)) ∧ (isFn Try.prog 56 = true) ∧ (szK Try.prog 33 = some 2) := ⟨ld_33, fn_56, sz_33⟩
theorem ow_56 : (ldK Try.prog 33 = some (some 2)) ∧ (isFn Try.prog 90 = true) ∧ (szK Try.prog 33 = some 2) := ⟨ld_33, fn_90, sz_33⟩
theorem ow_57 : (isFn Try.prog 91 = true) ∧ (ldK Try.prog 33 = some (some 2)) ∧ (isFn Try.prog 92 = true) ∧ (szK Try.prog 33 = some 2) := ⟨fn_91, ld_33, fn_92, sz_33⟩
theorem ow_58 : (ldK Try.prog 33 = some (some 2)) ∧ (isFn Try.prog 93 = true) ∧ (szK Try.prog 33 = some 2) := ⟨ld_33, fn_93, sz_33⟩
theorem ow_59 : (ldK Try.prog 33 = some (some 2)) ∧ (isFn Try.prog 93 = true) ∧ (szK Try.prog 33 = some 2) := ⟨ld_33, fn_93, sz_33⟩
theorem ow_60 : (ldK Try.prog 84 = some none) ∧ (isFn Try.prog 91 = true) ∧ (ptK Try.prog 117 = true) ∧ (fOff Try.prog 152 0 = some 0) ∧ (ldK Try.prog 4 = some none) ∧ (fOff Try.prog 152 1 = some 1) ∧ (szK Try.prog 4 = some 1) ∧ (ptK Try.prog 119 = true) ∧ (isFn Try.prog 94 = true) ∧ (fOff Try.prog 156 6 = some 6) ∧ (ldK Try.prog 112 = some none) ∧ (fOff Try.prog 115 0 = some 0) ∧ (szK Try.prog 112 = some 1) ∧ (ldK Try.prog 33 = some (some 2)) ∧ (szK Try.prog 33 = some 2) ∧ (fOff Try.prog 156 2 = some 2) ∧ (ldK Try.prog 96 = some none) ∧ (ptK Try.prog 96 = true) ∧ (ldK Try.prog 115 = some (some 4)) ∧ (szK Try.prog 115 = some 4) ∧ (isFn Try.prog 96 = true) ∧ (noInt Try.prog 157 = true) ∧ (slK Try.prog 157 = some 2) ∧ (ptK Try.prog 3 = false) ∧ (isFn Try.prog 97 = true) ∧ (fOff Try.prog 165 3 = some 3) ∧ (ldK Try.prog 163 = some none) ∧ (ptK Try.prog 163 = true) ∧ (fOff Try.prog 165 2 = some 2) ∧ (ldK Try.prog 25 = some none) ∧ (slK Try.prog 25 = some 2) ∧ (fOff Try.prog 156 9 = some 10) ∧ (ldK Try.prog 3 = some none) ∧ (arK Try.prog 25 = none) ∧ (fOff Try.prog 156 7 = some 7) ∧ (szK Try.prog 25 = some 1) ∧ (ldK Try.prog 166 = some none) ∧ (slK Try.prog 166 = some 1) ∧ (arK Try.prog 166 = none) ∧ (szK Try.prog 96 = some 1) ∧ (szK Try.prog 166 = some 1) ∧ (arK Try.prog 157 = none) ∧ (fOff Try.prog 161 0 = some 0) ∧ (fOff Try.prog 165 1 = some 1) ∧ (szK Try.prog 3 = some 1) ∧ (fOff Try.prog 156 3 = some 3) ∧ (isFn Try.prog 98 = true) ∧ (isFn Try.prog 92 = true) ∧ (fOff Try.prog 161 1 = some 1) := ⟨ld_84, fn_91, pk_117, fo_152_0, ld_4, fo_152_1, sz_4, pk_119, fn_94, fo_156_6, ld_112, fo_115_0, sz_112, ld_33, sz_33, fo_156_2, ld_96, pk_96, ld_115, sz_115, fn_96, ni_157, sl_157, pk_3, fn_97, fo_165_3, ld_163, pk_163, fo_165_2, ld_25, sl_25, fo_156_9, ld_3, ar_25, fo_156_7, sz_25, ld_166, sl_166, ar_166, sz_96, sz_166, ar_157, fo_161_0, fo_165_1, sz_3, fo_156_3, fn_98, fn_92, fo_161_1⟩
theorem ow_61 : (fOff Try.prog 63 0 = some 0) ∧ (ldK Try.prog 4 = some none) ∧ (fOff Try.prog 63 1 = some 1) ∧ (fOff Try.prog 63 2 = some 2) := ⟨fo_63_0, ld_4, fo_63_1, fo_63_2⟩
theorem ow_62 : (isFn Try.prog 100 = true) ∧ (isFn Try.prog 99 = true) ∧ (ldK Try.prog 25 = some none) := ⟨fn_100, fn_99, ld_25⟩
theorem ow_63 : (fOff Try.prog 24 0 = some 0) ∧ (ldK Try.prog 22 = some none) ∧ (isFn Try.prog 17 = true) ∧ (slK Try.prog 55 = some 4) ∧ (ptK Try.prog 3 = false) ∧ (arK Try.prog 55 = none) ∧ (ldK Try.prog 57 = some (some 4)) ∧ (szK Try.prog 57 = some 4) ∧ (fOff Try.prog 57 0 = some 0) ∧ (ldK Try.prog 33 = some (some 2)) ∧ (fOff Try.prog 57 1 = some 2) ∧ (fOff Try.prog 63 2 = some 2) ∧ (ldK Try.prog 4 = some none) ∧ (fOff Try.prog 63 0 = some 0) ∧ (isFn Try.prog 101 = true) ∧ (fOff Try.prog 63 1 = some 1) ∧ (noInt Try.prog 58 = true) := ⟨fo_24_0, ld_22, fn_17, sl_55, pk_3, ar_55, ld_57, sz_57, fo_57_0, ld_33, fo_57_1, fo_63_2, ld_4, fo_63_0, fn_101, fo_63_1, ni_58⟩
theorem ow_64 : (isFn Try.prog 102 = true) := fn_102
theorem ow_65 : (ldK Try.prog 33 = some (some 2)) ∧ (isFn Try.prog 60 = true) ∧ (szK Try.prog 115 = some 4) := ⟨ld_33, fn_60, sz_115⟩
theorem ow_66 : (fOff Try.prog 115 1 = some 1) ∧ (ldK Try.prog 3 = some none) := ⟨fo_115_1, ld_3⟩
theorem ow_67 : (ldK Try.prog 24 = some (some 3)) ∧ (isFn Try.prog 43 = true) ∧ (slK Try.prog 71 = some 9) ∧ (ptK Try.prog 3 = false) ∧ (arK Try.prog 71 = none) ∧ (ldK Try.prog 78 = some (some 9)) ∧ (szK Try.prog 78 = some 9) ∧ (fOff Try.prog 78 1 = some 1) ∧ (ldK Try.prog 3 = some none) ∧ (slK Try.prog 124 = some 1) ∧ (isFn Try.prog 104 = true) ∧ (arK Try.prog 124 = none) ∧ (ldK Try.prog 84 = some none) ∧ (fOff Try.prog 78 0 = some 0) ∧ (fOff Try.prog 78 6 = some 8) ∧ (ldK Try.prog 4 = some none) ∧ (isFn Try.prog 105 = true) ∧ (noInt Try.prog 124 = true) ∧ (isFn Try.prog 106 = true) ∧ (szK Try.prog 35 = some 3) ∧ (fOff Try.prog 35 0 = some 0) ∧ (ldK Try.prog 33 = some (some 2)) ∧ (fOff Try.prog 35 1 = some 2) ∧ (isFn Try.prog 71 = true) ∧ (noInt Try.prog 125 = true) := ⟨ld_24, fn_43, sl_71, pk_3, ar_71, ld_78, sz_78, fo_78_1, ld_3, sl_124, fn_104, ar_124, ld_84, fo_78_0, fo_78_6, ld_4, fn_105, ni_124, fn_106, sz_35, fo_35_0, ld_33, fo_35_1, fn_71, ni_125⟩
theorem ow_68 : (isFn Try.prog 107 = true) := fn_107
theorem ow_69 : (ldK Try.prog 58 = some none) ∧ (noInt Try.prog 25 = true) ∧ (noInt Try.prog 58 = true) ∧ (szK Try.prog 58 = some 1) := ⟨ld_58, ni_25, ni_58, sz_58⟩
theorem ow_70 : (isFn Try.prog 91 = true) ∧ (fOff Try.prog 156 2 = some 2) ∧ (ldK Try.prog 96 = some none) ∧ (ptK Try.prog 96 = true) ∧ (ptK Try.prog 3 = false) ∧ (isFn Try.prog 108 = true) ∧ (fOff Try.prog 165 3 = some 3) ∧ (ldK Try.prog 163 = some none) ∧ (ldK Try.prog 166 = some none) ∧ (slK Try.prog 166 = some 1) ∧ (arK Try.prog 166 = none) := ⟨fn_91, fo_156_2, ld_96, pk_96, pk_3, fn_108, fo_165_3, ld_163, ld_166, sl_166, ar_166⟩
theorem ow_71 : (fOff Try.prog 156 3 = some 3) ∧ (ldK Try.prog 3 = some none) := ⟨fo_156_3, ld_3⟩
theorem ow_72 : (isFn Try.prog 75 = true) ∧ (isFn Try.prog 109 = true) ∧ (slK Try.prog 25 = some 2) ∧ (ptK Try.prog 3 = false) ∧ (arK Try.prog 25 = none) ∧ (ldK Try.prog 33 = some (some 2)) ∧ (szK Try.prog 33 = some 2) ∧ (fOff Try.prog 183 0 = some 0) ∧ (ldK Try.prog 84 = some none) ∧ (isFn Try.prog 55 = true) ∧ (isFn Try.prog 110 = true) ∧ (slK Try.prog 81 = some 3) ∧ (isFn Try.prog 111 = true) ∧ (isFn Try.prog 46 = true) := ⟨fn_75, fn_109, sl_25, pk_3, ar_25, ld_33, sz_33, fo_183_0, ld_84, fn_55, fn_110, sl_81, fn_111, fn_46⟩
theorem ow_73 : (fOff Try.prog 24 0 = some 0) ∧ (ldK Try.prog 22 = some none) ∧ (isFn Try.prog 17 = true) ∧ (isFn Try.prog 112 = true) := ⟨fo_24_0, ld_22, fn_17, fn_112⟩
theorem ow_74 : (fOff Try.prog 156 1 = some 1) ∧ (szK Try.prog 154 = some 1) ∧ (ldK Try.prog 154 = some none) ∧ (isFn Try.prog 113 = true) ∧ (fOff Try.prog 156 0 = some 0) ∧ (szK Try.prog 153 = some 1) ∧ (fOff Try.prog 156 6 = some 6) ∧ (szK Try.prog 112 = some 1) ∧ (fOff Try.prog 138 0 = some 0) ∧ (ldK Try.prog 3 = some none) ∧ (isFn Try.prog 114 = true) := ⟨fo_156_1, sz_154, ld_154, fn_113, fo_156_0, sz_153, fo_156_6, sz_112, fo_138_0, ld_3, fn_114⟩
theorem ow_75 : (isFn Try.prog 115 = true) ∧ (szK Try.prog 22 = some 1) := ⟨fn_115, sz_22⟩
theorem ow_76 : (fOff Try.prog 24 1 = some 1) ∧ (ldK Try.prog 3 = some none) ∧ (fOff Try.prog 24 2 = some 2) ∧ (ldK Try.prog 4 = some none) ∧ (szK Try.prog 138 = some 2) := ⟨fo_24_1, ld_3, fo_24_2, ld_4, sz_138⟩
theorem ow_77 : (isFn Try.prog 91 = true) ∧ (isFn Try.prog 71 = true) ∧ (fOff Try.prog 156 2 = some 2) ∧ (ldK Try.prog 96 = some none) ∧ (ptK Try.prog 96 = true) ∧ (isFn Try.prog 118 = true) := ⟨fn_91, fn_71, fo_156_2, ld_96, pk_96, fn_118⟩
theorem ow_78 : (slK Try.prog 25 = some 2) ∧ (ptK Try.prog 3 = false) ∧ (arK Try.prog 25 = none) ∧ (ldK Try.prog 33 = some (some 2)) ∧ (isFn Try.prog 119 = true) := ⟨sl_25, pk_3, ar_25, ld_33, fn_119⟩
theorem ow_79 : (fOff Try.prog 102 0 = some 0) ∧ (ldK Try.prog 84 = some none) ∧ (ptK Try.prog 84 = true) ∧ (fOff Try.prog 102 5 = some 5) ∧ (szK Try.prog 4 = some 1) ∧ (fOff Try.prog 102 4 = some 4) ∧ (fOff Try.prog 102 3 = some 3) ∧ (fOff Try.prog 102 7 = some 14) ∧ (ldK Try.prog 100 = some none) ∧ (slK Try.prog 100 = some 2) ∧ (szK Try.prog 100 = some 1) ∧ (fOff Try.prog 156 2 = some 2) ∧ (ldK Try.prog 96 = some none) ∧ (ptK Try.prog 96 = true) ∧ (fOff Try.prog 102 1 = some 1) ∧ (ldK Try.prog 4 = some none) ∧ (isFn Try.prog 96 = true) ∧ (noInt Try.prog 100 = true) ∧ (isFn Try.prog 108 = true) ∧ (fOff Try.prog 165 3 = some 3) ∧ (ldK Try.prog 163 = some none) ∧ (ldK Try.prog 166 = some none) ∧ (slK Try.prog 166 = some 1) ∧ (arK Try.prog 166 = none) ∧ (ptK Try.prog 3 = false) ∧ (arK Try.prog 100 = none) ∧ (fOff Try.prog 98 0 = some 0) ∧ (fOff Try.prog 165 2 = some 2) ∧ (ldK Try.prog 25 = some none) ∧ (fOff Try.prog 98 1 = some 1) ∧ (ldK Try.prog 3 = some none) ∧ (slK Try.prog 25 = some 2) ∧ (arK Try.prog 25 = none) ∧ (ldK Try.prog 33 = some (some 2)) ∧ (fOff Try.prog 102 8 = some 15) ∧ (szK Try.prog 33 = some 2) := ⟨fo_102_0, ld_84, pk_84, fo_102_5, sz_4, fo_102_4, fo_102_3, fo_102_7, ld_100, sl_100, sz_100, fo_156_2, ld_96, pk_96, fo_102_1, ld_4, fn_96, ni_100, fn_108, fo_165_3, ld_163, ld_166, sl_166, ar_166, pk_3, ar_100, fo_98_0, fo_165_2, ld_25, fo_98_1, ld_3, sl_25, ar_25, ld_33, fo_102_8, sz_33⟩
theorem ow_80 : (fOff Try.prog 102 7 = some 14) ∧ (ldK Try.prog 100 = some none) ∧ (slK Try.prog 100 = some 2) ∧ (szK Try.prog 102 = some 17) ∧ (szK Try.prog 100 = some 1) ∧ (fOff Try.prog 102 0 = some 0) ∧ (szK Try.prog 84 = some 1) ∧ (fOff Try.prog 102 1 = some 1) ∧ (szK Try.prog 4 = some 1) ∧ (ldK Try.prog 4 = some none) ∧ (isFn Try.prog 91 = true) ∧ (fOff Try.prog 102 2 = some 2) ∧ (ptK Try.prog 100 = false) ∧ (fOff Try.prog 102 6 = some 6) ∧ (slK Try.prog 99 = none) := ⟨fo_102_7, ld_100, sl_100, sz_102, sz_100, fo_102_0, sz_84, fo_102_1, sz_4, ld_4, fn_91, fo_102_2, pk_100, fo_102_6, sl_99⟩
theorem ow_81 : (isFn Try.prog 120 = true) ∧ (szK Try.prog 35 = some 3) ∧ (ldK Try.prog 35 = some (some 3)) := ⟨fn_120, sz_35, ld_35⟩
theorem ow_82 : (fOff Try.prog 102 0 = some 0) ∧ (szK Try.prog 84 = some 1) ∧ (fOff Try.prog 102 1 = some 1) ∧ (szK Try.prog 4 = some 1) ∧ (ldK Try.prog 4 = some none) ∧ (isFn Try.prog 91 = true) ∧ (fOff Try.prog 102 2 = some 2) ∧ (fOff Try.prog 102 6 = some 6) ∧ (slK Try.prog 99 = none) ∧ (fOff Try.prog 102 7 = some 14) ∧ (szK Try.prog 100 = some 1) ∧ (ldK Try.prog 102 = some (some 17)) ∧ (szK Try.prog 102 = some 17) := ⟨fo_102_0, sz_84, fo_102_1, sz_4, ld_4, fn_91, fo_102_2, fo_102_6, sl_99, fo_102_7, sz_100, ld_102, sz_102⟩
theorem ow_83 : (fOff Try.prog 102 0 = some 0) ∧ (ldK Try.prog 84 = some none) ∧ (ptK Try.prog 84 = true) ∧ (fOff Try.prog 102 3 = some 3) ∧ (szK Try.prog 4 = some 1) ∧ (fOff Try.prog 102 7 = some 14) ∧ (ldK Try.prog 100 = some none) ∧ (slK Try.prog 100 = some 2) ∧ (szK Try.prog 100 = some 1) ∧ (fOff Try.prog 156 2 = some 2) ∧ (ldK Try.prog 96 = some none) ∧ (ptK Try.prog 96 = true) ∧ (fOff Try.prog 102 1 = some 1) ∧ (ldK Try.prog 4 = some none) ∧ (isFn Try.prog 96 = true) ∧ (fOff Try.prog 165 2 = some 2) ∧ (ldK Try.prog 25 = some none) ∧ (slK Try.prog 25 = some 2) ∧ (noInt Try.prog 100 = true) ∧ (isFn Try.prog 108 = true) ∧ (ptK Try.prog 3 = false) ∧ (arK Try.prog 100 = none) ∧ (fOff Try.prog 98 1 = some 1) ∧ (ldK Try.prog 3 = some none) ∧ (szK Try.prog 3 = some 1) ∧ (fOff Try.prog 165 3 = some 3) ∧ (ldK Try.prog 163 = some none) ∧ (ldK Try.prog 166 = some none) ∧ (slK Try.prog 166 = some 1) ∧ (arK Try.prog 166 = none) ∧ (fOff Try.prog 98 0 = some 0) ∧ (arK Try.prog 25 = none) ∧ (ldK Try.prog 33 = some (some 2)) ∧ (fOff Try.prog 102 8 = some 15) ∧ (szK Try.prog 33 = some 2) := ⟨fo_102_0, ld_84, pk_84, fo_102_3, sz_4, fo_102_7, ld_100, sl_100, sz_100, fo_156_2, ld_96, pk_96, fo_102_1, ld_4, fn_96, fo_165_2, ld_25, sl_25, ni_100, fn_108, pk_3, ar_100, fo_98_1, ld_3, sz_3, fo_165_3, ld_163, ld_166, sl_166, ar_166, fo_98_0, ar_25, ld_33, fo_102_8, sz_33⟩
theorem ow_84 : (fOff Try.prog 102 0 = some 0) ∧ (ldK Try.prog 84 = some none) ∧ (ptK Try.prog 84 = true) ∧ (fOff Try.prog 102 3 = some 3) ∧ (ldK Try.prog 4 = some none) ∧ (isFn Try.prog 79 = true) ∧ (fOff Try.prog 102 7 = some 14) ∧ (ldK Try.prog 100 = some none) ∧ (slK Try.prog 100 = some 2) ∧ (ptK Try.prog 3 = false) ∧ (fOff Try.prog 102 4 = some 4) ∧ (isFn Try.prog 84 = true) ∧ (arK Try.prog 100 = none) ∧ (fOff Try.prog 98 1 = some 1) ∧ (ldK Try.prog 3 = some none) ∧ (szK Try.prog 3 = some 1) ∧ (fOff Try.prog 98 0 = some 0) ∧ (ldK Try.prog 96 = some none) ∧ (isFn Try.prog 108 = true) ∧ (fOff Try.prog 165 2 = some 2) ∧ (ldK Try.prog 25 = some none) ∧ (slK Try.prog 25 = some 2) ∧ (szK Try.prog 100 = some 1) ∧ (fOff Try.prog 102 5 = some 5) ∧ (szK Try.prog 4 = some 1) ∧ (fOff Try.prog 165 3 = some 3) ∧ (ldK Try.prog 163 = some none) ∧ (ldK Try.prog 166 = some none) ∧ (slK Try.prog 166 = some 1) ∧ (arK Try.prog 166 = none) ∧ (fOff Try.prog 102 1 = some 1) ∧ (isFn Try.prog 96 = true) ∧ (noInt Try.prog 100 = true) ∧ (arK Try.prog 25 = none) ∧ (ldK Try.prog 33 = some (some 2)) ∧ (fOff Try.prog 102 8 = some 15) ∧ (szK Try.prog 33 = some 2) := ⟨fo_102_0, ld_84, pk_84, fo_102_3, ld_4, fn_79, fo_102_7, ld_100, sl_100, pk_3, fo_102_4, fn_84, ar_100, fo_98_1, ld_3, sz_3, fo_98_0, ld_96, fn_108, fo_165_2, ld_25, sl_25, sz_100, fo_102_5, sz_4, fo_165_3, ld_163, ld_166, sl_166, ar_166, fo_102_1, fn_96, ni_100, ar_25, ld_33, fo_102_8, sz_33⟩
theorem ow_85 : (fOff Try.prog 102 0 = some 0) ∧ (ldK Try.prog 84 = some none) ∧ (ptK Try.prog 84 = true) ∧ (fOff Try.prog 102 3 = some 3) ∧ (ldK Try.prog 4 = some none) ∧ (fOff Try.prog 102 7 = some 14) ∧ (ldK Try.prog 100 = some none) ∧ (slK Try.prog 100 = some 2) ∧ (ptK Try.prog 3 = false) ∧ (fOff Try.prog 102 5 = some 5) ∧ (isFn Try.prog 83 = true) ∧ (isFn Try.prog 85 = true) ∧ (arK Try.prog 100 = none) ∧ (fOff Try.prog 98 0 = some 0) ∧ (ldK Try.prog 96 = some none) ∧ (isFn Try.prog 108 = true) ∧ (fOff Try.prog 98 1 = some 1) ∧ (ldK Try.prog 3 = some none) ∧ (szK Try.prog 3 = some 1) ∧ (szK Try.prog 100 = some 1) ∧ (fOff Try.prog 102 4 = some 4) ∧ (szK Try.prog 4 = some 1) ∧ (fOff Try.prog 165 3 = some 3) ∧ (ldK Try.prog 163 = some none) ∧ (ldK Try.prog 166 = some none) ∧ (slK Try.prog 166 = some 1) ∧ (arK Try.prog 166 = none) ∧ (fOff Try.prog 102 1 = some 1) ∧ (isFn Try.prog 96 = true) ∧ (fOff Try.prog 165 2 = some 2) ∧ (ldK Try.prog 25 = some none) ∧ (slK Try.prog 25 = some 2) ∧ (noInt Try.prog 100 = true) ∧ (arK Try.prog 25 = none) ∧ (ldK Try.prog 33 = some (some 2)) ∧ (fOff Try.prog 102 8 = some 15) ∧ (szK Try.prog 33 = some 2) := ⟨fo_102_0, ld_84, pk_84, fo_102_3, ld_4, fo_102_7, ld_100, sl_100, pk_3, fo_102_5, fn_83, fn_85, ar_100, fo_98_0, ld_96, fn_108, fo_98_1, ld_3, sz_3, sz_100, fo_102_4, sz_4, fo_165_3, ld_163, ld_166, sl_166, ar_166, fo_102_1, fn_96, fo_165_2, ld_25, sl_25, ni_100, ar_25, ld_33, fo_102_8, sz_33⟩
theorem ow_86 : (ldK Try.prog 33 = some (some 2)) ∧ (isFn Try.prog 121 = true) := ⟨ld_33, fn_121⟩
theorem ow_87 : (ldK Try.prog 33 = some (some 2)) ∧ (isFn Try.prog 121 = true) := ⟨ld_33, fn_121⟩
theorem ow_88 : (fOff Try.prog 102 8 = some 15) ∧ (ldK Try.prog 33 = some (some 2)) ∧ (szK Try.prog 33 = some 2) := ⟨fo_102_8, ld_33, sz_33⟩
theorem ow_90 : (fOff Try.prog 156 2 = some 2) ∧ (ldK Try.prog 96 = some none) ∧ (ptK Try.prog 96 = true) ∧ (isFn Try.prog 114 = true) ∧ (isFn Try.prog 122 = true) ∧ (szK Try.prog 96 = some 1) ∧ (ldK Try.prog 33 = some (some 2)) ∧ (noInt Try.prog 25 = true) ∧ (fOff Try.prog 165 2 = some 2) ∧ (szK Try.prog 25 = some 1) ∧ (fOff Try.prog 165 1 = some 1) ∧ (szK Try.prog 3 = some 1) ∧ (fOff Try.prog 156 3 = some 3) ∧ (fOff Try.prog 156 7 = some 7) ∧ (szK Try.prog 33 = some 2) ∧ (isFn Try.prog 123 = true) ∧ (isFn Try.prog 96 = true) ∧ (isFn Try.prog 124 = true) ∧ (fOff Try.prog 165 3 = some 3) ∧ (ldK Try.prog 163 = some none) ∧ (fOff Try.prog 156 8 = some 9) ∧ (ldK Try.prog 3 = some none) ∧ (ptK Try.prog 3 = false) ∧ (szK Try.prog 166 = some 1) ∧ (noInt Try.prog 166 = true) ∧ (isFn Try.prog 125 = true) ∧ (isFn Try.prog 90 = true) := ⟨fo_156_2, ld_96, pk_96, fn_114, fn_122, sz_96, ld_33, ni_25, fo_165_2, sz_25, fo_165_1, sz_3, fo_156_3, fo_156_7, sz_33, fn_123, fn_96, fn_124, fo_165_3, ld_163, fo_156_8, ld_3, pk_3, sz_166, ni_166, fn_125, fn_90⟩
theorem ow_92 : (fOff Try.prog 156 2 = some 2) ∧ (ldK Try.prog 96 = some none) ∧ (ptK Try.prog 96 = true) ∧ (fOff Try.prog 156 7 = some 7) ∧ (ldK Try.prog 33 = some (some 2)) ∧ (szK Try.prog 33 = some 2) ∧ (isFn Try.prog 126 = true) ∧ (fOff Try.prog 165 2 = some 2) ∧ (ldK Try.prog 25 = some none) ∧ (slK Try.prog 25 = some 2) ∧ (ptK Try.prog 3 = false) ∧ (isFn Try.prog 108 = true) ∧ (fOff Try.prog 165 3 = some 3) ∧ (ldK Try.prog 163 = some none) ∧ (ldK Try.prog 166 = some none) ∧ (slK Try.prog 166 = some 1) ∧ (arK Try.prog 166 = none) ∧ (szK Try.prog 96 = some 1) ∧ (fOff Try.prog 156 3 = some 3) ∧ (ldK Try.prog 3 = some none) ∧ (szK Try.prog 3 = some 1) := ⟨fo_156_2, ld_96, pk_96, fo_156_7, ld_33, sz_33, fn_126, fo_165_2, ld_25, sl_25, pk_3, fn_108, fo_165_3, ld_163, ld_166, sl_166, ar_166, sz_96, fo_156_3, ld_3, sz_3⟩
theorem ow_93 : (isFn Try.prog 91 = true) ∧ (fOff Try.prog 156 2 = some 2) ∧ (ldK Try.prog 96 = some none) ∧ (ptK Try.prog 96 = true) ∧ (fOff Try.prog 156 7 = some 7) ∧ (ldK Try.prog 33 = some (some 2)) ∧ (szK Try.prog 33 = some 2) ∧ (isFn Try.prog 96 = true) ∧ (isFn Try.prog 97 = true) ∧ (fOff Try.prog 165 2 = some 2) ∧ (ldK Try.prog 25 = some none) ∧ (slK Try.prog 25 = some 2) ∧ (arK Try.prog 25 = none) ∧ (fOff Try.prog 165 3 = some 3) ∧ (ldK Try.prog 163 = some none) ∧ (ptK Try.prog 163 = true) ∧ (ldK Try.prog 166 = some none) ∧ (slK Try.prog 166 = some 1) ∧ (arK Try.prog 166 = none) ∧ (ptK Try.prog 3 = false) := ⟨fn_91, fo_156_2, ld_96, pk_96, fo_156_7, ld_33, sz_33, fn_96, fn_97, fo_165_2, ld_25, sl_25, ar_25, fo_165_3, ld_163, pk_163, ld_166, sl_166, ar_166, pk_3⟩
theorem ow_94 : (fOff Try.prog 115 0 = some 0) ∧ (szK Try.prog 112 = some 1) ∧ (fOff Try.prog 115 3 = some 3) ∧ (ldK Try.prog 113 = some none) ∧ (slK Try.prog 113 = some 3) ∧ (szK Try.prog 113 = some 1) ∧ (fOff Try.prog 115 1 = some 1) ∧ (szK Try.prog 3 = some 1) ∧ (fOff Try.prog 115 2 = some 2) := ⟨fo_115_0, sz_112, fo_115_3, ld_113, sl_113, sz_113, fo_115_1, sz_3, fo_115_2⟩
theorem ow_95 : (ldK Try.prog 4 = some none) ∧ (ldK Try.prog 84 = some none) ∧ (fOff Try.prog 156 6 = some 6) ∧ (ldK Try.prog 112 = some none) ∧ (ldK Try.prog 33 = some (some 2)) := ⟨ld_4, ld_84, fo_156_6, ld_112, ld_33⟩
theorem ow_96 : (ldK Try.prog 96 = some none) ∧ (fOff Try.prog 165 0 = some 0) ∧ (ldK Try.prog 153 = some none) ∧ (fOff Try.prog 156 0 = some 0) ∧ (ptK Try.prog 153 = false) ∧ (isFn Try.prog 127 = true) ∧ (szK Try.prog 96 = some 1) := ⟨ld_96, fo_165_0, ld_153, fo_156_0, pk_153, fn_127, sz_96⟩
theorem ow_97 : (ptK Try.prog 111 = true) ∧ (ldK Try.prog 33 = some (some 2)) ∧ (isFn Try.prog 128 = true) ∧ (isFn Try.prog 129 = true) := ⟨pk_111, ld_33, fn_128, fn_129⟩
theorem ow_98 : (fOff Try.prog 115 1 = some 1) ∧ (ldK Try.prog 3 = some none) ∧ (ptK Try.prog 3 = false) ∧ (szK Try.prog 3 = some 1) ∧ (ptK Try.prog 96 = true) ∧ (fOff Try.prog 165 1 = some 1) ∧ (ldK Try.prog 33 = some (some 2)) ∧ (isFn Try.prog 130 = true) := ⟨fo_115_1, ld_3, pk_3, sz_3, pk_96, fo_165_1, ld_33, fn_130⟩
theorem ow_99 : (fOff Try.prog 115 3 = some 3) ∧ (ldK Try.prog 113 = some none) ∧ (slK Try.prog 113 = some 3) ∧ (fOff Try.prog 115 2 = some 2) ∧ (ldK Try.prog 3 = some none) ∧ (ptK Try.prog 3 = false) ∧ (arK Try.prog 113 = none) ∧ (ldK Try.prog 205 = some (some 3)) ∧ (szK Try.prog 205 = some 3) ∧ (fOff Try.prog 205 0 = some 0) ∧ (ldK Try.prog 33 = some (some 2)) ∧ (fOff Try.prog 205 1 = some 2) ∧ (ldK Try.prog 96 = some none) ∧ (ptK Try.prog 96 = true) ∧ (isFn Try.prog 131 = true) ∧ (isFn Try.prog 132 = true) ∧ (szK Try.prog 3 = some 1) := ⟨fo_115_3, ld_113, sl_113, fo_115_2, ld_3, pk_3, ar_113, ld_205, sz_205, fo_205_0, ld_33, fo_205_1, ld_96, pk_96, fn_131, fn_132, sz_3⟩
theorem ow_101 : (slK Try.prog 25 = some 2) ∧ (ptK Try.prog 3 = false) ∧ (arK Try.prog 25 = none) ∧ (ldK Try.prog 33 = some (some 2)) ∧ (szK Try.prog 33 = some 2) ∧ (isFn Try.prog 134 = true) ∧ (noInt Try.prog 25 = true) := ⟨sl_25, pk_3, ar_25, ld_33, sz_33, fn_134, ni_25⟩
theorem ow_102 : (slK Try.prog 58 = some 1) ∧ (ptK Try.prog 3 = false) ∧ (arK Try.prog 58 = none) ∧ (ldK Try.prog 25 = some none) := ⟨sl_58, pk_3, ar_58, ld_25⟩
theorem ow_103 : (isFn Try.prog 30 = true) := fn_30
theorem ow_104 : (ptK Try.prog 3 = false) := pk_3
theorem ow_105 : (isFn Try.prog 135 = true) ∧ (isFn Try.prog 136 = true) := ⟨fn_135, fn_136⟩
theorem ow_106 : (fOff Try.prog 78 0 = some 0) ∧ (ldK Try.prog 3 = some none) ∧ (ptK Try.prog 3 = false) ∧ (fOff Try.prog 78 5 = some 7) ∧ (ldK Try.prog 4 = some none) ∧ (fOff Try.prog 78 2 = some 2) ∧ (ldK Try.prog 33 = some (some 2)) ∧ (isFn Try.prog 56 = true) ∧ (szK Try.prog 33 = some 2) ∧ (isFn Try.prog 55 = true) ∧ (isFn Try.prog 137 = true) ∧ (isFn Try.prog 138 = true) ∧ (isFn Try.prog 139 = true) ∧ (isFn Try.prog 59 = true) ∧ (isFn Try.prog 58 = true) ∧ (isFn Try.prog 57 = true) ∧ (isFn Try.prog 45 = true) ∧ (isFn Try.prog 140 = true) ∧ (isFn Try.prog 141 = true) ∧ (isFn Try.prog 142 = true) ∧ (fOff Try.prog 78 4 = some 6) ∧ (isFn Try.prog 143 = true) ∧ (isFn Try.prog 144 = true) ∧ (isFn Try.prog 145 = true) ∧ (fOff Try.prog 78 3 = some 4) ∧ (fOff Try.prog 78 6 = some 8) ∧ (isFn Try.prog 65 = true) ∧ (szK Try.prog 115 = some 4) ∧ (isFn Try.prog 62 = true) ∧ (szK Try.prog 35 = some 3) ∧ (isFn Try.prog 46 = true) ∧ (ldK Try.prog 78 = some (some 9)) ∧ (isFn Try.prog 146 = true) ∧ (isFn Try.prog 44 = true) := ⟨fo_78_0, ld_3, pk_3, fo_78_5, ld_4, fo_78_2, ld_33, fn_56, sz_33, fn_55, fn_137, fn_138, fn_139, fn_59, fn_58, fn_57, fn_45, fn_140, fn_141, fn_142, fo_78_4, fn_143, fn_144, fn_145, fo_78_3, fo_78_6, fn_65, sz_115, fn_62, sz_35, fn_46, ld_78, fn_146, fn_44⟩
theorem ow_107 : (isFn Try.prog 91 = true) ∧ (fOff Try.prog 156 2 = some 2) ∧ (ldK Try.prog 96 = some none) ∧ (ptK Try.prog 96 = true) ∧ (isFn Try.prog 147 = true) := ⟨fn_91, fo_156_2, ld_96, pk_96, fn_147⟩
theorem ow_108 : (fOff Try.prog 165 3 = some 3) ∧ (ldK Try.prog 163 = some none) ∧ (ptK Try.prog 163 = true) := ⟨fo_165_3, ld_163, pk_163⟩
theorem ow_109 : (isFn Try.prog 74 = true) := fn_74
theorem ow_110 : (fOff Try.prog 183 0 = some 0) ∧ (ldK Try.prog 84 = some none) ∧ (isFn Try.prog 136 = true) := ⟨fo_183_0, ld_84, fn_136⟩
theorem ow_111 : (slK Try.prog 81 = some 3) ∧ (ptK Try.prog 3 = false) ∧ (arK Try.prog 81 = none) ∧ (fOff Try.prog 134 0 = some 0) ∧ (ldK Try.prog 4 = some none) ∧ (fOff Try.prog 134 1 = some 1) ∧ (ldK Try.prog 33 = some (some 2)) ∧ (isFn Try.prog 45 = true) ∧ (isFn Try.prog 55 = true) := ⟨sl_81, pk_3, ar_81, fo_134_0, ld_4, fo_134_1, ld_33, fn_45, fn_55⟩
theorem ow_112 : (slK Try.prog 81 = some 3) ∧ (ptK Try.prog 3 = false) ∧ (arK Try.prog 81 = none) ∧ (ldK Try.prog 134 = some (some 3)) ∧ (szK Try.prog 134 = some 3) ∧ (fOff Try.prog 134 0 = some 0) ∧ (ldK Try.prog 4 = some none) ∧ (fOff Try.prog 134 1 = some 1) ∧ (ldK Try.prog 33 = some (some 2)) ∧ (isFn Try.prog 148 = true) ∧ (isFn Try.prog 48 = true) := ⟨sl_81, pk_3, ar_81, ld_134, sz_134, fo_134_0, ld_4, fo_134_1, ld_33, fn_148, fn_48⟩
theorem ow_113 : (ldK Try.prog 153 = some none) ∧ (ptK Try.prog 153 = false) ∧ (szK Try.prog 153 = some 1) := ⟨ld_153, pk_153, sz_153⟩
theorem ow_114 : (fOff Try.prog 156 9 = some 10) ∧ (ldK Try.prog 3 = some none) ∧ (ptK Try.prog 3 = false) ∧ (isFn Try.prog 149 = true) ∧ (szK Try.prog 3 = some 1) ∧ (fOff Try.prog 156 8 = some 9) ∧ (fOff Try.prog 156 7 = some 7) ∧ (ldK Try.prog 33 = some (some 2)) ∧ (coK Try.prog 33 = true) ∧ (coK Try.prog 218 = false) ∧ (fOff Try.prog 156 4 = some 4) ∧ (szK Try.prog 4 = some 1) ∧ (ldK Try.prog 4 = some none) ∧ (coK Try.prog 221 = false) ∧ (fOff Try.prog 156 5 = some 5) := ⟨fo_156_9, ld_3, pk_3, fn_149, sz_3, fo_156_8, fo_156_7, ld_33, co_33, co_218, fo_156_4, sz_4, ld_4, co_221, fo_156_5⟩
theorem ow_115 : (ptK Try.prog 22 = false) ∧ (noInt Try.prog 22 = true) := ⟨pk_22, ni_22⟩
theorem ow_116 : (ldK Try.prog 22 = some none) ∧ (fOff Try.prog 33 0 = some 0) ∧ (ldK Try.prog 3 = some none) ∧ (isFn Try.prog 117 = true) ∧ (ptK Try.prog 3 = false) := ⟨ld_22, fo_33_0, ld_3, fn_117, pk_3⟩
theorem ow_117 : (slK Try.prog 22 = some 1) ∧ (ptK Try.prog 3 = false) ∧ (isFn Try.prog 104 = true) ∧ (arK Try.prog 22 = none) ∧ (ldK Try.prog 3 = some none) := ⟨sl_22, pk_3, fn_104, ar_22, ld_3⟩
theorem ow_118 : (isFn Try.prog 96 = true) ∧ (isFn Try.prog 108 = true) ∧ (fOff Try.prog 165 2 = some 2) ∧ (ldK Try.prog 25 = some none) ∧ (noInt Try.prog 25 = true) ∧ (slK Try.prog 25 = some 2) ∧ (ptK Try.prog 3 = false) ∧ (fOff Try.prog 165 3 = some 3) ∧ (ldK Try.prog 163 = some none) ∧ (ldK Try.prog 166 = some none) ∧ (slK Try.prog 166 = some 1) ∧ (arK Try.prog 166 = none) ∧ (isFn Try.prog 118 = true) ∧ (arK Try.prog 25 = none) ∧ (ldK Try.prog 33 = some (some 2)) := ⟨fn_96, fn_108, fo_165_2, ld_25, ni_25, sl_25, pk_3, fo_165_3, ld_163, ld_166, sl_166, ar_166, fn_118, ar_25, ld_33⟩
theorem ow_119 : (fOff Try.prog 33 0 = some 0) ∧ (ldK Try.prog 3 = some none) ∧ (isFn Try.prog 150 = true) ∧ (ptK Try.prog 3 = false) := ⟨fo_33_0, ld_3, fn_150, pk_3⟩
theorem ow_120 : (ptK Try.prog 3 = false) ∧ (slK Try.prog 25 = some 2) ∧ (szK Try.prog 35 = some 3) ∧ (noInt Try.prog 25 = true) ∧ (arK Try.prog 25 = none) ∧ (ldK Try.prog 33 = some (some 2)) := ⟨pk_3, sl_25, sz_35, ni_25, ar_25, ld_33⟩
theorem ow_121 : (fOff Try.prog 102 0 = some 0) ∧ (ldK Try.prog 84 = some none) ∧ (ptK Try.prog 84 = true) ∧ (fOff Try.prog 102 3 = some 3) ∧ (szK Try.prog 4 = some 1) ∧ (fOff Try.prog 102 7 = some 14) ∧ (ldK Try.prog 100 = some none) ∧ (slK Try.prog 100 = some 2) ∧ (szK Try.prog 100 = some 1) ∧ (fOff Try.prog 156 2 = some 2) ∧ (ldK Try.prog 96 = some none) ∧ (ptK Try.prog 96 = true) ∧ (fOff Try.prog 102 1 = some 1) ∧ (ldK Try.prog 4 = some none) ∧ (isFn Try.prog 96 = true) ∧ (ldK Try.prog 33 = some (some 2)) ∧ (isFn Try.prog 97 = true) ∧ (noInt Try.prog 100 = true) ∧ (fOff Try.prog 165 2 = some 2) ∧ (ldK Try.prog 25 = some none) ∧ (slK Try.prog 25 = some 2) ∧ (arK Try.prog 25 = none) ∧ (fOff Try.prog 102 8 = some 15) ∧ (szK Try.prog 33 = some 2) ∧ (isFn Try.prog 108 = true) ∧ (ptK Try.prog 3 = false) ∧ (arK Try.prog 100 = none) ∧ (fOff Try.prog 98 1 = some 1) ∧ (ldK Try.prog 3 = some none) ∧ (szK Try.prog 3 = some 1) ∧ (isFn Try.prog 84 = true) ∧ (fOff Try.prog 165 3 = some 3) ∧ (ldK Try.prog 163 = some none) ∧ (ldK Try.prog 166 = some none) ∧ (slK Try.prog 166 = some 1) ∧ (arK Try.prog 166 = none) := ⟨fo_102_0, ld_84, pk_84, fo_102_3, sz_4, fo_102_7, ld_100, sl_100, sz_100, fo_156_2, ld_96, pk_96, fo_102_1, ld_4, fn_96, ld_33, fn_97, ni_100, fo_165_2, ld_25, sl_25, ar_25, fo_102_8, sz_33, fn_108, pk_3, ar_100, fo_98_1, ld_3, sz_3, fn_84, fo_165_3, ld_163, ld_166, sl_166, ar_166⟩
theorem ow_122 : (fOff Try.prog 156 0 = some 0) ∧ (ldK Try.prog 153 = some none) ∧ (fOff Try.prog 165 3 = some 3) ∧ (szK Try.prog 163 = some 1) := ⟨fo_156_0, ld_153, fo_165_3, sz_163⟩
theorem ow_123 : (ldK Try.prog 96 = some none) ∧ (fOff Try.prog 165 0 = some 0) ∧ (ldK Try.prog 153 = some none) ∧ (fOff Try.prog 156 0 = some 0) ∧ (ptK Try.prog 153 = false) ∧ (isFn Try.prog 127 = true) ∧ (szK Try.prog 96 = some 1) ∧ (ptK Try.prog 111 = true) ∧ (ldK Try.prog 33 = some (some 2)) ∧ (isFn Try.prog 128 = true) ∧ (isFn Try.prog 129 = true) ∧ (fOff Try.prog 165 2 = some 2) ∧ (ldK Try.prog 25 = some none) ∧ (slK Try.prog 25 = some 2) ∧ (arK Try.prog 25 = none) ∧ (szK Try.prog 33 = some 2) ∧ (isFn Try.prog 108 = true) ∧ (fOff Try.prog 156 8 = some 9) ∧ (ldK Try.prog 3 = some none) ∧ (ptK Try.prog 3 = false) ∧ (fOff Try.prog 156 7 = some 7) ∧ (noInt Try.prog 25 = true) ∧ (szK Try.prog 25 = some 1) ∧ (fOff Try.prog 165 1 = some 1) ∧ (szK Try.prog 3 = some 1) ∧ (fOff Try.prog 165 3 = some 3) ∧ (ldK Try.prog 163 = some none) ∧ (ldK Try.prog 166 = some none) ∧ (slK Try.prog 166 = some 1) ∧ (arK Try.prog 166 = none) ∧ (isFn Try.prog 123 = true) ∧ (isFn Try.prog 124 = true) ∧ (noInt Try.prog 166 = true) ∧ (szK Try.prog 166 = some 1) := ⟨ld_96, fo_165_0, ld_153, fo_156_0, pk_153, fn_127, sz_96, pk_111, ld_33, fn_128, fn_129, fo_165_2, ld_25, sl_25, ar_25, sz_33, fn_108, fo_156_8, ld_3, pk_3, fo_156_7, ni_25, sz_25, fo_165_1, sz_3, fo_165_3, ld_163, ld_166, sl_166, ar_166, fn_123, fn_124, ni_166, sz_166⟩
theorem ow_124 : (fOff Try.prog 156 8 = some 9) ∧ (ldK Try.prog 3 = some none) ∧ (ptK Try.prog 3 = false) ∧ (fOff Try.prog 165 2 = some 2) ∧ (ldK Try.prog 25 = some none) ∧ (slK Try.prog 25 = some 2) ∧ (arK Try.prog 25 = none) ∧ (ldK Try.prog 33 = some (some 2)) ∧ (szK Try.prog 33 = some 2) ∧ (isFn Try.prog 108 = true) ∧ (isFn Try.prog 122 = true) ∧ (szK Try.prog 25 = some 1) ∧ (fOff Try.prog 165 3 = some 3) ∧ (ldK Try.prog 163 = some none) ∧ (ldK Try.prog 166 = some none) ∧ (slK Try.prog 166 = some 1) ∧ (szK Try.prog 166 = some 1) ∧ (isFn Try.prog 125 = true) ∧ (fOff Try.prog 156 7 = some 7) := ⟨fo_156_8, ld_3, pk_3, fo_165_2, ld_25, sl_25, ar_25, ld_33, sz_33, fn_108, fn_122, sz_25, fo_165_3, ld_163, ld_166, sl_166, sz_166, fn_125, fo_156_7⟩
theorem ow_125 : (fOff Try.prog 165 2 = some 2) ∧ (ldK Try.prog 25 = some none) ∧ (slK Try.prog 25 = some 2) ∧ (fOff Try.prog 165 1 = some 1) ∧ (szK Try.prog 3 = some 1) ∧ (isFn Try.prog 108 = true) ∧ (fOff Try.prog 165 3 = some 3) ∧ (ldK Try.prog 163 = some none) ∧ (ldK Try.prog 166 = some none) ∧ (slK Try.prog 166 = some 1) ∧ (ptK Try.prog 3 = false) ∧ (ldK Try.prog 3 = some none) ∧ (arK Try.prog 166 = none) ∧ (ldK Try.prog 96 = some none) := ⟨fo_165_2, ld_25, sl_25, fo_165_1, sz_3, fn_108, fo_165_3, ld_163, ld_166, sl_166, pk_3, ld_3, ar_166, ld_96⟩
theorem ow_126 : (isFn Try.prog 96 = true) ∧ (fOff Try.prog 165 2 = some 2) ∧ (ldK Try.prog 25 = some none) ∧ (slK Try.prog 25 = some 2) ∧ (ptK Try.prog 3 = false) ∧ (ldK Try.prog 33 = some (some 2)) ∧ (isFn Try.prog 97 = true) ∧ (isFn Try.prog 108 = true) ∧ (arK Try.prog 25 = none) ∧ (szK Try.prog 33 = some 2) ∧ (fOff Try.prog 156 7 = some 7) ∧ (szK Try.prog 25 = some 1) ∧ (fOff Try.prog 165 1 = some 1) ∧ (ldK Try.prog 3 = some none) ∧ (szK Try.prog 3 = some 1) ∧ (fOff Try.prog 165 3 = some 3) ∧ (ldK Try.prog 163 = some none) ∧ (ldK Try.prog 166 = some none) ∧ (slK Try.prog 166 = some 1) ∧ (arK Try.prog 166 = none) ∧ (isFn Try.prog 126 = true) ∧ (ldK Try.prog 96 = some none) ∧ (fOff Try.prog 156 9 = some 10) ∧ (isFn Try.prog 151 = true) := ⟨fn_96, fo_165_2, ld_25, sl_25, pk_3, ld_33, fn_97, fn_108, ar_25, sz_33, fo_156_7, sz_25, fo_165_1, ld_3, sz_3, fo_165_3, ld_163, ld_166, sl_166, ar_166, fn_126, ld_96, fo_156_9, fn_151⟩
theorem ow_127 : (fOff Try.prog 156 0 = some 0) ∧ (ldK Try.prog 153 = some none) ∧ (fOff Try.prog 165 0 = some 0) ∧ (szK Try.prog 153 = some 1) ∧ (fOff Try.prog 165 1 = some 1) ∧ (ldK Try.prog 3 = some none) ∧ (szK Try.prog 3 = some 1) ∧ (fOff Try.prog 165 2 = some 2) ∧ (ldK Try.prog 25 = some none) ∧ (slK Try.prog 25 = some 2) ∧ (szK Try.prog 25 = some 1) ∧ (fOff Try.prog 156 4 = some 4) ∧ (ldK Try.prog 4 = some none) ∧ (ptK Try.prog 3 = false) ∧ (arK Try.prog 25 = none) ∧ (ldK Try.prog 33 = some (some 2)) ∧ (coK Try.prog 33 = true) ∧ (coK Try.prog 218 = false) ∧ (szK Try.prog 33 = some 2) ∧ (fOff Try.prog 156 5 = some 5) ∧ (coK Try.prog 221 = false) ∧ (isFn Try.prog 108 = true) ∧ (fOff Try.prog 165 3 = some 3) ∧ (szK Try.prog 163 = some 1) ∧ (ldK Try.prog 163 = some none) ∧ (ldK Try.prog 166 = some none) ∧ (slK Try.prog 166 = some 1) ∧ (fOff Try.prog 156 8 = some 9) ∧ (szK Try.prog 166 = some 1) := ⟨fo_156_0, ld_153, fo_165_0, sz_153, fo_165_1, ld_3, sz_3, fo_165_2, ld_25, sl_25, sz_25, fo_156_4, ld_4, pk_3, ar_25, ld_33, co_33, co_218, sz_33, fo_156_5, co_221, fn_108, fo_165_3, sz_163, ld_163, ld_166, sl_166, fo_156_8, sz_166⟩
theorem ow_128 : (fOff Try.prog 165 2 = some 2) ∧ (ldK Try.prog 25 = some none) ∧ (slK Try.prog 25 = some 2) ∧ (ptK Try.prog 3 = false) ∧ (cvK Try.prog 3 224 = some .u64) ∧ (ptK Try.prog 224 = false) ∧ (cvK Try.prog 224 3 = some .i64) ∧ (fOff Try.prog 156 6 = some 6) ∧ (ldK Try.prog 112 = some none) ∧ (ldK Try.prog 33 = some (some 2)) ∧ (arK Try.prog 25 = none) := ⟨fo_165_2, ld_25, sl_25, pk_3, cv_3_224, pk_224, cv_224_3, fo_156_6, ld_112, ld_33, ar_25⟩
theorem ow_129 : (fOff Try.prog 165 2 = some 2) ∧ (ldK Try.prog 25 = some none) ∧ (slK Try.prog 25 = some 2) ∧ (ptK Try.prog 3 = false) ∧ (fOff Try.prog 109 0 = some 0) ∧ (slK Try.prog 106 = none) ∧ (arK Try.prog 106 = some (8, 1)) ∧ (ldK Try.prog 4 = some none) ∧ (fOff Try.prog 109 1 = some 8) ∧ (slK Try.prog 107 = none) ∧ (arK Try.prog 107 = some (8, 1)) ∧ (ldK Try.prog 5 = some none) ∧ (cvK Try.prog 5 3 = some .i64) ∧ (arK Try.prog 25 = none) ∧ (ldK Try.prog 33 = some (some 2)) ∧ (isFn Try.prog 138 = true) ∧ (szK Try.prog 4 = some 1) ∧ (isFn Try.prog 108 = true) ∧ (cvK Try.prog 3 5 = some .u8) ∧ (ptK Try.prog 5 = false) ∧ (szK Try.prog 5 = some 1) := ⟨fo_165_2, ld_25, sl_25, pk_3, fo_109_0, sl_106, ar_106, ld_4, fo_109_1, sl_107, ar_107, ld_5, cv_5_3, ar_25, ld_33, fn_138, sz_4, fn_108, cv_3_5, pk_5, sz_5⟩
theorem ow_130 : (fOff Try.prog 115 3 = some 3) ∧ (ldK Try.prog 113 = some none) ∧ (ldK Try.prog 205 = some (some 3)) ∧ (noInt Try.prog 113 = true) ∧ (szK Try.prog 113 = some 1) ∧ (slK Try.prog 113 = some 3) ∧ (ptK Try.prog 3 = false) ∧ (fOff Try.prog 115 0 = some 0) ∧ (ldK Try.prog 112 = some none) ∧ (arK Try.prog 113 = none) ∧ (fOff Try.prog 205 0 = some 0) ∧ (ldK Try.prog 33 = some (some 2)) ∧ (szK Try.prog 205 = some 3) := ⟨fo_115_3, ld_113, ld_205, ni_113, sz_113, sl_113, pk_3, fo_115_0, ld_112, ar_113, fo_205_0, ld_33, sz_205⟩
theorem ow_131 : (isFn Try.prog 108 = true) ∧ (fOff Try.prog 165 2 = some 2) ∧ (ldK Try.prog 25 = some none) ∧ (slK Try.prog 25 = some 2) ∧ (ptK Try.prog 3 = false) ∧ (arK Try.prog 25 = none) ∧ (ldK Try.prog 33 = some (some 2)) ∧ (fOff Try.prog 165 3 = some 3) ∧ (ldK Try.prog 163 = some none) ∧ (ldK Try.prog 166 = some none) ∧ (slK Try.prog 166 = some 1) ∧ (arK Try.prog 166 = none) ∧ (ldK Try.prog 96 = some none) ∧ (isFn Try.prog 131 = true) := ⟨fn_108, fo_165_2, ld_25, sl_25, pk_3, ar_25, ld_33, fo_165_3, ld_163, ld_166, sl_166, ar_166, ld_96, fn_131⟩
theorem ow_132 : (fOff Try.prog 115 3 = some 3) ∧ (ldK Try.prog 113 = some none) ∧ (slK Try.prog 113 = some 3) ∧ (ptK Try.prog 3 = false) ∧ (szK Try.prog 205 = some 3) ∧ (arK Try.prog 113 = none) ∧ (ldK Try.prog 205 = some (some 3)) ∧ (szK Try.prog 113 = some 1) ∧ (fOff Try.prog 115 0 = some 0) ∧ (ldK Try.prog 112 = some none) ∧ (fOff Try.prog 205 0 = some 0) ∧ (ldK Try.prog 33 = some (some 2)) := ⟨fo_115_3, ld_113, sl_113, pk_3, sz_205, ar_113, ld_205, sz_113, fo_115_0, ld_112, fo_205_0, ld_33⟩
theorem ow_133 : (ldK Try.prog 170 = some none) ∧ (ldK Try.prog 25 = some none) ∧ (ldK Try.prog 33 = some (some 2)) ∧ (noInt Try.prog 25 = true) ∧ (szK Try.prog 25 = some 1) ∧ (ldK Try.prog 3 = some none) ∧ (ptK Try.prog 3 = false) ∧ (slK Try.prog 25 = some 2) := ⟨ld_170, ld_25, ld_33, ni_25, sz_25, ld_3, pk_3, sl_25⟩
theorem ow_134 : (ldK Try.prog 33 = some (some 2)) ∧ (isFn Try.prog 119 = true) := ⟨ld_33, fn_119⟩
theorem ow_135 : (fOff Try.prog 156 1 = some 1) ∧ (ldK Try.prog 154 = some none) ∧ (isFn Try.prog 113 = true) ∧ (fOff Try.prog 156 0 = some 0) ∧ (szK Try.prog 153 = some 1) ∧ (ldK Try.prog 156 = some (some 11)) ∧ (szK Try.prog 156 = some 11) := ⟨fo_156_1, ld_154, fn_113, fo_156_0, sz_153, ld_156, sz_156⟩
theorem ow_136 : (isFn Try.prog 135 = true) := fn_135
theorem ow_137 : (isFn Try.prog 152 = true) ∧ (szK Try.prog 33 = some 2) := ⟨fn_152, sz_33⟩
theorem ow_138 : (fOff Try.prog 156 6 = some 6) ∧ (ldK Try.prog 112 = some none) ∧ (ldK Try.prog 33 = some (some 2)) := ⟨fo_156_6, ld_112, ld_33⟩
theorem ow_139 : (isFn Try.prog 91 = true) ∧ (fOff Try.prog 156 2 = some 2) ∧ (ldK Try.prog 96 = some none) ∧ (ptK Try.prog 96 = true) ∧ (ldK Try.prog 33 = some (some 2)) ∧ (isFn Try.prog 90 = true) ∧ (szK Try.prog 33 = some 2) ∧ (isFn Try.prog 96 = true) ∧ (fOff Try.prog 165 1 = some 1) ∧ (ldK Try.prog 3 = some none) ∧ (ptK Try.prog 3 = false) ∧ (szK Try.prog 3 = some 1) ∧ (isFn Try.prog 108 = true) ∧ (fOff Try.prog 165 2 = some 2) ∧ (ldK Try.prog 25 = some none) ∧ (slK Try.prog 25 = some 2) ∧ (fOff Try.prog 156 8 = some 9) ∧ (arK Try.prog 25 = none) ∧ (isFn Try.prog 138 = true) ∧ (noInt Try.prog 25 = true) ∧ (szK Try.prog 25 = some 1) ∧ (fOff Try.prog 156 3 = some 3) ∧ (fOff Try.prog 156 7 = some 7) ∧ (fOff Try.prog 165 3 = some 3) ∧ (ldK Try.prog 163 = some none) ∧ (ldK Try.prog 166 = some none) ∧ (slK Try.prog 166 = some 1) ∧ (arK Try.prog 166 = none) := ⟨fn_91, fo_156_2, ld_96, pk_96, ld_33, fn_90, sz_33, fn_96, fo_165_1, ld_3, pk_3, sz_3, fn_108, fo_165_2, ld_25, sl_25, fo_156_8, ar_25, fn_138, ni_25, sz_25, fo_156_3, fo_156_7, fo_165_3, ld_163, ld_166, sl_166, ar_166⟩
theorem ow_140 : (isFn Try.prog 153 = true) ∧ (szK Try.prog 33 = some 2) := ⟨fn_153, sz_33⟩
theorem ow_141 : (isFn Try.prog 91 = true) ∧ (fOff Try.prog 156 2 = some 2) ∧ (ldK Try.prog 96 = some none) ∧ (ptK Try.prog 96 = true) ∧ (fOff Try.prog 156 7 = some 7) ∧ (ldK Try.prog 33 = some (some 2)) ∧ (szK Try.prog 33 = some 2) ∧ (isFn Try.prog 96 = true) ∧ (fOff Try.prog 165 1 = some 1) ∧ (ldK Try.prog 3 = some none) ∧ (ptK Try.prog 3 = false) ∧ (szK Try.prog 3 = some 1) ∧ (isFn Try.prog 108 = true) ∧ (fOff Try.prog 165 2 = some 2) ∧ (ldK Try.prog 25 = some none) ∧ (slK Try.prog 25 = some 2) ∧ (arK Try.prog 25 = none) ∧ (fOff Try.prog 156 9 = some 10) ∧ (szK Try.prog 25 = some 1) ∧ (fOff Try.prog 156 3 = some 3) ∧ (szK Try.prog 96 = some 1) ∧ (fOff Try.prog 165 3 = some 3) ∧ (ldK Try.prog 163 = some none) ∧ (ldK Try.prog 166 = some none) ∧ (slK Try.prog 166 = some 1) ∧ (arK Try.prog 166 = none) ∧ (isFn Try.prog 92 = true) := ⟨fn_91, fo_156_2, ld_96, pk_96, fo_156_7, ld_33, sz_33, fn_96, fo_165_1, ld_3, pk_3, sz_3, fn_108, fo_165_2, ld_25, sl_25, ar_25, fo_156_9, sz_25, fo_156_3, sz_96, fo_165_3, ld_163, ld_166, sl_166, ar_166, fn_92⟩
theorem ow_142 : (isFn Try.prog 91 = true) ∧ (fOff Try.prog 156 2 = some 2) ∧ (ldK Try.prog 96 = some none) ∧ (ptK Try.prog 96 = true) ∧ (fOff Try.prog 156 7 = some 7) ∧ (ldK Try.prog 33 = some (some 2)) ∧ (szK Try.prog 33 = some 2) ∧ (isFn Try.prog 96 = true) ∧ (fOff Try.prog 165 1 = some 1) ∧ (ldK Try.prog 3 = some none) ∧ (ptK Try.prog 3 = false) ∧ (szK Try.prog 3 = some 1) ∧ (isFn Try.prog 108 = true) ∧ (fOff Try.prog 165 2 = some 2) ∧ (ldK Try.prog 25 = some none) ∧ (slK Try.prog 25 = some 2) ∧ (arK Try.prog 25 = none) ∧ (fOff Try.prog 156 9 = some 10) ∧ (szK Try.prog 25 = some 1) ∧ (fOff Try.prog 156 3 = some 3) ∧ (szK Try.prog 96 = some 1) ∧ (fOff Try.prog 165 3 = some 3) ∧ (ldK Try.prog 163 = some none) ∧ (ldK Try.prog 166 = some none) ∧ (slK Try.prog 166 = some 1) ∧ (arK Try.prog 166 = none) ∧ (isFn Try.prog 92 = true) := ⟨fn_91, fo_156_2, ld_96, pk_96, fo_156_7, ld_33, sz_33, fn_96, fo_165_1, ld_3, pk_3, sz_3, fn_108, fo_165_2, ld_25, sl_25, ar_25, fo_156_9, sz_25, fo_156_3, sz_96, fo_165_3, ld_163, ld_166, sl_166, ar_166, fn_92⟩
theorem ow_143 : (isFn Try.prog 154 = true) ∧ (szK Try.prog 33 = some 2) := ⟨fn_154, sz_33⟩
theorem ow_144 : (isFn Try.prog 91 = true) ∧ (fOff Try.prog 156 2 = some 2) ∧ (ldK Try.prog 96 = some none) ∧ (ptK Try.prog 96 = true) ∧ (ptK Try.prog 3 = false) ∧ (fOff Try.prog 156 3 = some 3) ∧ (ldK Try.prog 3 = some none) ∧ (fOff Try.prog 156 7 = some 7) ∧ (ldK Try.prog 33 = some (some 2)) ∧ (szK Try.prog 33 = some 2) ∧ (slK Try.prog 107 = none) ∧ (isFn Try.prog 96 = true) ∧ (fOff Try.prog 165 1 = some 1) ∧ (szK Try.prog 3 = some 1) ∧ (isFn Try.prog 108 = true) ∧ (fOff Try.prog 165 2 = some 2) ∧ (ldK Try.prog 25 = some none) ∧ (slK Try.prog 25 = some 2) ∧ (arK Try.prog 25 = none) ∧ (fOff Try.prog 156 9 = some 10) ∧ (cvK Try.prog 3 5 = some .u8) ∧ (noInt Try.prog 227 = true) ∧ (szK Try.prog 25 = some 1) ∧ (szK Try.prog 96 = some 1) ∧ (fOff Try.prog 165 3 = some 3) ∧ (ldK Try.prog 163 = some none) ∧ (ldK Try.prog 166 = some none) ∧ (slK Try.prog 166 = some 1) ∧ (arK Try.prog 166 = none) ∧ (slK Try.prog 227 = some 1) ∧ (arK Try.prog 227 = none) ∧ (ldK Try.prog 5 = some none) ∧ (fOff Try.prog 109 1 = some 8) ∧ (arK Try.prog 107 = some (8, 1)) ∧ (szK Try.prog 5 = some 1) ∧ (fOff Try.prog 109 0 = some 0) ∧ (slK Try.prog 106 = none) ∧ (arK Try.prog 106 = some (8, 1)) ∧ (szK Try.prog 4 = some 1) ∧ (isFn Try.prog 92 = true) := ⟨fn_91, fo_156_2, ld_96, pk_96, pk_3, fo_156_3, ld_3, fo_156_7, ld_33, sz_33, sl_107, fn_96, fo_165_1, sz_3, fn_108, fo_165_2, ld_25, sl_25, ar_25, fo_156_9, cv_3_5, ni_227, sz_25, sz_96, fo_165_3, ld_163, ld_166, sl_166, ar_166, sl_227, ar_227, ld_5, fo_109_1, ar_107, sz_5, fo_109_0, sl_106, ar_106, sz_4, fn_92⟩
theorem ow_145 : (isFn Try.prog 91 = true) ∧ (fOff Try.prog 156 2 = some 2) ∧ (szK Try.prog 96 = some 1) ∧ (fOff Try.prog 156 3 = some 3) ∧ (szK Try.prog 3 = some 1) := ⟨fn_91, fo_156_2, sz_96, fo_156_3, sz_3⟩
theorem ow_146 : (fOff Try.prog 78 4 = some 6) ∧ (ldK Try.prog 3 = some none) ∧ (isFn Try.prog 100 = true) ∧ (fOff Try.prog 78 0 = some 0) ∧ (ptK Try.prog 3 = false) ∧ (fOff Try.prog 78 6 = some 8) ∧ (ldK Try.prog 4 = some none) ∧ (isFn Try.prog 155 = true) ∧ (isFn Try.prog 156 = true) ∧ (isFn Try.prog 157 = true) ∧ (isFn Try.prog 158 = true) ∧ (fOff Try.prog 78 2 = some 2) ∧ (ldK Try.prog 33 = some (some 2)) ∧ (isFn Try.prog 159 = true) ∧ (isFn Try.prog 160 = true) ∧ (isFn Try.prog 161 = true) ∧ (isFn Try.prog 162 = true) ∧ (ldK Try.prog 25 = some none) := ⟨fo_78_4, ld_3, fn_100, fo_78_0, pk_3, fo_78_6, ld_4, fn_155, fn_156, fn_157, fn_158, fo_78_2, ld_33, fn_159, fn_160, fn_161, fn_162, ld_25⟩
theorem ow_147 : (isFn Try.prog 96 = true) ∧ (isFn Try.prog 108 = true) ∧ (fOff Try.prog 165 2 = some 2) ∧ (ldK Try.prog 25 = some none) ∧ (slK Try.prog 25 = some 2) ∧ (ptK Try.prog 3 = false) ∧ (fOff Try.prog 165 3 = some 3) ∧ (ldK Try.prog 163 = some none) ∧ (ldK Try.prog 166 = some none) ∧ (slK Try.prog 166 = some 1) ∧ (arK Try.prog 166 = none) ∧ (isFn Try.prog 147 = true) := ⟨fn_96, fn_108, fo_165_2, ld_25, sl_25, pk_3, fo_165_3, ld_163, ld_166, sl_166, ar_166, fn_147⟩
theorem ow_148 : (ldK Try.prog 33 = some (some 2)) ∧ (isFn Try.prog 78 = true) ∧ (szK Try.prog 35 = some 3) ∧ (isFn Try.prog 120 = true) := ⟨ld_33, fn_78, sz_35, fn_120⟩
theorem ow_149 : (ptK Try.prog 3 = false) := pk_3
theorem ow_150 : (slK Try.prog 22 = some 1) ∧ (ptK Try.prog 3 = false) ∧ (arK Try.prog 22 = none) ∧ (ldK Try.prog 3 = some none) := ⟨sl_22, pk_3, ar_22, ld_3⟩
theorem ow_151 : (fOff Try.prog 165 2 = some 2) ∧ (ldK Try.prog 25 = some none) ∧ (slK Try.prog 25 = some 2) ∧ (ptK Try.prog 3 = false) ∧ (fOff Try.prog 165 3 = some 3) ∧ (ldK Try.prog 163 = some none) ∧ (ldK Try.prog 166 = some none) ∧ (slK Try.prog 166 = some 1) ∧ (arK Try.prog 166 = none) ∧ (isFn Try.prog 96 = true) ∧ (fOff Try.prog 156 8 = some 9) ∧ (ldK Try.prog 3 = some none) ∧ (arK Try.prog 25 = none) ∧ (ldK Try.prog 33 = some (some 2)) ∧ (noInt Try.prog 25 = true) ∧ (szK Try.prog 25 = some 1) ∧ (isFn Try.prog 108 = true) ∧ (noInt Try.prog 166 = true) ∧ (szK Try.prog 166 = some 1) ∧ (fOff Try.prog 165 1 = some 1) ∧ (szK Try.prog 3 = some 1) ∧ (fOff Try.prog 156 7 = some 7) ∧ (szK Try.prog 33 = some 2) ∧ (szK Try.prog 96 = some 1) ∧ (ldK Try.prog 96 = some none) := ⟨fo_165_2, ld_25, sl_25, pk_3, fo_165_3, ld_163, ld_166, sl_166, ar_166, fn_96, fo_156_8, ld_3, ar_25, ld_33, ni_25, sz_25, fn_108, ni_166, sz_166, fo_165_1, sz_3, fo_156_7, sz_33, sz_96, ld_96⟩
theorem ow_152 : (isFn Try.prog 91 = true) ∧ (fOff Try.prog 156 2 = some 2) ∧ (ldK Try.prog 96 = some none) ∧ (ptK Try.prog 96 = true) ∧ (fOff Try.prog 156 7 = some 7) ∧ (ldK Try.prog 33 = some (some 2)) ∧ (szK Try.prog 33 = some 2) ∧ (isFn Try.prog 96 = true) ∧ (isFn Try.prog 108 = true) ∧ (fOff Try.prog 165 2 = some 2) ∧ (ldK Try.prog 25 = some none) ∧ (slK Try.prog 25 = some 2) ∧ (ptK Try.prog 3 = false) ∧ (arK Try.prog 25 = none) ∧ (fOff Try.prog 165 3 = some 3) ∧ (ldK Try.prog 163 = some none) ∧ (ldK Try.prog 166 = some none) ∧ (slK Try.prog 166 = some 1) ∧ (arK Try.prog 166 = none) := ⟨fn_91, fo_156_2, ld_96, pk_96, fo_156_7, ld_33, sz_33, fn_96, fn_108, fo_165_2, ld_25, sl_25, pk_3, ar_25, fo_165_3, ld_163, ld_166, sl_166, ar_166⟩
theorem ow_153 : (isFn Try.prog 91 = true) ∧ (fOff Try.prog 156 2 = some 2) ∧ (ldK Try.prog 96 = some none) ∧ (ptK Try.prog 96 = true) ∧ (fOff Try.prog 156 7 = some 7) ∧ (ldK Try.prog 33 = some (some 2)) ∧ (szK Try.prog 33 = some 2) ∧ (isFn Try.prog 96 = true) ∧ (isFn Try.prog 108 = true) ∧ (fOff Try.prog 165 2 = some 2) ∧ (ldK Try.prog 25 = some none) ∧ (slK Try.prog 25 = some 2) ∧ (arK Try.prog 25 = none) ∧ (fOff Try.prog 165 3 = some 3) ∧ (ldK Try.prog 163 = some none) ∧ (ldK Try.prog 166 = some none) ∧ (slK Try.prog 166 = some 1) ∧ (arK Try.prog 166 = none) := ⟨fn_91, fo_156_2, ld_96, pk_96, fo_156_7, ld_33, sz_33, fn_96, fn_108, fo_165_2, ld_25, sl_25, ar_25, fo_165_3, ld_163, ld_166, sl_166, ar_166⟩
theorem ow_154 : (isFn Try.prog 91 = true) ∧ (fOff Try.prog 156 2 = some 2) ∧ (ldK Try.prog 96 = some none) ∧ (ptK Try.prog 96 = true) ∧ (ptK Try.prog 3 = false) ∧ (fOff Try.prog 156 3 = some 3) ∧ (ldK Try.prog 3 = some none) ∧ (fOff Try.prog 156 7 = some 7) ∧ (ldK Try.prog 33 = some (some 2)) ∧ (szK Try.prog 33 = some 2) ∧ (isFn Try.prog 96 = true) ∧ (isFn Try.prog 108 = true) ∧ (fOff Try.prog 165 2 = some 2) ∧ (ldK Try.prog 25 = some none) ∧ (slK Try.prog 25 = some 2) ∧ (arK Try.prog 25 = none) ∧ (fOff Try.prog 165 3 = some 3) ∧ (ldK Try.prog 163 = some none) ∧ (ldK Try.prog 166 = some none) ∧ (slK Try.prog 166 = some 1) ∧ (arK Try.prog 166 = none) ∧ (fOff Try.prog 165 1 = some 1) := ⟨fn_91, fo_156_2, ld_96, pk_96, pk_3, fo_156_3, ld_3, fo_156_7, ld_33, sz_33, fn_96, fn_108, fo_165_2, ld_25, sl_25, ar_25, fo_165_3, ld_163, ld_166, sl_166, ar_166, fo_165_1⟩
theorem ow_155 : (isFn Try.prog 163 = true) := fn_163
theorem ow_156 : (isFn Try.prog 163 = true) := fn_163
theorem ow_157 : (isFn Try.prog 164 = true) := fn_164
theorem ow_158 : (isFn Try.prog 164 = true) := fn_164
theorem ow_159 : (ldK Try.prog 33 = some (some 2)) ∧ (isFn Try.prog 165 = true) := ⟨ld_33, fn_165⟩
theorem ow_160 : (ldK Try.prog 33 = some (some 2)) ∧ (isFn Try.prog 165 = true) := ⟨ld_33, fn_165⟩
theorem ow_161 : (ldK Try.prog 33 = some (some 2)) ∧ (isFn Try.prog 166 = true) := ⟨ld_33, fn_166⟩
theorem ow_162 : (ldK Try.prog 33 = some (some 2)) ∧ (isFn Try.prog 166 = true) := ⟨ld_33, fn_166⟩
theorem ow_163 : (isFn Try.prog 91 = true) ∧ (fOff Try.prog 156 2 = some 2) ∧ (ldK Try.prog 96 = some none) ∧ (ptK Try.prog 96 = true) ∧ (isFn Try.prog 167 = true) := ⟨fn_91, fo_156_2, ld_96, pk_96, fn_167⟩
theorem ow_164 : (isFn Try.prog 91 = true) ∧ (fOff Try.prog 156 2 = some 2) ∧ (ldK Try.prog 96 = some none) ∧ (ptK Try.prog 96 = true) ∧ (isFn Try.prog 168 = true) := ⟨fn_91, fo_156_2, ld_96, pk_96, fn_168⟩
theorem ow_165 : (isFn Try.prog 91 = true) ∧ (fOff Try.prog 156 2 = some 2) ∧ (ldK Try.prog 96 = some none) ∧ (ptK Try.prog 96 = true) ∧ (ldK Try.prog 33 = some (some 2)) ∧ (isFn Try.prog 169 = true) := ⟨fn_91, fo_156_2, ld_96, pk_96, ld_33, fn_169⟩
theorem ow_166 : (isFn Try.prog 91 = true) ∧ (fOff Try.prog 156 2 = some 2) ∧ (ldK Try.prog 96 = some none) ∧ (ptK Try.prog 96 = true) ∧ (ldK Try.prog 33 = some (some 2)) ∧ (isFn Try.prog 170 = true) := ⟨fn_91, fo_156_2, ld_96, pk_96, ld_33, fn_170⟩
theorem ow_167 : (isFn Try.prog 96 = true) ∧ (isFn Try.prog 108 = true) ∧ (fOff Try.prog 165 2 = some 2) ∧ (ldK Try.prog 25 = some none) ∧ (slK Try.prog 25 = some 2) ∧ (ptK Try.prog 3 = false) ∧ (arK Try.prog 25 = none) ∧ (ldK Try.prog 33 = some (some 2)) ∧ (fOff Try.prog 165 3 = some 3) ∧ (ldK Try.prog 163 = some none) ∧ (ldK Try.prog 166 = some none) ∧ (slK Try.prog 166 = some 1) ∧ (arK Try.prog 166 = none) ∧ (isFn Try.prog 167 = true) := ⟨fn_96, fn_108, fo_165_2, ld_25, sl_25, pk_3, ar_25, ld_33, fo_165_3, ld_163, ld_166, sl_166, ar_166, fn_167⟩
theorem ow_168 : (isFn Try.prog 96 = true) ∧ (isFn Try.prog 108 = true) ∧ (fOff Try.prog 165 2 = some 2) ∧ (ldK Try.prog 25 = some none) ∧ (slK Try.prog 25 = some 2) ∧ (ptK Try.prog 3 = false) ∧ (arK Try.prog 25 = none) ∧ (ldK Try.prog 33 = some (some 2)) ∧ (fOff Try.prog 165 3 = some 3) ∧ (ldK Try.prog 163 = some none) ∧ (ldK Try.prog 166 = some none) ∧ (slK Try.prog 166 = some 1) ∧ (arK Try.prog 166 = none) ∧ (isFn Try.prog 168 = true) := ⟨fn_96, fn_108, fo_165_2, ld_25, sl_25, pk_3, ar_25, ld_33, fo_165_3, ld_163, ld_166, sl_166, ar_166, fn_168⟩
theorem ow_169 : (isFn Try.prog 96 = true) ∧ (ldK Try.prog 33 = some (some 2)) ∧ (isFn Try.prog 97 = true) ∧ (isFn Try.prog 108 = true) ∧ (fOff Try.prog 165 3 = some 3) ∧ (ldK Try.prog 163 = some none) ∧ (ldK Try.prog 166 = some none) ∧ (slK Try.prog 166 = some 1) ∧ (arK Try.prog 166 = none) ∧ (ptK Try.prog 3 = false) ∧ (isFn Try.prog 169 = true) ∧ (fOff Try.prog 165 2 = some 2) ∧ (ldK Try.prog 25 = some none) ∧ (slK Try.prog 25 = some 2) ∧ (arK Try.prog 25 = none) ∧ (isFn Try.prog 167 = true) := ⟨fn_96, ld_33, fn_97, fn_108, fo_165_3, ld_163, ld_166, sl_166, ar_166, pk_3, fn_169, fo_165_2, ld_25, sl_25, ar_25, fn_167⟩
theorem ow_170 : (isFn Try.prog 96 = true) ∧ (ldK Try.prog 33 = some (some 2)) ∧ (isFn Try.prog 97 = true) ∧ (isFn Try.prog 108 = true) ∧ (fOff Try.prog 165 3 = some 3) ∧ (ldK Try.prog 163 = some none) ∧ (ldK Try.prog 166 = some none) ∧ (slK Try.prog 166 = some 1) ∧ (arK Try.prog 166 = none) ∧ (ptK Try.prog 3 = false) ∧ (isFn Try.prog 170 = true) ∧ (fOff Try.prog 165 2 = some 2) ∧ (ldK Try.prog 25 = some none) ∧ (slK Try.prog 25 = some 2) ∧ (arK Try.prog 25 = none) ∧ (isFn Try.prog 168 = true) := ⟨fn_96, ld_33, fn_97, fn_108, fo_165_3, ld_163, ld_166, sl_166, ar_166, pk_3, fn_170, fo_165_2, ld_25, sl_25, ar_25, fn_168⟩
end Go.Proofs.Ytbnnkcofnmipoaa
