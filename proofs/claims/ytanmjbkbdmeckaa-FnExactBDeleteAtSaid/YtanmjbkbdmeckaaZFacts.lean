/-
  What the program's tables say of the types and functions that the walks meet, as closed facts. No condition.
-/
import Derived.Test.YtanmjbkbdmeckaaZA
import Derived.Test.YtanmjbkbdmeckaaProg
import Derived.KernelRfl
/-
  What the program's tables say of the types and functions that the walks meet, as closed facts. No condition.
-/
namespace Go.Proofs.Ytanmjbkbdmeckaa
open Go Go.Proofs
theorem mixed : Try.prog.follows .mixedOrders = true := by kernel_rfl
theorem ld_24 : ldK Try.prog 24 = some (some 3) := by kernel_rfl
theorem fn_13 : isFn Try.prog 13 = true := by kernel_rfl
theorem sl_25 : slK Try.prog 25 = some 2 := by kernel_rfl
theorem pk_3 : ptK Try.prog 3 = false := by kernel_rfl
theorem fn_15 : isFn Try.prog 15 = true := by kernel_rfl
theorem fn_16 : isFn Try.prog 16 = true := by kernel_rfl
theorem fn_14 : isFn Try.prog 14 = true := by kernel_rfl
theorem fo_24_1 : fOff Try.prog 24 1 = some 1 := by kernel_rfl
theorem ld_3 : ldK Try.prog 3 = some none := by kernel_rfl
theorem fn_17 : isFn Try.prog 17 = true := by kernel_rfl
theorem fn_19 : isFn Try.prog 19 = true := by kernel_rfl
theorem fn_18 : isFn Try.prog 18 = true := by kernel_rfl
theorem fn_20 : isFn Try.prog 20 = true := by kernel_rfl
theorem ld_33 : ldK Try.prog 33 = some (some 2) := by kernel_rfl
theorem fn_21 : isFn Try.prog 21 = true := by kernel_rfl
theorem sl_22 : slK Try.prog 22 = some 1 := by kernel_rfl
theorem fn_22 : isFn Try.prog 22 = true := by kernel_rfl
theorem fn_23 : isFn Try.prog 23 = true := by kernel_rfl
theorem fo_24_0 : fOff Try.prog 24 0 = some 0 := by kernel_rfl
theorem ld_22 : ldK Try.prog 22 = some none := by kernel_rfl
theorem fn_24 : isFn Try.prog 24 = true := by kernel_rfl
theorem fn_25 : isFn Try.prog 25 = true := by kernel_rfl
theorem fn_26 : isFn Try.prog 26 = true := by kernel_rfl
theorem fn_27 : isFn Try.prog 27 = true := by kernel_rfl
theorem fn_28 : isFn Try.prog 28 = true := by kernel_rfl
theorem fn_29 : isFn Try.prog 29 = true := by kernel_rfl
theorem sl_45 : slK Try.prog 45 = some 3 := by kernel_rfl
theorem fn_31 : isFn Try.prog 31 = true := by kernel_rfl
theorem fn_30 : isFn Try.prog 30 = true := by kernel_rfl
theorem fn_32 : isFn Try.prog 32 = true := by kernel_rfl
theorem fn_33 : isFn Try.prog 33 = true := by kernel_rfl
theorem fn_34 : isFn Try.prog 34 = true := by kernel_rfl
theorem fn_35 : isFn Try.prog 35 = true := by kernel_rfl
theorem fn_36 : isFn Try.prog 36 = true := by kernel_rfl
theorem fn_37 : isFn Try.prog 37 = true := by kernel_rfl
theorem fn_38 : isFn Try.prog 38 = true := by kernel_rfl
theorem fn_39 : isFn Try.prog 39 = true := by kernel_rfl
theorem fn_40 : isFn Try.prog 40 = true := by kernel_rfl
theorem fn_42 : isFn Try.prog 42 = true := by kernel_rfl
theorem fn_41 : isFn Try.prog 41 = true := by kernel_rfl
theorem fn_43 : isFn Try.prog 43 = true := by kernel_rfl
theorem sz_43 : szK Try.prog 43 = some 3 := by kernel_rfl
theorem fn_44 : isFn Try.prog 44 = true := by kernel_rfl
theorem ld_43 : ldK Try.prog 43 = some (some 3) := by kernel_rfl
theorem pk_43 : ptK Try.prog 43 = false := by kernel_rfl
theorem sz_24 : szK Try.prog 24 = some 3 := by kernel_rfl
theorem fn_45 : isFn Try.prog 45 = true := by kernel_rfl
theorem fn_46 : isFn Try.prog 46 = true := by kernel_rfl
theorem fn_47 : isFn Try.prog 47 = true := by kernel_rfl
theorem fn_48 : isFn Try.prog 48 = true := by kernel_rfl
theorem fn_49 : isFn Try.prog 49 = true := by kernel_rfl
theorem fn_50 : isFn Try.prog 50 = true := by kernel_rfl
theorem fn_51 : isFn Try.prog 51 = true := by kernel_rfl
theorem ar_25 : arK Try.prog 25 = none := by kernel_rfl
theorem fn_52 : isFn Try.prog 52 = true := by kernel_rfl
theorem fn_53 : isFn Try.prog 53 = true := by kernel_rfl
theorem sz_33 : szK Try.prog 33 = some 2 := by kernel_rfl
theorem co_33 : coK Try.prog 33 = true := by kernel_rfl
theorem fn_55 : isFn Try.prog 55 = true := by kernel_rfl
theorem fn_54 : isFn Try.prog 54 = true := by kernel_rfl
theorem ni_38 : noInt Try.prog 38 = true := by kernel_rfl
theorem fn_56 : isFn Try.prog 56 = true := by kernel_rfl
theorem fn_57 : isFn Try.prog 57 = true := by kernel_rfl
theorem sl_38 : slK Try.prog 38 = some 3 := by kernel_rfl
theorem ar_38 : arK Try.prog 38 = none := by kernel_rfl
theorem pk_33 : ptK Try.prog 33 = false := by kernel_rfl
theorem fn_58 : isFn Try.prog 58 = true := by kernel_rfl
theorem fn_60 : isFn Try.prog 60 = true := by kernel_rfl
theorem fn_59 : isFn Try.prog 59 = true := by kernel_rfl
theorem fn_61 : isFn Try.prog 61 = true := by kernel_rfl
theorem fn_62 : isFn Try.prog 62 = true := by kernel_rfl
theorem fn_63 : isFn Try.prog 63 = true := by kernel_rfl
theorem fn_65 : isFn Try.prog 65 = true := by kernel_rfl
theorem fn_66 : isFn Try.prog 66 = true := by kernel_rfl
theorem fn_64 : isFn Try.prog 64 = true := by kernel_rfl
theorem ld_25 : ldK Try.prog 25 = some none := by kernel_rfl
theorem fn_67 : isFn Try.prog 67 = true := by kernel_rfl
theorem fn_68 : isFn Try.prog 68 = true := by kernel_rfl
theorem fn_69 : isFn Try.prog 69 = true := by kernel_rfl
theorem fn_70 : isFn Try.prog 70 = true := by kernel_rfl
theorem fn_71 : isFn Try.prog 71 = true := by kernel_rfl
theorem fn_72 : isFn Try.prog 72 = true := by kernel_rfl
theorem fn_73 : isFn Try.prog 73 = true := by kernel_rfl
theorem fn_74 : isFn Try.prog 74 = true := by kernel_rfl
theorem fn_75 : isFn Try.prog 75 = true := by kernel_rfl
theorem fn_76 : isFn Try.prog 76 = true := by kernel_rfl
theorem fn_77 : isFn Try.prog 77 = true := by kernel_rfl
theorem fn_78 : isFn Try.prog 78 = true := by kernel_rfl
theorem fn_79 : isFn Try.prog 79 = true := by kernel_rfl
theorem fn_80 : isFn Try.prog 80 = true := by kernel_rfl
theorem fn_81 : isFn Try.prog 81 = true := by kernel_rfl
theorem fn_82 : isFn Try.prog 82 = true := by kernel_rfl
theorem fn_83 : isFn Try.prog 83 = true := by kernel_rfl
theorem fn_84 : isFn Try.prog 84 = true := by kernel_rfl
theorem fn_85 : isFn Try.prog 85 = true := by kernel_rfl
theorem fn_86 : isFn Try.prog 86 = true := by kernel_rfl
theorem fo_33_0 : fOff Try.prog 33 0 = some 0 := by kernel_rfl
theorem fn_87 : isFn Try.prog 87 = true := by kernel_rfl
theorem fn_88 : isFn Try.prog 88 = true := by kernel_rfl
theorem pk_20 : ptK Try.prog 20 = false := by kernel_rfl
theorem co_9 : coK Try.prog 9 = true := by kernel_rfl
theorem fo_103_0 : fOff Try.prog 103 0 = some 0 := by kernel_rfl
theorem ld_101 : ldK Try.prog 101 = some none := by kernel_rfl
theorem fn_89 : isFn Try.prog 89 = true := by kernel_rfl
theorem fn_90 : isFn Try.prog 90 = true := by kernel_rfl
theorem fn_91 : isFn Try.prog 91 = true := by kernel_rfl
theorem sz_114 : szK Try.prog 114 = some 16 := by kernel_rfl
theorem fn_92 : isFn Try.prog 92 = true := by kernel_rfl
theorem fn_93 : isFn Try.prog 93 = true := by kernel_rfl
theorem ar_45 : arK Try.prog 45 = none := by kernel_rfl
theorem ld_72 : ldK Try.prog 72 = some (some 3) := by kernel_rfl
theorem sz_72 : szK Try.prog 72 = some 3 := by kernel_rfl
theorem fo_72_0 : fOff Try.prog 72 0 = some 0 := by kernel_rfl
theorem fo_72_1 : fOff Try.prog 72 1 = some 1 := by kernel_rfl
theorem fo_43_1 : fOff Try.prog 43 1 = some 2 := by kernel_rfl
theorem ld_4 : ldK Try.prog 4 = some none := by kernel_rfl
theorem ni_66 : noInt Try.prog 66 = true := by kernel_rfl
theorem fn_94 : isFn Try.prog 94 = true := by kernel_rfl
theorem sl_66 : slK Try.prog 66 = some 1 := by kernel_rfl
theorem ar_66 : arK Try.prog 66 = none := by kernel_rfl
theorem fn_95 : isFn Try.prog 95 = true := by kernel_rfl
theorem fn_96 : isFn Try.prog 96 = true := by kernel_rfl
theorem fn_97 : isFn Try.prog 97 = true := by kernel_rfl
theorem fn_98 : isFn Try.prog 98 = true := by kernel_rfl
theorem fn_99 : isFn Try.prog 99 = true := by kernel_rfl
theorem sz_121 : szK Try.prog 121 = some 1 := by kernel_rfl
theorem fn_101 : isFn Try.prog 101 = true := by kernel_rfl
theorem fn_102 : isFn Try.prog 102 = true := by kernel_rfl
theorem pk_25 : ptK Try.prog 25 = false := by kernel_rfl
theorem ni_25 : noInt Try.prog 25 = true := by kernel_rfl
theorem fn_103 : isFn Try.prog 103 = true := by kernel_rfl
theorem fn_104 : isFn Try.prog 104 = true := by kernel_rfl
theorem fn_105 : isFn Try.prog 105 = true := by kernel_rfl
theorem fn_106 : isFn Try.prog 106 = true := by kernel_rfl
theorem fn_107 : isFn Try.prog 107 = true := by kernel_rfl
theorem fn_108 : isFn Try.prog 108 = true := by kernel_rfl
theorem ar_22 : arK Try.prog 22 = none := by kernel_rfl
theorem fn_109 : isFn Try.prog 109 = true := by kernel_rfl
theorem fn_110 : isFn Try.prog 110 = true := by kernel_rfl
theorem fn_111 : isFn Try.prog 111 = true := by kernel_rfl
theorem fn_112 : isFn Try.prog 112 = true := by kernel_rfl
theorem fn_113 : isFn Try.prog 113 = true := by kernel_rfl
theorem fn_114 : isFn Try.prog 114 = true := by kernel_rfl
theorem sz_127 : szK Try.prog 127 = some 1 := by kernel_rfl
theorem pk_92 : ptK Try.prog 92 = false := by kernel_rfl
theorem fn_116 : isFn Try.prog 116 = true := by kernel_rfl
theorem fn_117 : isFn Try.prog 117 = true := by kernel_rfl
theorem ld_97 : ldK Try.prog 97 = some (some 2) := by kernel_rfl
theorem fo_24_2 : fOff Try.prog 24 2 = some 2 := by kernel_rfl
theorem sz_97 : szK Try.prog 97 = some 2 := by kernel_rfl
theorem fn_118 : isFn Try.prog 118 = true := by kernel_rfl
theorem fo_136_2 : fOff Try.prog 136 2 = some 2 := by kernel_rfl
theorem ld_106 : ldK Try.prog 106 = some none := by kernel_rfl
theorem pk_106 : ptK Try.prog 106 = true := by kernel_rfl
theorem fn_120 : isFn Try.prog 120 = true := by kernel_rfl
theorem fn_121 : isFn Try.prog 121 = true := by kernel_rfl
theorem fo_143_1 : fOff Try.prog 143 1 = some 1 := by kernel_rfl
theorem sz_3 : szK Try.prog 3 = some 1 := by kernel_rfl
theorem fn_122 : isFn Try.prog 122 = true := by kernel_rfl
theorem fo_143_2 : fOff Try.prog 143 2 = some 2 := by kernel_rfl
theorem ld_140 : ldK Try.prog 140 = some none := by kernel_rfl
theorem sl_140 : slK Try.prog 140 = some 1 := by kernel_rfl
theorem fo_136_8 : fOff Try.prog 136 8 = some 8 := by kernel_rfl
theorem ar_140 : arK Try.prog 140 = none := by kernel_rfl
theorem ld_20 : ldK Try.prog 20 = some none := by kernel_rfl
theorem fn_123 : isFn Try.prog 123 = true := by kernel_rfl
theorem ni_140 : noInt Try.prog 140 = true := by kernel_rfl
theorem sz_140 : szK Try.prog 140 = some 1 := by kernel_rfl
theorem fo_136_3 : fOff Try.prog 136 3 = some 3 := by kernel_rfl
theorem fo_136_7 : fOff Try.prog 136 7 = some 7 := by kernel_rfl
theorem fo_143_3 : fOff Try.prog 143 3 = some 3 := by kernel_rfl
theorem ld_141 : ldK Try.prog 141 = some none := by kernel_rfl
theorem ld_144 : ldK Try.prog 144 = some none := by kernel_rfl
theorem sl_144 : slK Try.prog 144 = some 1 := by kernel_rfl
theorem ar_144 : arK Try.prog 144 = none := by kernel_rfl
theorem fn_124 : isFn Try.prog 124 = true := by kernel_rfl
theorem fn_125 : isFn Try.prog 125 = true := by kernel_rfl
theorem fn_126 : isFn Try.prog 126 = true := by kernel_rfl
theorem fn_127 : isFn Try.prog 127 = true := by kernel_rfl
theorem fn_128 : isFn Try.prog 128 = true := by kernel_rfl
theorem fn_129 : isFn Try.prog 129 = true := by kernel_rfl
theorem fn_130 : isFn Try.prog 130 = true := by kernel_rfl
theorem fn_131 : isFn Try.prog 131 = true := by kernel_rfl
theorem fn_132 : isFn Try.prog 132 = true := by kernel_rfl
theorem fo_114_0 : fOff Try.prog 114 0 = some 0 := by kernel_rfl
theorem fn_133 : isFn Try.prog 133 = true := by kernel_rfl
theorem fn_134 : isFn Try.prog 134 = true := by kernel_rfl
theorem fn_135 : isFn Try.prog 135 = true := by kernel_rfl
theorem fn_136 : isFn Try.prog 136 = true := by kernel_rfl
theorem ld_121 : ldK Try.prog 121 = some none := by kernel_rfl
theorem fn_138 : isFn Try.prog 138 = true := by kernel_rfl
theorem fn_139 : isFn Try.prog 139 = true := by kernel_rfl
theorem fn_140 : isFn Try.prog 140 = true := by kernel_rfl
theorem fn_141 : isFn Try.prog 141 = true := by kernel_rfl
theorem fn_142 : isFn Try.prog 142 = true := by kernel_rfl
theorem fn_143 : isFn Try.prog 143 = true := by kernel_rfl
theorem fn_144 : isFn Try.prog 144 = true := by kernel_rfl
theorem sz_22 : szK Try.prog 22 = some 1 := by kernel_rfl
theorem ld_127 : ldK Try.prog 127 = some none := by kernel_rfl
theorem fo_136_1 : fOff Try.prog 136 1 = some 1 := by kernel_rfl
theorem sz_134 : szK Try.prog 134 = some 1 := by kernel_rfl
theorem ld_134 : ldK Try.prog 134 = some none := by kernel_rfl
theorem fn_147 : isFn Try.prog 147 = true := by kernel_rfl
theorem fo_136_0 : fOff Try.prog 136 0 = some 0 := by kernel_rfl
theorem sz_133 : szK Try.prog 133 = some 1 := by kernel_rfl
theorem fo_136_6 : fOff Try.prog 136 6 = some 6 := by kernel_rfl
theorem sz_92 : szK Try.prog 92 = some 1 := by kernel_rfl
theorem fo_97_0 : fOff Try.prog 97 0 = some 0 := by kernel_rfl
theorem fn_148 : isFn Try.prog 148 = true := by kernel_rfl
theorem fn_149 : isFn Try.prog 149 = true := by kernel_rfl
theorem sz_106 : szK Try.prog 106 = some 1 := by kernel_rfl
theorem fn_150 : isFn Try.prog 150 = true := by kernel_rfl
theorem fn_151 : isFn Try.prog 151 = true := by kernel_rfl
theorem sz_144 : szK Try.prog 144 = some 1 := by kernel_rfl
theorem ni_144 : noInt Try.prog 144 = true := by kernel_rfl
theorem fn_152 : isFn Try.prog 152 = true := by kernel_rfl
theorem fo_143_0 : fOff Try.prog 143 0 = some 0 := by kernel_rfl
theorem ld_133 : ldK Try.prog 133 = some none := by kernel_rfl
theorem pk_133 : ptK Try.prog 133 = false := by kernel_rfl
theorem fn_153 : isFn Try.prog 153 = true := by kernel_rfl
theorem pk_141 : ptK Try.prog 141 = true := by kernel_rfl
theorem ld_92 : ldK Try.prog 92 = some none := by kernel_rfl
theorem fn_154 : isFn Try.prog 154 = true := by kernel_rfl
theorem sz_112 : szK Try.prog 112 = some 16 := by kernel_rfl
theorem fn_155 : isFn Try.prog 155 = true := by kernel_rfl
theorem fn_156 : isFn Try.prog 156 = true := by kernel_rfl
theorem fn_157 : isFn Try.prog 157 = true := by kernel_rfl
theorem fn_158 : isFn Try.prog 158 = true := by kernel_rfl
theorem fn_159 : isFn Try.prog 159 = true := by kernel_rfl
theorem fn_160 : isFn Try.prog 160 = true := by kernel_rfl
theorem fn_161 : isFn Try.prog 161 = true := by kernel_rfl
theorem fo_112_0 : fOff Try.prog 112 0 = some 0 := by kernel_rfl
theorem pk_101 : ptK Try.prog 101 = true := by kernel_rfl
theorem fo_112_2 : fOff Try.prog 112 2 = some 2 := by kernel_rfl
theorem fo_112_1 : fOff Try.prog 112 1 = some 1 := by kernel_rfl
theorem fn_119 : isFn Try.prog 119 = true := by kernel_rfl
theorem sz_4 : szK Try.prog 4 = some 1 := by kernel_rfl
theorem fo_112_7 : fOff Try.prog 112 7 = some 14 := by kernel_rfl
theorem ld_110 : ldK Try.prog 110 = some none := by kernel_rfl
theorem sl_110 : slK Try.prog 110 = some 2 := by kernel_rfl
theorem sz_110 : szK Try.prog 110 = some 1 := by kernel_rfl
theorem fn_162 : isFn Try.prog 162 = true := by kernel_rfl
theorem fn_163 : isFn Try.prog 163 = true := by kernel_rfl
theorem fn_164 : isFn Try.prog 164 = true := by kernel_rfl
theorem ld_78 : ldK Try.prog 78 = some none := by kernel_rfl
theorem sz_25 : szK Try.prog 25 = some 1 := by kernel_rfl
theorem fn_165 : isFn Try.prog 165 = true := by kernel_rfl
theorem fn_166 : isFn Try.prog 166 = true := by kernel_rfl
theorem sl_83 : slK Try.prog 83 = none := by kernel_rfl
theorem fo_136_9 : fOff Try.prog 136 9 = some 9 := by kernel_rfl
theorem cv_3_5 : cvK Try.prog 3 5 = some .u8 := by kernel_rfl
theorem ni_164 : noInt Try.prog 164 = true := by kernel_rfl
theorem sz_20 : szK Try.prog 20 = some 1 := by kernel_rfl
theorem sl_164 : slK Try.prog 164 = some 1 := by kernel_rfl
theorem ar_164 : arK Try.prog 164 = none := by kernel_rfl
theorem ld_5 : ldK Try.prog 5 = some none := by kernel_rfl
theorem fo_85_1 : fOff Try.prog 85 1 = some 8 := by kernel_rfl
theorem ar_83 : arK Try.prog 83 = some (8, 1) := by kernel_rfl
theorem sz_5 : szK Try.prog 5 = some 1 := by kernel_rfl
theorem fo_85_0 : fOff Try.prog 85 0 = some 0 := by kernel_rfl
theorem sl_82 : slK Try.prog 82 = none := by kernel_rfl
theorem ar_82 : arK Try.prog 82 = some (8, 1) := by kernel_rfl
theorem fn_167 : isFn Try.prog 167 = true := by kernel_rfl
theorem fn_168 : isFn Try.prog 168 = true := by kernel_rfl
theorem pk_22 : ptK Try.prog 22 = false := by kernel_rfl
theorem ni_22 : noInt Try.prog 22 = true := by kernel_rfl
theorem fn_146 : isFn Try.prog 146 = true := by kernel_rfl
theorem fn_169 : isFn Try.prog 169 = true := by kernel_rfl
theorem fn_170 : isFn Try.prog 170 = true := by kernel_rfl
theorem co_170 : coK Try.prog 170 = false := by kernel_rfl
theorem fo_136_4 : fOff Try.prog 136 4 = some 4 := by kernel_rfl
theorem co_173 : coK Try.prog 173 = false := by kernel_rfl
theorem fo_136_5 : fOff Try.prog 136 5 = some 5 := by kernel_rfl
theorem sz_141 : szK Try.prog 141 = some 1 := by kernel_rfl
theorem pk_81 : ptK Try.prog 81 = true := by kernel_rfl
theorem fn_171 : isFn Try.prog 171 = true := by kernel_rfl
theorem fn_172 : isFn Try.prog 172 = true := by kernel_rfl
theorem sz_101 : szK Try.prog 101 = some 1 := by kernel_rfl
theorem fo_112_6 : fOff Try.prog 112 6 = some 6 := by kernel_rfl
theorem sl_109 : slK Try.prog 109 = none := by kernel_rfl
theorem ld_112 : ldK Try.prog 112 = some (some 16) := by kernel_rfl
theorem fo_112_3 : fOff Try.prog 112 3 = some 3 := by kernel_rfl
theorem ni_110 : noInt Try.prog 110 = true := by kernel_rfl
theorem ar_110 : arK Try.prog 110 = none := by kernel_rfl
theorem fo_108_1 : fOff Try.prog 108 1 = some 1 := by kernel_rfl
theorem fo_108_0 : fOff Try.prog 108 0 = some 0 := by kernel_rfl
theorem fo_112_8 : fOff Try.prog 112 8 = some 15 := by kernel_rfl
theorem fo_112_4 : fOff Try.prog 112 4 = some 4 := by kernel_rfl
theorem fo_112_5 : fOff Try.prog 112 5 = some 5 := by kernel_rfl
theorem fn_173 : isFn Try.prog 173 = true := by kernel_rfl
theorem fn_174 : isFn Try.prog 174 = true := by kernel_rfl
theorem fn_175 : isFn Try.prog 175 = true := by kernel_rfl
theorem cv_3_179 : cvK Try.prog 3 179 = some .u64 := by kernel_rfl
theorem pk_179 : ptK Try.prog 179 = false := by kernel_rfl
theorem cv_179_3 : cvK Try.prog 179 3 = some .i64 := by kernel_rfl
theorem cv_5_3 : cvK Try.prog 5 3 = some .i64 := by kernel_rfl
theorem pk_5 : ptK Try.prog 5 = false := by kernel_rfl
theorem fn_176 : isFn Try.prog 176 = true := by kernel_rfl
theorem fn_195 : isFn Try.prog 195 = true := by kernel_rfl
theorem fn_196 : isFn Try.prog 196 = true := by kernel_rfl
theorem ld_136 : ldK Try.prog 136 = some (some 10) := by kernel_rfl
theorem sz_136 : szK Try.prog 136 = some 10 := by kernel_rfl
theorem ow_3 : (ldK Try.prog 24 = some (some 3)) ∧ (isFn Try.prog 13 = true) ∧ (slK Try.prog 25 = some 2) ∧ (ptK Try.prog 3 = false) ∧ (isFn Try.prog 15 = true) ∧ (isFn Try.prog 16 = true) ∧ (isFn Try.prog 14 = true) ∧ (fOff Try.prog 24 1 = some 1) ∧ (ldK Try.prog 3 = some none) ∧ (isFn Try.prog 17 = true) := ⟨ld_24, fn_13, sl_25, pk_3, fn_15, fn_16, fn_14, fo_24_1, ld_3, fn_17⟩
theorem ow_4 : (ldK Try.prog 24 = some (some 3)) ∧ (isFn Try.prog 13 = true) ∧ (slK Try.prog 25 = some 2) ∧ (ptK Try.prog 3 = false) ∧ (isFn Try.prog 15 = true) ∧ (isFn Try.prog 16 = true) ∧ (isFn Try.prog 19 = true) ∧ (isFn Try.prog 18 = true) ∧ (fOff Try.prog 24 1 = some 1) ∧ (ldK Try.prog 3 = some none) ∧ (isFn Try.prog 17 = true) := ⟨ld_24, fn_13, sl_25, pk_3, fn_15, fn_16, fn_19, fn_18, fo_24_1, ld_3, fn_17⟩
theorem ow_5 : (ldK Try.prog 24 = some (some 3)) ∧ (isFn Try.prog 13 = true) ∧ (slK Try.prog 25 = some 2) ∧ (ptK Try.prog 3 = false) ∧ (isFn Try.prog 15 = true) ∧ (isFn Try.prog 16 = true) ∧ (isFn Try.prog 20 = true) ∧ (fOff Try.prog 24 1 = some 1) ∧ (ldK Try.prog 3 = some none) ∧ (isFn Try.prog 17 = true) ∧ (ldK Try.prog 33 = some (some 2)) := ⟨ld_24, fn_13, sl_25, pk_3, fn_15, fn_16, fn_20, fo_24_1, ld_3, fn_17, ld_33⟩
theorem ow_6 : (ldK Try.prog 24 = some (some 3)) ∧ (isFn Try.prog 13 = true) ∧ (slK Try.prog 25 = some 2) ∧ (ptK Try.prog 3 = false) ∧ (isFn Try.prog 15 = true) ∧ (isFn Try.prog 16 = true) ∧ (isFn Try.prog 21 = true) ∧ (fOff Try.prog 24 1 = some 1) ∧ (ldK Try.prog 3 = some none) ∧ (isFn Try.prog 17 = true) ∧ (ldK Try.prog 33 = some (some 2)) := ⟨ld_24, fn_13, sl_25, pk_3, fn_15, fn_16, fn_21, fo_24_1, ld_3, fn_17, ld_33⟩
theorem ow_7 : (slK Try.prog 22 = some 1) ∧ (ptK Try.prog 3 = false) ∧ (slK Try.prog 25 = some 2) ∧ (isFn Try.prog 16 = true) ∧ (isFn Try.prog 22 = true) := ⟨sl_22, pk_3, sl_25, fn_16, fn_22⟩
theorem ow_8 : (ldK Try.prog 24 = some (some 3)) ∧ (isFn Try.prog 13 = true) ∧ (slK Try.prog 25 = some 2) ∧ (ptK Try.prog 3 = false) ∧ (isFn Try.prog 23 = true) ∧ (fOff Try.prog 24 0 = some 0) ∧ (ldK Try.prog 22 = some none) ∧ (isFn Try.prog 24 = true) ∧ (isFn Try.prog 25 = true) ∧ (isFn Try.prog 26 = true) ∧ (isFn Try.prog 27 = true) ∧ (isFn Try.prog 28 = true) ∧ (isFn Try.prog 29 = true) := ⟨ld_24, fn_13, sl_25, pk_3, fn_23, fo_24_0, ld_22, fn_24, fn_25, fn_26, fn_27, fn_28, fn_29⟩
theorem ow_9 : (ldK Try.prog 24 = some (some 3)) ∧ (isFn Try.prog 13 = true) ∧ (slK Try.prog 25 = some 2) ∧ (ptK Try.prog 3 = false) ∧ (slK Try.prog 45 = some 3) ∧ (isFn Try.prog 15 = true) ∧ (isFn Try.prog 16 = true) ∧ (isFn Try.prog 31 = true) ∧ (isFn Try.prog 30 = true) ∧ (fOff Try.prog 24 1 = some 1) ∧ (ldK Try.prog 3 = some none) ∧ (isFn Try.prog 17 = true) := ⟨ld_24, fn_13, sl_25, pk_3, sl_45, fn_15, fn_16, fn_31, fn_30, fo_24_1, ld_3, fn_17⟩
theorem ow_10 : (ldK Try.prog 24 = some (some 3)) ∧ (isFn Try.prog 13 = true) ∧ (slK Try.prog 25 = some 2) ∧ (ptK Try.prog 3 = false) ∧ (isFn Try.prog 15 = true) ∧ (isFn Try.prog 16 = true) ∧ (isFn Try.prog 19 = true) ∧ (isFn Try.prog 32 = true) ∧ (fOff Try.prog 24 1 = some 1) ∧ (ldK Try.prog 3 = some none) ∧ (isFn Try.prog 17 = true) := ⟨ld_24, fn_13, sl_25, pk_3, fn_15, fn_16, fn_19, fn_32, fo_24_1, ld_3, fn_17⟩
theorem ow_11 : (ldK Try.prog 24 = some (some 3)) ∧ (isFn Try.prog 13 = true) ∧ (slK Try.prog 25 = some 2) ∧ (ptK Try.prog 3 = false) ∧ (isFn Try.prog 23 = true) ∧ (isFn Try.prog 25 = true) ∧ (ldK Try.prog 33 = some (some 2)) ∧ (isFn Try.prog 33 = true) ∧ (isFn Try.prog 34 = true) ∧ (isFn Try.prog 35 = true) ∧ (isFn Try.prog 29 = true) ∧ (isFn Try.prog 36 = true) ∧ (isFn Try.prog 37 = true) ∧ (isFn Try.prog 38 = true) ∧ (isFn Try.prog 39 = true) ∧ (isFn Try.prog 40 = true) := ⟨ld_24, fn_13, sl_25, pk_3, fn_23, fn_25, ld_33, fn_33, fn_34, fn_35, fn_29, fn_36, fn_37, fn_38, fn_39, fn_40⟩
theorem ow_12 : (ldK Try.prog 24 = some (some 3)) ∧ (isFn Try.prog 13 = true) ∧ (slK Try.prog 25 = some 2) ∧ (ptK Try.prog 3 = false) ∧ (slK Try.prog 22 = some 1) ∧ (isFn Try.prog 15 = true) ∧ (isFn Try.prog 16 = true) ∧ (isFn Try.prog 42 = true) ∧ (isFn Try.prog 41 = true) ∧ (fOff Try.prog 24 1 = some 1) ∧ (ldK Try.prog 3 = some none) ∧ (isFn Try.prog 17 = true) := ⟨ld_24, fn_13, sl_25, pk_3, sl_22, fn_15, fn_16, fn_42, fn_41, fo_24_1, ld_3, fn_17⟩
theorem ow_13 : (fOff Try.prog 24 0 = some 0) ∧ (ldK Try.prog 22 = some none) ∧ (slK Try.prog 22 = some 1) ∧ (ptK Try.prog 3 = false) := ⟨fo_24_0, ld_22, sl_22, pk_3⟩
theorem ow_14 : (ldK Try.prog 24 = some (some 3)) ∧ (isFn Try.prog 43 = true) ∧ (szK Try.prog 43 = some 3) ∧ (isFn Try.prog 44 = true) ∧ (ldK Try.prog 43 = some (some 3)) ∧ (ptK Try.prog 43 = false) := ⟨ld_24, fn_43, sz_43, fn_44, ld_43, pk_43⟩
theorem ow_15 : (szK Try.prog 24 = some 3) := sz_24
theorem ow_17 : (ptK Try.prog 3 = false) := pk_3
theorem ow_18 : (ldK Try.prog 24 = some (some 3)) ∧ (isFn Try.prog 45 = true) ∧ (isFn Try.prog 46 = true) ∧ (isFn Try.prog 28 = true) := ⟨ld_24, fn_45, fn_46, fn_28⟩
theorem ow_20 : (ldK Try.prog 24 = some (some 3)) ∧ (ldK Try.prog 33 = some (some 2)) ∧ (isFn Try.prog 40 = true) ∧ (isFn Try.prog 47 = true) ∧ (isFn Try.prog 29 = true) ∧ (isFn Try.prog 48 = true) := ⟨ld_24, ld_33, fn_40, fn_47, fn_29, fn_48⟩
theorem ow_21 : (ldK Try.prog 24 = some (some 3)) ∧ (ldK Try.prog 33 = some (some 2)) ∧ (isFn Try.prog 49 = true) ∧ (isFn Try.prog 47 = true) ∧ (isFn Try.prog 29 = true) ∧ (isFn Try.prog 48 = true) := ⟨ld_24, ld_33, fn_49, fn_47, fn_29, fn_48⟩
theorem ow_22 : (isFn Try.prog 50 = true) ∧ (isFn Try.prog 51 = true) ∧ (isFn Try.prog 29 = true) := ⟨fn_50, fn_51, fn_29⟩
theorem ow_23 : (fOff Try.prog 24 1 = some 1) ∧ (ldK Try.prog 3 = some none) ∧ (isFn Try.prog 17 = true) := ⟨fo_24_1, ld_3, fn_17⟩
theorem ow_24 : (slK Try.prog 25 = some 2) ∧ (ptK Try.prog 3 = false) ∧ (arK Try.prog 25 = none) ∧ (ldK Try.prog 33 = some (some 2)) ∧ (isFn Try.prog 52 = true) := ⟨sl_25, pk_3, ar_25, ld_33, fn_52⟩
theorem ow_25 : (isFn Try.prog 15 = true) ∧ (isFn Try.prog 16 = true) ∧ (slK Try.prog 25 = some 2) ∧ (isFn Try.prog 27 = true) ∧ (ptK Try.prog 3 = false) := ⟨fn_15, fn_16, sl_25, fn_27, pk_3⟩
theorem ow_26 : (ldK Try.prog 24 = some (some 3)) ∧ (isFn Try.prog 53 = true) ∧ (slK Try.prog 25 = some 2) ∧ (ptK Try.prog 3 = false) ∧ (arK Try.prog 25 = none) ∧ (ldK Try.prog 33 = some (some 2)) ∧ (szK Try.prog 33 = some 2) ∧ (coK Try.prog 33 = true) ∧ (isFn Try.prog 55 = true) ∧ (isFn Try.prog 54 = true) ∧ (noInt Try.prog 38 = true) ∧ (isFn Try.prog 56 = true) := ⟨ld_24, fn_53, sl_25, pk_3, ar_25, ld_33, sz_33, co_33, fn_55, fn_54, ni_38, fn_56⟩
theorem ow_27 : (ldK Try.prog 24 = some (some 3)) ∧ (isFn Try.prog 53 = true) ∧ (slK Try.prog 25 = some 2) ∧ (ptK Try.prog 3 = false) ∧ (arK Try.prog 25 = none) ∧ (ldK Try.prog 33 = some (some 2)) ∧ (szK Try.prog 33 = some 2) ∧ (coK Try.prog 33 = true) ∧ (isFn Try.prog 57 = true) ∧ (isFn Try.prog 54 = true) ∧ (noInt Try.prog 38 = true) ∧ (isFn Try.prog 56 = true) := ⟨ld_24, fn_53, sl_25, pk_3, ar_25, ld_33, sz_33, co_33, fn_57, fn_54, ni_38, fn_56⟩
theorem ow_28 : (slK Try.prog 38 = some 3) ∧ (ptK Try.prog 3 = false) ∧ (arK Try.prog 38 = none) ∧ (ldK Try.prog 43 = some (some 3)) ∧ (ptK Try.prog 43 = false) := ⟨sl_38, pk_3, ar_38, ld_43, pk_43⟩
theorem ow_29 : (slK Try.prog 25 = some 2) ∧ (ptK Try.prog 3 = false) ∧ (arK Try.prog 25 = none) ∧ (ldK Try.prog 33 = some (some 2)) ∧ (ptK Try.prog 33 = false) := ⟨sl_25, pk_3, ar_25, ld_33, pk_33⟩
theorem ow_30 : (ldK Try.prog 24 = some (some 3)) ∧ (isFn Try.prog 58 = true) ∧ (fOff Try.prog 24 0 = some 0) ∧ (ldK Try.prog 22 = some none) ∧ (isFn Try.prog 60 = true) ∧ (isFn Try.prog 59 = true) ∧ (isFn Try.prog 61 = true) := ⟨ld_24, fn_58, fo_24_0, ld_22, fn_60, fn_59, fn_61⟩
theorem ow_32 : (ldK Try.prog 24 = some (some 3)) ∧ (isFn Try.prog 62 = true) ∧ (isFn Try.prog 63 = true) ∧ (isFn Try.prog 28 = true) ∧ (isFn Try.prog 29 = true) := ⟨ld_24, fn_62, fn_63, fn_28, fn_29⟩
theorem ow_33 : (ldK Try.prog 24 = some (some 3)) ∧ (isFn Try.prog 53 = true) ∧ (ldK Try.prog 33 = some (some 2)) ∧ (isFn Try.prog 65 = true) ∧ (isFn Try.prog 66 = true) ∧ (isFn Try.prog 64 = true) ∧ (ldK Try.prog 25 = some none) := ⟨ld_24, fn_53, ld_33, fn_65, fn_66, fn_64, ld_25⟩
theorem ow_34 : (ldK Try.prog 24 = some (some 3)) ∧ (isFn Try.prog 53 = true) ∧ (ldK Try.prog 33 = some (some 2)) ∧ (isFn Try.prog 65 = true) ∧ (isFn Try.prog 66 = true) ∧ (isFn Try.prog 67 = true) ∧ (ldK Try.prog 25 = some none) := ⟨ld_24, fn_53, ld_33, fn_65, fn_66, fn_67, ld_25⟩
theorem ow_35 : (ptK Try.prog 3 = false) ∧ (slK Try.prog 25 = some 2) := ⟨pk_3, sl_25⟩
theorem ow_36 : (isFn Try.prog 68 = true) ∧ (isFn Try.prog 69 = true) := ⟨fn_68, fn_69⟩
theorem ow_37 : (ldK Try.prog 24 = some (some 3)) ∧ (isFn Try.prog 53 = true) ∧ (ldK Try.prog 33 = some (some 2)) ∧ (isFn Try.prog 65 = true) ∧ (isFn Try.prog 66 = true) ∧ (isFn Try.prog 70 = true) ∧ (ldK Try.prog 25 = some none) := ⟨ld_24, fn_53, ld_33, fn_65, fn_66, fn_70, ld_25⟩
theorem ow_38 : (ldK Try.prog 24 = some (some 3)) ∧ (isFn Try.prog 53 = true) ∧ (ldK Try.prog 33 = some (some 2)) ∧ (isFn Try.prog 65 = true) ∧ (isFn Try.prog 66 = true) ∧ (isFn Try.prog 71 = true) ∧ (ldK Try.prog 25 = some none) := ⟨ld_24, fn_53, ld_33, fn_65, fn_66, fn_71, ld_25⟩
theorem ow_39 : (ldK Try.prog 24 = some (some 3)) ∧ (isFn Try.prog 53 = true) ∧ (ldK Try.prog 33 = some (some 2)) ∧ (isFn Try.prog 65 = true) ∧ (isFn Try.prog 66 = true) ∧ (isFn Try.prog 72 = true) ∧ (ldK Try.prog 25 = some none) := ⟨ld_24, fn_53, ld_33, fn_65, fn_66, fn_72, ld_25⟩
theorem ow_40 : (ldK Try.prog 24 = some (some 3)) ∧ (isFn Try.prog 53 = true) ∧ (ldK Try.prog 33 = some (some 2)) ∧ (isFn Try.prog 65 = true) ∧ (isFn Try.prog 66 = true) ∧ (isFn Try.prog 73 = true) ∧ (ldK Try.prog 25 = some none) := ⟨ld_24, fn_53, ld_33, fn_65, fn_66, fn_73, ld_25⟩
theorem ow_41 : (ldK Try.prog 24 = some (some 3)) ∧ (isFn Try.prog 74 = true) ∧ (isFn Try.prog 75 = true) ∧ (isFn Try.prog 28 = true) ∧ (isFn Try.prog 29 = true) := ⟨ld_24, fn_74, fn_75, fn_28, fn_29⟩
theorem ow_43 : (ldK Try.prog 24 = some (some 3)) ∧ (isFn Try.prog 53 = true) ∧ (isFn Try.prog 76 = true) ∧ (isFn Try.prog 54 = true) ∧ (szK Try.prog 43 = some 3) := ⟨ld_24, fn_53, fn_76, fn_54, sz_43⟩
theorem ow_44 : (fOff Try.prog 24 0 = some 0) ∧ (ldK Try.prog 22 = some none) ∧ (isFn Try.prog 60 = true) ∧ (slK Try.prog 25 = some 2) ∧ (ptK Try.prog 3 = false) ∧ (isFn Try.prog 77 = true) ∧ (szK Try.prog 43 = some 3) := ⟨fo_24_0, ld_22, fn_60, sl_25, pk_3, fn_77, sz_43⟩
theorem ow_45 : (ldK Try.prog 24 = some (some 3)) ∧ (isFn Try.prog 53 = true) ∧ (slK Try.prog 25 = some 2) ∧ (ptK Try.prog 3 = false) ∧ (arK Try.prog 25 = none) ∧ (ldK Try.prog 33 = some (some 2)) ∧ (szK Try.prog 33 = some 2) ∧ (coK Try.prog 33 = true) ∧ (isFn Try.prog 78 = true) ∧ (isFn Try.prog 54 = true) ∧ (noInt Try.prog 38 = true) := ⟨ld_24, fn_53, sl_25, pk_3, ar_25, ld_33, sz_33, co_33, fn_78, fn_54, ni_38⟩
theorem ow_46 : (fOff Try.prog 24 0 = some 0) ∧ (ldK Try.prog 22 = some none) ∧ (isFn Try.prog 60 = true) ∧ (slK Try.prog 25 = some 2) ∧ (ptK Try.prog 3 = false) ∧ (arK Try.prog 25 = none) ∧ (ldK Try.prog 33 = some (some 2)) ∧ (szK Try.prog 33 = some 2) ∧ (szK Try.prog 43 = some 3) ∧ (isFn Try.prog 79 = true) ∧ (isFn Try.prog 77 = true) ∧ (ldK Try.prog 43 = some (some 3)) ∧ (noInt Try.prog 38 = true) := ⟨fo_24_0, ld_22, fn_60, sl_25, pk_3, ar_25, ld_33, sz_33, sz_43, fn_79, fn_77, ld_43, ni_38⟩
theorem ow_47 : (fOff Try.prog 24 0 = some 0) ∧ (ldK Try.prog 22 = some none) ∧ (isFn Try.prog 60 = true) ∧ (isFn Try.prog 80 = true) ∧ (isFn Try.prog 35 = true) := ⟨fo_24_0, ld_22, fn_60, fn_80, fn_35⟩
theorem ow_48 : (fOff Try.prog 24 0 = some 0) ∧ (ldK Try.prog 22 = some none) ∧ (isFn Try.prog 60 = true) ∧ (ldK Try.prog 33 = some (some 2)) ∧ (isFn Try.prog 81 = true) ∧ (isFn Try.prog 35 = true) := ⟨fo_24_0, ld_22, fn_60, ld_33, fn_81, fn_35⟩
theorem ow_49 : (ldK Try.prog 24 = some (some 3)) ∧ (isFn Try.prog 53 = true) ∧ (ldK Try.prog 33 = some (some 2)) ∧ (isFn Try.prog 65 = true) ∧ (isFn Try.prog 66 = true) ∧ (isFn Try.prog 82 = true) ∧ (ldK Try.prog 25 = some none) := ⟨ld_24, fn_53, ld_33, fn_65, fn_66, fn_82, ld_25⟩
theorem ow_50 : (isFn Try.prog 83 = true) ∧ (ptK Try.prog 3 = false) ∧ (isFn Try.prog 84 = true) ∧ (isFn Try.prog 85 = true) ∧ (isFn Try.prog 86 = true) ∧ (slK Try.prog 25 = some 2) ∧ (arK Try.prog 25 = none) ∧ (ldK Try.prog 33 = some (some 2)) ∧ (szK Try.prog 33 = some 2) ∧ (coK Try.prog 33 = true) ∧ (isFn Try.prog 57 = true) ∧ (isFn Try.prog 56 = true) := ⟨fn_83, pk_3, fn_84, fn_85, fn_86, sl_25, ar_25, ld_33, sz_33, co_33, fn_57, fn_56⟩
theorem ow_51 : (fOff Try.prog 24 0 = some 0) ∧ (ldK Try.prog 22 = some none) ∧ (isFn Try.prog 60 = true) ∧ (isFn Try.prog 35 = true) := ⟨fo_24_0, ld_22, fn_60, fn_35⟩
theorem ow_52 : (fOff Try.prog 33 0 = some 0) ∧ (ldK Try.prog 3 = some none) ∧ (isFn Try.prog 87 = true) ∧ (ptK Try.prog 3 = false) := ⟨fo_33_0, ld_3, fn_87, pk_3⟩
theorem ow_53 : (fOff Try.prog 24 0 = some 0) ∧ (ldK Try.prog 22 = some none) ∧ (isFn Try.prog 83 = true) ∧ (ldK Try.prog 24 = some (some 3)) ∧ (isFn Try.prog 88 = true) ∧ (isFn Try.prog 86 = true) ∧ (slK Try.prog 25 = some 2) ∧ (ptK Try.prog 3 = false) ∧ (arK Try.prog 25 = none) ∧ (ldK Try.prog 33 = some (some 2)) ∧ (szK Try.prog 33 = some 2) ∧ (coK Try.prog 33 = true) ∧ (isFn Try.prog 57 = true) := ⟨fo_24_0, ld_22, fn_83, ld_24, fn_88, fn_86, sl_25, pk_3, ar_25, ld_33, sz_33, co_33, fn_57⟩
theorem ow_54 : (ptK Try.prog 20 = false) ∧ (szK Try.prog 43 = some 3) ∧ (coK Try.prog 33 = true) := ⟨pk_20, sz_43, co_33⟩
theorem ow_55 : (ptK Try.prog 20 = false) ∧ (coK Try.prog 9 = true) ∧ (fOff Try.prog 103 0 = some 0) ∧ (ldK Try.prog 101 = some none) ∧ (isFn Try.prog 89 = true) := ⟨pk_20, co_9, fo_103_0, ld_101, fn_89⟩
theorem ow_56 : (isFn Try.prog 66 = true) ∧ (isFn Try.prog 64 = true) ∧ (ldK Try.prog 25 = some none) := ⟨fn_66, fn_64, ld_25⟩
theorem ow_57 : (isFn Try.prog 90 = true) := fn_90
theorem ow_58 : (ldK Try.prog 24 = some (some 3)) ∧ (isFn Try.prog 53 = true) ∧ (isFn Try.prog 91 = true) ∧ (szK Try.prog 114 = some 16) ∧ (isFn Try.prog 92 = true) ∧ (isFn Try.prog 93 = true) := ⟨ld_24, fn_53, fn_91, sz_114, fn_92, fn_93⟩
theorem ow_59 : (slK Try.prog 45 = some 3) ∧ (ptK Try.prog 3 = false) ∧ (arK Try.prog 45 = none) ∧ (ldK Try.prog 72 = some (some 3)) ∧ (szK Try.prog 72 = some 3) ∧ (fOff Try.prog 72 0 = some 0) ∧ (ldK Try.prog 3 = some none) ∧ (slK Try.prog 25 = some 2) ∧ (fOff Try.prog 72 1 = some 1) ∧ (ldK Try.prog 33 = some (some 2)) ∧ (isFn Try.prog 79 = true) ∧ (isFn Try.prog 77 = true) ∧ (szK Try.prog 43 = some 3) ∧ (fOff Try.prog 43 1 = some 2) ∧ (ldK Try.prog 4 = some none) ∧ (ldK Try.prog 43 = some (some 3)) ∧ (noInt Try.prog 38 = true) ∧ (noInt Try.prog 66 = true) := ⟨sl_45, pk_3, ar_45, ld_72, sz_72, fo_72_0, ld_3, sl_25, fo_72_1, ld_33, fn_79, fn_77, sz_43, fo_43_1, ld_4, ld_43, ni_38, ni_66⟩
theorem ow_60 : (slK Try.prog 25 = some 2) ∧ (ptK Try.prog 3 = false) ∧ (arK Try.prog 25 = none) ∧ (ldK Try.prog 33 = some (some 2)) ∧ (szK Try.prog 33 = some 2) ∧ (isFn Try.prog 94 = true) := ⟨sl_25, pk_3, ar_25, ld_33, sz_33, fn_94⟩
theorem ow_61 : (slK Try.prog 38 = some 3) ∧ (ptK Try.prog 3 = false) ∧ (slK Try.prog 66 = some 1) ∧ (arK Try.prog 66 = none) ∧ (ldK Try.prog 4 = some none) ∧ (arK Try.prog 38 = none) ∧ (ldK Try.prog 43 = some (some 3)) ∧ (ptK Try.prog 43 = false) := ⟨sl_38, pk_3, sl_66, ar_66, ld_4, ar_38, ld_43, pk_43⟩
theorem ow_62 : (ldK Try.prog 24 = some (some 3)) ∧ (isFn Try.prog 53 = true) ∧ (slK Try.prog 25 = some 2) ∧ (ptK Try.prog 3 = false) ∧ (arK Try.prog 25 = none) ∧ (ldK Try.prog 33 = some (some 2)) ∧ (szK Try.prog 33 = some 2) ∧ (coK Try.prog 33 = true) ∧ (isFn Try.prog 95 = true) ∧ (isFn Try.prog 54 = true) ∧ (noInt Try.prog 38 = true) ∧ (isFn Try.prog 56 = true) := ⟨ld_24, fn_53, sl_25, pk_3, ar_25, ld_33, sz_33, co_33, fn_95, fn_54, ni_38, fn_56⟩
theorem ow_63 : (fOff Try.prog 24 0 = some 0) ∧ (ldK Try.prog 22 = some none) ∧ (isFn Try.prog 60 = true) ∧ (slK Try.prog 25 = some 2) ∧ (ptK Try.prog 3 = false) ∧ (arK Try.prog 25 = none) ∧ (ldK Try.prog 33 = some (some 2)) ∧ (szK Try.prog 33 = some 2) ∧ (isFn Try.prog 96 = true) ∧ (szK Try.prog 43 = some 3) ∧ (ldK Try.prog 43 = some (some 3)) ∧ (noInt Try.prog 38 = true) := ⟨fo_24_0, ld_22, fn_60, sl_25, pk_3, ar_25, ld_33, sz_33, fn_96, sz_43, ld_43, ni_38⟩
theorem ow_64 : (ptK Try.prog 20 = false) ∧ (fOff Try.prog 103 0 = some 0) ∧ (ldK Try.prog 101 = some none) ∧ (isFn Try.prog 97 = true) ∧ (isFn Try.prog 98 = true) := ⟨pk_20, fo_103_0, ld_101, fn_97, fn_98⟩
theorem ow_65 : (ldK Try.prog 33 = some (some 2)) ∧ (coK Try.prog 33 = true) := ⟨ld_33, co_33⟩
theorem ow_66 : (isFn Try.prog 99 = true) ∧ (szK Try.prog 121 = some 1) := ⟨fn_99, sz_121⟩
theorem ow_67 : (ptK Try.prog 20 = false) ∧ (fOff Try.prog 103 0 = some 0) ∧ (ldK Try.prog 101 = some none) ∧ (isFn Try.prog 101 = true) ∧ (isFn Try.prog 102 = true) := ⟨pk_20, fo_103_0, ld_101, fn_101, fn_102⟩
theorem ow_68 : (ptK Try.prog 25 = false) ∧ (noInt Try.prog 25 = true) := ⟨pk_25, ni_25⟩
theorem ow_69 : (slK Try.prog 25 = some 2) ∧ (ptK Try.prog 3 = false) ∧ (arK Try.prog 25 = none) ∧ (ldK Try.prog 33 = some (some 2)) ∧ (szK Try.prog 33 = some 2) := ⟨sl_25, pk_3, ar_25, ld_33, sz_33⟩
theorem ow_70 : (ptK Try.prog 20 = false) ∧ (fOff Try.prog 103 0 = some 0) ∧ (ldK Try.prog 101 = some none) ∧ (isFn Try.prog 97 = true) ∧ (isFn Try.prog 103 = true) := ⟨pk_20, fo_103_0, ld_101, fn_97, fn_103⟩
theorem ow_71 : (ptK Try.prog 20 = false) ∧ (fOff Try.prog 103 0 = some 0) ∧ (ldK Try.prog 101 = some none) ∧ (isFn Try.prog 101 = true) ∧ (isFn Try.prog 104 = true) := ⟨pk_20, fo_103_0, ld_101, fn_101, fn_104⟩
theorem ow_72 : (ptK Try.prog 20 = false) ∧ (fOff Try.prog 103 0 = some 0) ∧ (ldK Try.prog 101 = some none) ∧ (isFn Try.prog 105 = true) ∧ (isFn Try.prog 106 = true) := ⟨pk_20, fo_103_0, ld_101, fn_105, fn_106⟩
theorem ow_73 : (ptK Try.prog 20 = false) ∧ (fOff Try.prog 103 0 = some 0) ∧ (ldK Try.prog 101 = some none) ∧ (isFn Try.prog 107 = true) ∧ (isFn Try.prog 108 = true) := ⟨pk_20, fo_103_0, ld_101, fn_107, fn_108⟩
theorem ow_74 : (ldK Try.prog 24 = some (some 3)) ∧ (isFn Try.prog 53 = true) ∧ (slK Try.prog 22 = some 1) ∧ (ptK Try.prog 3 = false) ∧ (arK Try.prog 22 = none) ∧ (ldK Try.prog 3 = some none) ∧ (isFn Try.prog 109 = true) ∧ (isFn Try.prog 54 = true) ∧ (noInt Try.prog 38 = true) ∧ (isFn Try.prog 56 = true) := ⟨ld_24, fn_53, sl_22, pk_3, ar_22, ld_3, fn_109, fn_54, ni_38, fn_56⟩
theorem ow_75 : (fOff Try.prog 24 0 = some 0) ∧ (ldK Try.prog 22 = some none) ∧ (isFn Try.prog 60 = true) ∧ (slK Try.prog 22 = some 1) ∧ (ptK Try.prog 3 = false) ∧ (arK Try.prog 22 = none) ∧ (ldK Try.prog 3 = some none) ∧ (isFn Try.prog 110 = true) ∧ (szK Try.prog 43 = some 3) ∧ (ldK Try.prog 43 = some (some 3)) ∧ (noInt Try.prog 38 = true) := ⟨fo_24_0, ld_22, fn_60, sl_22, pk_3, ar_22, ld_3, fn_110, sz_43, ld_43, ni_38⟩
theorem ow_76 : (fOff Try.prog 103 0 = some 0) ∧ (ldK Try.prog 101 = some none) ∧ (isFn Try.prog 111 = true) := ⟨fo_103_0, ld_101, fn_111⟩
theorem ow_77 : (isFn Try.prog 110 = true) ∧ (szK Try.prog 43 = some 3) ∧ (ldK Try.prog 43 = some (some 3)) := ⟨fn_110, sz_43, ld_43⟩
theorem ow_78 : (isFn Try.prog 112 = true) := fn_112
theorem ow_79 : (slK Try.prog 25 = some 2) ∧ (ptK Try.prog 3 = false) ∧ (arK Try.prog 25 = none) ∧ (ldK Try.prog 33 = some (some 2)) ∧ (isFn Try.prog 52 = true) := ⟨sl_25, pk_3, ar_25, ld_33, fn_52⟩
theorem ow_80 : (slK Try.prog 25 = some 2) ∧ (ptK Try.prog 3 = false) ∧ (arK Try.prog 25 = none) ∧ (ldK Try.prog 33 = some (some 2)) ∧ (noInt Try.prog 25 = true) := ⟨sl_25, pk_3, ar_25, ld_33, ni_25⟩
theorem ow_81 : (slK Try.prog 25 = some 2) ∧ (ptK Try.prog 3 = false) ∧ (ldK Try.prog 33 = some (some 2)) ∧ (arK Try.prog 25 = none) ∧ (isFn Try.prog 52 = true) ∧ (isFn Try.prog 80 = true) := ⟨sl_25, pk_3, ld_33, ar_25, fn_52, fn_80⟩
theorem ow_82 : (ptK Try.prog 20 = false) ∧ (fOff Try.prog 103 0 = some 0) ∧ (ldK Try.prog 101 = some none) ∧ (isFn Try.prog 107 = true) ∧ (isFn Try.prog 113 = true) := ⟨pk_20, fo_103_0, ld_101, fn_107, fn_113⟩
theorem ow_83 : (isFn Try.prog 114 = true) ∧ (szK Try.prog 127 = some 1) := ⟨fn_114, sz_127⟩
theorem ow_84 : (ptK Try.prog 92 = false) ∧ (coK Try.prog 9 = true) ∧ (isFn Try.prog 116 = true) := ⟨pk_92, co_9, fn_116⟩
theorem ow_85 : (ptK Try.prog 92 = false) ∧ (coK Try.prog 9 = true) ∧ (isFn Try.prog 117 = true) := ⟨pk_92, co_9, fn_117⟩
theorem ow_86 : (ptK Try.prog 92 = false) ∧ (coK Try.prog 9 = true) ∧ (ldK Try.prog 97 = some (some 2)) ∧ (isFn Try.prog 117 = true) := ⟨pk_92, co_9, ld_97, fn_117⟩
theorem ow_87 : (slK Try.prog 22 = some 1) ∧ (ptK Try.prog 3 = false) ∧ (arK Try.prog 22 = none) ∧ (ldK Try.prog 3 = some none) := ⟨sl_22, pk_3, ar_22, ld_3⟩
theorem ow_88 : (fOff Try.prog 24 1 = some 1) ∧ (ldK Try.prog 3 = some none) ∧ (fOff Try.prog 24 2 = some 2) ∧ (ldK Try.prog 4 = some none) ∧ (szK Try.prog 97 = some 2) := ⟨fo_24_1, ld_3, fo_24_2, ld_4, sz_97⟩
theorem ow_89 : (isFn Try.prog 118 = true) ∧ (fOff Try.prog 136 2 = some 2) ∧ (ldK Try.prog 106 = some none) ∧ (ptK Try.prog 106 = true) ∧ (isFn Try.prog 120 = true) ∧ (isFn Try.prog 121 = true) ∧ (fOff Try.prog 143 1 = some 1) ∧ (ldK Try.prog 3 = some none) ∧ (ptK Try.prog 3 = false) ∧ (szK Try.prog 3 = some 1) ∧ (isFn Try.prog 122 = true) ∧ (fOff Try.prog 143 2 = some 2) ∧ (ldK Try.prog 140 = some none) ∧ (slK Try.prog 140 = some 1) ∧ (fOff Try.prog 136 8 = some 8) ∧ (arK Try.prog 140 = none) ∧ (ldK Try.prog 20 = some none) ∧ (isFn Try.prog 123 = true) ∧ (noInt Try.prog 140 = true) ∧ (szK Try.prog 140 = some 1) ∧ (fOff Try.prog 136 3 = some 3) ∧ (fOff Try.prog 136 7 = some 7) ∧ (fOff Try.prog 143 3 = some 3) ∧ (ldK Try.prog 141 = some none) ∧ (ldK Try.prog 144 = some none) ∧ (slK Try.prog 144 = some 1) ∧ (arK Try.prog 144 = none) := ⟨fn_118, fo_136_2, ld_106, pk_106, fn_120, fn_121, fo_143_1, ld_3, pk_3, sz_3, fn_122, fo_143_2, ld_140, sl_140, fo_136_8, ar_140, ld_20, fn_123, ni_140, sz_140, fo_136_3, fo_136_7, fo_143_3, ld_141, ld_144, sl_144, ar_144⟩
theorem ow_90 : (ptK Try.prog 20 = false) ∧ (coK Try.prog 9 = true) ∧ (fOff Try.prog 103 0 = some 0) ∧ (ldK Try.prog 101 = some none) ∧ (isFn Try.prog 124 = true) := ⟨pk_20, co_9, fo_103_0, ld_101, fn_124⟩
theorem ow_91 : (fOff Try.prog 103 0 = some 0) ∧ (ldK Try.prog 101 = some none) ∧ (isFn Try.prog 125 = true) ∧ (szK Try.prog 114 = some 16) := ⟨fo_103_0, ld_101, fn_125, sz_114⟩
theorem ow_92 : (slK Try.prog 45 = some 3) ∧ (ptK Try.prog 3 = false) ∧ (arK Try.prog 45 = none) ∧ (ldK Try.prog 72 = some (some 3)) ∧ (szK Try.prog 72 = some 3) ∧ (fOff Try.prog 72 0 = some 0) ∧ (ldK Try.prog 3 = some none) ∧ (isFn Try.prog 126 = true) ∧ (isFn Try.prog 127 = true) ∧ (isFn Try.prog 128 = true) ∧ (fOff Try.prog 72 1 = some 1) ∧ (ldK Try.prog 33 = some (some 2)) ∧ (coK Try.prog 33 = true) ∧ (isFn Try.prog 129 = true) ∧ (isFn Try.prog 130 = true) ∧ (isFn Try.prog 131 = true) ∧ (isFn Try.prog 132 = true) ∧ (isFn Try.prog 54 = true) ∧ (noInt Try.prog 38 = true) := ⟨sl_45, pk_3, ar_45, ld_72, sz_72, fo_72_0, ld_3, fn_126, fn_127, fn_128, fo_72_1, ld_33, co_33, fn_129, fn_130, fn_131, fn_132, fn_54, ni_38⟩
theorem ow_93 : (fOff Try.prog 114 0 = some 0) ∧ (isFn Try.prog 133 = true) := ⟨fo_114_0, fn_133⟩
theorem ow_94 : (ldK Try.prog 33 = some (some 2)) ∧ (isFn Try.prog 79 = true) ∧ (slK Try.prog 25 = some 2) ∧ (noInt Try.prog 25 = true) ∧ (ptK Try.prog 3 = false) ∧ (arK Try.prog 25 = none) ∧ (szK Try.prog 43 = some 3) := ⟨ld_33, fn_79, sl_25, ni_25, pk_3, ar_25, sz_43⟩
theorem ow_95 : (isFn Try.prog 134 = true) := fn_134
theorem ow_96 : (ldK Try.prog 33 = some (some 2)) ∧ (isFn Try.prog 79 = true) ∧ (szK Try.prog 43 = some 3) ∧ (isFn Try.prog 110 = true) := ⟨ld_33, fn_79, sz_43, fn_110⟩
theorem ow_97 : (isFn Try.prog 135 = true) := fn_135
theorem ow_98 : (isFn Try.prog 136 = true) := fn_136
theorem ow_100 : (ldK Try.prog 121 = some none) ∧ (coK Try.prog 33 = true) := ⟨ld_121, co_33⟩
theorem ow_101 : (isFn Try.prog 138 = true) := fn_138
theorem ow_102 : (isFn Try.prog 139 = true) := fn_139
theorem ow_103 : (isFn Try.prog 136 = true) := fn_136
theorem ow_104 : (isFn Try.prog 139 = true) := fn_139
theorem ow_105 : (isFn Try.prog 135 = true) := fn_135
theorem ow_106 : (isFn Try.prog 136 = true) := fn_136
theorem ow_107 : (isFn Try.prog 138 = true) := fn_138
theorem ow_108 : (isFn Try.prog 139 = true) := fn_139
theorem ow_109 : (fOff Try.prog 103 0 = some 0) ∧ (ldK Try.prog 101 = some none) ∧ (isFn Try.prog 140 = true) := ⟨fo_103_0, ld_101, fn_140⟩
theorem ow_110 : (ptK Try.prog 3 = false) ∧ (slK Try.prog 25 = some 2) ∧ (szK Try.prog 43 = some 3) ∧ (noInt Try.prog 25 = true) ∧ (arK Try.prog 25 = none) ∧ (ldK Try.prog 33 = some (some 2)) := ⟨pk_3, sl_25, sz_43, ni_25, ar_25, ld_33⟩
theorem ow_111 : (isFn Try.prog 141 = true) := fn_141
theorem ow_112 : (ptK Try.prog 20 = false) ∧ (fOff Try.prog 103 0 = some 0) ∧ (ldK Try.prog 101 = some none) ∧ (isFn Try.prog 142 = true) ∧ (isFn Try.prog 143 = true) := ⟨pk_20, fo_103_0, ld_101, fn_142, fn_143⟩
theorem ow_113 : (isFn Try.prog 139 = true) := fn_139
theorem ow_114 : (isFn Try.prog 144 = true) ∧ (szK Try.prog 22 = some 1) := ⟨fn_144, sz_22⟩
theorem ow_115 : (ldK Try.prog 127 = some none) ∧ (coK Try.prog 33 = true) := ⟨ld_127, co_33⟩
theorem ow_116 : (isFn Try.prog 117 = true) := fn_117
theorem ow_117 : (fOff Try.prog 136 1 = some 1) ∧ (szK Try.prog 134 = some 1) ∧ (ldK Try.prog 134 = some none) ∧ (isFn Try.prog 147 = true) ∧ (fOff Try.prog 136 0 = some 0) ∧ (szK Try.prog 133 = some 1) ∧ (fOff Try.prog 136 6 = some 6) ∧ (szK Try.prog 92 = some 1) ∧ (fOff Try.prog 97 0 = some 0) ∧ (ldK Try.prog 3 = some none) ∧ (isFn Try.prog 148 = true) := ⟨fo_136_1, sz_134, ld_134, fn_147, fo_136_0, sz_133, fo_136_6, sz_92, fo_97_0, ld_3, fn_148⟩
theorem ow_120 : (fOff Try.prog 136 2 = some 2) ∧ (ldK Try.prog 106 = some none) ∧ (ptK Try.prog 106 = true) ∧ (isFn Try.prog 148 = true) ∧ (isFn Try.prog 149 = true) ∧ (szK Try.prog 106 = some 1) ∧ (noInt Try.prog 140 = true) ∧ (fOff Try.prog 143 2 = some 2) ∧ (szK Try.prog 140 = some 1) ∧ (fOff Try.prog 143 1 = some 1) ∧ (szK Try.prog 3 = some 1) ∧ (fOff Try.prog 136 3 = some 3) ∧ (fOff Try.prog 136 7 = some 7) ∧ (ldK Try.prog 20 = some none) ∧ (isFn Try.prog 150 = true) ∧ (isFn Try.prog 121 = true) ∧ (isFn Try.prog 151 = true) ∧ (fOff Try.prog 143 3 = some 3) ∧ (ldK Try.prog 141 = some none) ∧ (fOff Try.prog 136 8 = some 8) ∧ (ldK Try.prog 3 = some none) ∧ (ptK Try.prog 3 = false) ∧ (szK Try.prog 144 = some 1) ∧ (noInt Try.prog 144 = true) ∧ (isFn Try.prog 152 = true) ∧ (isFn Try.prog 120 = true) := ⟨fo_136_2, ld_106, pk_106, fn_148, fn_149, sz_106, ni_140, fo_143_2, sz_140, fo_143_1, sz_3, fo_136_3, fo_136_7, ld_20, fn_150, fn_121, fn_151, fo_143_3, ld_141, fo_136_8, ld_3, pk_3, sz_144, ni_144, fn_152, fn_120⟩
theorem ow_121 : (ldK Try.prog 106 = some none) ∧ (fOff Try.prog 143 0 = some 0) ∧ (ldK Try.prog 133 = some none) ∧ (fOff Try.prog 136 0 = some 0) ∧ (ptK Try.prog 133 = false) ∧ (isFn Try.prog 153 = true) ∧ (szK Try.prog 106 = some 1) := ⟨ld_106, fo_143_0, ld_133, fo_136_0, pk_133, fn_153, sz_106⟩
theorem ow_122 : (fOff Try.prog 143 3 = some 3) ∧ (ldK Try.prog 141 = some none) ∧ (ptK Try.prog 141 = true) := ⟨fo_143_3, ld_141, pk_141⟩
theorem ow_123 : (fOff Try.prog 136 6 = some 6) ∧ (ldK Try.prog 92 = some none) := ⟨fo_136_6, ld_92⟩
theorem ow_124 : (isFn Try.prog 120 = true) := fn_120
theorem ow_125 : (isFn Try.prog 154 = true) ∧ (szK Try.prog 112 = some 16) := ⟨fn_154, sz_112⟩
theorem ow_126 : (fOff Try.prog 114 0 = some 0) ∧ (isFn Try.prog 155 = true) := ⟨fo_114_0, fn_155⟩
theorem ow_127 : (fOff Try.prog 114 0 = some 0) ∧ (isFn Try.prog 156 = true) := ⟨fo_114_0, fn_156⟩
theorem ow_128 : (fOff Try.prog 114 0 = some 0) ∧ (isFn Try.prog 157 = true) := ⟨fo_114_0, fn_157⟩
theorem ow_129 : (fOff Try.prog 114 0 = some 0) ∧ (isFn Try.prog 158 = true) := ⟨fo_114_0, fn_158⟩
theorem ow_130 : (fOff Try.prog 114 0 = some 0) ∧ (isFn Try.prog 159 = true) := ⟨fo_114_0, fn_159⟩
theorem ow_131 : (fOff Try.prog 114 0 = some 0) ∧ (isFn Try.prog 160 = true) := ⟨fo_114_0, fn_160⟩
theorem ow_132 : (fOff Try.prog 114 0 = some 0) ∧ (isFn Try.prog 161 = true) := ⟨fo_114_0, fn_161⟩
theorem ow_133 : (fOff Try.prog 112 0 = some 0) ∧ (ldK Try.prog 101 = some none) ∧ (ptK Try.prog 101 = true) ∧ (fOff Try.prog 112 2 = some 2) ∧ (ldK Try.prog 4 = some none) ∧ (fOff Try.prog 112 1 = some 1) ∧ (isFn Try.prog 119 = true) ∧ (szK Try.prog 4 = some 1) ∧ (fOff Try.prog 112 7 = some 14) ∧ (ldK Try.prog 110 = some none) ∧ (slK Try.prog 110 = some 2) ∧ (szK Try.prog 112 = some 16) ∧ (szK Try.prog 110 = some 1) := ⟨fo_112_0, ld_101, pk_101, fo_112_2, ld_4, fo_112_1, fn_119, sz_4, fo_112_7, ld_110, sl_110, sz_112, sz_110⟩
theorem ow_134 : (ptK Try.prog 20 = false) ∧ (fOff Try.prog 103 0 = some 0) ∧ (ldK Try.prog 101 = some none) ∧ (isFn Try.prog 162 = true) := ⟨pk_20, fo_103_0, ld_101, fn_162⟩
theorem ow_135 : (isFn Try.prog 118 = true) ∧ (fOff Try.prog 136 2 = some 2) ∧ (ldK Try.prog 106 = some none) ∧ (ptK Try.prog 106 = true) ∧ (isFn Try.prog 163 = true) := ⟨fn_118, fo_136_2, ld_106, pk_106, fn_163⟩
theorem ow_136 : (isFn Try.prog 118 = true) ∧ (fOff Try.prog 136 2 = some 2) ∧ (ldK Try.prog 106 = some none) ∧ (ptK Try.prog 106 = true) ∧ (isFn Try.prog 164 = true) := ⟨fn_118, fo_136_2, ld_106, pk_106, fn_164⟩
theorem ow_137 : (ldK Try.prog 78 = some none) ∧ (ldK Try.prog 25 = some none) ∧ (ldK Try.prog 33 = some (some 2)) ∧ (noInt Try.prog 25 = true) ∧ (szK Try.prog 25 = some 1) ∧ (ldK Try.prog 3 = some none) ∧ (ptK Try.prog 3 = false) ∧ (slK Try.prog 25 = some 2) := ⟨ld_78, ld_25, ld_33, ni_25, sz_25, ld_3, pk_3, sl_25⟩
theorem ow_138 : (isFn Try.prog 118 = true) ∧ (fOff Try.prog 136 2 = some 2) ∧ (ldK Try.prog 106 = some none) ∧ (ptK Try.prog 106 = true) ∧ (isFn Try.prog 165 = true) := ⟨fn_118, fo_136_2, ld_106, pk_106, fn_165⟩
theorem ow_139 : (isFn Try.prog 118 = true) ∧ (fOff Try.prog 136 2 = some 2) ∧ (ldK Try.prog 106 = some none) ∧ (ptK Try.prog 106 = true) ∧ (isFn Try.prog 166 = true) := ⟨fn_118, fo_136_2, ld_106, pk_106, fn_166⟩
theorem ow_140 : (isFn Try.prog 118 = true) ∧ (fOff Try.prog 136 2 = some 2) ∧ (ldK Try.prog 106 = some none) ∧ (ptK Try.prog 106 = true) ∧ (ptK Try.prog 3 = false) ∧ (fOff Try.prog 136 3 = some 3) ∧ (ldK Try.prog 3 = some none) ∧ (fOff Try.prog 136 7 = some 7) ∧ (ldK Try.prog 20 = some none) ∧ (slK Try.prog 83 = none) ∧ (isFn Try.prog 121 = true) ∧ (fOff Try.prog 143 1 = some 1) ∧ (szK Try.prog 3 = some 1) ∧ (isFn Try.prog 122 = true) ∧ (fOff Try.prog 143 2 = some 2) ∧ (ldK Try.prog 140 = some none) ∧ (slK Try.prog 140 = some 1) ∧ (arK Try.prog 140 = none) ∧ (fOff Try.prog 136 9 = some 9) ∧ (cvK Try.prog 3 5 = some .u8) ∧ (noInt Try.prog 164 = true) ∧ (szK Try.prog 20 = some 1) ∧ (szK Try.prog 140 = some 1) ∧ (szK Try.prog 106 = some 1) ∧ (fOff Try.prog 143 3 = some 3) ∧ (ldK Try.prog 141 = some none) ∧ (ldK Try.prog 144 = some none) ∧ (slK Try.prog 144 = some 1) ∧ (arK Try.prog 144 = none) ∧ (slK Try.prog 164 = some 1) ∧ (arK Try.prog 164 = none) ∧ (ldK Try.prog 5 = some none) ∧ (fOff Try.prog 85 1 = some 8) ∧ (arK Try.prog 83 = some (8, 1)) ∧ (szK Try.prog 5 = some 1) ∧ (fOff Try.prog 85 0 = some 0) ∧ (slK Try.prog 82 = none) ∧ (arK Try.prog 82 = some (8, 1)) ∧ (szK Try.prog 4 = some 1) ∧ (isFn Try.prog 167 = true) := ⟨fn_118, fo_136_2, ld_106, pk_106, pk_3, fo_136_3, ld_3, fo_136_7, ld_20, sl_83, fn_121, fo_143_1, sz_3, fn_122, fo_143_2, ld_140, sl_140, ar_140, fo_136_9, cv_3_5, ni_164, sz_20, sz_140, sz_106, fo_143_3, ld_141, ld_144, sl_144, ar_144, sl_164, ar_164, ld_5, fo_85_1, ar_83, sz_5, fo_85_0, sl_82, ar_82, sz_4, fn_167⟩
theorem ow_141 : (isFn Try.prog 118 = true) ∧ (fOff Try.prog 136 2 = some 2) ∧ (ldK Try.prog 106 = some none) ∧ (ptK Try.prog 106 = true) ∧ (fOff Try.prog 136 7 = some 7) ∧ (ldK Try.prog 20 = some none) ∧ (isFn Try.prog 121 = true) ∧ (isFn Try.prog 122 = true) ∧ (fOff Try.prog 143 2 = some 2) ∧ (ldK Try.prog 140 = some none) ∧ (slK Try.prog 140 = some 1) ∧ (ptK Try.prog 3 = false) ∧ (arK Try.prog 140 = none) ∧ (fOff Try.prog 143 3 = some 3) ∧ (ldK Try.prog 141 = some none) ∧ (ldK Try.prog 144 = some none) ∧ (slK Try.prog 144 = some 1) ∧ (arK Try.prog 144 = none) := ⟨fn_118, fo_136_2, ld_106, pk_106, fo_136_7, ld_20, fn_121, fn_122, fo_143_2, ld_140, sl_140, pk_3, ar_140, fo_143_3, ld_141, ld_144, sl_144, ar_144⟩
theorem ow_142 : (isFn Try.prog 168 = true) := fn_168
theorem ow_143 : (isFn Try.prog 168 = true) := fn_168
theorem ow_144 : (ptK Try.prog 22 = false) ∧ (noInt Try.prog 22 = true) := ⟨pk_22, ni_22⟩
theorem ow_145 : (ldK Try.prog 22 = some none) ∧ (fOff Try.prog 33 0 = some 0) ∧ (ldK Try.prog 3 = some none) ∧ (isFn Try.prog 146 = true) ∧ (ptK Try.prog 3 = false) := ⟨ld_22, fo_33_0, ld_3, fn_146, pk_3⟩
theorem ow_146 : (slK Try.prog 22 = some 1) ∧ (ptK Try.prog 3 = false) ∧ (isFn Try.prog 169 = true) ∧ (arK Try.prog 22 = none) ∧ (ldK Try.prog 3 = some none) := ⟨sl_22, pk_3, fn_169, ar_22, ld_3⟩
theorem ow_147 : (ldK Try.prog 133 = some none) ∧ (ptK Try.prog 133 = false) ∧ (szK Try.prog 133 = some 1) := ⟨ld_133, pk_133, sz_133⟩
theorem ow_148 : (fOff Try.prog 136 9 = some 9) ∧ (ldK Try.prog 3 = some none) ∧ (ptK Try.prog 3 = false) ∧ (isFn Try.prog 170 = true) ∧ (szK Try.prog 3 = some 1) ∧ (fOff Try.prog 136 8 = some 8) ∧ (fOff Try.prog 136 7 = some 7) ∧ (ldK Try.prog 20 = some none) ∧ (coK Try.prog 170 = false) ∧ (fOff Try.prog 136 4 = some 4) ∧ (szK Try.prog 4 = some 1) ∧ (ldK Try.prog 4 = some none) ∧ (coK Try.prog 173 = false) ∧ (fOff Try.prog 136 5 = some 5) := ⟨fo_136_9, ld_3, pk_3, fn_170, sz_3, fo_136_8, fo_136_7, ld_20, co_170, fo_136_4, sz_4, ld_4, co_173, fo_136_5⟩
theorem ow_149 : (fOff Try.prog 136 0 = some 0) ∧ (ldK Try.prog 133 = some none) ∧ (fOff Try.prog 143 3 = some 3) ∧ (szK Try.prog 141 = some 1) := ⟨fo_136_0, ld_133, fo_143_3, sz_141⟩
theorem ow_150 : (ldK Try.prog 106 = some none) ∧ (fOff Try.prog 143 0 = some 0) ∧ (ldK Try.prog 133 = some none) ∧ (fOff Try.prog 136 0 = some 0) ∧ (ptK Try.prog 133 = false) ∧ (isFn Try.prog 153 = true) ∧ (szK Try.prog 106 = some 1) ∧ (ptK Try.prog 81 = true) ∧ (isFn Try.prog 171 = true) ∧ (isFn Try.prog 172 = true) ∧ (fOff Try.prog 143 2 = some 2) ∧ (ldK Try.prog 140 = some none) ∧ (slK Try.prog 140 = some 1) ∧ (arK Try.prog 140 = none) ∧ (ldK Try.prog 20 = some none) ∧ (szK Try.prog 20 = some 1) ∧ (isFn Try.prog 122 = true) ∧ (fOff Try.prog 136 8 = some 8) ∧ (ldK Try.prog 3 = some none) ∧ (ptK Try.prog 3 = false) ∧ (fOff Try.prog 136 7 = some 7) ∧ (noInt Try.prog 140 = true) ∧ (szK Try.prog 140 = some 1) ∧ (fOff Try.prog 143 1 = some 1) ∧ (szK Try.prog 3 = some 1) ∧ (fOff Try.prog 143 3 = some 3) ∧ (ldK Try.prog 141 = some none) ∧ (ldK Try.prog 144 = some none) ∧ (slK Try.prog 144 = some 1) ∧ (arK Try.prog 144 = none) ∧ (isFn Try.prog 150 = true) ∧ (isFn Try.prog 151 = true) ∧ (noInt Try.prog 144 = true) ∧ (szK Try.prog 144 = some 1) := ⟨ld_106, fo_143_0, ld_133, fo_136_0, pk_133, fn_153, sz_106, pk_81, fn_171, fn_172, fo_143_2, ld_140, sl_140, ar_140, ld_20, sz_20, fn_122, fo_136_8, ld_3, pk_3, fo_136_7, ni_140, sz_140, fo_143_1, sz_3, fo_143_3, ld_141, ld_144, sl_144, ar_144, fn_150, fn_151, ni_144, sz_144⟩
theorem ow_151 : (fOff Try.prog 136 8 = some 8) ∧ (ldK Try.prog 3 = some none) ∧ (ptK Try.prog 3 = false) ∧ (fOff Try.prog 143 2 = some 2) ∧ (ldK Try.prog 140 = some none) ∧ (slK Try.prog 140 = some 1) ∧ (arK Try.prog 140 = none) ∧ (ldK Try.prog 20 = some none) ∧ (isFn Try.prog 122 = true) ∧ (isFn Try.prog 149 = true) ∧ (szK Try.prog 140 = some 1) ∧ (fOff Try.prog 143 3 = some 3) ∧ (ldK Try.prog 141 = some none) ∧ (ldK Try.prog 144 = some none) ∧ (slK Try.prog 144 = some 1) ∧ (szK Try.prog 144 = some 1) ∧ (isFn Try.prog 152 = true) ∧ (fOff Try.prog 136 7 = some 7) ∧ (szK Try.prog 20 = some 1) := ⟨fo_136_8, ld_3, pk_3, fo_143_2, ld_140, sl_140, ar_140, ld_20, fn_122, fn_149, sz_140, fo_143_3, ld_141, ld_144, sl_144, sz_144, fn_152, fo_136_7, sz_20⟩
theorem ow_152 : (fOff Try.prog 143 2 = some 2) ∧ (ldK Try.prog 140 = some none) ∧ (slK Try.prog 140 = some 1) ∧ (fOff Try.prog 143 1 = some 1) ∧ (szK Try.prog 3 = some 1) ∧ (isFn Try.prog 122 = true) ∧ (fOff Try.prog 143 3 = some 3) ∧ (ldK Try.prog 141 = some none) ∧ (ldK Try.prog 144 = some none) ∧ (slK Try.prog 144 = some 1) ∧ (ptK Try.prog 3 = false) ∧ (ldK Try.prog 3 = some none) ∧ (arK Try.prog 144 = none) ∧ (ldK Try.prog 106 = some none) := ⟨fo_143_2, ld_140, sl_140, fo_143_1, sz_3, fn_122, fo_143_3, ld_141, ld_144, sl_144, pk_3, ld_3, ar_144, ld_106⟩
theorem ow_153 : (fOff Try.prog 136 0 = some 0) ∧ (ldK Try.prog 133 = some none) ∧ (fOff Try.prog 143 0 = some 0) ∧ (szK Try.prog 133 = some 1) ∧ (fOff Try.prog 143 1 = some 1) ∧ (ldK Try.prog 3 = some none) ∧ (szK Try.prog 3 = some 1) ∧ (fOff Try.prog 143 2 = some 2) ∧ (ldK Try.prog 140 = some none) ∧ (slK Try.prog 140 = some 1) ∧ (szK Try.prog 140 = some 1) ∧ (fOff Try.prog 136 4 = some 4) ∧ (ldK Try.prog 4 = some none) ∧ (ptK Try.prog 3 = false) ∧ (arK Try.prog 140 = none) ∧ (ldK Try.prog 20 = some none) ∧ (coK Try.prog 170 = false) ∧ (szK Try.prog 20 = some 1) ∧ (fOff Try.prog 136 5 = some 5) ∧ (coK Try.prog 173 = false) ∧ (isFn Try.prog 122 = true) ∧ (fOff Try.prog 143 3 = some 3) ∧ (szK Try.prog 141 = some 1) ∧ (ldK Try.prog 141 = some none) ∧ (ldK Try.prog 144 = some none) ∧ (slK Try.prog 144 = some 1) ∧ (fOff Try.prog 136 8 = some 8) ∧ (szK Try.prog 144 = some 1) := ⟨fo_136_0, ld_133, fo_143_0, sz_133, fo_143_1, ld_3, sz_3, fo_143_2, ld_140, sl_140, sz_140, fo_136_4, ld_4, pk_3, ar_140, ld_20, co_170, sz_20, fo_136_5, co_173, fn_122, fo_143_3, sz_141, ld_141, ld_144, sl_144, fo_136_8, sz_144⟩
theorem ow_154 : (fOff Try.prog 112 0 = some 0) ∧ (szK Try.prog 101 = some 1) ∧ (fOff Try.prog 112 1 = some 1) ∧ (szK Try.prog 4 = some 1) ∧ (ldK Try.prog 4 = some none) ∧ (isFn Try.prog 118 = true) ∧ (fOff Try.prog 112 2 = some 2) ∧ (fOff Try.prog 112 6 = some 6) ∧ (slK Try.prog 109 = none) ∧ (fOff Try.prog 112 7 = some 14) ∧ (szK Try.prog 110 = some 1) ∧ (ldK Try.prog 112 = some (some 16)) ∧ (szK Try.prog 112 = some 16) := ⟨fo_112_0, sz_101, fo_112_1, sz_4, ld_4, fn_118, fo_112_2, fo_112_6, sl_109, fo_112_7, sz_110, ld_112, sz_112⟩
theorem ow_155 : (fOff Try.prog 112 0 = some 0) ∧ (ldK Try.prog 101 = some none) ∧ (ptK Try.prog 101 = true) ∧ (fOff Try.prog 112 3 = some 3) ∧ (szK Try.prog 4 = some 1) ∧ (fOff Try.prog 112 7 = some 14) ∧ (ldK Try.prog 110 = some none) ∧ (slK Try.prog 110 = some 2) ∧ (szK Try.prog 110 = some 1) ∧ (fOff Try.prog 136 2 = some 2) ∧ (ldK Try.prog 106 = some none) ∧ (ptK Try.prog 106 = true) ∧ (fOff Try.prog 112 1 = some 1) ∧ (ldK Try.prog 4 = some none) ∧ (isFn Try.prog 121 = true) ∧ (fOff Try.prog 143 2 = some 2) ∧ (ldK Try.prog 140 = some none) ∧ (slK Try.prog 140 = some 1) ∧ (noInt Try.prog 110 = true) ∧ (isFn Try.prog 122 = true) ∧ (ptK Try.prog 3 = false) ∧ (arK Try.prog 110 = none) ∧ (fOff Try.prog 108 1 = some 1) ∧ (ldK Try.prog 3 = some none) ∧ (szK Try.prog 3 = some 1) ∧ (fOff Try.prog 143 3 = some 3) ∧ (ldK Try.prog 141 = some none) ∧ (ldK Try.prog 144 = some none) ∧ (slK Try.prog 144 = some 1) ∧ (arK Try.prog 144 = none) ∧ (fOff Try.prog 108 0 = some 0) ∧ (arK Try.prog 140 = none) ∧ (ldK Try.prog 20 = some none) ∧ (fOff Try.prog 112 8 = some 15) ∧ (szK Try.prog 20 = some 1) := ⟨fo_112_0, ld_101, pk_101, fo_112_3, sz_4, fo_112_7, ld_110, sl_110, sz_110, fo_136_2, ld_106, pk_106, fo_112_1, ld_4, fn_121, fo_143_2, ld_140, sl_140, ni_110, fn_122, pk_3, ar_110, fo_108_1, ld_3, sz_3, fo_143_3, ld_141, ld_144, sl_144, ar_144, fo_108_0, ar_140, ld_20, fo_112_8, sz_20⟩
theorem ow_156 : (fOff Try.prog 112 0 = some 0) ∧ (ldK Try.prog 101 = some none) ∧ (ptK Try.prog 101 = true) ∧ (fOff Try.prog 112 3 = some 3) ∧ (ldK Try.prog 4 = some none) ∧ (isFn Try.prog 160 = true) ∧ (fOff Try.prog 112 7 = some 14) ∧ (ldK Try.prog 110 = some none) ∧ (slK Try.prog 110 = some 2) ∧ (ptK Try.prog 3 = false) ∧ (fOff Try.prog 112 4 = some 4) ∧ (isFn Try.prog 156 = true) ∧ (arK Try.prog 110 = none) ∧ (fOff Try.prog 108 1 = some 1) ∧ (ldK Try.prog 3 = some none) ∧ (szK Try.prog 3 = some 1) ∧ (fOff Try.prog 108 0 = some 0) ∧ (ldK Try.prog 106 = some none) ∧ (isFn Try.prog 122 = true) ∧ (fOff Try.prog 143 2 = some 2) ∧ (ldK Try.prog 140 = some none) ∧ (slK Try.prog 140 = some 1) ∧ (szK Try.prog 110 = some 1) ∧ (fOff Try.prog 112 5 = some 5) ∧ (szK Try.prog 4 = some 1) ∧ (fOff Try.prog 143 3 = some 3) ∧ (ldK Try.prog 141 = some none) ∧ (ldK Try.prog 144 = some none) ∧ (slK Try.prog 144 = some 1) ∧ (arK Try.prog 144 = none) ∧ (fOff Try.prog 112 1 = some 1) ∧ (isFn Try.prog 121 = true) ∧ (noInt Try.prog 110 = true) ∧ (arK Try.prog 140 = none) ∧ (ldK Try.prog 20 = some none) ∧ (fOff Try.prog 112 8 = some 15) ∧ (szK Try.prog 20 = some 1) := ⟨fo_112_0, ld_101, pk_101, fo_112_3, ld_4, fn_160, fo_112_7, ld_110, sl_110, pk_3, fo_112_4, fn_156, ar_110, fo_108_1, ld_3, sz_3, fo_108_0, ld_106, fn_122, fo_143_2, ld_140, sl_140, sz_110, fo_112_5, sz_4, fo_143_3, ld_141, ld_144, sl_144, ar_144, fo_112_1, fn_121, ni_110, ar_140, ld_20, fo_112_8, sz_20⟩
theorem ow_157 : (fOff Try.prog 112 0 = some 0) ∧ (ldK Try.prog 101 = some none) ∧ (ptK Try.prog 101 = true) ∧ (fOff Try.prog 112 3 = some 3) ∧ (ldK Try.prog 4 = some none) ∧ (fOff Try.prog 112 7 = some 14) ∧ (ldK Try.prog 110 = some none) ∧ (slK Try.prog 110 = some 2) ∧ (ptK Try.prog 3 = false) ∧ (fOff Try.prog 112 5 = some 5) ∧ (isFn Try.prog 155 = true) ∧ (isFn Try.prog 157 = true) ∧ (arK Try.prog 110 = none) ∧ (fOff Try.prog 108 0 = some 0) ∧ (ldK Try.prog 106 = some none) ∧ (isFn Try.prog 122 = true) ∧ (fOff Try.prog 108 1 = some 1) ∧ (ldK Try.prog 3 = some none) ∧ (szK Try.prog 3 = some 1) ∧ (szK Try.prog 110 = some 1) ∧ (fOff Try.prog 112 4 = some 4) ∧ (szK Try.prog 4 = some 1) ∧ (fOff Try.prog 143 3 = some 3) ∧ (ldK Try.prog 141 = some none) ∧ (ldK Try.prog 144 = some none) ∧ (slK Try.prog 144 = some 1) ∧ (arK Try.prog 144 = none) ∧ (fOff Try.prog 112 1 = some 1) ∧ (isFn Try.prog 121 = true) ∧ (fOff Try.prog 143 2 = some 2) ∧ (ldK Try.prog 140 = some none) ∧ (slK Try.prog 140 = some 1) ∧ (noInt Try.prog 110 = true) ∧ (arK Try.prog 140 = none) ∧ (ldK Try.prog 20 = some none) ∧ (fOff Try.prog 112 8 = some 15) ∧ (szK Try.prog 20 = some 1) := ⟨fo_112_0, ld_101, pk_101, fo_112_3, ld_4, fo_112_7, ld_110, sl_110, pk_3, fo_112_5, fn_155, fn_157, ar_110, fo_108_0, ld_106, fn_122, fo_108_1, ld_3, sz_3, sz_110, fo_112_4, sz_4, fo_143_3, ld_141, ld_144, sl_144, ar_144, fo_112_1, fn_121, fo_143_2, ld_140, sl_140, ni_110, ar_140, ld_20, fo_112_8, sz_20⟩
theorem ow_158 : (isFn Try.prog 173 = true) := fn_173
theorem ow_159 : (isFn Try.prog 173 = true) := fn_173
theorem ow_160 : (fOff Try.prog 112 0 = some 0) ∧ (ldK Try.prog 101 = some none) ∧ (ptK Try.prog 101 = true) ∧ (fOff Try.prog 112 5 = some 5) ∧ (szK Try.prog 4 = some 1) ∧ (fOff Try.prog 112 4 = some 4) ∧ (fOff Try.prog 112 3 = some 3) ∧ (fOff Try.prog 112 7 = some 14) ∧ (ldK Try.prog 110 = some none) ∧ (slK Try.prog 110 = some 2) ∧ (szK Try.prog 110 = some 1) ∧ (fOff Try.prog 136 2 = some 2) ∧ (ldK Try.prog 106 = some none) ∧ (ptK Try.prog 106 = true) ∧ (fOff Try.prog 112 1 = some 1) ∧ (ldK Try.prog 4 = some none) ∧ (isFn Try.prog 121 = true) ∧ (noInt Try.prog 110 = true) ∧ (isFn Try.prog 122 = true) ∧ (fOff Try.prog 143 3 = some 3) ∧ (ldK Try.prog 141 = some none) ∧ (ldK Try.prog 144 = some none) ∧ (slK Try.prog 144 = some 1) ∧ (arK Try.prog 144 = none) ∧ (ptK Try.prog 3 = false) ∧ (arK Try.prog 110 = none) ∧ (fOff Try.prog 108 0 = some 0) ∧ (fOff Try.prog 143 2 = some 2) ∧ (ldK Try.prog 140 = some none) ∧ (fOff Try.prog 108 1 = some 1) ∧ (ldK Try.prog 3 = some none) ∧ (slK Try.prog 140 = some 1) ∧ (arK Try.prog 140 = none) ∧ (ldK Try.prog 20 = some none) ∧ (fOff Try.prog 112 8 = some 15) ∧ (szK Try.prog 20 = some 1) := ⟨fo_112_0, ld_101, pk_101, fo_112_5, sz_4, fo_112_4, fo_112_3, fo_112_7, ld_110, sl_110, sz_110, fo_136_2, ld_106, pk_106, fo_112_1, ld_4, fn_121, ni_110, fn_122, fo_143_3, ld_141, ld_144, sl_144, ar_144, pk_3, ar_110, fo_108_0, fo_143_2, ld_140, fo_108_1, ld_3, sl_140, ar_140, ld_20, fo_112_8, sz_20⟩
theorem ow_161 : (fOff Try.prog 112 8 = some 15) ∧ (ldK Try.prog 20 = some none) := ⟨fo_112_8, ld_20⟩
theorem ow_162 : (isFn Try.prog 118 = true) ∧ (isFn Try.prog 167 = true) := ⟨fn_118, fn_167⟩
theorem ow_163 : (isFn Try.prog 121 = true) ∧ (isFn Try.prog 122 = true) ∧ (fOff Try.prog 143 2 = some 2) ∧ (ldK Try.prog 140 = some none) ∧ (slK Try.prog 140 = some 1) ∧ (ptK Try.prog 3 = false) ∧ (arK Try.prog 140 = none) ∧ (ldK Try.prog 20 = some none) ∧ (fOff Try.prog 143 3 = some 3) ∧ (ldK Try.prog 141 = some none) ∧ (ldK Try.prog 144 = some none) ∧ (slK Try.prog 144 = some 1) ∧ (arK Try.prog 144 = none) ∧ (isFn Try.prog 163 = true) := ⟨fn_121, fn_122, fo_143_2, ld_140, sl_140, pk_3, ar_140, ld_20, fo_143_3, ld_141, ld_144, sl_144, ar_144, fn_163⟩
theorem ow_164 : (isFn Try.prog 121 = true) ∧ (isFn Try.prog 174 = true) ∧ (isFn Try.prog 122 = true) ∧ (fOff Try.prog 143 3 = some 3) ∧ (ldK Try.prog 141 = some none) ∧ (ldK Try.prog 144 = some none) ∧ (slK Try.prog 144 = some 1) ∧ (arK Try.prog 144 = none) ∧ (ptK Try.prog 3 = false) ∧ (isFn Try.prog 164 = true) ∧ (fOff Try.prog 143 2 = some 2) ∧ (ldK Try.prog 140 = some none) ∧ (slK Try.prog 140 = some 1) ∧ (arK Try.prog 140 = none) ∧ (ldK Try.prog 20 = some none) ∧ (isFn Try.prog 163 = true) := ⟨fn_121, fn_174, fn_122, fo_143_3, ld_141, ld_144, sl_144, ar_144, pk_3, fn_164, fo_143_2, ld_140, sl_140, ar_140, ld_20, fn_163⟩
theorem ow_165 : (isFn Try.prog 121 = true) ∧ (isFn Try.prog 122 = true) ∧ (fOff Try.prog 143 2 = some 2) ∧ (ldK Try.prog 140 = some none) ∧ (slK Try.prog 140 = some 1) ∧ (ptK Try.prog 3 = false) ∧ (arK Try.prog 140 = none) ∧ (ldK Try.prog 20 = some none) ∧ (fOff Try.prog 143 3 = some 3) ∧ (ldK Try.prog 141 = some none) ∧ (ldK Try.prog 144 = some none) ∧ (slK Try.prog 144 = some 1) ∧ (arK Try.prog 144 = none) ∧ (isFn Try.prog 165 = true) := ⟨fn_121, fn_122, fo_143_2, ld_140, sl_140, pk_3, ar_140, ld_20, fo_143_3, ld_141, ld_144, sl_144, ar_144, fn_165⟩
theorem ow_166 : (isFn Try.prog 121 = true) ∧ (isFn Try.prog 174 = true) ∧ (isFn Try.prog 122 = true) ∧ (fOff Try.prog 143 3 = some 3) ∧ (ldK Try.prog 141 = some none) ∧ (ldK Try.prog 144 = some none) ∧ (slK Try.prog 144 = some 1) ∧ (arK Try.prog 144 = none) ∧ (ptK Try.prog 3 = false) ∧ (isFn Try.prog 166 = true) ∧ (fOff Try.prog 143 2 = some 2) ∧ (ldK Try.prog 140 = some none) ∧ (slK Try.prog 140 = some 1) ∧ (arK Try.prog 140 = none) ∧ (ldK Try.prog 20 = some none) ∧ (isFn Try.prog 165 = true) := ⟨fn_121, fn_174, fn_122, fo_143_3, ld_141, ld_144, sl_144, ar_144, pk_3, fn_166, fo_143_2, ld_140, sl_140, ar_140, ld_20, fn_165⟩
theorem ow_167 : (fOff Try.prog 136 2 = some 2) ∧ (ldK Try.prog 106 = some none) ∧ (ptK Try.prog 106 = true) ∧ (fOff Try.prog 136 7 = some 7) ∧ (ldK Try.prog 20 = some none) ∧ (isFn Try.prog 175 = true) ∧ (fOff Try.prog 143 2 = some 2) ∧ (ldK Try.prog 140 = some none) ∧ (slK Try.prog 140 = some 1) ∧ (ptK Try.prog 3 = false) ∧ (isFn Try.prog 122 = true) ∧ (fOff Try.prog 143 3 = some 3) ∧ (ldK Try.prog 141 = some none) ∧ (ldK Try.prog 144 = some none) ∧ (slK Try.prog 144 = some 1) ∧ (arK Try.prog 144 = none) ∧ (szK Try.prog 106 = some 1) ∧ (fOff Try.prog 136 3 = some 3) ∧ (ldK Try.prog 3 = some none) ∧ (szK Try.prog 3 = some 1) := ⟨fo_136_2, ld_106, pk_106, fo_136_7, ld_20, fn_175, fo_143_2, ld_140, sl_140, pk_3, fn_122, fo_143_3, ld_141, ld_144, sl_144, ar_144, sz_106, fo_136_3, ld_3, sz_3⟩
theorem ow_168 : (isFn Try.prog 118 = true) ∧ (fOff Try.prog 136 2 = some 2) ∧ (ldK Try.prog 106 = some none) ∧ (ptK Try.prog 106 = true) ∧ (fOff Try.prog 136 7 = some 7) ∧ (ldK Try.prog 20 = some none) ∧ (isFn Try.prog 121 = true) ∧ (isFn Try.prog 174 = true) ∧ (fOff Try.prog 143 2 = some 2) ∧ (ldK Try.prog 140 = some none) ∧ (slK Try.prog 140 = some 1) ∧ (arK Try.prog 140 = none) ∧ (fOff Try.prog 143 3 = some 3) ∧ (ldK Try.prog 141 = some none) ∧ (ptK Try.prog 141 = true) ∧ (ldK Try.prog 144 = some none) ∧ (slK Try.prog 144 = some 1) ∧ (arK Try.prog 144 = none) ∧ (ptK Try.prog 3 = false) := ⟨fn_118, fo_136_2, ld_106, pk_106, fo_136_7, ld_20, fn_121, fn_174, fo_143_2, ld_140, sl_140, ar_140, fo_143_3, ld_141, pk_141, ld_144, sl_144, ar_144, pk_3⟩
theorem ow_169 : (ptK Try.prog 3 = false) := pk_3
theorem ow_170 : (ptK Try.prog 3 = false) := pk_3
theorem ow_171 : (fOff Try.prog 143 2 = some 2) ∧ (ldK Try.prog 140 = some none) ∧ (slK Try.prog 140 = some 1) ∧ (ptK Try.prog 3 = false) ∧ (cvK Try.prog 3 179 = some .u64) ∧ (ptK Try.prog 179 = false) ∧ (cvK Try.prog 179 3 = some .i64) ∧ (fOff Try.prog 136 6 = some 6) ∧ (ldK Try.prog 92 = some none) ∧ (arK Try.prog 140 = none) ∧ (ldK Try.prog 20 = some none) := ⟨fo_143_2, ld_140, sl_140, pk_3, cv_3_179, pk_179, cv_179_3, fo_136_6, ld_92, ar_140, ld_20⟩
theorem ow_172 : (fOff Try.prog 143 2 = some 2) ∧ (ldK Try.prog 140 = some none) ∧ (slK Try.prog 140 = some 1) ∧ (ptK Try.prog 3 = false) ∧ (fOff Try.prog 85 0 = some 0) ∧ (slK Try.prog 82 = none) ∧ (arK Try.prog 82 = some (8, 1)) ∧ (ldK Try.prog 4 = some none) ∧ (fOff Try.prog 85 1 = some 8) ∧ (slK Try.prog 83 = none) ∧ (arK Try.prog 83 = some (8, 1)) ∧ (ldK Try.prog 5 = some none) ∧ (cvK Try.prog 5 3 = some .i64) ∧ (arK Try.prog 140 = none) ∧ (ldK Try.prog 20 = some none) ∧ (isFn Try.prog 123 = true) ∧ (szK Try.prog 4 = some 1) ∧ (isFn Try.prog 122 = true) ∧ (cvK Try.prog 3 5 = some .u8) ∧ (ptK Try.prog 5 = false) ∧ (szK Try.prog 5 = some 1) := ⟨fo_143_2, ld_140, sl_140, pk_3, fo_85_0, sl_82, ar_82, ld_4, fo_85_1, sl_83, ar_83, ld_5, cv_5_3, ar_140, ld_20, fn_123, sz_4, fn_122, cv_3_5, pk_5, sz_5⟩
theorem ow_173 : (fOff Try.prog 112 0 = some 0) ∧ (ldK Try.prog 101 = some none) ∧ (ptK Try.prog 101 = true) ∧ (fOff Try.prog 112 3 = some 3) ∧ (szK Try.prog 4 = some 1) ∧ (fOff Try.prog 112 7 = some 14) ∧ (ldK Try.prog 110 = some none) ∧ (slK Try.prog 110 = some 2) ∧ (szK Try.prog 110 = some 1) ∧ (fOff Try.prog 136 2 = some 2) ∧ (ldK Try.prog 106 = some none) ∧ (ptK Try.prog 106 = true) ∧ (fOff Try.prog 112 1 = some 1) ∧ (ldK Try.prog 4 = some none) ∧ (isFn Try.prog 121 = true) ∧ (isFn Try.prog 174 = true) ∧ (noInt Try.prog 110 = true) ∧ (fOff Try.prog 143 2 = some 2) ∧ (ldK Try.prog 140 = some none) ∧ (slK Try.prog 140 = some 1) ∧ (arK Try.prog 140 = none) ∧ (ldK Try.prog 20 = some none) ∧ (fOff Try.prog 112 8 = some 15) ∧ (szK Try.prog 20 = some 1) ∧ (isFn Try.prog 122 = true) ∧ (ptK Try.prog 3 = false) ∧ (arK Try.prog 110 = none) ∧ (fOff Try.prog 108 1 = some 1) ∧ (ldK Try.prog 3 = some none) ∧ (szK Try.prog 3 = some 1) ∧ (isFn Try.prog 156 = true) ∧ (fOff Try.prog 143 3 = some 3) ∧ (ldK Try.prog 141 = some none) ∧ (ldK Try.prog 144 = some none) ∧ (slK Try.prog 144 = some 1) ∧ (arK Try.prog 144 = none) := ⟨fo_112_0, ld_101, pk_101, fo_112_3, sz_4, fo_112_7, ld_110, sl_110, sz_110, fo_136_2, ld_106, pk_106, fo_112_1, ld_4, fn_121, fn_174, ni_110, fo_143_2, ld_140, sl_140, ar_140, ld_20, fo_112_8, sz_20, fn_122, pk_3, ar_110, fo_108_1, ld_3, sz_3, fn_156, fo_143_3, ld_141, ld_144, sl_144, ar_144⟩
theorem ow_174 : (ptK Try.prog 81 = true) ∧ (isFn Try.prog 171 = true) ∧ (isFn Try.prog 172 = true) := ⟨pk_81, fn_171, fn_172⟩
theorem ow_175 : (isFn Try.prog 121 = true) ∧ (fOff Try.prog 143 2 = some 2) ∧ (ldK Try.prog 140 = some none) ∧ (slK Try.prog 140 = some 1) ∧ (ptK Try.prog 3 = false) ∧ (isFn Try.prog 174 = true) ∧ (isFn Try.prog 122 = true) ∧ (arK Try.prog 140 = none) ∧ (ldK Try.prog 20 = some none) ∧ (fOff Try.prog 136 7 = some 7) ∧ (szK Try.prog 20 = some 1) ∧ (szK Try.prog 140 = some 1) ∧ (fOff Try.prog 143 1 = some 1) ∧ (ldK Try.prog 3 = some none) ∧ (szK Try.prog 3 = some 1) ∧ (fOff Try.prog 143 3 = some 3) ∧ (ldK Try.prog 141 = some none) ∧ (ldK Try.prog 144 = some none) ∧ (slK Try.prog 144 = some 1) ∧ (arK Try.prog 144 = none) ∧ (isFn Try.prog 175 = true) ∧ (ldK Try.prog 106 = some none) ∧ (fOff Try.prog 136 9 = some 9) ∧ (isFn Try.prog 176 = true) := ⟨fn_121, fo_143_2, ld_140, sl_140, pk_3, fn_174, fn_122, ar_140, ld_20, fo_136_7, sz_20, sz_140, fo_143_1, ld_3, sz_3, fo_143_3, ld_141, ld_144, sl_144, ar_144, fn_175, ld_106, fo_136_9, fn_176⟩
theorem ow_176 : (fOff Try.prog 143 2 = some 2) ∧ (ldK Try.prog 140 = some none) ∧ (slK Try.prog 140 = some 1) ∧ (ptK Try.prog 3 = false) ∧ (fOff Try.prog 143 3 = some 3) ∧ (ldK Try.prog 141 = some none) ∧ (ldK Try.prog 144 = some none) ∧ (slK Try.prog 144 = some 1) ∧ (arK Try.prog 144 = none) ∧ (isFn Try.prog 121 = true) ∧ (fOff Try.prog 136 8 = some 8) ∧ (ldK Try.prog 3 = some none) ∧ (arK Try.prog 140 = none) ∧ (ldK Try.prog 20 = some none) ∧ (noInt Try.prog 140 = true) ∧ (szK Try.prog 140 = some 1) ∧ (isFn Try.prog 122 = true) ∧ (noInt Try.prog 144 = true) ∧ (szK Try.prog 144 = some 1) ∧ (fOff Try.prog 143 1 = some 1) ∧ (szK Try.prog 3 = some 1) ∧ (fOff Try.prog 136 7 = some 7) ∧ (szK Try.prog 20 = some 1) ∧ (szK Try.prog 106 = some 1) ∧ (ldK Try.prog 106 = some none) := ⟨fo_143_2, ld_140, sl_140, pk_3, fo_143_3, ld_141, ld_144, sl_144, ar_144, fn_121, fo_136_8, ld_3, ar_140, ld_20, ni_140, sz_140, fn_122, ni_144, sz_144, fo_143_1, sz_3, fo_136_7, sz_20, sz_106, ld_106⟩
theorem ow_193 : (fOff Try.prog 103 0 = some 0) ∧ (ldK Try.prog 101 = some none) ∧ (isFn Try.prog 195 = true) := ⟨fo_103_0, ld_101, fn_195⟩
theorem ow_194 : (fOff Try.prog 103 0 = some 0) ∧ (ldK Try.prog 101 = some none) ∧ (isFn Try.prog 196 = true) := ⟨fo_103_0, ld_101, fn_196⟩
theorem ow_195 : (isFn Try.prog 196 = true) := fn_196
theorem ow_196 : (fOff Try.prog 136 1 = some 1) ∧ (ldK Try.prog 134 = some none) ∧ (isFn Try.prog 147 = true) ∧ (fOff Try.prog 136 0 = some 0) ∧ (szK Try.prog 133 = some 1) ∧ (ldK Try.prog 136 = some (some 10)) ∧ (szK Try.prog 136 = some 10) := ⟨fo_136_1, ld_134, fn_147, fo_136_0, sz_133, ld_136, sz_136⟩
end Go.Proofs.Ytanmjbkbdmeckaa
