/- Texts in one. No condition. -/
import Derived.Test.YtbnnkcofnmipoaaZA
import Derived.Test.YtbnnkcofnmipoaaProg
import Derived.KernelRfl
set_option linter.unusedVariables false
set_option linter.unusedSimpArgs false
namespace Go.Proofs.Ytbnnkcofnmipoaa
open Go Go.Proofs
theorem mixed:Try.prog.follows .mixedOrders=true:=by kernel_rfl
theorem ld_24:ldK Try.prog 24=some (some 3):=by kernel_rfl
theorem fn_12:isFn Try.prog 12=true:=by kernel_rfl
theorem sl_25:slK Try.prog 25=some 2:=by kernel_rfl
theorem pk_3:ptK Try.prog 3=false:=by kernel_rfl
theorem fn_13:isFn Try.prog 13=true:=by kernel_rfl
theorem fn_14:isFn Try.prog 14=true:=by kernel_rfl
theorem cv_5_3:cvK Try.prog 5 3=some .i64:=by kernel_rfl
theorem ld_35:ldK Try.prog 35=some (some 3):=by kernel_rfl
theorem sz_35:szK Try.prog 35=some 3:=by kernel_rfl
theorem fo_35_1:fOff Try.prog 35 1=some 2:=by kernel_rfl
theorem ld_4:ldK Try.prog 4=some none:=by kernel_rfl
theorem fo_24_0:fOff Try.prog 24 0=some 0:=by kernel_rfl
theorem ld_22:ldK Try.prog 22=some none:=by kernel_rfl
theorem fn_19:isFn Try.prog 19=true:=by kernel_rfl
theorem fn_20:isFn Try.prog 20=true:=by kernel_rfl
theorem fo_24_1:fOff Try.prog 24 1=some 1:=by kernel_rfl
theorem ld_3:ldK Try.prog 3=some none:=by kernel_rfl
theorem fn_23:isFn Try.prog 23=true:=by kernel_rfl
theorem fn_24:isFn Try.prog 24=true:=by kernel_rfl
theorem ar_25:arK Try.prog 25=none:=by kernel_rfl
theorem ld_33:ldK Try.prog 33=some (some 2):=by kernel_rfl
theorem ld_25:ldK Try.prog 25=some none:=by kernel_rfl
theorem sz_33:szK Try.prog 33=some 2:=by kernel_rfl
theorem fo_33_0:fOff Try.prog 33 0=some 0:=by kernel_rfl
theorem sl_70:slK Try.prog 70=some 1:=by kernel_rfl
theorem ld_71:ldK Try.prog 71=some none:=by kernel_rfl
theorem ni_71:noInt Try.prog 71=true:=by kernel_rfl
theorem sz_71:szK Try.prog 71=some 1:=by kernel_rfl
theorem fn_40:isFn Try.prog 40=true:=by kernel_rfl
theorem sl_72:slK Try.prog 72=some 3:=by kernel_rfl
theorem ar_72:arK Try.prog 72=none:=by kernel_rfl
theorem fo_75_0:fOff Try.prog 75 0=some 0:=by kernel_rfl
theorem ar_70:arK Try.prog 70=none:=by kernel_rfl
theorem sl_22:slK Try.prog 22=some 1:=by kernel_rfl
theorem fn_43:isFn Try.prog 43=true:=by kernel_rfl
theorem fn_45:isFn Try.prog 45=true:=by kernel_rfl
theorem fn_44:isFn Try.prog 44=true:=by kernel_rfl
theorem fn_46:isFn Try.prog 46=true:=by kernel_rfl
theorem ni_25:noInt Try.prog 25=true:=by kernel_rfl
theorem sz_24:szK Try.prog 24=some 3:=by kernel_rfl
theorem fn_55:isFn Try.prog 55=true:=by kernel_rfl
theorem fn_56:isFn Try.prog 56=true:=by kernel_rfl
theorem fn_57:isFn Try.prog 57=true:=by kernel_rfl
theorem fn_58:isFn Try.prog 58=true:=by kernel_rfl
theorem fn_59:isFn Try.prog 59=true:=by kernel_rfl
theorem sz_115:szK Try.prog 115=some 4:=by kernel_rfl
theorem fn_62:isFn Try.prog 62=true:=by kernel_rfl
theorem ni_58:noInt Try.prog 58=true:=by kernel_rfl
theorem fn_65:isFn Try.prog 65=true:=by kernel_rfl
theorem fn_67:isFn Try.prog 67=true:=by kernel_rfl
theorem sl_124:slK Try.prog 124=some 1:=by kernel_rfl
theorem ar_124:arK Try.prog 124=none:=by kernel_rfl
theorem ld_84:ldK Try.prog 84=some none:=by kernel_rfl
theorem fn_68:isFn Try.prog 68=true:=by kernel_rfl
theorem fn_70:isFn Try.prog 70=true:=by kernel_rfl
theorem fn_71:isFn Try.prog 71=true:=by kernel_rfl
theorem ld_58:ldK Try.prog 58=some none:=by kernel_rfl
theorem ni_72:noInt Try.prog 72=true:=by kernel_rfl
theorem fn_75:isFn Try.prog 75=true:=by kernel_rfl
theorem fn_76:isFn Try.prog 76=true:=by kernel_rfl
theorem fn_74:isFn Try.prog 74=true:=by kernel_rfl
theorem fn_77:isFn Try.prog 77=true:=by kernel_rfl
theorem sz_4:szK Try.prog 4=some 1:=by kernel_rfl
theorem fn_90:isFn Try.prog 90=true:=by kernel_rfl
theorem fn_91:isFn Try.prog 91=true:=by kernel_rfl
theorem fn_92:isFn Try.prog 92=true:=by kernel_rfl
theorem fo_156_6:fOff Try.prog 156 6=some 6:=by kernel_rfl
theorem ld_112:ldK Try.prog 112=some none:=by kernel_rfl
theorem sz_112:szK Try.prog 112=some 1:=by kernel_rfl
theorem fo_156_2:fOff Try.prog 156 2=some 2:=by kernel_rfl
theorem ld_96:ldK Try.prog 96=some none:=by kernel_rfl
theorem pk_96:ptK Try.prog 96=true:=by kernel_rfl
theorem fn_96:isFn Try.prog 96=true:=by kernel_rfl
theorem fn_97:isFn Try.prog 97=true:=by kernel_rfl
theorem fo_165_3:fOff Try.prog 165 3=some 3:=by kernel_rfl
theorem ld_163:ldK Try.prog 163=some none:=by kernel_rfl
theorem pk_163:ptK Try.prog 163=true:=by kernel_rfl
theorem fo_165_2:fOff Try.prog 165 2=some 2:=by kernel_rfl
theorem fo_156_9:fOff Try.prog 156 9=some 10:=by kernel_rfl
theorem fo_156_7:fOff Try.prog 156 7=some 7:=by kernel_rfl
theorem sz_25:szK Try.prog 25=some 1:=by kernel_rfl
theorem ld_166:ldK Try.prog 166=some none:=by kernel_rfl
theorem sl_166:slK Try.prog 166=some 1:=by kernel_rfl
theorem ar_166:arK Try.prog 166=none:=by kernel_rfl
theorem sz_96:szK Try.prog 96=some 1:=by kernel_rfl
theorem sz_166:szK Try.prog 166=some 1:=by kernel_rfl
theorem fo_165_1:fOff Try.prog 165 1=some 1:=by kernel_rfl
theorem sz_3:szK Try.prog 3=some 1:=by kernel_rfl
theorem fo_156_3:fOff Try.prog 156 3=some 3:=by kernel_rfl
theorem sl_71:slK Try.prog 71=some 9:=by kernel_rfl
theorem ar_71:arK Try.prog 71=none:=by kernel_rfl
theorem ld_78:ldK Try.prog 78=some (some 9):=by kernel_rfl
theorem sz_78:szK Try.prog 78=some 9:=by kernel_rfl
theorem fo_78_1:fOff Try.prog 78 1=some 1:=by kernel_rfl
theorem fn_104:isFn Try.prog 104=true:=by kernel_rfl
theorem fo_78_0:fOff Try.prog 78 0=some 0:=by kernel_rfl
theorem fo_78_6:fOff Try.prog 78 6=some 8:=by kernel_rfl
theorem fn_105:isFn Try.prog 105=true:=by kernel_rfl
theorem ni_124:noInt Try.prog 124=true:=by kernel_rfl
theorem fn_106:isFn Try.prog 106=true:=by kernel_rfl
theorem fo_35_0:fOff Try.prog 35 0=some 0:=by kernel_rfl
theorem ni_125:noInt Try.prog 125=true:=by kernel_rfl
theorem fn_107:isFn Try.prog 107=true:=by kernel_rfl
theorem sz_58:szK Try.prog 58=some 1:=by kernel_rfl
theorem fn_108:isFn Try.prog 108=true:=by kernel_rfl
theorem fo_156_1:fOff Try.prog 156 1=some 1:=by kernel_rfl
theorem sz_154:szK Try.prog 154=some 1:=by kernel_rfl
theorem ld_154:ldK Try.prog 154=some none:=by kernel_rfl
theorem fn_113:isFn Try.prog 113=true:=by kernel_rfl
theorem fo_156_0:fOff Try.prog 156 0=some 0:=by kernel_rfl
theorem sz_153:szK Try.prog 153=some 1:=by kernel_rfl
theorem fo_138_0:fOff Try.prog 138 0=some 0:=by kernel_rfl
theorem fn_114:isFn Try.prog 114=true:=by kernel_rfl
theorem fn_115:isFn Try.prog 115=true:=by kernel_rfl
theorem sz_22:szK Try.prog 22=some 1:=by kernel_rfl
theorem fo_24_2:fOff Try.prog 24 2=some 2:=by kernel_rfl
theorem sz_138:szK Try.prog 138=some 2:=by kernel_rfl
theorem fn_118:isFn Try.prog 118=true:=by kernel_rfl
theorem fn_122:isFn Try.prog 122=true:=by kernel_rfl
theorem fn_123:isFn Try.prog 123=true:=by kernel_rfl
theorem fn_124:isFn Try.prog 124=true:=by kernel_rfl
theorem fo_156_8:fOff Try.prog 156 8=some 9:=by kernel_rfl
theorem ni_166:noInt Try.prog 166=true:=by kernel_rfl
theorem fn_125:isFn Try.prog 125=true:=by kernel_rfl
theorem fn_126:isFn Try.prog 126=true:=by kernel_rfl
theorem fo_165_0:fOff Try.prog 165 0=some 0:=by kernel_rfl
theorem ld_153:ldK Try.prog 153=some none:=by kernel_rfl
theorem pk_153:ptK Try.prog 153=false:=by kernel_rfl
theorem fn_127:isFn Try.prog 127=true:=by kernel_rfl
theorem pk_111:ptK Try.prog 111=true:=by kernel_rfl
theorem fn_128:isFn Try.prog 128=true:=by kernel_rfl
theorem fn_129:isFn Try.prog 129=true:=by kernel_rfl
theorem fo_78_5:fOff Try.prog 78 5=some 7:=by kernel_rfl
theorem fo_78_2:fOff Try.prog 78 2=some 2:=by kernel_rfl
theorem fn_137:isFn Try.prog 137=true:=by kernel_rfl
theorem fn_138:isFn Try.prog 138=true:=by kernel_rfl
theorem fn_139:isFn Try.prog 139=true:=by kernel_rfl
theorem fn_140:isFn Try.prog 140=true:=by kernel_rfl
theorem fn_141:isFn Try.prog 141=true:=by kernel_rfl
theorem fn_142:isFn Try.prog 142=true:=by kernel_rfl
theorem fo_78_4:fOff Try.prog 78 4=some 6:=by kernel_rfl
theorem fn_143:isFn Try.prog 143=true:=by kernel_rfl
theorem fn_144:isFn Try.prog 144=true:=by kernel_rfl
theorem fn_145:isFn Try.prog 145=true:=by kernel_rfl
theorem fo_78_3:fOff Try.prog 78 3=some 4:=by kernel_rfl
theorem fn_146:isFn Try.prog 146=true:=by kernel_rfl
theorem fn_147:isFn Try.prog 147=true:=by kernel_rfl
theorem fn_149:isFn Try.prog 149=true:=by kernel_rfl
theorem co_33:coK Try.prog 33=true:=by kernel_rfl
theorem co_218:coK Try.prog 218=false:=by kernel_rfl
theorem fo_156_4:fOff Try.prog 156 4=some 4:=by kernel_rfl
theorem co_221:coK Try.prog 221=false:=by kernel_rfl
theorem fo_156_5:fOff Try.prog 156 5=some 5:=by kernel_rfl
theorem pk_22:ptK Try.prog 22=false:=by kernel_rfl
theorem ni_22:noInt Try.prog 22=true:=by kernel_rfl
theorem fn_117:isFn Try.prog 117=true:=by kernel_rfl
theorem ar_22:arK Try.prog 22=none:=by kernel_rfl
theorem sz_163:szK Try.prog 163=some 1:=by kernel_rfl
theorem fn_151:isFn Try.prog 151=true:=by kernel_rfl
theorem cv_3_224:cvK Try.prog 3 224=some .u64:=by kernel_rfl
theorem pk_224:ptK Try.prog 224=false:=by kernel_rfl
theorem cv_224_3:cvK Try.prog 224 3=some .i64:=by kernel_rfl
theorem fo_109_0:fOff Try.prog 109 0=some 0:=by kernel_rfl
theorem sl_106:slK Try.prog 106=none:=by kernel_rfl
theorem ar_106:arK Try.prog 106=some (8,1):=by kernel_rfl
theorem fo_109_1:fOff Try.prog 109 1=some 8:=by kernel_rfl
theorem sl_107:slK Try.prog 107=none:=by kernel_rfl
theorem ar_107:arK Try.prog 107=some (8,1):=by kernel_rfl
theorem ld_5:ldK Try.prog 5=some none:=by kernel_rfl
theorem cv_3_5:cvK Try.prog 3 5=some .u8:=by kernel_rfl
theorem pk_5:ptK Try.prog 5=false:=by kernel_rfl
theorem sz_5:szK Try.prog 5=some 1:=by kernel_rfl
theorem ow_10:(ldK Try.prog 24=some (some 3))/\(isFn Try.prog 12=true)/\(slK Try.prog 25=some 2)/\(ptK Try.prog 3=false)/\(slK Try.prog 70=some 1)/\(isFn Try.prog 13=true)/\(isFn Try.prog 14=true)/\(arK Try.prog 25=none)/\(ldK Try.prog 33=some (some 2))/\(szK Try.prog 33=some 2)/\(ldK Try.prog 71=some none)/\(noInt Try.prog 71=true)/\(szK Try.prog 71=some 1)/\(isFn Try.prog 40=true)/\(slK Try.prog 72=some 3)/\(arK Try.prog 72=none)/\(fOff Try.prog 75 0=some 0)/\(ldK Try.prog 3=some none)/\(arK Try.prog 70=none)/\(ldK Try.prog 4=some none):=⟨ld_24,fn_12,sl_25,pk_3,sl_70,fn_13,fn_14,ar_25,ld_33,sz_33,ld_71,ni_71,sz_71,fn_40,sl_72,ar_72,fo_75_0,ld_3,ar_70,ld_4⟩
theorem ow_12:(fOff Try.prog 24 0=some 0)/\(ldK Try.prog 22=some none)/\(slK Try.prog 22=some 1)/\(ptK Try.prog 3=false):=⟨fo_24_0,ld_22,sl_22,pk_3⟩
theorem ow_13:(fOff Try.prog 24 1=some 1)/\(ldK Try.prog 3=some none)/\(isFn Try.prog 23=true):=⟨fo_24_1,ld_3,fn_23⟩
theorem ow_14:(isFn Try.prog 19=true)/\(isFn Try.prog 20=true)/\(slK Try.prog 25=some 2)/\(isFn Try.prog 24=true)/\(ptK Try.prog 3=false):=⟨fn_19,fn_20,sl_25,fn_24,pk_3⟩
theorem ow_19:(szK Try.prog 24=some 3):=sz_24
theorem ow_23:(ptK Try.prog 3=false):=pk_3
theorem ow_24:(ldK Try.prog 24=some (some 3))/\(isFn Try.prog 43=true)/\(isFn Try.prog 46=true):=⟨ld_24,fn_43,fn_46⟩
theorem ow_39:(ldK Try.prog 24=some (some 3))/\(ldK Try.prog 71=some none)/\(isFn Try.prog 40=true)/\(slK Try.prog 72=some 3)/\(arK Try.prog 72=none)/\(fOff Try.prog 75 0=some 0)/\(ldK Try.prog 3=some none)/\(ptK Try.prog 3=false):=⟨ld_24,ld_71,fn_40,sl_72,ar_72,fo_75_0,ld_3,pk_3⟩
theorem ow_40:(ldK Try.prog 24=some (some 3))/\(isFn Try.prog 67=true)/\(slK Try.prog 124=some 1)/\(ptK Try.prog 3=false)/\(arK Try.prog 124=none)/\(ldK Try.prog 84=some none)/\(isFn Try.prog 68=true)/\(isFn Try.prog 70=true)/\(isFn Try.prog 71=true)/\(ldK Try.prog 58=some none)/\(noInt Try.prog 72=true):=⟨ld_24,fn_67,sl_124,pk_3,ar_124,ld_84,fn_68,fn_70,fn_71,ld_58,ni_72⟩
theorem ow_43:(fOff Try.prog 24 0=some 0)/\(ldK Try.prog 22=some none)/\(isFn Try.prog 75=true)/\(ldK Try.prog 24=some (some 3))/\(isFn Try.prog 76=true)/\(isFn Try.prog 74=true)/\(slK Try.prog 25=some 2)/\(ptK Try.prog 3=false)/\(arK Try.prog 25=none)/\(ldK Try.prog 33=some (some 2))/\(szK Try.prog 33=some 2)/\(isFn Try.prog 55=true):=⟨fo_24_0,ld_22,fn_75,ld_24,fn_76,fn_74,sl_25,pk_3,ar_25,ld_33,sz_33,fn_55⟩
theorem ow_44:(szK Try.prog 35=some 3)/\(ldK Try.prog 33=some (some 2)):=⟨sz_35,ld_33⟩
theorem ow_46:(isFn Try.prog 77=true):=fn_77
theorem ow_55:(ldK Try.prog 33=some (some 2))/\(isFn Try.prog 56=true)/\(szK Try.prog 33=some 2):=⟨ld_33,fn_56,sz_33⟩
theorem ow_56:(ldK Try.prog 33=some (some 2))/\(isFn Try.prog 90=true)/\(szK Try.prog 33=some 2):=⟨ld_33,fn_90,sz_33⟩
theorem ow_67:(ldK Try.prog 24=some (some 3))/\(isFn Try.prog 43=true)/\(slK Try.prog 71=some 9)/\(ptK Try.prog 3=false)/\(arK Try.prog 71=none)/\(ldK Try.prog 78=some (some 9))/\(szK Try.prog 78=some 9)/\(fOff Try.prog 78 1=some 1)/\(ldK Try.prog 3=some none)/\(slK Try.prog 124=some 1)/\(isFn Try.prog 104=true)/\(arK Try.prog 124=none)/\(ldK Try.prog 84=some none)/\(fOff Try.prog 78 0=some 0)/\(fOff Try.prog 78 6=some 8)/\(ldK Try.prog 4=some none)/\(isFn Try.prog 105=true)/\(noInt Try.prog 124=true)/\(isFn Try.prog 106=true)/\(szK Try.prog 35=some 3)/\(fOff Try.prog 35 0=some 0)/\(ldK Try.prog 33=some (some 2))/\(fOff Try.prog 35 1=some 2)/\(isFn Try.prog 71=true)/\(noInt Try.prog 125=true):=⟨ld_24,fn_43,sl_71,pk_3,ar_71,ld_78,sz_78,fo_78_1,ld_3,sl_124,fn_104,ar_124,ld_84,fo_78_0,fo_78_6,ld_4,fn_105,ni_124,fn_106,sz_35,fo_35_0,ld_33,fo_35_1,fn_71,ni_125⟩
theorem ow_68:(isFn Try.prog 107=true):=fn_107
theorem ow_69:(ldK Try.prog 58=some none)/\(noInt Try.prog 25=true)/\(noInt Try.prog 58=true)/\(szK Try.prog 58=some 1):=⟨ld_58,ni_25,ni_58,sz_58⟩
theorem ow_70:(isFn Try.prog 91=true)/\(fOff Try.prog 156 2=some 2)/\(ldK Try.prog 96=some none)/\(ptK Try.prog 96=true)/\(ptK Try.prog 3=false)/\(isFn Try.prog 108=true)/\(fOff Try.prog 165 3=some 3)/\(ldK Try.prog 163=some none)/\(ldK Try.prog 166=some none)/\(slK Try.prog 166=some 1)/\(arK Try.prog 166=none):=⟨fn_91,fo_156_2,ld_96,pk_96,pk_3,fn_108,fo_165_3,ld_163,ld_166,sl_166,ar_166⟩
theorem ow_71:(fOff Try.prog 156 3=some 3)/\(ldK Try.prog 3=some none):=⟨fo_156_3,ld_3⟩
theorem ow_74:(fOff Try.prog 156 1=some 1)/\(szK Try.prog 154=some 1)/\(ldK Try.prog 154=some none)/\(isFn Try.prog 113=true)/\(fOff Try.prog 156 0=some 0)/\(szK Try.prog 153=some 1)/\(fOff Try.prog 156 6=some 6)/\(szK Try.prog 112=some 1)/\(fOff Try.prog 138 0=some 0)/\(ldK Try.prog 3=some none)/\(isFn Try.prog 114=true):=⟨fo_156_1,sz_154,ld_154,fn_113,fo_156_0,sz_153,fo_156_6,sz_112,fo_138_0,ld_3,fn_114⟩
theorem ow_75:(isFn Try.prog 115=true)/\(szK Try.prog 22=some 1):=⟨fn_115,sz_22⟩
theorem ow_76:(fOff Try.prog 24 1=some 1)/\(ldK Try.prog 3=some none)/\(fOff Try.prog 24 2=some 2)/\(ldK Try.prog 4=some none)/\(szK Try.prog 138=some 2):=⟨fo_24_1,ld_3,fo_24_2,ld_4,sz_138⟩
theorem ow_77:(isFn Try.prog 91=true)/\(isFn Try.prog 71=true)/\(fOff Try.prog 156 2=some 2)/\(ldK Try.prog 96=some none)/\(ptK Try.prog 96=true)/\(isFn Try.prog 118=true):=⟨fn_91,fn_71,fo_156_2,ld_96,pk_96,fn_118⟩
theorem ow_90:(fOff Try.prog 156 2=some 2)/\(ldK Try.prog 96=some none)/\(ptK Try.prog 96=true)/\(isFn Try.prog 114=true)/\(isFn Try.prog 122=true)/\(szK Try.prog 96=some 1)/\(ldK Try.prog 33=some (some 2))/\(noInt Try.prog 25=true)/\(fOff Try.prog 165 2=some 2)/\(szK Try.prog 25=some 1)/\(fOff Try.prog 165 1=some 1)/\(szK Try.prog 3=some 1)/\(fOff Try.prog 156 3=some 3)/\(fOff Try.prog 156 7=some 7)/\(szK Try.prog 33=some 2)/\(isFn Try.prog 123=true)/\(isFn Try.prog 96=true)/\(isFn Try.prog 124=true)/\(fOff Try.prog 165 3=some 3)/\(ldK Try.prog 163=some none)/\(fOff Try.prog 156 8=some 9)/\(ldK Try.prog 3=some none)/\(ptK Try.prog 3=false)/\(szK Try.prog 166=some 1)/\(noInt Try.prog 166=true)/\(isFn Try.prog 125=true)/\(isFn Try.prog 90=true):=⟨fo_156_2,ld_96,pk_96,fn_114,fn_122,sz_96,ld_33,ni_25,fo_165_2,sz_25,fo_165_1,sz_3,fo_156_3,fo_156_7,sz_33,fn_123,fn_96,fn_124,fo_165_3,ld_163,fo_156_8,ld_3,pk_3,sz_166,ni_166,fn_125,fn_90⟩
theorem ow_92:(fOff Try.prog 156 2=some 2)/\(ldK Try.prog 96=some none)/\(ptK Try.prog 96=true)/\(fOff Try.prog 156 7=some 7)/\(ldK Try.prog 33=some (some 2))/\(szK Try.prog 33=some 2)/\(isFn Try.prog 126=true)/\(fOff Try.prog 165 2=some 2)/\(ldK Try.prog 25=some none)/\(slK Try.prog 25=some 2)/\(ptK Try.prog 3=false)/\(isFn Try.prog 108=true)/\(fOff Try.prog 165 3=some 3)/\(ldK Try.prog 163=some none)/\(ldK Try.prog 166=some none)/\(slK Try.prog 166=some 1)/\(arK Try.prog 166=none)/\(szK Try.prog 96=some 1)/\(fOff Try.prog 156 3=some 3)/\(ldK Try.prog 3=some none)/\(szK Try.prog 3=some 1):=⟨fo_156_2,ld_96,pk_96,fo_156_7,ld_33,sz_33,fn_126,fo_165_2,ld_25,sl_25,pk_3,fn_108,fo_165_3,ld_163,ld_166,sl_166,ar_166,sz_96,fo_156_3,ld_3,sz_3⟩
theorem ow_96:(ldK Try.prog 96=some none)/\(fOff Try.prog 165 0=some 0)/\(ldK Try.prog 153=some none)/\(fOff Try.prog 156 0=some 0)/\(ptK Try.prog 153=false)/\(isFn Try.prog 127=true)/\(szK Try.prog 96=some 1):=⟨ld_96,fo_165_0,ld_153,fo_156_0,pk_153,fn_127,sz_96⟩
theorem ow_97:(ptK Try.prog 111=true)/\(ldK Try.prog 33=some (some 2))/\(isFn Try.prog 128=true)/\(isFn Try.prog 129=true):=⟨pk_111,ld_33,fn_128,fn_129⟩
theorem ow_104:(ptK Try.prog 3=false):=pk_3
theorem ow_106:(fOff Try.prog 78 0=some 0)/\(ldK Try.prog 3=some none)/\(ptK Try.prog 3=false)/\(fOff Try.prog 78 5=some 7)/\(ldK Try.prog 4=some none)/\(fOff Try.prog 78 2=some 2)/\(ldK Try.prog 33=some (some 2))/\(isFn Try.prog 56=true)/\(szK Try.prog 33=some 2)/\(isFn Try.prog 55=true)/\(isFn Try.prog 137=true)/\(isFn Try.prog 138=true)/\(isFn Try.prog 139=true)/\(isFn Try.prog 59=true)/\(isFn Try.prog 58=true)/\(isFn Try.prog 57=true)/\(isFn Try.prog 45=true)/\(isFn Try.prog 140=true)/\(isFn Try.prog 141=true)/\(isFn Try.prog 142=true)/\(fOff Try.prog 78 4=some 6)/\(isFn Try.prog 143=true)/\(isFn Try.prog 144=true)/\(isFn Try.prog 145=true)/\(fOff Try.prog 78 3=some 4)/\(fOff Try.prog 78 6=some 8)/\(isFn Try.prog 65=true)/\(szK Try.prog 115=some 4)/\(isFn Try.prog 62=true)/\(szK Try.prog 35=some 3)/\(isFn Try.prog 46=true)/\(ldK Try.prog 78=some (some 9))/\(isFn Try.prog 146=true)/\(isFn Try.prog 44=true):=⟨fo_78_0,ld_3,pk_3,fo_78_5,ld_4,fo_78_2,ld_33,fn_56,sz_33,fn_55,fn_137,fn_138,fn_139,fn_59,fn_58,fn_57,fn_45,fn_140,fn_141,fn_142,fo_78_4,fn_143,fn_144,fn_145,fo_78_3,fo_78_6,fn_65,sz_115,fn_62,sz_35,fn_46,ld_78,fn_146,fn_44⟩
theorem ow_107:(isFn Try.prog 91=true)/\(fOff Try.prog 156 2=some 2)/\(ldK Try.prog 96=some none)/\(ptK Try.prog 96=true)/\(isFn Try.prog 147=true):=⟨fn_91,fo_156_2,ld_96,pk_96,fn_147⟩
theorem ow_108:(fOff Try.prog 165 3=some 3)/\(ldK Try.prog 163=some none)/\(ptK Try.prog 163=true):=⟨fo_165_3,ld_163,pk_163⟩
theorem ow_113:(ldK Try.prog 153=some none)/\(ptK Try.prog 153=false)/\(szK Try.prog 153=some 1):=⟨ld_153,pk_153,sz_153⟩
theorem ow_114:(fOff Try.prog 156 9=some 10)/\(ldK Try.prog 3=some none)/\(ptK Try.prog 3=false)/\(isFn Try.prog 149=true)/\(szK Try.prog 3=some 1)/\(fOff Try.prog 156 8=some 9)/\(fOff Try.prog 156 7=some 7)/\(ldK Try.prog 33=some (some 2))/\(coK Try.prog 33=true)/\(coK Try.prog 218=false)/\(fOff Try.prog 156 4=some 4)/\(szK Try.prog 4=some 1)/\(ldK Try.prog 4=some none)/\(coK Try.prog 221=false)/\(fOff Try.prog 156 5=some 5):=⟨fo_156_9,ld_3,pk_3,fn_149,sz_3,fo_156_8,fo_156_7,ld_33,co_33,co_218,fo_156_4,sz_4,ld_4,co_221,fo_156_5⟩
theorem ow_115:(ptK Try.prog 22=false)/\(noInt Try.prog 22=true):=⟨pk_22,ni_22⟩
theorem ow_116:(ldK Try.prog 22=some none)/\(fOff Try.prog 33 0=some 0)/\(ldK Try.prog 3=some none)/\(isFn Try.prog 117=true)/\(ptK Try.prog 3=false):=⟨ld_22,fo_33_0,ld_3,fn_117,pk_3⟩
theorem ow_117:(slK Try.prog 22=some 1)/\(ptK Try.prog 3=false)/\(isFn Try.prog 104=true)/\(arK Try.prog 22=none)/\(ldK Try.prog 3=some none):=⟨sl_22,pk_3,fn_104,ar_22,ld_3⟩
theorem ow_118:(isFn Try.prog 96=true)/\(isFn Try.prog 108=true)/\(fOff Try.prog 165 2=some 2)/\(ldK Try.prog 25=some none)/\(noInt Try.prog 25=true)/\(slK Try.prog 25=some 2)/\(ptK Try.prog 3=false)/\(fOff Try.prog 165 3=some 3)/\(ldK Try.prog 163=some none)/\(ldK Try.prog 166=some none)/\(slK Try.prog 166=some 1)/\(arK Try.prog 166=none)/\(isFn Try.prog 118=true)/\(arK Try.prog 25=none)/\(ldK Try.prog 33=some (some 2)):=⟨fn_96,fn_108,fo_165_2,ld_25,ni_25,sl_25,pk_3,fo_165_3,ld_163,ld_166,sl_166,ar_166,fn_118,ar_25,ld_33⟩
theorem ow_122:(fOff Try.prog 156 0=some 0)/\(ldK Try.prog 153=some none)/\(fOff Try.prog 165 3=some 3)/\(szK Try.prog 163=some 1):=⟨fo_156_0,ld_153,fo_165_3,sz_163⟩
theorem ow_123:(ldK Try.prog 96=some none)/\(fOff Try.prog 165 0=some 0)/\(ldK Try.prog 153=some none)/\(fOff Try.prog 156 0=some 0)/\(ptK Try.prog 153=false)/\(isFn Try.prog 127=true)/\(szK Try.prog 96=some 1)/\(ptK Try.prog 111=true)/\(ldK Try.prog 33=some (some 2))/\(isFn Try.prog 128=true)/\(isFn Try.prog 129=true)/\(fOff Try.prog 165 2=some 2)/\(ldK Try.prog 25=some none)/\(slK Try.prog 25=some 2)/\(arK Try.prog 25=none)/\(szK Try.prog 33=some 2)/\(isFn Try.prog 108=true)/\(fOff Try.prog 156 8=some 9)/\(ldK Try.prog 3=some none)/\(ptK Try.prog 3=false)/\(fOff Try.prog 156 7=some 7)/\(noInt Try.prog 25=true)/\(szK Try.prog 25=some 1)/\(fOff Try.prog 165 1=some 1)/\(szK Try.prog 3=some 1)/\(fOff Try.prog 165 3=some 3)/\(ldK Try.prog 163=some none)/\(ldK Try.prog 166=some none)/\(slK Try.prog 166=some 1)/\(arK Try.prog 166=none)/\(isFn Try.prog 123=true)/\(isFn Try.prog 124=true)/\(noInt Try.prog 166=true)/\(szK Try.prog 166=some 1):=⟨ld_96,fo_165_0,ld_153,fo_156_0,pk_153,fn_127,sz_96,pk_111,ld_33,fn_128,fn_129,fo_165_2,ld_25,sl_25,ar_25,sz_33,fn_108,fo_156_8,ld_3,pk_3,fo_156_7,ni_25,sz_25,fo_165_1,sz_3,fo_165_3,ld_163,ld_166,sl_166,ar_166,fn_123,fn_124,ni_166,sz_166⟩
theorem ow_124:(fOff Try.prog 156 8=some 9)/\(ldK Try.prog 3=some none)/\(ptK Try.prog 3=false)/\(fOff Try.prog 165 2=some 2)/\(ldK Try.prog 25=some none)/\(slK Try.prog 25=some 2)/\(arK Try.prog 25=none)/\(ldK Try.prog 33=some (some 2))/\(szK Try.prog 33=some 2)/\(isFn Try.prog 108=true)/\(isFn Try.prog 122=true)/\(szK Try.prog 25=some 1)/\(fOff Try.prog 165 3=some 3)/\(ldK Try.prog 163=some none)/\(ldK Try.prog 166=some none)/\(slK Try.prog 166=some 1)/\(szK Try.prog 166=some 1)/\(isFn Try.prog 125=true)/\(fOff Try.prog 156 7=some 7):=⟨fo_156_8,ld_3,pk_3,fo_165_2,ld_25,sl_25,ar_25,ld_33,sz_33,fn_108,fn_122,sz_25,fo_165_3,ld_163,ld_166,sl_166,sz_166,fn_125,fo_156_7⟩
theorem ow_125:(fOff Try.prog 165 2=some 2)/\(ldK Try.prog 25=some none)/\(slK Try.prog 25=some 2)/\(fOff Try.prog 165 1=some 1)/\(szK Try.prog 3=some 1)/\(isFn Try.prog 108=true)/\(fOff Try.prog 165 3=some 3)/\(ldK Try.prog 163=some none)/\(ldK Try.prog 166=some none)/\(slK Try.prog 166=some 1)/\(ptK Try.prog 3=false)/\(ldK Try.prog 3=some none)/\(arK Try.prog 166=none)/\(ldK Try.prog 96=some none):=⟨fo_165_2,ld_25,sl_25,fo_165_1,sz_3,fn_108,fo_165_3,ld_163,ld_166,sl_166,pk_3,ld_3,ar_166,ld_96⟩
theorem ow_126:(isFn Try.prog 96=true)/\(fOff Try.prog 165 2=some 2)/\(ldK Try.prog 25=some none)/\(slK Try.prog 25=some 2)/\(ptK Try.prog 3=false)/\(ldK Try.prog 33=some (some 2))/\(isFn Try.prog 97=true)/\(isFn Try.prog 108=true)/\(arK Try.prog 25=none)/\(szK Try.prog 33=some 2)/\(fOff Try.prog 156 7=some 7)/\(szK Try.prog 25=some 1)/\(fOff Try.prog 165 1=some 1)/\(ldK Try.prog 3=some none)/\(szK Try.prog 3=some 1)/\(fOff Try.prog 165 3=some 3)/\(ldK Try.prog 163=some none)/\(ldK Try.prog 166=some none)/\(slK Try.prog 166=some 1)/\(arK Try.prog 166=none)/\(isFn Try.prog 126=true)/\(ldK Try.prog 96=some none)/\(fOff Try.prog 156 9=some 10)/\(isFn Try.prog 151=true):=⟨fn_96,fo_165_2,ld_25,sl_25,pk_3,ld_33,fn_97,fn_108,ar_25,sz_33,fo_156_7,sz_25,fo_165_1,ld_3,sz_3,fo_165_3,ld_163,ld_166,sl_166,ar_166,fn_126,ld_96,fo_156_9,fn_151⟩
theorem ow_128:(fOff Try.prog 165 2=some 2)/\(ldK Try.prog 25=some none)/\(slK Try.prog 25=some 2)/\(ptK Try.prog 3=false)/\(cvK Try.prog 3 224=some .u64)/\(ptK Try.prog 224=false)/\(cvK Try.prog 224 3=some .i64)/\(fOff Try.prog 156 6=some 6)/\(ldK Try.prog 112=some none)/\(ldK Try.prog 33=some (some 2))/\(arK Try.prog 25=none):=⟨fo_165_2,ld_25,sl_25,pk_3,cv_3_224,pk_224,cv_224_3,fo_156_6,ld_112,ld_33,ar_25⟩
theorem ow_129:(fOff Try.prog 165 2=some 2)/\(ldK Try.prog 25=some none)/\(slK Try.prog 25=some 2)/\(ptK Try.prog 3=false)/\(fOff Try.prog 109 0=some 0)/\(slK Try.prog 106=none)/\(arK Try.prog 106=some (8,1))/\(ldK Try.prog 4=some none)/\(fOff Try.prog 109 1=some 8)/\(slK Try.prog 107=none)/\(arK Try.prog 107=some (8,1))/\(ldK Try.prog 5=some none)/\(cvK Try.prog 5 3=some .i64)/\(arK Try.prog 25=none)/\(ldK Try.prog 33=some (some 2))/\(isFn Try.prog 138=true)/\(szK Try.prog 4=some 1)/\(isFn Try.prog 108=true)/\(cvK Try.prog 3 5=some .u8)/\(ptK Try.prog 5=false)/\(szK Try.prog 5=some 1):=⟨fo_165_2,ld_25,sl_25,pk_3,fo_109_0,sl_106,ar_106,ld_4,fo_109_1,sl_107,ar_107,ld_5,cv_5_3,ar_25,ld_33,fn_138,sz_4,fn_108,cv_3_5,pk_5,sz_5⟩
theorem ow_138:(fOff Try.prog 156 6=some 6)/\(ldK Try.prog 112=some none)/\(ldK Try.prog 33=some (some 2)):=⟨fo_156_6,ld_112,ld_33⟩
theorem ow_141:(isFn Try.prog 91=true)/\(fOff Try.prog 156 2=some 2)/\(ldK Try.prog 96=some none)/\(ptK Try.prog 96=true)/\(fOff Try.prog 156 7=some 7)/\(ldK Try.prog 33=some (some 2))/\(szK Try.prog 33=some 2)/\(isFn Try.prog 96=true)/\(fOff Try.prog 165 1=some 1)/\(ldK Try.prog 3=some none)/\(ptK Try.prog 3=false)/\(szK Try.prog 3=some 1)/\(isFn Try.prog 108=true)/\(fOff Try.prog 165 2=some 2)/\(ldK Try.prog 25=some none)/\(slK Try.prog 25=some 2)/\(arK Try.prog 25=none)/\(fOff Try.prog 156 9=some 10)/\(szK Try.prog 25=some 1)/\(fOff Try.prog 156 3=some 3)/\(szK Try.prog 96=some 1)/\(fOff Try.prog 165 3=some 3)/\(ldK Try.prog 163=some none)/\(ldK Try.prog 166=some none)/\(slK Try.prog 166=some 1)/\(arK Try.prog 166=none)/\(isFn Try.prog 92=true):=⟨fn_91,fo_156_2,ld_96,pk_96,fo_156_7,ld_33,sz_33,fn_96,fo_165_1,ld_3,pk_3,sz_3,fn_108,fo_165_2,ld_25,sl_25,ar_25,fo_156_9,sz_25,fo_156_3,sz_96,fo_165_3,ld_163,ld_166,sl_166,ar_166,fn_92⟩
theorem ow_142:(isFn Try.prog 91=true)/\(fOff Try.prog 156 2=some 2)/\(ldK Try.prog 96=some none)/\(ptK Try.prog 96=true)/\(fOff Try.prog 156 7=some 7)/\(ldK Try.prog 33=some (some 2))/\(szK Try.prog 33=some 2)/\(isFn Try.prog 96=true)/\(fOff Try.prog 165 1=some 1)/\(ldK Try.prog 3=some none)/\(ptK Try.prog 3=false)/\(szK Try.prog 3=some 1)/\(isFn Try.prog 108=true)/\(fOff Try.prog 165 2=some 2)/\(ldK Try.prog 25=some none)/\(slK Try.prog 25=some 2)/\(arK Try.prog 25=none)/\(fOff Try.prog 156 9=some 10)/\(szK Try.prog 25=some 1)/\(fOff Try.prog 156 3=some 3)/\(szK Try.prog 96=some 1)/\(fOff Try.prog 165 3=some 3)/\(ldK Try.prog 163=some none)/\(ldK Try.prog 166=some none)/\(slK Try.prog 166=some 1)/\(arK Try.prog 166=none)/\(isFn Try.prog 92=true):=⟨fn_91,fo_156_2,ld_96,pk_96,fo_156_7,ld_33,sz_33,fn_96,fo_165_1,ld_3,pk_3,sz_3,fn_108,fo_165_2,ld_25,sl_25,ar_25,fo_156_9,sz_25,fo_156_3,sz_96,fo_165_3,ld_163,ld_166,sl_166,ar_166,fn_92⟩
theorem ow_147:(isFn Try.prog 96=true)/\(isFn Try.prog 108=true)/\(fOff Try.prog 165 2=some 2)/\(ldK Try.prog 25=some none)/\(slK Try.prog 25=some 2)/\(ptK Try.prog 3=false)/\(fOff Try.prog 165 3=some 3)/\(ldK Try.prog 163=some none)/\(ldK Try.prog 166=some none)/\(slK Try.prog 166=some 1)/\(arK Try.prog 166=none)/\(isFn Try.prog 147=true):=⟨fn_96,fn_108,fo_165_2,ld_25,sl_25,pk_3,fo_165_3,ld_163,ld_166,sl_166,ar_166,fn_147⟩
theorem ow_149:(ptK Try.prog 3=false):=pk_3
theorem ow_151:(fOff Try.prog 165 2=some 2)/\(ldK Try.prog 25=some none)/\(slK Try.prog 25=some 2)/\(ptK Try.prog 3=false)/\(fOff Try.prog 165 3=some 3)/\(ldK Try.prog 163=some none)/\(ldK Try.prog 166=some none)/\(slK Try.prog 166=some 1)/\(arK Try.prog 166=none)/\(isFn Try.prog 96=true)/\(fOff Try.prog 156 8=some 9)/\(ldK Try.prog 3=some none)/\(arK Try.prog 25=none)/\(ldK Try.prog 33=some (some 2))/\(noInt Try.prog 25=true)/\(szK Try.prog 25=some 1)/\(isFn Try.prog 108=true)/\(noInt Try.prog 166=true)/\(szK Try.prog 166=some 1)/\(fOff Try.prog 165 1=some 1)/\(szK Try.prog 3=some 1)/\(fOff Try.prog 156 7=some 7)/\(szK Try.prog 33=some 2)/\(szK Try.prog 96=some 1)/\(ldK Try.prog 96=some none):=⟨fo_165_2,ld_25,sl_25,pk_3,fo_165_3,ld_163,ld_166,sl_166,ar_166,fn_96,fo_156_8,ld_3,ar_25,ld_33,ni_25,sz_25,fn_108,ni_166,sz_166,fo_165_1,sz_3,fo_156_7,sz_33,sz_96,ld_96⟩
end Go.Proofs.Ytbnnkcofnmipoaa
