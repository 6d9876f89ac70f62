/-
  What the program's tables say of the types and functions that the walks meet, as closed facts. No condition.
-/
import Derived.Test.YthonmbkjbgkfaaaWr
import Derived.Test.YthonmbkjbgkfaaaProg
import Derived.KernelRfl
namespace Go.Proofs.Ythonmbkjbgkfaaa
open Go Go.Proofs
theorem mixed : Try.prog.follows .mixedOrders = true := by kernel_rfl
theorem sl_22 : slK Try.prog 22 = some 2 := by kernel_rfl
theorem pk_3 : ptK Try.prog 3 = false := by kernel_rfl
theorem fn_12 : isFn Try.prog 12 = true := by kernel_rfl
theorem fn_11 : isFn Try.prog 11 = true := by kernel_rfl
theorem fn_13 : isFn Try.prog 13 = true := by kernel_rfl
theorem fn_14 : isFn Try.prog 14 = true := by kernel_rfl
theorem fn_15 : isFn Try.prog 15 = true := by kernel_rfl
theorem sl_26 : slK Try.prog 26 = some 1 := by kernel_rfl
theorem fn_17 : isFn Try.prog 17 = true := by kernel_rfl
theorem fn_16 : isFn Try.prog 16 = true := by kernel_rfl
theorem fn_18 : isFn Try.prog 18 = true := by kernel_rfl
theorem fn_20 : isFn Try.prog 20 = true := by kernel_rfl
theorem fn_19 : isFn Try.prog 19 = true := by kernel_rfl
theorem fn_21 : isFn Try.prog 21 = true := by kernel_rfl
theorem fn_23 : isFn Try.prog 23 = true := by kernel_rfl
theorem fn_22 : isFn Try.prog 22 = true := by kernel_rfl
theorem fn_24 : isFn Try.prog 24 = true := by kernel_rfl
theorem fn_25 : isFn Try.prog 25 = true := by kernel_rfl
theorem fn_26 : isFn Try.prog 26 = true := by kernel_rfl
theorem fn_27 : isFn Try.prog 27 = true := by kernel_rfl
theorem sz_38 : szK Try.prog 38 = some 3 := by kernel_rfl
theorem fn_28 : isFn Try.prog 28 = true := by kernel_rfl
theorem ld_38 : ldK Try.prog 38 = some (some 3) := by kernel_rfl
theorem pk_38 : ptK Try.prog 38 = false := by kernel_rfl
theorem fn_29 : isFn Try.prog 29 = true := by kernel_rfl
theorem fn_30 : isFn Try.prog 30 = true := by kernel_rfl
theorem fn_31 : isFn Try.prog 31 = true := by kernel_rfl
theorem fn_32 : isFn Try.prog 32 = true := by kernel_rfl
theorem fn_33 : isFn Try.prog 33 = true := by kernel_rfl
theorem fn_34 : isFn Try.prog 34 = true := by kernel_rfl
theorem fn_35 : isFn Try.prog 35 = true := by kernel_rfl
theorem fn_36 : isFn Try.prog 36 = true := by kernel_rfl
theorem fn_37 : isFn Try.prog 37 = true := by kernel_rfl
theorem fn_38 : isFn Try.prog 38 = true := by kernel_rfl
theorem fn_39 : isFn Try.prog 39 = true := by kernel_rfl
theorem fn_40 : isFn Try.prog 40 = true := by kernel_rfl
theorem fn_41 : isFn Try.prog 41 = true := by kernel_rfl
theorem fn_42 : isFn Try.prog 42 = true := by kernel_rfl
theorem fn_43 : isFn Try.prog 43 = true := by kernel_rfl
theorem fn_44 : isFn Try.prog 44 = true := by kernel_rfl
theorem ar_22 : arK Try.prog 22 = none := by kernel_rfl
theorem ld_36 : ldK Try.prog 36 = some (some 2) := by kernel_rfl
theorem fn_45 : isFn Try.prog 45 = true := by kernel_rfl
theorem fn_46 : isFn Try.prog 46 = true := by kernel_rfl
theorem fn_47 : isFn Try.prog 47 = true := by kernel_rfl
theorem sz_36 : szK Try.prog 36 = some 2 := by kernel_rfl
theorem fn_48 : isFn Try.prog 48 = true := by kernel_rfl
theorem fn_50 : isFn Try.prog 50 = true := by kernel_rfl
theorem fn_49 : isFn Try.prog 49 = true := by kernel_rfl
theorem fo_42_0 : fOff Try.prog 42 0 = some 0 := by kernel_rfl
theorem ld_26 : ldK Try.prog 26 = some none := by kernel_rfl
theorem fn_51 : isFn Try.prog 51 = true := by kernel_rfl
theorem fn_52 : isFn Try.prog 52 = true := by kernel_rfl
theorem fo_36_0 : fOff Try.prog 36 0 = some 0 := by kernel_rfl
theorem ld_3 : ldK Try.prog 3 = some none := by kernel_rfl
theorem ni_26 : noInt Try.prog 26 = true := by kernel_rfl
theorem fo_36_1 : fOff Try.prog 36 1 = some 1 := by kernel_rfl
theorem ar_26 : arK Try.prog 26 = none := by kernel_rfl
theorem fn_53 : isFn Try.prog 53 = true := by kernel_rfl
theorem ni_47 : noInt Try.prog 47 = true := by kernel_rfl
theorem sl_47 : slK Try.prog 47 = some 3 := by kernel_rfl
theorem ar_47 : arK Try.prog 47 = none := by kernel_rfl
theorem fn_55 : isFn Try.prog 55 = true := by kernel_rfl
theorem fn_54 : isFn Try.prog 54 = true := by kernel_rfl
theorem ld_22 : ldK Try.prog 22 = some none := by kernel_rfl
theorem fn_56 : isFn Try.prog 56 = true := by kernel_rfl
theorem pk_36 : ptK Try.prog 36 = false := by kernel_rfl
theorem fn_57 : isFn Try.prog 57 = true := by kernel_rfl
theorem fn_58 : isFn Try.prog 58 = true := by kernel_rfl
theorem fn_59 : isFn Try.prog 59 = true := by kernel_rfl
theorem ld_42 : ldK Try.prog 42 = some (some 3) := by kernel_rfl
theorem fn_60 : isFn Try.prog 60 = true := by kernel_rfl
theorem fn_61 : isFn Try.prog 61 = true := by kernel_rfl
theorem fn_62 : isFn Try.prog 62 = true := by kernel_rfl
theorem fn_63 : isFn Try.prog 63 = true := by kernel_rfl
theorem fn_64 : isFn Try.prog 64 = true := by kernel_rfl
theorem fo_92_3 : fOff Try.prog 92 3 = some 3 := by kernel_rfl
theorem fn_65 : isFn Try.prog 65 = true := by kernel_rfl
theorem ni_22 : noInt Try.prog 22 = true := by kernel_rfl
theorem fn_66 : isFn Try.prog 66 = true := by kernel_rfl
theorem fn_67 : isFn Try.prog 67 = true := by kernel_rfl
theorem fn_68 : isFn Try.prog 68 = true := by kernel_rfl
theorem fn_69 : isFn Try.prog 69 = true := by kernel_rfl
theorem fn_70 : isFn Try.prog 70 = true := by kernel_rfl
theorem fn_71 : isFn Try.prog 71 = true := by kernel_rfl
theorem fn_72 : isFn Try.prog 72 = true := by kernel_rfl
theorem sz_100 : szK Try.prog 100 = some 1 := by kernel_rfl
theorem sz_3 : szK Try.prog 3 = some 1 := by kernel_rfl
theorem fo_92_2 : fOff Try.prog 92 2 = some 2 := by kernel_rfl
theorem sz_88 : szK Try.prog 88 = some 1 := by kernel_rfl
theorem sz_90 : szK Try.prog 90 = some 2 := by kernel_rfl
theorem ld_88 : ldK Try.prog 88 = some none := by kernel_rfl
theorem pk_88 : ptK Try.prog 88 = true := by kernel_rfl
theorem fn_74 : isFn Try.prog 74 = true := by kernel_rfl
theorem fn_75 : isFn Try.prog 75 = true := by kernel_rfl
theorem ld_90 : ldK Try.prog 90 = some (some 2) := by kernel_rfl
theorem ni_104 : noInt Try.prog 104 = true := by kernel_rfl
theorem fo_107_2 : fOff Try.prog 107 2 = some 2 := by kernel_rfl
theorem sz_104 : szK Try.prog 104 = some 1 := by kernel_rfl
theorem fo_107_1 : fOff Try.prog 107 1 = some 1 := by kernel_rfl
theorem fo_92_4 : fOff Try.prog 92 4 = some 4 := by kernel_rfl
theorem fo_90_0 : fOff Try.prog 90 0 = some 0 := by kernel_rfl
theorem fn_76 : isFn Try.prog 76 = true := by kernel_rfl
theorem fn_77 : isFn Try.prog 77 = true := by kernel_rfl
theorem fo_107_3 : fOff Try.prog 107 3 = some 3 := by kernel_rfl
theorem ld_105 : ldK Try.prog 105 = some none := by kernel_rfl
theorem fo_92_6 : fOff Try.prog 92 6 = some 7 := by kernel_rfl
theorem sz_113 : szK Try.prog 113 = some 1 := by kernel_rfl
theorem ni_113 : noInt Try.prog 113 = true := by kernel_rfl
theorem fn_78 : isFn Try.prog 78 = true := by kernel_rfl
theorem fo_90_1 : fOff Try.prog 90 1 = some 1 := by kernel_rfl
theorem fn_79 : isFn Try.prog 79 = true := by kernel_rfl
theorem fn_80 : isFn Try.prog 80 = true := by kernel_rfl
theorem fn_81 : isFn Try.prog 81 = true := by kernel_rfl
theorem fn_82 : isFn Try.prog 82 = true := by kernel_rfl
theorem ld_104 : ldK Try.prog 104 = some none := by kernel_rfl
theorem sl_104 : slK Try.prog 104 = some 2 := by kernel_rfl
theorem ar_104 : arK Try.prog 104 = none := by kernel_rfl
theorem ld_113 : ldK Try.prog 113 = some none := by kernel_rfl
theorem sl_113 : slK Try.prog 113 = some 1 := by kernel_rfl
theorem ar_113 : arK Try.prog 113 = none := by kernel_rfl
theorem fn_83 : isFn Try.prog 83 = true := by kernel_rfl
theorem fn_84 : isFn Try.prog 84 = true := by kernel_rfl
theorem ld_100 : ldK Try.prog 100 = some none := by kernel_rfl
theorem fo_92_5 : fOff Try.prog 92 5 = some 6 := by kernel_rfl
theorem fn_86 : isFn Try.prog 86 = true := by kernel_rfl
theorem co_3 : coK Try.prog 3 = true := by kernel_rfl
theorem co_122 : coK Try.prog 122 = false := by kernel_rfl
theorem fo_92_7 : fOff Try.prog 92 7 = some 8 := by kernel_rfl
theorem sz_4 : szK Try.prog 4 = some 1 := by kernel_rfl
theorem ld_4 : ldK Try.prog 4 = some none := by kernel_rfl
theorem co_125 : coK Try.prog 125 = false := by kernel_rfl
theorem fo_92_8 : fOff Try.prog 92 8 = some 9 := by kernel_rfl
theorem fo_92_0 : fOff Try.prog 92 0 = some 0 := by kernel_rfl
theorem ld_86 : ldK Try.prog 86 = some none := by kernel_rfl
theorem fo_107_0 : fOff Try.prog 107 0 = some 0 := by kernel_rfl
theorem sz_86 : szK Try.prog 86 = some 1 := by kernel_rfl
theorem sz_105 : szK Try.prog 105 = some 1 := by kernel_rfl
theorem fn_87 : isFn Try.prog 87 = true := by kernel_rfl
theorem fn_88 : isFn Try.prog 88 = true := by kernel_rfl
theorem pk_86 : ptK Try.prog 86 = false := by kernel_rfl
theorem fn_89 : isFn Try.prog 89 = true := by kernel_rfl
theorem pk_105 : ptK Try.prog 105 = true := by kernel_rfl
theorem ld_77 : ldK Try.prog 77 = some none := by kernel_rfl
theorem sz_22 : szK Try.prog 22 = some 1 := by kernel_rfl
theorem fn_106 : isFn Try.prog 106 = true := by kernel_rfl
theorem fo_92_1 : fOff Try.prog 92 1 = some 1 := by kernel_rfl
theorem ld_87 : ldK Try.prog 87 = some none := by kernel_rfl
theorem pk_87 : ptK Try.prog 87 = true := by kernel_rfl
theorem sz_87 : szK Try.prog 87 = some 1 := by kernel_rfl
theorem ld_92 : ldK Try.prog 92 = some (some 10) := by kernel_rfl
theorem sz_92 : szK Try.prog 92 = some 10 := by kernel_rfl
theorem fn_107 : isFn Try.prog 107 = true := by kernel_rfl
theorem ow_3 : type_of% (And.intro @sl_22 (And.intro @pk_3 (And.intro @fn_12 (And.intro @fn_11 (@fn_13))))) := And.intro @sl_22 (And.intro @pk_3 (And.intro @fn_12 (And.intro @fn_11 (@fn_13))))
theorem ow_4 : type_of% (And.intro @sl_22 (And.intro @pk_3 (And.intro @fn_12 (And.intro @fn_14 (@fn_13))))) := And.intro @sl_22 (And.intro @pk_3 (And.intro @fn_12 (And.intro @fn_14 (@fn_13))))
theorem ow_5 : type_of% (And.intro @sl_22 (And.intro @pk_3 (And.intro @fn_12 (And.intro @fn_15 (@fn_13))))) := And.intro @sl_22 (And.intro @pk_3 (And.intro @fn_12 (And.intro @fn_15 (@fn_13))))
theorem ow_6 : type_of% (And.intro @sl_22 (And.intro @pk_3 (And.intro @sl_26 (And.intro @fn_12 (And.intro @fn_17 (And.intro @fn_16 (@fn_13))))))) := And.intro @sl_22 (And.intro @pk_3 (And.intro @sl_26 (And.intro @fn_12 (And.intro @fn_17 (And.intro @fn_16 (@fn_13))))))
theorem ow_7 : type_of% (And.intro @sl_22 (And.intro @pk_3 (And.intro @fn_12 (And.intro @fn_18 (@fn_13))))) := And.intro @sl_22 (And.intro @pk_3 (And.intro @fn_12 (And.intro @fn_18 (@fn_13))))
theorem ow_8 : type_of% (And.intro @sl_22 (And.intro @pk_3 (And.intro @fn_12 (And.intro @fn_20 (And.intro @fn_19 (@fn_13)))))) := And.intro @sl_22 (And.intro @pk_3 (And.intro @fn_12 (And.intro @fn_20 (And.intro @fn_19 (@fn_13)))))
theorem ow_9 : type_of% (And.intro @sl_22 (And.intro @pk_3 (And.intro @fn_12 (And.intro @fn_21 (@fn_13))))) := And.intro @sl_22 (And.intro @pk_3 (And.intro @fn_12 (And.intro @fn_21 (@fn_13))))
theorem ow_10 : type_of% (And.intro @sl_22 (And.intro @pk_3 (And.intro @fn_23 (And.intro @fn_22 (And.intro @fn_13 (@fn_24)))))) := And.intro @sl_22 (And.intro @pk_3 (And.intro @fn_23 (And.intro @fn_22 (And.intro @fn_13 (@fn_24)))))
theorem ow_11 : type_of% (And.intro @fn_25 (And.intro @fn_26 (And.intro @sl_22 (@pk_3)))) := And.intro @fn_25 (And.intro @fn_26 (And.intro @sl_22 (@pk_3)))
theorem ow_13 : type_of% (@pk_3) := @pk_3
theorem ow_14 : type_of% (And.intro @fn_27 (And.intro @sz_38 (And.intro @fn_28 (And.intro @ld_38 (@pk_38))))) := And.intro @fn_27 (And.intro @sz_38 (And.intro @fn_28 (And.intro @ld_38 (@pk_38))))
theorem ow_15 : type_of% (And.intro @fn_29 (And.intro @fn_26 (And.intro @fn_30 (And.intro @fn_31 (@fn_32))))) := And.intro @fn_29 (And.intro @fn_26 (And.intro @fn_30 (And.intro @fn_31 (@fn_32))))
theorem ow_16 : type_of% (And.intro @fn_33 (And.intro @fn_34 (@fn_35))) := And.intro @fn_33 (And.intro @fn_34 (@fn_35))
theorem ow_18 : type_of% (And.intro @fn_36 (And.intro @fn_37 (@fn_38))) := And.intro @fn_36 (And.intro @fn_37 (@fn_38))
theorem ow_19 : type_of% (And.intro @fn_39 (And.intro @fn_40 (And.intro @pk_3 (And.intro @fn_35 (@fn_38))))) := And.intro @fn_39 (And.intro @fn_40 (And.intro @pk_3 (And.intro @fn_35 (@fn_38))))
theorem ow_21 : type_of% (And.intro @fn_41 (And.intro @fn_42 (@fn_38))) := And.intro @fn_41 (And.intro @fn_42 (@fn_38))
theorem ow_22 : type_of% (And.intro @fn_43 (And.intro @fn_44 (And.intro @fn_35 (@fn_38)))) := And.intro @fn_43 (And.intro @fn_44 (And.intro @fn_35 (@fn_38)))
theorem ow_24 : type_of% (And.intro @sl_22 (And.intro @pk_3 (And.intro @ar_22 (And.intro @ld_36 (@fn_45))))) := And.intro @sl_22 (And.intro @pk_3 (And.intro @ar_22 (And.intro @ld_36 (@fn_45))))
theorem ow_25 : type_of% (And.intro @fn_46 (@fn_47)) := And.intro @fn_46 (@fn_47)
theorem ow_26 : type_of% (And.intro @sl_22 (And.intro @pk_3 (And.intro @ar_22 (And.intro @ld_36 (And.intro @sz_36 (@fn_48)))))) := And.intro @sl_22 (And.intro @pk_3 (And.intro @ar_22 (And.intro @ld_36 (And.intro @sz_36 (@fn_48)))))
theorem ow_27 : type_of% (And.intro @fn_46 (And.intro @fn_50 (And.intro @fn_49 (@sz_38)))) := And.intro @fn_46 (And.intro @fn_50 (And.intro @fn_49 (@sz_38)))
theorem ow_28 : type_of% (And.intro @fo_42_0 (And.intro @ld_26 (And.intro @fn_26 (And.intro @sl_22 (And.intro @pk_3 (And.intro @fn_51 (@sz_38))))))) := And.intro @fo_42_0 (And.intro @ld_26 (And.intro @fn_26 (And.intro @sl_22 (And.intro @pk_3 (And.intro @fn_51 (@sz_38))))))
theorem ow_29 : type_of% (And.intro @fn_46 (@fn_52)) := And.intro @fn_46 (@fn_52)
theorem ow_30 : type_of% (And.intro @sl_22 (And.intro @pk_3 (And.intro @ar_22 (And.intro @ld_36 (And.intro @sz_36 (And.intro @fo_36_0 (And.intro @ld_3 (@ni_26)))))))) := And.intro @sl_22 (And.intro @pk_3 (And.intro @ar_22 (And.intro @ld_36 (And.intro @sz_36 (And.intro @fo_36_0 (And.intro @ld_3 (@ni_26)))))))
theorem ow_31 : type_of% (And.intro @sl_22 (And.intro @pk_3 (And.intro @ar_22 (And.intro @ld_36 (And.intro @sz_36 (And.intro @fo_36_1 (And.intro @ld_3 (@ni_26)))))))) := And.intro @sl_22 (And.intro @pk_3 (And.intro @ar_22 (And.intro @ld_36 (And.intro @sz_36 (And.intro @fo_36_1 (And.intro @ld_3 (@ni_26)))))))
theorem ow_32 : type_of% (And.intro @sl_26 (And.intro @pk_3 (And.intro @ar_26 (@ld_3)))) := And.intro @sl_26 (And.intro @pk_3 (And.intro @ar_26 (@ld_3)))
theorem ow_33 : type_of% (And.intro @fn_46 (And.intro @sl_26 (And.intro @pk_3 (And.intro @ar_26 (And.intro @ld_3 (And.intro @fn_53 (And.intro @fn_49 (@ni_47)))))))) := And.intro @fn_46 (And.intro @sl_26 (And.intro @pk_3 (And.intro @ar_26 (And.intro @ld_3 (And.intro @fn_53 (And.intro @fn_49 (@ni_47)))))))
theorem ow_34 : type_of% (And.intro @fo_42_0 (And.intro @ld_26 (And.intro @fn_26 (And.intro @sl_26 (And.intro @pk_3 (And.intro @ar_26 (And.intro @ld_3 (And.intro @fn_51 (@ni_47))))))))) := And.intro @fo_42_0 (And.intro @ld_26 (And.intro @fn_26 (And.intro @sl_26 (And.intro @pk_3 (And.intro @ar_26 (And.intro @ld_3 (And.intro @fn_51 (@ni_47))))))))
theorem ow_35 : type_of% (And.intro @sl_47 (And.intro @pk_3 (And.intro @ar_47 (And.intro @ld_38 (@pk_38))))) := And.intro @sl_47 (And.intro @pk_3 (And.intro @ar_47 (And.intro @ld_38 (@pk_38))))
theorem ow_36 : type_of% (And.intro @fn_46 (And.intro @fn_55 (And.intro @fn_54 (@ld_22)))) := And.intro @fn_46 (And.intro @fn_55 (And.intro @fn_54 (@ld_22)))
theorem ow_37 : type_of% (And.intro @fo_42_0 (And.intro @ld_26 (And.intro @fn_26 (@fn_56)))) := And.intro @fo_42_0 (And.intro @ld_26 (And.intro @fn_26 (@fn_56)))
theorem ow_38 : type_of% (And.intro @sl_22 (And.intro @pk_3 (And.intro @ar_22 (And.intro @ld_36 (@pk_36))))) := And.intro @sl_22 (And.intro @pk_3 (And.intro @ar_22 (And.intro @ld_36 (@pk_36))))
theorem ow_39 : type_of% (And.intro @fn_46 (And.intro @fn_57 (And.intro @fn_47 (And.intro @sl_22 (And.intro @pk_3 (And.intro @ar_22 (And.intro @ld_36 (And.intro @sz_36 (And.intro @fo_36_0 (And.intro @ld_3 (And.intro @fo_36_1 (And.intro @fn_58 (And.intro @fn_49 (And.intro @ni_47 (@fn_59))))))))))))))) := And.intro @fn_46 (And.intro @fn_57 (And.intro @fn_47 (And.intro @sl_22 (And.intro @pk_3 (And.intro @ar_22 (And.intro @ld_36 (And.intro @sz_36 (And.intro @fo_36_0 (And.intro @ld_3 (And.intro @fo_36_1 (And.intro @fn_58 (And.intro @fn_49 (And.intro @ni_47 (@fn_59))))))))))))))
theorem ow_40 : type_of% (And.intro @ld_42 (@fn_44)) := And.intro @ld_42 (@fn_44)
theorem ow_41 : type_of% (And.intro @fn_46 (And.intro @fn_55 (And.intro @fn_60 (@ld_22)))) := And.intro @fn_46 (And.intro @fn_55 (And.intro @fn_60 (@ld_22)))
theorem ow_42 : type_of% (And.intro @fo_42_0 (And.intro @ld_26 (And.intro @fn_26 (And.intro @ld_36 (And.intro @fn_61 (@fn_56)))))) := And.intro @fo_42_0 (And.intro @ld_26 (And.intro @fn_26 (And.intro @ld_36 (And.intro @fn_61 (@fn_56)))))
theorem ow_43 : type_of% (And.intro @fn_46 (And.intro @sl_22 (And.intro @pk_3 (And.intro @ar_22 (And.intro @ld_36 (And.intro @sz_36 (And.intro @fo_36_0 (And.intro @ld_3 (And.intro @fo_36_1 (And.intro @fn_62 (And.intro @fn_49 (And.intro @ni_47 (@fn_59))))))))))))) := And.intro @fn_46 (And.intro @sl_22 (And.intro @pk_3 (And.intro @ar_22 (And.intro @ld_36 (And.intro @sz_36 (And.intro @fo_36_0 (And.intro @ld_3 (And.intro @fo_36_1 (And.intro @fn_62 (And.intro @fn_49 (And.intro @ni_47 (@fn_59))))))))))))
theorem ow_44 : type_of% (And.intro @sl_22 (And.intro @pk_3 (And.intro @ar_22 (And.intro @ld_36 (And.intro @sz_36 (And.intro @fo_42_0 (And.intro @ld_26 (And.intro @fn_48 (And.intro @sz_38 (And.intro @ld_38 (@ni_47))))))))))) := And.intro @sl_22 (And.intro @pk_3 (And.intro @ar_22 (And.intro @ld_36 (And.intro @sz_36 (And.intro @fo_42_0 (And.intro @ld_26 (And.intro @fn_48 (And.intro @sz_38 (And.intro @ld_38 (@ni_47))))))))))
theorem ow_45 : type_of% (And.intro @fo_36_0 (And.intro @ld_3 (And.intro @fn_63 (@pk_3)))) := And.intro @fo_36_0 (And.intro @ld_3 (And.intro @fn_63 (@pk_3)))
theorem ow_46 : type_of% (And.intro @fn_64 (And.intro @sl_22 (And.intro @pk_3 (And.intro @ar_22 (And.intro @ld_36 (And.intro @sz_36 (And.intro @fo_36_0 (And.intro @ld_3 (And.intro @fo_36_1 (@fn_58)))))))))) := And.intro @fn_64 (And.intro @sl_22 (And.intro @pk_3 (And.intro @ar_22 (And.intro @ld_36 (And.intro @sz_36 (And.intro @fo_36_0 (And.intro @ld_3 (And.intro @fo_36_1 (@fn_58)))))))))
theorem ow_47 : type_of% (And.intro @fo_92_3 (@ld_3)) := And.intro @fo_92_3 (@ld_3)
theorem ow_48 : type_of% (And.intro @ld_36 (And.intro @fn_65 (And.intro @sl_22 (And.intro @ni_22 (And.intro @pk_3 (And.intro @ar_22 (@sz_38))))))) := And.intro @ld_36 (And.intro @fn_65 (And.intro @sl_22 (And.intro @ni_22 (And.intro @pk_3 (And.intro @ar_22 (@sz_38))))))
theorem ow_49 : type_of% (And.intro @fn_66 (@sz_38)) := And.intro @fn_66 (@sz_38)
theorem ow_50 : type_of% (@fn_67) := @fn_67
theorem ow_51 : type_of% (And.intro @fn_68 (And.intro @sz_38 (@ld_38))) := And.intro @fn_68 (And.intro @sz_38 (@ld_38))
theorem ow_52 : type_of% (@fn_69) := @fn_69
theorem ow_53 : type_of% (@fn_70) := @fn_70
theorem ow_54 : type_of% (@fn_71) := @fn_71
theorem ow_55 : type_of% (And.intro @fn_72 (@sz_100)) := And.intro @fn_72 (@sz_100)
theorem ow_56 : type_of% (And.intro @pk_3 (@sl_22)) := And.intro @pk_3 (@sl_22)
theorem ow_57 : type_of% (And.intro @fo_92_3 (And.intro @sz_3 (And.intro @fo_92_2 (@sz_88)))) := And.intro @fo_92_3 (And.intro @sz_3 (And.intro @fo_92_2 (@sz_88)))
theorem ow_58 : type_of% (And.intro @sz_90 (And.intro @fo_92_2 (And.intro @ld_88 (And.intro @pk_88 (And.intro @fn_74 (And.intro @fn_75 (And.intro @sz_88 (And.intro @ld_90 (And.intro @ni_104 (And.intro @fo_107_2 (And.intro @sz_104 (And.intro @fo_107_1 (And.intro @sz_3 (And.intro @fo_92_3 (And.intro @fo_92_4 (And.intro @fo_90_0 (And.intro @ld_3 (And.intro @fn_76 (And.intro @fn_77 (And.intro @fo_107_3 (And.intro @ld_105 (And.intro @fo_92_6 (And.intro @pk_3 (And.intro @sz_113 (And.intro @ni_113 (And.intro @fn_78 (And.intro @fo_90_1 (@fn_58)))))))))))))))))))))))))))) := And.intro @sz_90 (And.intro @fo_92_2 (And.intro @ld_88 (And.intro @pk_88 (And.intro @fn_74 (And.intro @fn_75 (And.intro @sz_88 (And.intro @ld_90 (And.intro @ni_104 (And.intro @fo_107_2 (And.intro @sz_104 (And.intro @fo_107_1 (And.intro @sz_3 (And.intro @fo_92_3 (And.intro @fo_92_4 (And.intro @fo_90_0 (And.intro @ld_3 (And.intro @fn_76 (And.intro @fn_77 (And.intro @fo_107_3 (And.intro @ld_105 (And.intro @fo_92_6 (And.intro @pk_3 (And.intro @sz_113 (And.intro @ni_113 (And.intro @fn_78 (And.intro @fo_90_1 (@fn_58)))))))))))))))))))))))))))
theorem ow_59 : type_of% (And.intro @fn_55 (And.intro @fn_79 (@ld_22))) := And.intro @fn_55 (And.intro @fn_79 (@ld_22))
theorem ow_60 : type_of% (@fn_80) := @fn_80
theorem ow_61 : type_of% (And.intro @ld_36 (And.intro @fn_65 (@sl_22))) := And.intro @ld_36 (And.intro @fn_65 (@sl_22))
theorem ow_62 : type_of% (And.intro @sz_90 (And.intro @fo_92_2 (And.intro @ld_88 (And.intro @pk_88 (And.intro @fo_90_1 (And.intro @ld_3 (And.intro @fo_90_0 (And.intro @fn_58 (And.intro @fn_81 (And.intro @fo_107_1 (And.intro @pk_3 (And.intro @sz_3 (And.intro @fn_82 (And.intro @fo_107_2 (And.intro @ld_104 (And.intro @sl_104 (And.intro @fo_92_6 (And.intro @ar_104 (And.intro @ld_90 (And.intro @ni_104 (And.intro @sz_104 (And.intro @fo_92_3 (And.intro @fo_92_4 (And.intro @fo_107_3 (And.intro @ld_105 (And.intro @ld_113 (And.intro @sl_113 (@ar_113)))))))))))))))))))))))))))) := And.intro @sz_90 (And.intro @fo_92_2 (And.intro @ld_88 (And.intro @pk_88 (And.intro @fo_90_1 (And.intro @ld_3 (And.intro @fo_90_0 (And.intro @fn_58 (And.intro @fn_81 (And.intro @fo_107_1 (And.intro @pk_3 (And.intro @sz_3 (And.intro @fn_82 (And.intro @fo_107_2 (And.intro @ld_104 (And.intro @sl_104 (And.intro @fo_92_6 (And.intro @ar_104 (And.intro @ld_90 (And.intro @ni_104 (And.intro @sz_104 (And.intro @fo_92_3 (And.intro @fo_92_4 (And.intro @fo_107_3 (And.intro @ld_105 (And.intro @ld_113 (And.intro @sl_113 (@ar_113)))))))))))))))))))))))))))
theorem ow_63 : type_of% (And.intro @sl_26 (And.intro @pk_3 (And.intro @ar_26 (@ld_3)))) := And.intro @sl_26 (And.intro @pk_3 (And.intro @ar_26 (@ld_3)))
theorem ow_64 : type_of% (@fn_74) := @fn_74
theorem ow_65 : type_of% (And.intro @sl_22 (And.intro @pk_3 (And.intro @ar_22 (And.intro @ld_36 (@fn_45))))) := And.intro @sl_22 (And.intro @pk_3 (And.intro @ar_22 (And.intro @ld_36 (@fn_45))))
theorem ow_66 : type_of% (And.intro @sz_38 (@ld_36)) := And.intro @sz_38 (@ld_36)
theorem ow_67 : type_of% (And.intro @fo_92_2 (And.intro @ld_88 (And.intro @pk_88 (And.intro @fo_92_4 (And.intro @fo_90_1 (And.intro @ld_3 (And.intro @fo_90_0 (And.intro @fn_81 (And.intro @fn_82 (And.intro @fo_107_2 (And.intro @ld_104 (And.intro @sl_104 (And.intro @pk_3 (And.intro @ar_104 (And.intro @ld_90 (And.intro @sz_90 (And.intro @fo_107_3 (And.intro @ld_105 (And.intro @ld_113 (And.intro @sl_113 (@ar_113))))))))))))))))))))) := And.intro @fo_92_2 (And.intro @ld_88 (And.intro @pk_88 (And.intro @fo_92_4 (And.intro @fo_90_1 (And.intro @ld_3 (And.intro @fo_90_0 (And.intro @fn_81 (And.intro @fn_82 (And.intro @fo_107_2 (And.intro @ld_104 (And.intro @sl_104 (And.intro @pk_3 (And.intro @ar_104 (And.intro @ld_90 (And.intro @sz_90 (And.intro @fo_107_3 (And.intro @ld_105 (And.intro @ld_113 (And.intro @sl_113 (@ar_113))))))))))))))))))))
theorem ow_68 : type_of% (And.intro @pk_3 (And.intro @sl_22 (And.intro @sz_38 (And.intro @ni_22 (And.intro @ar_22 (@ld_36)))))) := And.intro @pk_3 (And.intro @sl_22 (And.intro @sz_38 (And.intro @ni_22 (And.intro @ar_22 (@ld_36)))))
theorem ow_69 : type_of% (And.intro @fn_47 (And.intro @fo_92_2 (And.intro @ld_88 (And.intro @pk_88 (@fn_83))))) := And.intro @fn_47 (And.intro @fo_92_2 (And.intro @ld_88 (And.intro @pk_88 (@fn_83))))
theorem ow_70 : type_of% (And.intro @fo_92_2 (And.intro @ld_88 (And.intro @pk_88 (And.intro @pk_3 (And.intro @fo_92_3 (And.intro @ld_3 (And.intro @fo_92_4 (And.intro @fo_90_1 (And.intro @fo_90_0 (And.intro @fn_81 (And.intro @fn_82 (And.intro @fo_107_2 (And.intro @ld_104 (And.intro @sl_104 (And.intro @ar_104 (And.intro @fo_107_3 (And.intro @ld_105 (And.intro @ld_113 (And.intro @sl_113 (And.intro @ar_113 (@fo_107_1))))))))))))))))))))) := And.intro @fo_92_2 (And.intro @ld_88 (And.intro @pk_88 (And.intro @pk_3 (And.intro @fo_92_3 (And.intro @ld_3 (And.intro @fo_92_4 (And.intro @fo_90_1 (And.intro @fo_90_0 (And.intro @fn_81 (And.intro @fn_82 (And.intro @fo_107_2 (And.intro @ld_104 (And.intro @sl_104 (And.intro @ar_104 (And.intro @fo_107_3 (And.intro @ld_105 (And.intro @ld_113 (And.intro @sl_113 (And.intro @ar_113 (@fo_107_1))))))))))))))))))))
theorem ow_71 : type_of% (And.intro @fo_92_2 (And.intro @ld_88 (And.intro @pk_88 (@fn_84)))) := And.intro @fo_92_2 (And.intro @ld_88 (And.intro @pk_88 (@fn_84)))
theorem ow_73 : type_of% (@ld_100) := @ld_100
theorem ow_74 : type_of% (And.intro @fo_92_5 (And.intro @ld_3 (And.intro @pk_3 (And.intro @fn_86 (And.intro @sz_3 (And.intro @fo_92_6 (And.intro @fo_92_4 (And.intro @fo_90_0 (And.intro @co_3 (And.intro @co_122 (And.intro @fo_92_7 (And.intro @sz_4 (And.intro @ld_4 (And.intro @co_125 (@fo_92_8))))))))))))))) := And.intro @fo_92_5 (And.intro @ld_3 (And.intro @pk_3 (And.intro @fn_86 (And.intro @sz_3 (And.intro @fo_92_6 (And.intro @fo_92_4 (And.intro @fo_90_0 (And.intro @co_3 (And.intro @co_122 (And.intro @fo_92_7 (And.intro @sz_4 (And.intro @ld_4 (And.intro @co_125 (@fo_92_8))))))))))))))
theorem ow_75 : type_of% (And.intro @fo_92_0 (And.intro @ld_86 (And.intro @fo_107_0 (And.intro @sz_86 (And.intro @fo_107_3 (@sz_105)))))) := And.intro @fo_92_0 (And.intro @ld_86 (And.intro @fo_107_0 (And.intro @sz_86 (And.intro @fo_107_3 (@sz_105)))))
theorem ow_76 : type_of% (And.intro @fn_81 (And.intro @sz_88 (And.intro @ld_88 (And.intro @fo_90_1 (And.intro @ld_3 (And.intro @fn_87 (And.intro @fo_107_2 (And.intro @ld_104 (And.intro @sl_104 (And.intro @ar_104 (And.intro @fo_90_0 (And.intro @ld_90 (And.intro @sz_90 (And.intro @fn_82 (And.intro @fo_92_6 (And.intro @pk_3 (And.intro @fo_92_4 (And.intro @ni_104 (And.intro @sz_104 (And.intro @fo_107_1 (And.intro @sz_3 (And.intro @fo_107_3 (And.intro @ld_105 (And.intro @ld_113 (And.intro @sl_113 (And.intro @ar_113 (And.intro @fn_76 (And.intro @fn_77 (And.intro @ni_113 (@sz_113)))))))))))))))))))))))))))))) := And.intro @fn_81 (And.intro @sz_88 (And.intro @ld_88 (And.intro @fo_90_1 (And.intro @ld_3 (And.intro @fn_87 (And.intro @fo_107_2 (And.intro @ld_104 (And.intro @sl_104 (And.intro @ar_104 (And.intro @fo_90_0 (And.intro @ld_90 (And.intro @sz_90 (And.intro @fn_82 (And.intro @fo_92_6 (And.intro @pk_3 (And.intro @fo_92_4 (And.intro @ni_104 (And.intro @sz_104 (And.intro @fo_107_1 (And.intro @sz_3 (And.intro @fo_107_3 (And.intro @ld_105 (And.intro @ld_113 (And.intro @sl_113 (And.intro @ar_113 (And.intro @fn_76 (And.intro @fn_77 (And.intro @ni_113 (@sz_113)))))))))))))))))))))))))))))
theorem ow_77 : type_of% (And.intro @fo_92_6 (And.intro @ld_3 (And.intro @pk_3 (And.intro @fo_107_2 (And.intro @ld_104 (And.intro @sl_104 (And.intro @ar_104 (And.intro @ld_90 (And.intro @sz_90 (And.intro @fn_82 (And.intro @fn_75 (And.intro @sz_104 (And.intro @fo_107_3 (And.intro @ld_105 (And.intro @ld_113 (And.intro @sl_113 (And.intro @sz_113 (And.intro @fn_78 (@fo_92_4))))))))))))))))))) := And.intro @fo_92_6 (And.intro @ld_3 (And.intro @pk_3 (And.intro @fo_107_2 (And.intro @ld_104 (And.intro @sl_104 (And.intro @ar_104 (And.intro @ld_90 (And.intro @sz_90 (And.intro @fn_82 (And.intro @fn_75 (And.intro @sz_104 (And.intro @fo_107_3 (And.intro @ld_105 (And.intro @ld_113 (And.intro @sl_113 (And.intro @sz_113 (And.intro @fn_78 (@fo_92_4))))))))))))))))))
theorem ow_78 : type_of% (And.intro @fo_107_2 (And.intro @ld_104 (And.intro @sl_104 (And.intro @fo_107_1 (And.intro @sz_3 (And.intro @fn_82 (And.intro @fo_107_3 (And.intro @ld_105 (And.intro @ld_113 (And.intro @sl_113 (And.intro @pk_3 (And.intro @ld_3 (And.intro @ar_113 (@ld_88)))))))))))))) := And.intro @fo_107_2 (And.intro @ld_104 (And.intro @sl_104 (And.intro @fo_107_1 (And.intro @sz_3 (And.intro @fn_82 (And.intro @fo_107_3 (And.intro @ld_105 (And.intro @ld_113 (And.intro @sl_113 (And.intro @pk_3 (And.intro @ld_3 (And.intro @ar_113 (@ld_88)))))))))))))
theorem ow_79 : type_of% (@fn_71) := @fn_71
theorem ow_80 : type_of% (And.intro @fo_92_2 (And.intro @ld_88 (And.intro @pk_88 (@fn_88)))) := And.intro @fo_92_2 (And.intro @ld_88 (And.intro @pk_88 (@fn_88)))
theorem ow_81 : type_of% (And.intro @ld_88 (And.intro @fo_107_0 (And.intro @ld_86 (And.intro @fo_92_0 (And.intro @pk_86 (And.intro @fn_89 (@sz_88))))))) := And.intro @ld_88 (And.intro @fo_107_0 (And.intro @ld_86 (And.intro @fo_92_0 (And.intro @pk_86 (And.intro @fn_89 (@sz_88))))))
theorem ow_82 : type_of% (And.intro @fo_107_3 (And.intro @ld_105 (@pk_105))) := And.intro @fo_107_3 (And.intro @ld_105 (@pk_105))
theorem ow_83 : type_of% (And.intro @fn_81 (And.intro @fn_82 (And.intro @fo_107_2 (And.intro @ld_104 (And.intro @sl_104 (And.intro @pk_3 (And.intro @ar_104 (And.intro @fo_90_1 (And.intro @ld_3 (And.intro @ni_26 (And.intro @fo_90_0 (And.intro @fo_107_3 (And.intro @ld_105 (And.intro @ld_113 (And.intro @sl_113 (And.intro @ar_113 (@fn_83))))))))))))))))) := And.intro @fn_81 (And.intro @fn_82 (And.intro @fo_107_2 (And.intro @ld_104 (And.intro @sl_104 (And.intro @pk_3 (And.intro @ar_104 (And.intro @fo_90_1 (And.intro @ld_3 (And.intro @ni_26 (And.intro @fo_90_0 (And.intro @fo_107_3 (And.intro @ld_105 (And.intro @ld_113 (And.intro @sl_113 (And.intro @ar_113 (@fn_83))))))))))))))))
theorem ow_84 : type_of% (And.intro @fn_81 (And.intro @fn_82 (And.intro @fo_107_2 (And.intro @ld_104 (And.intro @sl_104 (And.intro @pk_3 (And.intro @ar_104 (And.intro @fo_90_1 (And.intro @ld_3 (And.intro @fo_90_0 (And.intro @fo_107_3 (And.intro @ld_105 (And.intro @ld_113 (And.intro @sl_113 (And.intro @ar_113 (@fn_84)))))))))))))))) := And.intro @fn_81 (And.intro @fn_82 (And.intro @fo_107_2 (And.intro @ld_104 (And.intro @sl_104 (And.intro @pk_3 (And.intro @ar_104 (And.intro @fo_90_1 (And.intro @ld_3 (And.intro @fo_90_0 (And.intro @fo_107_3 (And.intro @ld_105 (And.intro @ld_113 (And.intro @sl_113 (And.intro @ar_113 (@fn_84)))))))))))))))
theorem ow_85 : type_of% (And.intro @ld_77 (And.intro @ld_22 (And.intro @ld_36 (And.intro @ni_22 (And.intro @sz_22 (And.intro @ld_3 (And.intro @pk_3 (@sl_22)))))))) := And.intro @ld_77 (And.intro @ld_22 (And.intro @ld_36 (And.intro @ni_22 (And.intro @sz_22 (And.intro @ld_3 (And.intro @pk_3 (@sl_22)))))))
theorem ow_86 : type_of% (@pk_3) := @pk_3
theorem ow_87 : type_of% (And.intro @fo_107_2 (And.intro @ld_104 (And.intro @sl_104 (And.intro @pk_3 (And.intro @ar_104 (And.intro @fo_90_1 (@ld_3))))))) := And.intro @fo_107_2 (And.intro @ld_104 (And.intro @sl_104 (And.intro @pk_3 (And.intro @ar_104 (And.intro @fo_90_1 (@ld_3))))))
theorem ow_88 : type_of% (And.intro @fn_81 (And.intro @fn_87 (And.intro @fn_82 (And.intro @fo_107_3 (And.intro @ld_105 (And.intro @ld_113 (And.intro @sl_113 (And.intro @ar_113 (And.intro @fn_88 (And.intro @fo_107_2 (And.intro @ld_104 (And.intro @sl_104 (And.intro @pk_3 (And.intro @ar_104 (And.intro @fo_90_1 (And.intro @ld_3 (And.intro @fo_90_0 (@fn_84)))))))))))))))))) := And.intro @fn_81 (And.intro @fn_87 (And.intro @fn_82 (And.intro @fo_107_3 (And.intro @ld_105 (And.intro @ld_113 (And.intro @sl_113 (And.intro @ar_113 (And.intro @fn_88 (And.intro @fo_107_2 (And.intro @ld_104 (And.intro @sl_104 (And.intro @pk_3 (And.intro @ar_104 (And.intro @fo_90_1 (And.intro @ld_3 (And.intro @fo_90_0 (@fn_84)))))))))))))))))
theorem ow_89 : type_of% (And.intro @fo_92_0 (And.intro @ld_86 (And.intro @fo_107_0 (And.intro @sz_86 (And.intro @fo_107_1 (And.intro @ld_3 (And.intro @sz_3 (And.intro @fo_107_2 (And.intro @ld_104 (And.intro @sl_104 (And.intro @sz_104 (And.intro @fo_92_7 (And.intro @ld_4 (And.intro @pk_3 (And.intro @ar_104 (And.intro @fo_90_0 (And.intro @co_3 (And.intro @co_122 (And.intro @fo_92_8 (And.intro @co_125 (And.intro @fn_82 (And.intro @fo_107_3 (And.intro @sz_105 (And.intro @ld_105 (And.intro @ld_113 (And.intro @sl_113 (And.intro @fo_92_6 (@sz_113)))))))))))))))))))))))))))) := And.intro @fo_92_0 (And.intro @ld_86 (And.intro @fo_107_0 (And.intro @sz_86 (And.intro @fo_107_1 (And.intro @ld_3 (And.intro @sz_3 (And.intro @fo_107_2 (And.intro @ld_104 (And.intro @sl_104 (And.intro @sz_104 (And.intro @fo_92_7 (And.intro @ld_4 (And.intro @pk_3 (And.intro @ar_104 (And.intro @fo_90_0 (And.intro @co_3 (And.intro @co_122 (And.intro @fo_92_8 (And.intro @co_125 (And.intro @fn_82 (And.intro @fo_107_3 (And.intro @sz_105 (And.intro @ld_105 (And.intro @ld_113 (And.intro @sl_113 (And.intro @fo_92_6 (@sz_113)))))))))))))))))))))))))))
theorem ow_105 : type_of% (@fn_106) := @fn_106
theorem ow_106 : type_of% (And.intro @fo_92_1 (And.intro @ld_87 (And.intro @pk_87 (And.intro @sz_87 (And.intro @ld_92 (And.intro @sz_92 (And.intro @fn_107 (And.intro @fo_92_0 (@sz_86))))))))) := And.intro @fo_92_1 (And.intro @ld_87 (And.intro @pk_87 (And.intro @sz_87 (And.intro @ld_92 (And.intro @sz_92 (And.intro @fn_107 (And.intro @fo_92_0 (@sz_86))))))))
theorem ow_107 : type_of% (And.intro @ld_86 (And.intro @pk_86 (@sz_86))) := And.intro @ld_86 (And.intro @pk_86 (@sz_86))
end Go.Proofs.Ythonmbkjbgkfaaa
