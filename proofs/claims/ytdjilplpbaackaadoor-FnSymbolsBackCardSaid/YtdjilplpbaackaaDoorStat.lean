/- Static facts of the program: what its types say, which functions are entered. Written by statics.py. -/
import Derived.Test.YtdjilplpbaackaaDoorEngOps
set_option linter.unusedVariables false
namespace Go.Proofs.YtdjilplpbaackaaDoor.Eng
open Go
theorem mixed : Tryd.prog.follows .mixedOrders = true := by kernel_rfl
theorem at_30 : arrT Tryd.prog 30 = some (16, 1) := by kernel_rfl
theorem at_35 : arrT Tryd.prog 35 = some (256, 2) := by kernel_rfl
theorem at_50 : arrT Tryd.prog 50 = some (17, 1) := by kernel_rfl
theorem at_53 : arrT Tryd.prog 53 = some (4, 18) := by kernel_rfl
theorem at_54 : arrT Tryd.prog 54 = some (2, 72) := by kernel_rfl
theorem at_69 : arrT Tryd.prog 69 = some (256, 1) := by kernel_rfl
theorem at_78 : arrT Tryd.prog 78 = some (4096, 1) := by kernel_rfl
theorem at_88 : arrT Tryd.prog 88 = some (256, 1) := by kernel_rfl
theorem at_89 : arrT Tryd.prog 89 = some (256, 1) := by kernel_rfl
theorem at_90 : arrT Tryd.prog 90 = some (16, 1) := by kernel_rfl
theorem at_93 : arrT Tryd.prog 93 = some (4, 561) := by kernel_rfl
theorem at_94 : arrT Tryd.prog 94 = some (2, 2244) := by kernel_rfl
theorem at_98 : arrT Tryd.prog 98 = some (128, 1) := by kernel_rfl
theorem en_5 : Entered Tryd.prog 5 := .mk' Tryd.func5 (by kernel_rfl) (by kernel_rfl)
theorem en_6 : Entered Tryd.prog 6 := .mk' Tryd.func6 (by kernel_rfl) (by kernel_rfl)
theorem en_7 : Entered Tryd.prog 7 := .mk' Tryd.func7 (by kernel_rfl) (by kernel_rfl)
theorem en_8 : Entered Tryd.prog 8 := .mk' Tryd.func8 (by kernel_rfl) (by kernel_rfl)
theorem en_9 : Entered Tryd.prog 9 := .mk' Tryd.func9 (by kernel_rfl) (by kernel_rfl)
theorem en_10 : Entered Tryd.prog 10 := .mk' Tryd.func10 (by kernel_rfl) (by kernel_rfl)
theorem en_11 : Entered Tryd.prog 11 := .mk' Tryd.func11 (by kernel_rfl) (by kernel_rfl)
theorem en_12 : Entered Tryd.prog 12 := .mk' Tryd.func12 (by kernel_rfl) (by kernel_rfl)
theorem en_13 : Entered Tryd.prog 13 := .mk' Tryd.func13 (by kernel_rfl) (by kernel_rfl)
theorem en_14 : Entered Tryd.prog 14 := .mk' Tryd.func14 (by kernel_rfl) (by kernel_rfl)
theorem en_15 : Entered Tryd.prog 15 := .mk' Tryd.func15 (by kernel_rfl) (by kernel_rfl)
theorem en_16 : Entered Tryd.prog 16 := .mk' Tryd.func16 (by kernel_rfl) (by kernel_rfl)
theorem en_17 : Entered Tryd.prog 17 := .mk' Tryd.func17 (by kernel_rfl) (by kernel_rfl)
theorem en_18 : Entered Tryd.prog 18 := .mk' Tryd.func18 (by kernel_rfl) (by kernel_rfl)
theorem en_19 : Entered Tryd.prog 19 := .mk' Tryd.func19 (by kernel_rfl) (by kernel_rfl)
theorem en_20 : Entered Tryd.prog 20 := .mk' Tryd.func20 (by kernel_rfl) (by kernel_rfl)
theorem en_21 : Entered Tryd.prog 21 := .mk' Tryd.func21 (by kernel_rfl) (by kernel_rfl)
theorem en_22 : Entered Tryd.prog 22 := .mk' Tryd.func22 (by kernel_rfl) (by kernel_rfl)
theorem en_23 : Entered Tryd.prog 23 := .mk' Tryd.func23 (by kernel_rfl) (by kernel_rfl)
theorem en_24 : Entered Tryd.prog 24 := .mk' Tryd.func24 (by kernel_rfl) (by kernel_rfl)
theorem en_25 : Entered Tryd.prog 25 := .mk' Tryd.func25 (by kernel_rfl) (by kernel_rfl)
theorem en_26 : Entered Tryd.prog 26 := .mk' Tryd.func26 (by kernel_rfl) (by kernel_rfl)
theorem en_27 : Entered Tryd.prog 27 := .mk' Tryd.func27 (by kernel_rfl) (by kernel_rfl)
theorem en_28 : Entered Tryd.prog 28 := .mk' Tryd.func28 (by kernel_rfl) (by kernel_rfl)
theorem en_29 : Entered Tryd.prog 29 := .mk' Tryd.func29 (by kernel_rfl) (by kernel_rfl)
theorem en_31 : Entered Tryd.prog 31 := .mk' Tryd.func31 (by kernel_rfl) (by kernel_rfl)
theorem en_35 : Entered Tryd.prog 35 := .mk' Tryd.func35 (by kernel_rfl) (by kernel_rfl)
theorem en_36 : Entered Tryd.prog 36 := .mk' Tryd.func36 (by kernel_rfl) (by kernel_rfl)
theorem en_37 : Entered Tryd.prog 37 := .mk' Tryd.func37 (by kernel_rfl) (by kernel_rfl)
theorem en_38 : Entered Tryd.prog 38 := .mk' Tryd.func38 (by kernel_rfl) (by kernel_rfl)
theorem en_41 : Entered Tryd.prog 41 := .mk' Tryd.func41 (by kernel_rfl) (by kernel_rfl)
theorem en_69 : Entered Tryd.prog 69 := .mk' Tryd.func69 (by kernel_rfl) (by kernel_rfl)
theorem en_72 : Entered Tryd.prog 72 := .mk' Tryd.func72 (by kernel_rfl) (by kernel_rfl)
theorem en_73 : Entered Tryd.prog 73 := .mk' Tryd.func73 (by kernel_rfl) (by kernel_rfl)
theorem en_74 : Entered Tryd.prog 74 := .mk' Tryd.func74 (by kernel_rfl) (by kernel_rfl)
theorem en_75 : Entered Tryd.prog 75 := .mk' Tryd.func75 (by kernel_rfl) (by kernel_rfl)
theorem en_76 : Entered Tryd.prog 76 := .mk' Tryd.func76 (by kernel_rfl) (by kernel_rfl)
theorem ft_34_0 : fieldT Tryd.prog 34 0 = some 0 := by kernel_rfl
theorem ft_52_0 : fieldT Tryd.prog 52 0 = some 0 := by kernel_rfl
theorem ft_52_1 : fieldT Tryd.prog 52 1 = some 17 := by kernel_rfl
theorem ft_57_1 : fieldT Tryd.prog 57 1 = some 6 := by kernel_rfl
theorem ft_57_4 : fieldT Tryd.prog 57 4 = some 264 := by kernel_rfl
theorem ft_61_0 : fieldT Tryd.prog 61 0 = some 0 := by kernel_rfl
theorem ft_61_1 : fieldT Tryd.prog 61 1 = some 1 := by kernel_rfl
theorem ft_61_2 : fieldT Tryd.prog 61 2 = some 2 := by kernel_rfl
theorem ft_61_3 : fieldT Tryd.prog 61 3 = some 3 := by kernel_rfl
theorem ft_77_0 : fieldT Tryd.prog 77 0 = some 0 := by kernel_rfl
theorem ft_77_1 : fieldT Tryd.prog 77 1 = some 1 := by kernel_rfl
theorem ft_77_2 : fieldT Tryd.prog 77 2 = some 2 := by kernel_rfl
theorem ft_79_0 : fieldT Tryd.prog 79 0 = some 0 := by kernel_rfl
theorem ft_79_1 : fieldT Tryd.prog 79 1 = some 4096 := by kernel_rfl
theorem ft_79_2 : fieldT Tryd.prog 79 2 = some 4097 := by kernel_rfl
theorem ft_79_3 : fieldT Tryd.prog 79 3 = some 4098 := by kernel_rfl
theorem ft_92_0 : fieldT Tryd.prog 92 0 = some 0 := by kernel_rfl
theorem ft_92_1 : fieldT Tryd.prog 92 1 = some 1 := by kernel_rfl
theorem ft_92_2 : fieldT Tryd.prog 92 2 = some 257 := by kernel_rfl
theorem ft_92_3 : fieldT Tryd.prog 92 3 = some 513 := by kernel_rfl
theorem ft_92_4 : fieldT Tryd.prog 92 4 = some 529 := by kernel_rfl
theorem ft_92_5 : fieldT Tryd.prog 92 5 = some 545 := by kernel_rfl
theorem ft_100_0 : fieldT Tryd.prog 100 0 = some 0 := by kernel_rfl
theorem ft_100_1 : fieldT Tryd.prog 100 1 = some 1 := by kernel_rfl
theorem ft_100_2 : fieldT Tryd.prog 100 2 = some 4 := by kernel_rfl
theorem ft_100_14 : fieldT Tryd.prog 100 14 = some 4114 := by kernel_rfl
theorem ft_100_22 : fieldT Tryd.prog 100 22 = some 4148 := by kernel_rfl
theorem ft_100_24 : fieldT Tryd.prog 100 24 = some 8892 := by kernel_rfl
theorem ft_116_0 : fieldT Tryd.prog 116 0 = some 0 := by kernel_rfl
theorem ft_116_1 : fieldT Tryd.prog 116 1 = some 16 := by kernel_rfl
theorem ft_120_0 : fieldT Tryd.prog 120 0 = some 0 := by kernel_rfl
theorem ft_120_1 : fieldT Tryd.prog 120 1 = some 1 := by kernel_rfl
theorem ft_120_2 : fieldT Tryd.prog 120 2 = some 2 := by kernel_rfl
theorem ft_130_0 : fieldT Tryd.prog 130 0 = some 0 := by kernel_rfl
theorem ft_130_1 : fieldT Tryd.prog 130 1 = some 1 := by kernel_rfl
theorem ft_130_3 : fieldT Tryd.prog 130 3 = some 18 := by kernel_rfl
theorem ft_130_4 : fieldT Tryd.prog 130 4 = some 19 := by kernel_rfl
theorem ft_134_0 : fieldT Tryd.prog 134 0 = some 0 := by kernel_rfl
theorem ft_134_1 : fieldT Tryd.prog 134 1 = some 1 := by kernel_rfl
theorem ft_134_2 : fieldT Tryd.prog 134 2 = some 2 := by kernel_rfl
theorem it_3 : intT Tryd.prog 3 = some .i64 := by kernel_rfl
theorem it_5 : intT Tryd.prog 5 = some .u8 := by kernel_rfl
theorem it_21 : intT Tryd.prog 21 = some .i32 := by kernel_rfl
theorem it_40 : intT Tryd.prog 40 = some .u32 := by kernel_rfl
theorem it_82 : intT Tryd.prog 82 = some .u16 := by kernel_rfl
theorem nf_9 : ifaceT Tryd.prog 9 = false := by kernel_rfl
theorem nf_72 : ifaceT Tryd.prog 72 = false := by kernel_rfl
theorem nf_105 : ifaceT Tryd.prog 105 = false := by kernel_rfl
theorem nf_109 : ifaceT Tryd.prog 109 = false := by kernel_rfl
theorem nf_111 : ifaceT Tryd.prog 111 = false := by kernel_rfl
theorem nf_112 : ifaceT Tryd.prog 112 = false := by kernel_rfl
theorem nf_123 : ifaceT Tryd.prog 123 = false := by kernel_rfl
theorem nf_175 : ifaceT Tryd.prog 175 = false := by kernel_rfl
theorem sc_2 : scalarT Tryd.prog 2 = true := by kernel_rfl
theorem sc_3 : scalarT Tryd.prog 3 = true := by kernel_rfl
theorem sc_4 : scalarT Tryd.prog 4 = true := by kernel_rfl
theorem sc_5 : scalarT Tryd.prog 5 = true := by kernel_rfl
theorem sc_21 : scalarT Tryd.prog 21 = true := by kernel_rfl
theorem sc_22 : scalarT Tryd.prog 22 = true := by kernel_rfl
theorem sc_29 : scalarT Tryd.prog 29 = true := by kernel_rfl
theorem sc_40 : scalarT Tryd.prog 40 = true := by kernel_rfl
theorem sc_65 : scalarT Tryd.prog 65 = true := by kernel_rfl
theorem sc_75 : scalarT Tryd.prog 75 = true := by kernel_rfl
theorem sc_82 : scalarT Tryd.prog 82 = true := by kernel_rfl
theorem sc_113 : scalarT Tryd.prog 113 = true := by kernel_rfl
theorem sc_125 : scalarT Tryd.prog 125 = true := by kernel_rfl
theorem sc_139 : scalarT Tryd.prog 139 = true := by kernel_rfl
theorem so_3 : someT Tryd.prog 3 = true := by kernel_rfl
theorem so_5 : someT Tryd.prog 5 = true := by kernel_rfl
theorem so_21 : someT Tryd.prog 21 = true := by kernel_rfl
theorem so_22 : someT Tryd.prog 22 = true := by kernel_rfl
theorem so_40 : someT Tryd.prog 40 = true := by kernel_rfl
theorem so_82 : someT Tryd.prog 82 = true := by kernel_rfl
theorem sz_2 : sizeT Tryd.prog 2 = some 1 := by kernel_rfl
theorem sz_3 : sizeT Tryd.prog 3 = some 1 := by kernel_rfl
theorem sz_4 : sizeT Tryd.prog 4 = some 1 := by kernel_rfl
theorem sz_5 : sizeT Tryd.prog 5 = some 1 := by kernel_rfl
theorem sz_21 : sizeT Tryd.prog 21 = some 1 := by kernel_rfl
theorem sz_22 : sizeT Tryd.prog 22 = some 1 := by kernel_rfl
theorem sz_29 : sizeT Tryd.prog 29 = some 1 := by kernel_rfl
theorem sz_40 : sizeT Tryd.prog 40 = some 1 := by kernel_rfl
theorem sz_65 : sizeT Tryd.prog 65 = some 1 := by kernel_rfl
theorem sz_75 : sizeT Tryd.prog 75 = some 1 := by kernel_rfl
theorem sz_82 : sizeT Tryd.prog 82 = some 1 := by kernel_rfl
theorem sz_113 : sizeT Tryd.prog 113 = some 1 := by kernel_rfl
theorem sz_118 : sizeT Tryd.prog 118 = some 1 := by kernel_rfl
theorem un_9 : Tryd.prog.underlying 9 ≠ none := by rw [Tryd.underlying9]; exact fun h => nomatch h
theorem un_72 : Tryd.prog.underlying 72 ≠ none := by rw [Tryd.underlying72]; exact fun h => nomatch h
theorem un_105 : Tryd.prog.underlying 105 ≠ none := by rw [Tryd.underlying105]; exact fun h => nomatch h
theorem un_109 : Tryd.prog.underlying 109 ≠ none := by rw [Tryd.underlying109]; exact fun h => nomatch h
theorem un_111 : Tryd.prog.underlying 111 ≠ none := by rw [Tryd.underlying111]; exact fun h => nomatch h
theorem un_112 : Tryd.prog.underlying 112 ≠ none := by rw [Tryd.underlying112]; exact fun h => nomatch h
theorem un_123 : Tryd.prog.underlying 123 ≠ none := by rw [Tryd.underlying123]; exact fun h => nomatch h
theorem un_175 : Tryd.prog.underlying 175 ≠ none := by rw [Tryd.underlying175]; exact fun h => nomatch h
theorem en_62 : Entered Tryd.prog 62 := .mk' Tryd.func62 (by kernel_rfl) (by kernel_rfl)
theorem en_71 : Entered Tryd.prog 71 := .mk' Tryd.func71 (by kernel_rfl) (by kernel_rfl)
theorem sl_22 : sliceT Tryd.prog 22 = some 1 := by kernel_rfl
theorem sl_38 : sliceT Tryd.prog 38 = some 1 := by kernel_rfl
theorem sl_29 : sliceT Tryd.prog 29 = some 1 := by kernel_rfl
theorem sl_136 : sliceT Tryd.prog 136 = some 1 := by kernel_rfl
end Go.Proofs.YtdjilplpbaackaaDoor.Eng
