/- Part 11 of the proof: Ty Clean. -/
import Derived.Test.YtphldfnnjoehpaaQZ06
import Derived.Test.YtphldfnnjoehpaaQZ09
import Derived.Test.YtphldfnnjoehpaaQZ07
set_option linter.unusedVariables false
section
set_option linter.unusedSimpArgs false
namespace Go.Smd
open Go.RowKit Go.Proofs
@[simp] theorem lay_2 : Try.prog.lay 2 = some (1, false) := by kernel_rfl
@[simp] theorem cells_2 : Try.prog.cellsOf 2 = 1 := by kernel_rfl
@[simp] theorem info_2 : (Try.prog.info? 2).isSome = true := by kernel_rfl
@[simp] theorem bytes_2 : Try.prog.bytesOf 2 = 8 := by kernel_rfl
@[simp] theorem ctys_2 : ctys Try.prog 2 = [none] := by kernel_rfl
@[simp] theorem conc_2 : Try.prog.concrete 2 = true := by kernel_rfl
@[simp] theorem zero_2 : zeroCs Try.prog 2 = some [.d (.v (.int .i64 0))] := by kernel_rfl
@[simp] theorem ifc_2 : isIfcT Try.prog 2 = some false := by kernel_rfl
@[simp] theorem map_2 : Try.prog.isMap 2 = false := by kernel_rfl
@[simp] theorem ptr_2 : Try.prog.ptrT 2 = some none := by kernel_rfl
@[simp] theorem ztup_2 : zeroTup Try.prog 2 = some (.tup [(false, [.d (.v (.int .i64 0))]), (false, [.d (.v (.bool false))])]) := by kernel_rfl
@[simp] theorem app_2 : Try.prog.appOk 2 = true := by kernel_rfl
@[simp] theorem und_2 : Try.prog.underlying 2 = some (.int .i64) := by kernel_rfl
@[simp] theorem lay_3 : Try.prog.lay 3 = some (1, false) := by kernel_rfl
@[simp] theorem cells_3 : Try.prog.cellsOf 3 = 1 := by kernel_rfl
@[simp] theorem info_3 : (Try.prog.info? 3).isSome = true := by kernel_rfl
@[simp] theorem bytes_3 : Try.prog.bytesOf 3 = 8 := by kernel_rfl
@[simp] theorem ctys_3 : ctys Try.prog 3 = [none] := by kernel_rfl
@[simp] theorem conc_3 : Try.prog.concrete 3 = true := by kernel_rfl
@[simp] theorem zero_3 : zeroCs Try.prog 3 = some [.d (.v (.int .i64 0))] := by kernel_rfl
@[simp] theorem ifc_3 : isIfcT Try.prog 3 = some false := by kernel_rfl
@[simp] theorem map_3 : Try.prog.isMap 3 = false := by kernel_rfl
@[simp] theorem ptr_3 : Try.prog.ptrT 3 = some none := by kernel_rfl
@[simp] theorem ztup_3 : zeroTup Try.prog 3 = some (.tup [(false, [.d (.v (.int .i64 0))]), (false, [.d (.v (.bool false))])]) := by kernel_rfl
@[simp] theorem app_3 : Try.prog.appOk 3 = true := by kernel_rfl
@[simp] theorem und_3 : Try.prog.underlying 3 = some (.int .i64) := by kernel_rfl
@[simp] theorem lay_4 : Try.prog.lay 4 = some (1, false) := by kernel_rfl
@[simp] theorem cells_4 : Try.prog.cellsOf 4 = 1 := by kernel_rfl
@[simp] theorem info_4 : (Try.prog.info? 4).isSome = true := by kernel_rfl
@[simp] theorem bytes_4 : Try.prog.bytesOf 4 = 1 := by kernel_rfl
@[simp] theorem ctys_4 : ctys Try.prog 4 = [none] := by kernel_rfl
@[simp] theorem conc_4 : Try.prog.concrete 4 = true := by kernel_rfl
@[simp] theorem zero_4 : zeroCs Try.prog 4 = some [.d (.v (.bool false))] := by kernel_rfl
@[simp] theorem ifc_4 : isIfcT Try.prog 4 = some false := by kernel_rfl
@[simp] theorem map_4 : Try.prog.isMap 4 = false := by kernel_rfl
@[simp] theorem ptr_4 : Try.prog.ptrT 4 = some none := by kernel_rfl
@[simp] theorem ztup_4 : zeroTup Try.prog 4 = some (.tup [(false, [.d (.v (.bool false))]), (false, [.d (.v (.bool false))])]) := by kernel_rfl
@[simp] theorem app_4 : Try.prog.appOk 4 = true := by kernel_rfl
@[simp] theorem und_4 : Try.prog.underlying 4 = some .bool := by kernel_rfl
@[simp] theorem lay_5 : Try.prog.lay 5 = some (1, false) := by kernel_rfl
@[simp] theorem cells_5 : Try.prog.cellsOf 5 = 1 := by kernel_rfl
@[simp] theorem info_5 : (Try.prog.info? 5).isSome = true := by kernel_rfl
@[simp] theorem bytes_5 : Try.prog.bytesOf 5 = 1 := by kernel_rfl
@[simp] theorem ctys_5 : ctys Try.prog 5 = [none] := by kernel_rfl
@[simp] theorem conc_5 : Try.prog.concrete 5 = true := by kernel_rfl
@[simp] theorem zero_5 : zeroCs Try.prog 5 = some [.d (.v (.int .u8 0))] := by kernel_rfl
@[simp] theorem ifc_5 : isIfcT Try.prog 5 = some false := by kernel_rfl
@[simp] theorem map_5 : Try.prog.isMap 5 = false := by kernel_rfl
@[simp] theorem ptr_5 : Try.prog.ptrT 5 = some none := by kernel_rfl
@[simp] theorem ztup_5 : zeroTup Try.prog 5 = some (.tup [(false, [.d (.v (.int .u8 0))]), (false, [.d (.v (.bool false))])]) := by kernel_rfl
@[simp] theorem app_5 : Try.prog.appOk 5 = true := by kernel_rfl
@[simp] theorem und_5 : Try.prog.underlying 5 = some (.int .u8) := by kernel_rfl
@[simp] theorem fld_7_0 : Try.prog.fld 7 0 = some (0, 1, false) := by kernel_rfl
@[simp] theorem fld_7_1 : Try.prog.fld 7 1 = some (1, 1, false) := by kernel_rfl
@[simp] theorem fld_7_2 : Try.prog.fld 7 2 = some (2, 1, false) := by kernel_rfl
@[simp] theorem fld_7_3 : Try.prog.fld 7 3 = some (3, 1, false) := by kernel_rfl
@[simp] theorem fld_8_0 : Try.prog.fld 8 0 = some (0, 1, false) := by kernel_rfl
@[simp] theorem fld_8_1 : Try.prog.fld 8 1 = some (1, 1, false) := by kernel_rfl
@[simp] theorem fld_8_2 : Try.prog.fld 8 2 = some (2, 1, false) := by kernel_rfl
@[simp] theorem fld_8_3 : Try.prog.fld 8 3 = some (3, 1, false) := by kernel_rfl
@[simp] theorem lay_9 : Try.prog.lay 9 = some (1, false) := by kernel_rfl
@[simp] theorem cells_9 : Try.prog.cellsOf 9 = 1 := by kernel_rfl
@[simp] theorem info_9 : (Try.prog.info? 9).isSome = true := by kernel_rfl
@[simp] theorem bytes_9 : Try.prog.bytesOf 9 = 16 := by kernel_rfl
@[simp] theorem ctys_9 : ctys Try.prog 9 = [none] := by kernel_rfl
@[simp] theorem conc_9 : Try.prog.concrete 9 = true := by kernel_rfl
@[simp] theorem zero_9 : zeroCs Try.prog 9 = some [.d (.v (.string ⟨#[]⟩))] := by kernel_rfl
@[simp] theorem ifc_9 : isIfcT Try.prog 9 = some false := by kernel_rfl
@[simp] theorem map_9 : Try.prog.isMap 9 = false := by kernel_rfl
@[simp] theorem ptr_9 : Try.prog.ptrT 9 = some none := by kernel_rfl
@[simp] theorem ztup_9 : zeroTup Try.prog 9 = some (.tup [(false, [.d (.v (.string ⟨#[]⟩))]), (false, [.d (.v (.bool false))])]) := by kernel_rfl
@[simp] theorem app_9 : Try.prog.appOk 9 = true := by kernel_rfl
@[simp] theorem und_9 : Try.prog.underlying 9 = some .string := by kernel_rfl
@[simp] theorem fld_13_0 : Try.prog.fld 13 0 = some (0, 1, false) := by kernel_rfl
@[simp] theorem fld_13_1 : Try.prog.fld 13 1 = some (1, 1, false) := by kernel_rfl
@[simp] theorem fld_14_0 : Try.prog.fld 14 0 = some (0, 1, false) := by kernel_rfl
@[simp] theorem fld_14_1 : Try.prog.fld 14 1 = some (1, 1, false) := by kernel_rfl
@[simp] theorem fld_18_0 : Try.prog.fld 18 0 = some (0, 1, false) := by kernel_rfl
@[simp] theorem fld_19_0 : Try.prog.fld 19 0 = some (0, 1, false) := by kernel_rfl
@[simp] theorem lay_20 : Try.prog.lay 20 = some (1, false) := by kernel_rfl
@[simp] theorem cells_20 : Try.prog.cellsOf 20 = 1 := by kernel_rfl
@[simp] theorem info_20 : (Try.prog.info? 20).isSome = true := by kernel_rfl
@[simp] theorem bytes_20 : Try.prog.bytesOf 20 = 16 := by kernel_rfl
@[simp] theorem ctys_20 : ctys Try.prog 20 = [none] := by kernel_rfl
@[simp] theorem zero_20 : zeroCs Try.prog 20 = some [.d (.v (.nilIface))] := by kernel_rfl
@[simp] theorem ifc_20 : isIfcT Try.prog 20 = some true := by kernel_rfl
@[simp] theorem map_20 : Try.prog.isMap 20 = false := by kernel_rfl
@[simp] theorem app_20 : Try.prog.appOk 20 = true := by kernel_rfl
@[simp] theorem lay_22 : Try.prog.lay 22 = some (1, false) := by kernel_rfl
@[simp] theorem cells_22 : Try.prog.cellsOf 22 = 1 := by kernel_rfl
@[simp] theorem info_22 : (Try.prog.info? 22).isSome = true := by kernel_rfl
@[simp] theorem bytes_22 : Try.prog.bytesOf 22 = 8 := by kernel_rfl
@[simp] theorem ctys_22 : ctys Try.prog 22 = [none] := by kernel_rfl
@[simp] theorem conc_22 : Try.prog.concrete 22 = true := by kernel_rfl
@[simp] theorem zero_22 : zeroCs Try.prog 22 = some [.d (.v (.float .f64 0))] := by kernel_rfl
@[simp] theorem ifc_22 : isIfcT Try.prog 22 = some false := by kernel_rfl
@[simp] theorem map_22 : Try.prog.isMap 22 = false := by kernel_rfl
@[simp] theorem ptr_22 : Try.prog.ptrT 22 = some none := by kernel_rfl
@[simp] theorem ztup_22 : zeroTup Try.prog 22 = some (.tup [(false, [.d (.v (.float .f64 0))]), (false, [.d (.v (.bool false))])]) := by kernel_rfl
@[simp] theorem app_22 : Try.prog.appOk 22 = true := by kernel_rfl
@[simp] theorem und_22 : Try.prog.underlying 22 = some (.float .f64) := by kernel_rfl
@[simp] theorem lay_23 : Try.prog.lay 23 = some (1, false) := by kernel_rfl
@[simp] theorem cells_23 : Try.prog.cellsOf 23 = 1 := by kernel_rfl
@[simp] theorem info_23 : (Try.prog.info? 23).isSome = true := by kernel_rfl
@[simp] theorem bytes_23 : Try.prog.bytesOf 23 = 24 := by kernel_rfl
@[simp] theorem ctys_23 : ctys Try.prog 23 = [some 9] := by kernel_rfl
@[simp] theorem conc_23 : Try.prog.concrete 23 = true := by kernel_rfl
@[simp] theorem zero_23 : zeroCs Try.prog 23 = some [.d (.v (.slice none 0 0))] := by kernel_rfl
@[simp] theorem ifc_23 : isIfcT Try.prog 23 = some false := by kernel_rfl
@[simp] theorem map_23 : Try.prog.isMap 23 = false := by kernel_rfl
@[simp] theorem ptr_23 : Try.prog.ptrT 23 = some none := by kernel_rfl
@[simp] theorem ztup_23 : zeroTup Try.prog 23 = some (.tup [(false, [.d (.v (.slice none 0 0))]), (false, [.d (.v (.bool false))])]) := by kernel_rfl
@[simp] theorem app_23 : Try.prog.appOk 23 = true := by kernel_rfl
@[simp] theorem elem_23 : Try.prog.elemT 23 = some 9 := by kernel_rfl
@[simp] theorem und_23 : Try.prog.underlying 23 = some (.slice 9) := by kernel_rfl
@[simp] theorem lay_24 : Try.prog.lay 24 = some (1, false) := by kernel_rfl
@[simp] theorem cells_24 : Try.prog.cellsOf 24 = 1 := by kernel_rfl
@[simp] theorem info_24 : (Try.prog.info? 24).isSome = true := by kernel_rfl
@[simp] theorem bytes_24 : Try.prog.bytesOf 24 = 24 := by kernel_rfl
@[simp] theorem ctys_24 : ctys Try.prog 24 = [some 26] := by kernel_rfl
@[simp] theorem conc_24 : Try.prog.concrete 24 = true := by kernel_rfl
@[simp] theorem zero_24 : zeroCs Try.prog 24 = some [.d (.v (.slice none 0 0))] := by kernel_rfl
@[simp] theorem ifc_24 : isIfcT Try.prog 24 = some false := by kernel_rfl
@[simp] theorem map_24 : Try.prog.isMap 24 = false := by kernel_rfl
@[simp] theorem ptr_24 : Try.prog.ptrT 24 = some none := by kernel_rfl
@[simp] theorem ztup_24 : zeroTup Try.prog 24 = some (.tup [(false, [.d (.v (.slice none 0 0))]), (false, [.d (.v (.bool false))])]) := by kernel_rfl
@[simp] theorem app_24 : Try.prog.appOk 24 = true := by kernel_rfl
@[simp] theorem elem_24 : Try.prog.elemT 24 = some 26 := by kernel_rfl
@[simp] theorem und_24 : Try.prog.underlying 24 = some (.slice 26) := by kernel_rfl
@[simp] theorem fld_25_0 : Try.prog.fld 25 0 = some (0, 1, false) := by kernel_rfl
@[simp] theorem fld_25_1 : Try.prog.fld 25 1 = some (1, 1, false) := by kernel_rfl
@[simp] theorem fld_25_2 : Try.prog.fld 25 2 = some (2, 1, false) := by kernel_rfl
@[simp] theorem fld_25_3 : Try.prog.fld 25 3 = some (3, 1, false) := by kernel_rfl
@[simp] theorem fld_25_4 : Try.prog.fld 25 4 = some (4, 1, false) := by kernel_rfl
@[simp] theorem fld_25_5 : Try.prog.fld 25 5 = some (5, 1, false) := by kernel_rfl
@[simp] theorem lay_26 : Try.prog.lay 26 = some (6, true) := by kernel_rfl
@[simp] theorem cells_26 : Try.prog.cellsOf 26 = 6 := by kernel_rfl
@[simp] theorem info_26 : (Try.prog.info? 26).isSome = true := by kernel_rfl
@[simp] theorem bytes_26 : Try.prog.bytesOf 26 = 88 := by kernel_rfl
@[simp] theorem ctys_26 : ctys Try.prog 26 = [none, none, none, none, some 9, some 26] := by kernel_rfl
@[simp] theorem conc_26 : Try.prog.concrete 26 = true := by kernel_rfl
@[simp] theorem zero_26 : zeroCs Try.prog 26 = some [.d (.v (.int .i64 0)), .d (.v (.int .i64 0)), .d (.v (.float .f64 0)), .d (.v (.string ⟨#[]⟩)), .d (.v (.slice none 0 0)), .d (.v (.slice none 0 0))] := by kernel_rfl
@[simp] theorem fld_26_0 : Try.prog.fld 26 0 = some (0, 1, false) := by kernel_rfl
@[simp] theorem fld_26_1 : Try.prog.fld 26 1 = some (1, 1, false) := by kernel_rfl
@[simp] theorem fld_26_2 : Try.prog.fld 26 2 = some (2, 1, false) := by kernel_rfl
@[simp] theorem fld_26_3 : Try.prog.fld 26 3 = some (3, 1, false) := by kernel_rfl
@[simp] theorem fld_26_4 : Try.prog.fld 26 4 = some (4, 1, false) := by kernel_rfl
@[simp] theorem fld_26_5 : Try.prog.fld 26 5 = some (5, 1, false) := by kernel_rfl
@[simp] theorem str_26 : Try.prog.strOk 26 = true := by kernel_rfl
@[simp] theorem ifc_26 : isIfcT Try.prog 26 = some false := by kernel_rfl
@[simp] theorem map_26 : Try.prog.isMap 26 = false := by kernel_rfl
@[simp] theorem ptr_26 : Try.prog.ptrT 26 = some none := by kernel_rfl
@[simp] theorem ztup_26 : zeroTup Try.prog 26 = some (.tup [(true, [.d (.v (.int .i64 0)), .d (.v (.int .i64 0)), .d (.v (.float .f64 0)), .d (.v (.string ⟨#[]⟩)), .d (.v (.slice none 0 0)), .d (.v (.slice none 0 0))]), (false, [.d (.v (.bool false))])]) := by kernel_rfl
@[simp] theorem app_26 : Try.prog.appOk 26 = true := by kernel_rfl
@[simp] theorem fld_35_0 : Try.prog.fld 35 0 = some (0, 1, false) := by kernel_rfl
@[simp] theorem fld_35_1 : Try.prog.fld 35 1 = some (1, 1, false) := by kernel_rfl
@[simp] theorem fld_35_2 : Try.prog.fld 35 2 = some (2, 1, false) := by kernel_rfl
@[simp] theorem fld_36_0 : Try.prog.fld 36 0 = some (0, 1, false) := by kernel_rfl
@[simp] theorem fld_36_1 : Try.prog.fld 36 1 = some (1, 1, false) := by kernel_rfl
@[simp] theorem fld_36_2 : Try.prog.fld 36 2 = some (2, 1, false) := by kernel_rfl
@[simp] theorem fld_37_0 : Try.prog.fld 37 0 = some (0, 1, false) := by kernel_rfl
@[simp] theorem fld_37_1 : Try.prog.fld 37 1 = some (1, 1, false) := by kernel_rfl
@[simp] theorem fld_37_2 : Try.prog.fld 37 2 = some (2, 3, true) := by kernel_rfl
@[simp] theorem fld_37_3 : Try.prog.fld 37 3 = some (5, 1, false) := by kernel_rfl
@[simp] theorem fld_38_0 : Try.prog.fld 38 0 = some (0, 1, false) := by kernel_rfl
@[simp] theorem fld_38_1 : Try.prog.fld 38 1 = some (1, 1, false) := by kernel_rfl
@[simp] theorem fld_38_2 : Try.prog.fld 38 2 = some (2, 3, true) := by kernel_rfl
@[simp] theorem fld_38_3 : Try.prog.fld 38 3 = some (5, 1, false) := by kernel_rfl
@[simp] theorem fld_39_0 : Try.prog.fld 39 0 = some (0, 1, false) := by kernel_rfl
@[simp] theorem fld_39_1 : Try.prog.fld 39 1 = some (1, 6, true) := by kernel_rfl
@[simp] theorem fld_39_2 : Try.prog.fld 39 2 = some (7, 1, false) := by kernel_rfl
@[simp] theorem fld_40_0 : Try.prog.fld 40 0 = some (0, 1, false) := by kernel_rfl
@[simp] theorem fld_40_1 : Try.prog.fld 40 1 = some (1, 6, true) := by kernel_rfl
@[simp] theorem fld_40_2 : Try.prog.fld 40 2 = some (7, 1, false) := by kernel_rfl
@[simp] theorem fld_43_0 : Try.prog.fld 43 0 = some (0, 1, false) := by kernel_rfl
@[simp] theorem fld_43_1 : Try.prog.fld 43 1 = some (1, 6, true) := by kernel_rfl
@[simp] theorem fld_43_2 : Try.prog.fld 43 2 = some (7, 1, false) := by kernel_rfl
@[simp] theorem fld_44_0 : Try.prog.fld 44 0 = some (0, 1, false) := by kernel_rfl
@[simp] theorem fld_44_1 : Try.prog.fld 44 1 = some (1, 6, true) := by kernel_rfl
@[simp] theorem fld_44_2 : Try.prog.fld 44 2 = some (7, 1, false) := by kernel_rfl
@[simp] theorem fld_50_0 : Try.prog.fld 50 0 = some (0, 1, false) := by kernel_rfl
@[simp] theorem fld_51_0 : Try.prog.fld 51 0 = some (0, 1, false) := by kernel_rfl
@[simp] theorem fld_54_0 : Try.prog.fld 54 0 = some (0, 1, false) := by kernel_rfl
@[simp] theorem fld_54_1 : Try.prog.fld 54 1 = some (1, 3, true) := by kernel_rfl
@[simp] theorem fld_55_0 : Try.prog.fld 55 0 = some (0, 1, false) := by kernel_rfl
@[simp] theorem fld_55_1 : Try.prog.fld 55 1 = some (1, 3, true) := by kernel_rfl
@[simp] theorem fld_59_0 : Try.prog.fld 59 0 = some (0, 1, false) := by kernel_rfl
@[simp] theorem fld_59_1 : Try.prog.fld 59 1 = some (1, 1, false) := by kernel_rfl
@[simp] theorem fld_59_2 : Try.prog.fld 59 2 = some (2, 1, false) := by kernel_rfl
@[simp] theorem fld_59_3 : Try.prog.fld 59 3 = some (3, 1, false) := by kernel_rfl
@[simp] theorem fld_59_4 : Try.prog.fld 59 4 = some (4, 6, true) := by kernel_rfl
@[simp] theorem fld_59_5 : Try.prog.fld 59 5 = some (10, 1, false) := by kernel_rfl
@[simp] theorem fld_60_0 : Try.prog.fld 60 0 = some (0, 1, false) := by kernel_rfl
@[simp] theorem fld_60_1 : Try.prog.fld 60 1 = some (1, 1, false) := by kernel_rfl
@[simp] theorem fld_60_2 : Try.prog.fld 60 2 = some (2, 1, false) := by kernel_rfl
@[simp] theorem fld_60_3 : Try.prog.fld 60 3 = some (3, 1, false) := by kernel_rfl
@[simp] theorem fld_60_4 : Try.prog.fld 60 4 = some (4, 6, true) := by kernel_rfl
@[simp] theorem fld_60_5 : Try.prog.fld 60 5 = some (10, 1, false) := by kernel_rfl
@[simp] theorem lay_72 : Try.prog.lay 72 = some (1, false) := by kernel_rfl
@[simp] theorem cells_72 : Try.prog.cellsOf 72 = 1 := by kernel_rfl
@[simp] theorem info_72 : (Try.prog.info? 72).isSome = true := by kernel_rfl
@[simp] theorem bytes_72 : Try.prog.bytesOf 72 = 24 := by kernel_rfl
@[simp] theorem ctys_72 : ctys Try.prog 72 = [some 75] := by kernel_rfl
@[simp] theorem conc_72 : Try.prog.concrete 72 = true := by kernel_rfl
@[simp] theorem zero_72 : zeroCs Try.prog 72 = some [.d (.v (.slice none 0 0))] := by kernel_rfl
@[simp] theorem ifc_72 : isIfcT Try.prog 72 = some false := by kernel_rfl
@[simp] theorem map_72 : Try.prog.isMap 72 = false := by kernel_rfl
@[simp] theorem ptr_72 : Try.prog.ptrT 72 = some none := by kernel_rfl
@[simp] theorem ztup_72 : zeroTup Try.prog 72 = some (.tup [(false, [.d (.v (.slice none 0 0))]), (false, [.d (.v (.bool false))])]) := by kernel_rfl
@[simp] theorem app_72 : Try.prog.appOk 72 = true := by kernel_rfl
@[simp] theorem elem_72 : Try.prog.elemT 72 = some 75 := by kernel_rfl
@[simp] theorem und_72 : Try.prog.underlying 72 = some (.slice 75) := by kernel_rfl
@[simp] theorem fld_74_0 : Try.prog.fld 74 0 = some (0, 1, false) := by kernel_rfl
@[simp] theorem fld_74_1 : Try.prog.fld 74 1 = some (1, 1, false) := by kernel_rfl
@[simp] theorem fld_74_2 : Try.prog.fld 74 2 = some (2, 1, false) := by kernel_rfl
@[simp] theorem lay_75 : Try.prog.lay 75 = some (3, true) := by kernel_rfl
@[simp] theorem cells_75 : Try.prog.cellsOf 75 = 3 := by kernel_rfl
@[simp] theorem info_75 : (Try.prog.info? 75).isSome = true := by kernel_rfl
@[simp] theorem bytes_75 : Try.prog.bytesOf 75 = 64 := by kernel_rfl
@[simp] theorem ctys_75 : ctys Try.prog 75 = [none, some 26, some 26] := by kernel_rfl
@[simp] theorem conc_75 : Try.prog.concrete 75 = true := by kernel_rfl
@[simp] theorem zero_75 : zeroCs Try.prog 75 = some [.d (.v (.string ⟨#[]⟩)), .d (.v (.slice none 0 0)), .d (.v (.slice none 0 0))] := by kernel_rfl
@[simp] theorem fld_75_0 : Try.prog.fld 75 0 = some (0, 1, false) := by kernel_rfl
@[simp] theorem fld_75_1 : Try.prog.fld 75 1 = some (1, 1, false) := by kernel_rfl
@[simp] theorem fld_75_2 : Try.prog.fld 75 2 = some (2, 1, false) := by kernel_rfl
@[simp] theorem str_75 : Try.prog.strOk 75 = true := by kernel_rfl
@[simp] theorem ifc_75 : isIfcT Try.prog 75 = some false := by kernel_rfl
@[simp] theorem map_75 : Try.prog.isMap 75 = false := by kernel_rfl
@[simp] theorem ptr_75 : Try.prog.ptrT 75 = some none := by kernel_rfl
@[simp] theorem ztup_75 : zeroTup Try.prog 75 = some (.tup [(true, [.d (.v (.string ⟨#[]⟩)), .d (.v (.slice none 0 0)), .d (.v (.slice none 0 0))]), (false, [.d (.v (.bool false))])]) := by kernel_rfl
@[simp] theorem app_75 : Try.prog.appOk 75 = true := by kernel_rfl
@[simp] theorem lay_88 : Try.prog.lay 88 = some (1, false) := by kernel_rfl
@[simp] theorem cells_88 : Try.prog.cellsOf 88 = 1 := by kernel_rfl
@[simp] theorem info_88 : (Try.prog.info? 88).isSome = true := by kernel_rfl
@[simp] theorem bytes_88 : Try.prog.bytesOf 88 = 16 := by kernel_rfl
@[simp] theorem ctys_88 : ctys Try.prog 88 = [none] := by kernel_rfl
@[simp] theorem zero_88 : zeroCs Try.prog 88 = some [.d (.v (.nilIface))] := by kernel_rfl
@[simp] theorem ifc_88 : isIfcT Try.prog 88 = some true := by kernel_rfl
@[simp] theorem map_88 : Try.prog.isMap 88 = false := by kernel_rfl
@[simp] theorem app_88 : Try.prog.appOk 88 = true := by kernel_rfl
@[simp] theorem lay_94 : Try.prog.lay 94 = some (1, false) := by kernel_rfl
@[simp] theorem cells_94 : Try.prog.cellsOf 94 = 1 := by kernel_rfl
@[simp] theorem info_94 : (Try.prog.info? 94).isSome = true := by kernel_rfl
@[simp] theorem bytes_94 : Try.prog.bytesOf 94 = 16 := by kernel_rfl
@[simp] theorem ctys_94 : ctys Try.prog 94 = [none] := by kernel_rfl
@[simp] theorem zero_94 : zeroCs Try.prog 94 = some [.d (.v (.nilIface))] := by kernel_rfl
@[simp] theorem ifc_94 : isIfcT Try.prog 94 = some true := by kernel_rfl
@[simp] theorem map_94 : Try.prog.isMap 94 = false := by kernel_rfl
@[simp] theorem app_94 : Try.prog.appOk 94 = true := by kernel_rfl
@[simp] theorem fld_98_0 : Try.prog.fld 98 0 = some (0, 6, true) := by kernel_rfl
@[simp] theorem fld_98_1 : Try.prog.fld 98 1 = some (6, 1, false) := by kernel_rfl
@[simp] theorem fld_98_2 : Try.prog.fld 98 2 = some (7, 1, false) := by kernel_rfl
@[simp] theorem fld_99_0 : Try.prog.fld 99 0 = some (0, 6, true) := by kernel_rfl
@[simp] theorem fld_99_1 : Try.prog.fld 99 1 = some (6, 1, false) := by kernel_rfl
@[simp] theorem fld_99_2 : Try.prog.fld 99 2 = some (7, 1, false) := by kernel_rfl
@[simp] theorem fld_108_0 : Try.prog.fld 108 0 = some (0, 1, false) := by kernel_rfl
@[simp] theorem fld_108_1 : Try.prog.fld 108 1 = some (1, 1, false) := by kernel_rfl
@[simp] theorem fld_108_2 : Try.prog.fld 108 2 = some (2, 1, false) := by kernel_rfl
@[simp] theorem fld_109_0 : Try.prog.fld 109 0 = some (0, 1, false) := by kernel_rfl
@[simp] theorem fld_109_1 : Try.prog.fld 109 1 = some (1, 1, false) := by kernel_rfl
@[simp] theorem fld_109_2 : Try.prog.fld 109 2 = some (2, 1, false) := by kernel_rfl
@[simp] theorem fld_111_0 : Try.prog.fld 111 0 = some (0, 1, false) := by kernel_rfl
@[simp] theorem fld_111_1 : Try.prog.fld 111 1 = some (1, 3, true) := by kernel_rfl
@[simp] theorem fld_111_2 : Try.prog.fld 111 2 = some (4, 1, false) := by kernel_rfl
@[simp] theorem fld_111_3 : Try.prog.fld 111 3 = some (5, 1, false) := by kernel_rfl
@[simp] theorem fld_112_0 : Try.prog.fld 112 0 = some (0, 1, false) := by kernel_rfl
@[simp] theorem fld_112_1 : Try.prog.fld 112 1 = some (1, 3, true) := by kernel_rfl
@[simp] theorem fld_112_2 : Try.prog.fld 112 2 = some (4, 1, false) := by kernel_rfl
@[simp] theorem fld_112_3 : Try.prog.fld 112 3 = some (5, 1, false) := by kernel_rfl
@[simp] theorem fld_114_0 : Try.prog.fld 114 0 = some (0, 1, false) := by kernel_rfl
@[simp] theorem fld_114_1 : Try.prog.fld 114 1 = some (1, 1, false) := by kernel_rfl
@[simp] theorem fld_114_2 : Try.prog.fld 114 2 = some (2, 6, true) := by kernel_rfl
@[simp] theorem fld_114_3 : Try.prog.fld 114 3 = some (8, 1, false) := by kernel_rfl
@[simp] theorem fld_115_0 : Try.prog.fld 115 0 = some (0, 1, false) := by kernel_rfl
@[simp] theorem fld_115_1 : Try.prog.fld 115 1 = some (1, 1, false) := by kernel_rfl
@[simp] theorem fld_115_2 : Try.prog.fld 115 2 = some (2, 6, true) := by kernel_rfl
@[simp] theorem fld_115_3 : Try.prog.fld 115 3 = some (8, 1, false) := by kernel_rfl
@[simp] theorem fld_117_0 : Try.prog.fld 117 0 = some (0, 1, false) := by kernel_rfl
@[simp] theorem fld_117_1 : Try.prog.fld 117 1 = some (1, 6, true) := by kernel_rfl
@[simp] theorem fld_117_2 : Try.prog.fld 117 2 = some (7, 1, false) := by kernel_rfl
@[simp] theorem fld_118_0 : Try.prog.fld 118 0 = some (0, 1, false) := by kernel_rfl
@[simp] theorem fld_118_1 : Try.prog.fld 118 1 = some (1, 6, true) := by kernel_rfl
@[simp] theorem fld_118_2 : Try.prog.fld 118 2 = some (7, 1, false) := by kernel_rfl
@[simp] theorem lay_128 : Try.prog.lay 128 = some (1, false) := by kernel_rfl
@[simp] theorem cells_128 : Try.prog.cellsOf 128 = 1 := by kernel_rfl
@[simp] theorem info_128 : (Try.prog.info? 128).isSome = true := by kernel_rfl
@[simp] theorem bytes_128 : Try.prog.bytesOf 128 = 24 := by kernel_rfl
@[simp] theorem ctys_128 : ctys Try.prog 128 = [some 20] := by kernel_rfl
@[simp] theorem conc_128 : Try.prog.concrete 128 = true := by kernel_rfl
@[simp] theorem zero_128 : zeroCs Try.prog 128 = some [.d (.v (.slice none 0 0))] := by kernel_rfl
@[simp] theorem ifc_128 : isIfcT Try.prog 128 = some false := by kernel_rfl
@[simp] theorem map_128 : Try.prog.isMap 128 = false := by kernel_rfl
@[simp] theorem ptr_128 : Try.prog.ptrT 128 = some none := by kernel_rfl
@[simp] theorem ztup_128 : zeroTup Try.prog 128 = some (.tup [(false, [.d (.v (.slice none 0 0))]), (false, [.d (.v (.bool false))])]) := by kernel_rfl
@[simp] theorem app_128 : Try.prog.appOk 128 = true := by kernel_rfl
@[simp] theorem elem_128 : Try.prog.elemT 128 = some 20 := by kernel_rfl
@[simp] theorem und_128 : Try.prog.underlying 128 = some (.slice 20) := by kernel_rfl
@[simp] theorem fld_132_0 : Try.prog.fld 132 0 = some (0, 1, false) := by kernel_rfl
@[simp] theorem fld_132_1 : Try.prog.fld 132 1 = some (1, 1, false) := by kernel_rfl
@[simp] theorem fld_132_2 : Try.prog.fld 132 2 = some (2, 1, false) := by kernel_rfl
@[simp] theorem fld_132_3 : Try.prog.fld 132 3 = some (3, 1, false) := by kernel_rfl
@[simp] theorem fld_133_0 : Try.prog.fld 133 0 = some (0, 1, false) := by kernel_rfl
@[simp] theorem fld_133_1 : Try.prog.fld 133 1 = some (1, 1, false) := by kernel_rfl
@[simp] theorem fld_133_2 : Try.prog.fld 133 2 = some (2, 1, false) := by kernel_rfl
@[simp] theorem fld_133_3 : Try.prog.fld 133 3 = some (3, 1, false) := by kernel_rfl
@[simp] theorem lay_149 : Try.prog.lay 149 = some (1, false) := by kernel_rfl
@[simp] theorem cells_149 : Try.prog.cellsOf 149 = 1 := by kernel_rfl
@[simp] theorem info_149 : (Try.prog.info? 149).isSome = true := by kernel_rfl
@[simp] theorem bytes_149 : Try.prog.bytesOf 149 = 8 := by kernel_rfl
@[simp] theorem ctys_149 : ctys Try.prog 149 = [none] := by kernel_rfl
@[simp] theorem conc_149 : Try.prog.concrete 149 = true := by kernel_rfl
@[simp] theorem zero_149 : zeroCs Try.prog 149 = some [.d (.v (.int .i64 0))] := by kernel_rfl
@[simp] theorem ifc_149 : isIfcT Try.prog 149 = some false := by kernel_rfl
@[simp] theorem map_149 : Try.prog.isMap 149 = false := by kernel_rfl
@[simp] theorem ptr_149 : Try.prog.ptrT 149 = some none := by kernel_rfl
@[simp] theorem ztup_149 : zeroTup Try.prog 149 = some (.tup [(false, [.d (.v (.int .i64 0))]), (false, [.d (.v (.bool false))])]) := by kernel_rfl
@[simp] theorem app_149 : Try.prog.appOk 149 = true := by kernel_rfl
@[simp] theorem und_149 : Try.prog.underlying 149 = some (.int .i64) := by kernel_rfl
@[simp] theorem lay_154 : Try.prog.lay 154 = some (1, false) := by kernel_rfl
@[simp] theorem cells_154 : Try.prog.cellsOf 154 = 1 := by kernel_rfl
@[simp] theorem info_154 : (Try.prog.info? 154).isSome = true := by kernel_rfl
@[simp] theorem bytes_154 : Try.prog.bytesOf 154 = 8 := by kernel_rfl
@[simp] theorem ctys_154 : ctys Try.prog 154 = [none] := by kernel_rfl
@[simp] theorem conc_154 : Try.prog.concrete 154 = true := by kernel_rfl
@[simp] theorem zero_154 : zeroCs Try.prog 154 = some [.d (.v (.map none))] := by kernel_rfl
@[simp] theorem ifc_154 : isIfcT Try.prog 154 = some false := by kernel_rfl
@[simp] theorem map_154 : Try.prog.isMap 154 = true := by kernel_rfl
@[simp] theorem ptr_154 : Try.prog.ptrT 154 = some none := by kernel_rfl
@[simp] theorem ztup_154 : zeroTup Try.prog 154 = some (.tup [(false, [.d (.v (.map none))]), (false, [.d (.v (.bool false))])]) := by kernel_rfl
@[simp] theorem app_154 : Try.prog.appOk 154 = true := by kernel_rfl
@[simp] theorem fld_173_0 : Try.prog.fld 173 0 = some (0, 1, false) := by kernel_rfl
@[simp] theorem fld_174_0 : Try.prog.fld 174 0 = some (0, 1, false) := by kernel_rfl
@[simp] theorem fld_176_0 : Try.prog.fld 176 0 = some (0, 1, false) := by kernel_rfl
@[simp] theorem fld_176_1 : Try.prog.fld 176 1 = some (1, 3, true) := by kernel_rfl
@[simp] theorem fld_177_0 : Try.prog.fld 177 0 = some (0, 1, false) := by kernel_rfl
@[simp] theorem fld_177_1 : Try.prog.fld 177 1 = some (1, 3, true) := by kernel_rfl
@[simp] theorem lay_190 : Try.prog.lay 190 = some (1, false) := by kernel_rfl
@[simp] theorem cells_190 : Try.prog.cellsOf 190 = 1 := by kernel_rfl
@[simp] theorem info_190 : (Try.prog.info? 190).isSome = true := by kernel_rfl
@[simp] theorem bytes_190 : Try.prog.bytesOf 190 = 8 := by kernel_rfl
@[simp] theorem ctys_190 : ctys Try.prog 190 = [none] := by kernel_rfl
@[simp] theorem conc_190 : Try.prog.concrete 190 = true := by kernel_rfl
@[simp] theorem zero_190 : zeroCs Try.prog 190 = some [.d (.v (.pointer none))] := by kernel_rfl
@[simp] theorem ifc_190 : isIfcT Try.prog 190 = some false := by kernel_rfl
@[simp] theorem map_190 : Try.prog.isMap 190 = false := by kernel_rfl
@[simp] theorem ptr_190 : Try.prog.ptrT 190 = some (some 192) := by kernel_rfl
@[simp] theorem ztup_190 : zeroTup Try.prog 190 = some (.tup [(false, [.d (.v (.pointer none))]), (false, [.d (.v (.bool false))])]) := by kernel_rfl
@[simp] theorem app_190 : Try.prog.appOk 190 = true := by kernel_rfl
@[simp] theorem und_190 : Try.prog.underlying 190 = some (.pointer 192) := by kernel_rfl
@[simp] theorem lay_192 : Try.prog.lay 192 = some (0, true) := by kernel_rfl
@[simp] theorem cells_192 : Try.prog.cellsOf 192 = 0 := by kernel_rfl
@[simp] theorem info_192 : (Try.prog.info? 192).isSome = true := by kernel_rfl
@[simp] theorem bytes_192 : Try.prog.bytesOf 192 = 0 := by kernel_rfl
@[simp] theorem ctys_192 : ctys Try.prog 192 = [] := by kernel_rfl
@[simp] theorem conc_192 : Try.prog.concrete 192 = true := by kernel_rfl
@[simp] theorem zero_192 : zeroCs Try.prog 192 = some [] := by kernel_rfl
@[simp] theorem str_192 : Try.prog.strOk 192 = true := by kernel_rfl
@[simp] theorem ifc_192 : isIfcT Try.prog 192 = some false := by kernel_rfl
@[simp] theorem map_192 : Try.prog.isMap 192 = false := by kernel_rfl
@[simp] theorem ptr_192 : Try.prog.ptrT 192 = some none := by kernel_rfl
@[simp] theorem ztup_192 : zeroTup Try.prog 192 = some (.tup [(true, []), (false, [.d (.v (.bool false))])]) := by kernel_rfl
@[simp] theorem lay_193 : Try.prog.lay 193 = some (1, false) := by kernel_rfl
@[simp] theorem cells_193 : Try.prog.cellsOf 193 = 1 := by kernel_rfl
@[simp] theorem info_193 : (Try.prog.info? 193).isSome = true := by kernel_rfl
@[simp] theorem bytes_193 : Try.prog.bytesOf 193 = 8 := by kernel_rfl
@[simp] theorem ctys_193 : ctys Try.prog 193 = [none] := by kernel_rfl
@[simp] theorem conc_193 : Try.prog.concrete 193 = true := by kernel_rfl
@[simp] theorem zero_193 : zeroCs Try.prog 193 = some [.d (.v (.pointer none))] := by kernel_rfl
@[simp] theorem ifc_193 : isIfcT Try.prog 193 = some false := by kernel_rfl
@[simp] theorem map_193 : Try.prog.isMap 193 = false := by kernel_rfl
@[simp] theorem ptr_193 : Try.prog.ptrT 193 = some (some 216) := by kernel_rfl
@[simp] theorem ztup_193 : zeroTup Try.prog 193 = some (.tup [(false, [.d (.v (.pointer none))]), (false, [.d (.v (.bool false))])]) := by kernel_rfl
@[simp] theorem app_193 : Try.prog.appOk 193 = true := by kernel_rfl
@[simp] theorem und_193 : Try.prog.underlying 193 = some (.pointer 216) := by kernel_rfl
@[simp] theorem fld_199_0 : Try.prog.fld 199 0 = some (0, 6, true) := by kernel_rfl
@[simp] theorem fld_199_1 : Try.prog.fld 199 1 = some (6, 1, false) := by kernel_rfl
@[simp] theorem fld_199_2 : Try.prog.fld 199 2 = some (7, 1, false) := by kernel_rfl
@[simp] theorem fld_200_0 : Try.prog.fld 200 0 = some (0, 6, true) := by kernel_rfl
@[simp] theorem fld_200_1 : Try.prog.fld 200 1 = some (6, 1, false) := by kernel_rfl
@[simp] theorem fld_200_2 : Try.prog.fld 200 2 = some (7, 1, false) := by kernel_rfl
@[simp] theorem fld_203_0 : Try.prog.fld 203 0 = some (0, 1, false) := by kernel_rfl
@[simp] theorem fld_203_1 : Try.prog.fld 203 1 = some (1, 1, false) := by kernel_rfl
@[simp] theorem fld_204_0 : Try.prog.fld 204 0 = some (0, 1, false) := by kernel_rfl
@[simp] theorem fld_204_1 : Try.prog.fld 204 1 = some (1, 1, false) := by kernel_rfl
@[simp] theorem fld_206_0 : Try.prog.fld 206 0 = some (0, 1, false) := by kernel_rfl
@[simp] theorem fld_207_0 : Try.prog.fld 207 0 = some (0, 1, false) := by kernel_rfl
@[simp] theorem lay_213 : Try.prog.lay 213 = some (1, false) := by kernel_rfl
@[simp] theorem cells_213 : Try.prog.cellsOf 213 = 1 := by kernel_rfl
@[simp] theorem info_213 : (Try.prog.info? 213).isSome = true := by kernel_rfl
@[simp] theorem bytes_213 : Try.prog.bytesOf 213 = 16 := by kernel_rfl
@[simp] theorem ctys_213 : ctys Try.prog 213 = [none] := by kernel_rfl
@[simp] theorem zero_213 : zeroCs Try.prog 213 = some [.d (.v (.nilIface))] := by kernel_rfl
@[simp] theorem ifc_213 : isIfcT Try.prog 213 = some true := by kernel_rfl
@[simp] theorem map_213 : Try.prog.isMap 213 = false := by kernel_rfl
@[simp] theorem app_213 : Try.prog.appOk 213 = true := by kernel_rfl
@[simp] theorem fld_215_0 : Try.prog.fld 215 0 = some (0, 1, false) := by kernel_rfl
@[simp] theorem lay_216 : Try.prog.lay 216 = some (1, true) := by kernel_rfl
@[simp] theorem cells_216 : Try.prog.cellsOf 216 = 1 := by kernel_rfl
@[simp] theorem info_216 : (Try.prog.info? 216).isSome = true := by kernel_rfl
@[simp] theorem bytes_216 : Try.prog.bytesOf 216 = 16 := by kernel_rfl
@[simp] theorem ctys_216 : ctys Try.prog 216 = [none] := by kernel_rfl
@[simp] theorem conc_216 : Try.prog.concrete 216 = true := by kernel_rfl
@[simp] theorem zero_216 : zeroCs Try.prog 216 = some [.d (.v (.nilIface))] := by kernel_rfl
@[simp] theorem fld_216_0 : Try.prog.fld 216 0 = some (0, 1, false) := by kernel_rfl
@[simp] theorem str_216 : Try.prog.strOk 216 = true := by kernel_rfl
@[simp] theorem ifc_216 : isIfcT Try.prog 216 = some false := by kernel_rfl
@[simp] theorem map_216 : Try.prog.isMap 216 = false := by kernel_rfl
@[simp] theorem ptr_216 : Try.prog.ptrT 216 = some none := by kernel_rfl
@[simp] theorem ztup_216 : zeroTup Try.prog 216 = some (.tup [(true, [.d (.v (.nilIface))]), (false, [.d (.v (.bool false))])]) := by kernel_rfl
@[simp] theorem app_216 : Try.prog.appOk 216 = true := by kernel_rfl
@[simp] theorem fld_234_0 : Try.prog.fld 234 0 = some (0, 1, false) := by kernel_rfl
@[simp] theorem fld_234_1 : Try.prog.fld 234 1 = some (1, 1, false) := by kernel_rfl
@[simp] theorem fld_234_2 : Try.prog.fld 234 2 = some (2, 1, false) := by kernel_rfl
@[simp] theorem fld_235_0 : Try.prog.fld 235 0 = some (0, 1, false) := by kernel_rfl
@[simp] theorem fld_235_1 : Try.prog.fld 235 1 = some (1, 1, false) := by kernel_rfl
@[simp] theorem fld_235_2 : Try.prog.fld 235 2 = some (2, 1, false) := by kernel_rfl
@[simp] theorem fld_244_0 : Try.prog.fld 244 0 = some (0, 1, false) := by kernel_rfl
@[simp] theorem fld_244_1 : Try.prog.fld 244 1 = some (1, 1, false) := by kernel_rfl
@[simp] theorem fld_245_0 : Try.prog.fld 245 0 = some (0, 1, false) := by kernel_rfl
@[simp] theorem fld_245_1 : Try.prog.fld 245 1 = some (1, 1, false) := by kernel_rfl
@[simp] theorem fld_255_0 : Try.prog.fld 255 0 = some (0, 1, false) := by kernel_rfl
@[simp] theorem fld_255_1 : Try.prog.fld 255 1 = some (1, 1, false) := by kernel_rfl
@[simp] theorem fld_255_2 : Try.prog.fld 255 2 = some (2, 1, false) := by kernel_rfl
@[simp] theorem fld_255_3 : Try.prog.fld 255 3 = some (3, 1, false) := by kernel_rfl
@[simp] theorem fld_256_0 : Try.prog.fld 256 0 = some (0, 1, false) := by kernel_rfl
@[simp] theorem fld_256_1 : Try.prog.fld 256 1 = some (1, 1, false) := by kernel_rfl
@[simp] theorem fld_256_2 : Try.prog.fld 256 2 = some (2, 1, false) := by kernel_rfl
@[simp] theorem fld_256_3 : Try.prog.fld 256 3 = some (3, 1, false) := by kernel_rfl
@[simp] theorem fld_267_0 : Try.prog.fld 267 0 = some (0, 1, false) := by kernel_rfl
@[simp] theorem fld_267_1 : Try.prog.fld 267 1 = some (1, 1, false) := by kernel_rfl
@[simp] theorem fld_267_2 : Try.prog.fld 267 2 = some (2, 1, false) := by kernel_rfl
@[simp] theorem fld_267_3 : Try.prog.fld 267 3 = some (3, 1, false) := by kernel_rfl
@[simp] theorem fld_267_4 : Try.prog.fld 267 4 = some (4, 1, false) := by kernel_rfl
@[simp] theorem fld_267_5 : Try.prog.fld 267 5 = some (5, 1, false) := by kernel_rfl
@[simp] theorem fld_267_9 : Try.prog.fld 267 9 = some (9, 1, false) := by kernel_rfl
@[simp] theorem fld_268_0 : Try.prog.fld 268 0 = some (0, 1, false) := by kernel_rfl
@[simp] theorem fld_268_1 : Try.prog.fld 268 1 = some (1, 1, false) := by kernel_rfl
@[simp] theorem fld_268_2 : Try.prog.fld 268 2 = some (2, 1, false) := by kernel_rfl
@[simp] theorem fld_268_3 : Try.prog.fld 268 3 = some (3, 1, false) := by kernel_rfl
@[simp] theorem fld_268_4 : Try.prog.fld 268 4 = some (4, 1, false) := by kernel_rfl
@[simp] theorem fld_268_5 : Try.prog.fld 268 5 = some (5, 1, false) := by kernel_rfl
@[simp] theorem fld_268_9 : Try.prog.fld 268 9 = some (9, 1, false) := by kernel_rfl
@[simp] theorem lay_293 : Try.prog.lay 293 = some (1, false) := by kernel_rfl
@[simp] theorem cells_293 : Try.prog.cellsOf 293 = 1 := by kernel_rfl
@[simp] theorem info_293 : (Try.prog.info? 293).isSome = true := by kernel_rfl
@[simp] theorem bytes_293 : Try.prog.bytesOf 293 = 8 := by kernel_rfl
@[simp] theorem ctys_293 : ctys Try.prog 293 = [none] := by kernel_rfl
@[simp] theorem conc_293 : Try.prog.concrete 293 = true := by kernel_rfl
@[simp] theorem zero_293 : zeroCs Try.prog 293 = some [.d (.v (.map none))] := by kernel_rfl
@[simp] theorem ifc_293 : isIfcT Try.prog 293 = some false := by kernel_rfl
@[simp] theorem map_293 : Try.prog.isMap 293 = true := by kernel_rfl
@[simp] theorem ptr_293 : Try.prog.ptrT 293 = some none := by kernel_rfl
@[simp] theorem ztup_293 : zeroTup Try.prog 293 = some (.tup [(false, [.d (.v (.map none))]), (false, [.d (.v (.bool false))])]) := by kernel_rfl
@[simp] theorem app_293 : Try.prog.appOk 293 = true := by kernel_rfl
@[simp] theorem fld_306_0 : Try.prog.fld 306 0 = some (0, 1, false) := by kernel_rfl
@[simp] theorem fld_306_1 : Try.prog.fld 306 1 = some (1, 1, false) := by kernel_rfl
@[simp] theorem fld_306_2 : Try.prog.fld 306 2 = some (2, 1, false) := by kernel_rfl
@[simp] theorem fld_307_0 : Try.prog.fld 307 0 = some (0, 1, false) := by kernel_rfl
@[simp] theorem fld_307_1 : Try.prog.fld 307 1 = some (1, 1, false) := by kernel_rfl
@[simp] theorem fld_307_2 : Try.prog.fld 307 2 = some (2, 1, false) := by kernel_rfl
end Go.Smd
end
section
namespace Go.Smd
open Go.RowKit Go.Proofs
set_option maxHeartbeats 1000000 in
theorem fieldIndex_c (kind n : Int) (f : Nat) (s : ByteArray) (keys : List ByteArray) (l : List GV) (key : ByteArray) (cs : List Value) (w : World) (S : Nat → Prop) (hv : RepGV S w (.mk kind n f s keys l) cs) (hsort : keys.Pairwise fun a b => blt a b = true) :
    Calls Try.prog 91 #[.agg cs.toArray, .string key] w (Makes (fun _ u => u = .tuple #[.int .i64 (lower key keys : Nat), .bool (decide (keys[lower key keys]? = some key))]) w) := by
  obtain ⟨ka, kc, la, lc, rfl, ok, hkc, hlc, hks, hls⟩ := hv.open
  have h1 := ok.okKeys
  obtain ⟨nk, hnk⟩ : ∃ n, keys.length = n := ⟨_, rfl⟩
  have Hk := Lib.hid hnk
  have HS := Lib.hid hsort
  rw [hnk] at h1 hkc ⊢
  have h2 := ok.okL
  clear hnk ok hsort
  go_enter Try.func91, Try.ntmps91
  go_wp2
  go_quiet (fail)
  go_wp2
  have hks0 := hks.ext (((Ext.refl w).alloc (.cells #[.int .i64 kind, .int .i64 n, .float .f64 f, .string s, .slice ka nk kc, .slice la l.length lc] 26)).drewN nq)
  go_loop [6, 7] (fun lo hi => ∃ a b : Nat, a ≤ b ∧ b ≤ nk ∧ lo = .int .i64 a ∧ hi = .int .i64 b ∧ Hid (∀ j q, j < a → keys[j]? = some q → blt q key = true) ∧ Hid (∀ j q, b ≤ j → keys[j]? = some q → blt q key = false)) (fun lo hi => (intOf hi - intOf lo).toNat)
  case atStart => exact ⟨0, nk, by omega, by omega, rfl, rfl, fun j q h => by omega, fun j q h h' => by have := (List.getElem?_eq_some_iff.1 h').1; rw [Hk.out] at this; omega⟩
  case round =>
    obtain ⟨a, b, hab, hbn, rfl, rfl, hlo, hhi⟩ := hrel
    by_cases hlt : a < b
    · obtain ⟨q, hq⟩ : ∃ q, keys[a + (b - a) / 2]? = some q := ⟨_, List.getElem?_eq_getElem (by rw [Hk.out]; omega)⟩
      obtain ⟨ad, rfl, hc⟩ := hks0.at hq
      have Hq := Lib.hid hq; clear hq
      have Hm := Lib.hid (Nat.div_le_self (b - a) 2)
      have Hm2 := Lib.hid (show (b - a) / 2 < b - a by omega)
      by_cases hbl : Op.bytesLess q.toList key.toList = true
      · have HB := Lib.hid hbl
        go_wp2
        go_round
        case rel =>
          refine ⟨a + (b - a) / 2 + 1, b, by have := Hm2.out; omega, hbn, by go_num, rfl, fun j p hj hp => ?_, hhi⟩
          by_cases hjj : j = a + (b - a) / 2
          · subst hjj; rw [Hq.out] at hp; cases hp; exact HB.out
          · rcases Nat.lt_or_ge j a with hja | hja
            · exact hlo.out j p hja hp
            · have hpw := List.pairwise_iff_getElem.1 HS.out j (a + (b - a) / 2) (List.getElem?_eq_some_iff.1 hp).1 (List.getElem?_eq_some_iff.1 Hq.out).1 (by omega)
              rw [(List.getElem?_eq_some_iff.1 hp).2, (List.getElem?_eq_some_iff.1 Hq.out).2] at hpw
              exact blt_trans hpw HB.out
        case measure => have := Hm2.out; simp [intOf]; omega
      · have hbl' : Op.bytesLess q.toList key.toList = false := by simpa using hbl
        have HB := Lib.hid hbl'
        clear hbl
        go_wp2
        go_round
        case rel =>
          refine ⟨a, a + (b - a) / 2, by omega, by have := Hm2.out; omega, rfl, by go_num, hlo, fun j p hj hp => ?_⟩
          by_cases hjj : j = a + (b - a) / 2
          · subst hjj; rw [Hq.out] at hp; cases hp; exact HB.out
          · have hpw := List.pairwise_iff_getElem.1 HS.out (a + (b - a) / 2) j (List.getElem?_eq_some_iff.1 Hq.out).1 (List.getElem?_eq_some_iff.1 hp).1 (by omega)
            rw [(List.getElem?_eq_some_iff.1 hp).2, (List.getElem?_eq_some_iff.1 Hq.out).2] at hpw
            cases hpk : blt p key with
            | false => rfl
            | true => exact absurd (blt_trans hpw hpk) (by have := HB.out; unfold blt; rw [this]; simp)
        case measure => have := Hm2.out; simp [intOf]; omega
    · obtain rfl : a = b := by omega
      have HL : Hid (lower key keys = a) := lower_of (by rw [Hk.out]; omega) (fun j q hj hq => hlo.out j q hj hq) fun q hq => hhi.out a q (Nat.le_refl _) hq
      have HF : ∀ (b : Bool) (W : World), b = decide (keys[a]? = some key) → Ext w W → Makes (fun _ u => u = .tuple #[.int .i64 (lower key keys : Nat), .bool (decide (keys[lower key keys]? = some key))]) w (.returned (.tuple #[.int .i64 a, .bool b])) W := fun b W hb hE => ⟨_, rfl, by rw [HL.out, hb], hE⟩
      have HF' := Lib.hid HF; clear HF
      have HE : ∀ m, Ext w (((w.alloc (.cells #[.int .i64 kind, .int .i64 n, .float .f64 f, .string s, .slice ka nk kc, .slice la l.length lc] 26)).drewN nq).drewN m) := fun m => (((Ext.refl w).alloc _).drewN nq).drewN m
      have HE' := Lib.hid HE; clear HE
      by_cases ha : a < nk
      · obtain ⟨q, hq⟩ : ∃ q, keys[a]? = some q := ⟨_, List.getElem?_eq_getElem (by rw [Hk.out]; omega)⟩
        obtain ⟨ad, rfl, hc⟩ := (hks.ext ((Ext.refl w).alloc (.cells #[.int .i64 kind, .int .i64 n, .float .f64 f, .string s, .slice ka nk kc, .slice la l.length lc] 26))).at hq
        have Hq := Lib.hid hq; clear hq
        have hda : decide ((a : Int) < (nk : Int)) = true := decide_eq_true (by omega)
        have hlt1 : (a : Int) < (nk : Int) := by omega
        have hlt0 : (0 : Int) ≤ (a : Int) := by omega
        go_wp2
        go_quiet (fail)
        go_wp2
        go_ret2
        refine HF'.out _ _ ?_ ?_
        · rw [Hq.out, beq_list]; simp
        · exact HE'.out _
      · have HN : Hid (keys[a]? = none) := List.getElem?_eq_none (by rw [Hk.out]; omega)
        have hda : decide ((a : Int) < (nk : Int)) = false := decide_eq_false (by omega)
        go_wp2
        go_quiet (fail)
        go_wp2
        go_ret2
        refine HF'.out _ _ ?_ ?_
        · rw [HN.out]; simp
        · exact HE'.out _
def mkMap (fs : List (ByteArray × GV)) : GV := .mk 6 0 0 ⟨#[]⟩ (fs.map (·.1)) (fs.map (·.2))
theorem grownBy_below {B : Nat} {a w w' : World} {row : Option Nat} (h : Below B a w) (hg : w.grownBy w' row) (hB : B ≤ w.heap.size) (hr : ∀ k, row = some k → B ≤ k) : Below B a w' := Below.grown h hg hB hr
structure OutSt (w : World) (T : Nat → Prop) (bo : Nat) (wr : World) (vk vl : Value) (ks : List ByteArray) (ls : List GV) : Prop where
  hbo : w.heap.size ≤ bo
  hT : ∀ b, T b → b < w.heap.size
  below : Below bo w wr
  lt : bo < wr.heap.size
  out : wr.heap[bo]? = some (.cells #[.int .i64 6, .int .i64 0, .float .f64 0, .string ⟨#[]⟩, vk, vl] 26 (0, 0))
  bk : Build RS 9 1 (bo < ·) T wr vk ks
  bl : Build RG 26 6 (bo < ·) T wr vl ls
theorem OutSt.ext {w : World} {T : Nat → Prop} {bo : Nat} {wr : World} {vk vl : Value} {ks : List ByteArray} {ls : List GV} (h : OutSt w T bo wr vk vl ks ls) : Ext w wr := h.below.mono h.hbo
theorem OutSt.drew {w : World} {T : Nat → Prop} {bo : Nat} {wr : World} {vk vl : Value} {ks : List ByteArray} {ls : List GV} (h : OutSt w T bo wr vk vl ks ls) : OutSt w T bo wr.drew vk vl ks ls :=
  ⟨h.hbo, h.hT, h.below.drew, h.lt, h.out, h.bk.ext framedRS ((Ext.refl wr).drew), h.bl.ext framedRG ((Ext.refl wr).drew)⟩
theorem OutSt.keysTo {w : World} {T : Nat → Prop} {bo : Nat} {wr w3 : World} {vk vl vk' : Value} {ks ks' : List ByteArray} {ls : List GV} (h : OutSt w T bo wr vk vl ks ls) (hB : Build RS 9 1 (bo < ·) T w3 vk' ks') (hg : wr.grownBy w3 vk.ownBlock) :
    w3.cell? ⟨bo, 4, none⟩ = some vk ∧ w3.frozen? ⟨bo, 4, none⟩ = false ∧ OutSt w T bo (w3.setCell ⟨bo, 4, none⟩ vk') vk' vl ks' ls := by
  have hne : some bo ≠ vk.ownBlock := fun hc => by have := h.bk.row_in hc.symm; omega
  have ho := (hg.block bo h.lt hne).trans h.out
  have hs := hg.size
  have hl := h.lt
  have hsame := setCell_same w3 bo 4 vk'
  refine ⟨cell_of ho rfl, by simp [World.frozen?, ho], ⟨h.hbo, h.hT, ?_, by simp [World.setCell]; omega, by rw [setCell_at vk' ho]; rfl, ?_, ?_⟩⟩
  · exact (grownBy_below h.below hg (by omega) fun k hk => by have := h.bk.row_in hk; omega).setCell (Nat.le_refl _) _
  · exact hB.frame framedRS (hsame.mono fun b hb => by omega) (hsame.mono fun b hb => by have := h.hT b hb.1; have := h.hbo; omega) (fun _ h => h) fun _ h => h
  · have := h.bl.other framedRG hg (h.bl.row_ne h.bk (by decide)) fun k hk hT => by have := h.bk.row_in hk; have := h.hT k hT; have := h.hbo; omega
    exact this.frame framedRG (hsame.mono fun b hb => by omega) (hsame.mono fun b hb => by have := h.hT b hb.1; have := h.hbo; omega) (fun _ h => h) fun _ h => h
theorem OutSt.listTo {w : World} {T : Nat → Prop} {bo : Nat} {wr w3 : World} {vk vl vl' : Value} {ks : List ByteArray} {ls ls' : List GV} (h : OutSt w T bo wr vk vl ks ls) (hB : Build RG 26 6 (bo < ·) T w3 vl' ls') (hg : wr.grownBy w3 vl.ownBlock) :
    w3.cell? ⟨bo, 5, none⟩ = some vl ∧ w3.frozen? ⟨bo, 5, none⟩ = false ∧ OutSt w T bo (w3.setCell ⟨bo, 5, none⟩ vl') vk vl' ks ls' := by
  have hne : some bo ≠ vl.ownBlock := fun hc => by have := h.bl.row_in hc.symm; omega
  have ho := (hg.block bo h.lt hne).trans h.out
  have hs := hg.size
  have hl := h.lt
  have hsame := setCell_same w3 bo 5 vl'
  refine ⟨cell_of ho rfl, by simp [World.frozen?, ho], ⟨h.hbo, h.hT, ?_, by simp [World.setCell]; omega, by rw [setCell_at vl' ho]; rfl, ?_, ?_⟩⟩
  · exact (grownBy_below h.below hg (by omega) fun k hk => by have := h.bl.row_in hk; omega).setCell (Nat.le_refl _) _
  · have := h.bk.other framedRS hg (h.bk.row_ne h.bl (by decide)) fun k hk hT => by have := h.bl.row_in hk; have := h.hT k hT; have := h.hbo; omega
    exact this.frame framedRS (hsame.mono fun b hb => by omega) (hsame.mono fun b hb => by have := h.hT b hb.1; have := h.hbo; omega) (fun _ h => h) fun _ h => h
  · exact hB.frame framedRG (hsame.mono fun b hb => by omega) (hsame.mono fun b hb => by have := h.hT b hb.1; have := h.hbo; omega) (fun _ h => h) fun _ h => h
theorem OutSt.appK {w : World} {T : Nat → Prop} {bo : Nat} {wr : World} {vk vl : Value} {ks : List ByteArray} {ls : List GV} (h : OutSt w T bo wr vk vl ks ls) {ys : List ByteArray} {A : Option Addr} {n c : Nat} {S : Nat → Prop} (hl : ys.length = n) (hr : RepStrs S wr A ys) {N : Nat} (hN : ks.length + n = N) (hn : N * 16 ≤ 140737488355328) :
    ∃ vk' w3, (Builtin.append_ #[23, 23] 23 #[vk, .slice A n c]).run Try.prog wr = .ok vk' w3 ∧ (∃ A' c', vk' = .slice A' N c') ∧ w3.cell? ⟨bo, 4, none⟩ = some vk ∧ w3.frozen? ⟨bo, 4, none⟩ = false ∧ OutSt w T bo (w3.setCell ⟨bo, 4, none⟩ vk') vk' vl (ks ++ ys) ls := by
  subst hN
  obtain ⟨vk', w3, hrun, hB, hg, _, hsl⟩ := Build.appRow (P := Try.prog) (t := 23) (ty := 23) framedRS Try.underlying23 info_str rfl (by omega) (by omega) h.bk (c := c) hl (RowOf.imp hr (Ext.refl _) fun _ _ _ k => k) (fun y cs hy u hu => by cases hy; simp at hu; subst hu; rfl) h.lt hn
  exact ⟨vk', w3, hrun, hsl, h.keysTo hB hg⟩
theorem OutSt.appL {w : World} {T : Nat → Prop} {bo : Nat} {wr : World} {vk vl : Value} {ks : List ByteArray} {ls : List GV} (h : OutSt w T bo wr vk vl ks ls) {ys : List GV} {A : Option Addr} {n c : Nat} (hl : ys.length = n) (hr : RepGVs T wr A ys) {N : Nat} (hN : ls.length + n = N) (hn : N * 88 ≤ 140737488355328) :
    ∃ vl' w3, (Builtin.append_ #[24, 24] 24 #[vl, .slice A n c]).run Try.prog wr = .ok vl' w3 ∧ (∃ A' c', vl' = .slice A' N c') ∧ w3.cell? ⟨bo, 5, none⟩ = some vl ∧ w3.frozen? ⟨bo, 5, none⟩ = false ∧ OutSt w T bo (w3.setCell ⟨bo, 5, none⟩ vl') vk vl' ks (ls ++ ys) := by
  subst hN
  obtain ⟨vl', w3, hrun, hB, hg, _, hsl⟩ := Build.appRow (P := Try.prog) (t := 24) (ty := 24) framedRG Try.underlying24 info_val rfl (by omega) (by omega) h.bl (c := c) hl (RowOf.imp hr (Ext.refl _) fun x _ cs k => RepGV.mono k fun b hb => ⟨hb, fun hc => by have := h.bl.row_in hc; have := h.hT b hb; have := h.hbo; omega⟩) (fun y cs hy => hy.ones) h.lt hn
  exact ⟨vl', w3, hrun, hsl, h.listTo hB hg⟩
theorem OutSt.pushK {w : World} {T : Nat → Prop} {bo : Nat} {wr : World} {vk vl : Value} {ks : List ByteArray} {ls : List GV} (h : OutSt w T bo wr vk vl ks ls) (k : ByteArray) {N : Nat} (hN : ks.length + 1 = N) (hn : N * 16 ≤ 140737488355328) :
    ∃ vk' w3, (Builtin.append_ #[23, 23] 23 #[vk, .slice (some ⟨wr.heap.size, 0, none⟩) 1 1]).run Try.prog (wr.alloc (.cells #[.string k] 9)) = .ok vk' w3 ∧ (∃ A' c', vk' = .slice A' N c') ∧ w3.cell? ⟨bo, 4, none⟩ = some vk ∧ w3.frozen? ⟨bo, 4, none⟩ = false ∧ OutSt w T bo (w3.setCell ⟨bo, 4, none⟩ vk') vk' vl (ks ++ [k]) ls := by
  subst hN
  obtain ⟨vk', w3, hrun, hB, hg, _, hsl⟩ := Build.push (P := Try.prog) (t := 23) (ty := 23) framedRS Try.underlying23 info_str rfl (by omega) (by omega) h.bk (y := k) (ys := [.string k]) rfl rfl (by simp [Value.oneCell']) (by have := h.lt; omega) hn
  exact ⟨vk', w3, hrun, hsl, h.keysTo hB hg⟩
theorem OutSt.pushL {w : World} {T : Nat → Prop} {bo : Nat} {wr : World} {vk vl : Value} {ks : List ByteArray} {ls : List GV} (h : OutSt w T bo wr vk vl ks ls) {v : GV} {cs : List Value} (hv : RepGV T wr v cs) {N : Nat} (hN : ls.length + 1 = N) (hn : N * 88 ≤ 140737488355328) :
    ∃ vl' w3, (Builtin.append_ #[24, 24] 24 #[vl, .slice (some ⟨wr.heap.size, 0, none⟩) 1 1]).run Try.prog (wr.alloc (.cells cs.toArray 26)) = .ok vl' w3 ∧ (∃ A' c', vl' = .slice A' N c') ∧ w3.cell? ⟨bo, 5, none⟩ = some vl ∧ w3.frozen? ⟨bo, 5, none⟩ = false ∧ OutSt w T bo (w3.setCell ⟨bo, 5, none⟩ vl') vk vl' ks (ls ++ [v]) := by
  subst hN
  obtain ⟨vl', w3, hrun, hB, hg, _, hsl⟩ := Build.push (P := Try.prog) (t := 24) (ty := 24) framedRG Try.underlying24 info_val rfl (by omega) (by omega) h.bl (y := v) (ys := cs) (RepGV.mono hv fun b hb => ⟨hb, fun hc => by have := h.bl.row_in hc; have := h.hT b hb; have := h.hbo; omega⟩) hv.length hv.ones (by have := h.lt; omega) hn
  exact ⟨vl', w3, hrun, hsl, h.listTo hB hg⟩
theorem OutSt.done {w : World} {T : Nat → Prop} {bo : Nat} {wr : World} {vk vl : Value} {ks : List ByteArray} {ls : List GV} (h : OutSt w T bo wr vk vl ks ls) (ok : GVok 6 0 0 ⟨#[]⟩ ks ls) :
    RepGV (fun b => T b ∨ w.heap.size ≤ b) wr (.mk 6 0 0 ⟨#[]⟩ ks ls) [.int .i64 6, .int .i64 0, .float .f64 0, .string ⟨#[]⟩, vk, vl] := by
  obtain ⟨ka, kc, rfl, hkc, hk⟩ := h.bk.done framedRS (by omega)
  obtain ⟨la, lc, rfl, hlc, hl⟩ := h.bl.done framedRG (by omega)
  have hbo := h.hbo
  refine RepGV.close ok hkc hlc (RowOf.frame hk (fun _ _ => rfl) (fun b hb => .inr (by omega)) fun _ _ _ k => k) ?_
  exact RowOf.frame hl (fun _ _ => rfl) (fun b hb => .inr (by omega)) fun _ _ _ k => RepGV.mono k fun b hb => .inl hb
end Go.Smd
end
