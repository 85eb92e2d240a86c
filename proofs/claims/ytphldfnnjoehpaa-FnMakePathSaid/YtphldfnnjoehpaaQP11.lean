/- Part 11 of the proof: Ty. -/
import Derived.Test.YtphldfnnjoehpaaQP06
set_option linter.unusedVariables false
section
set_option linter.unusedSimpArgs false
namespace Go.Smd
open Go.RowKit Go.Proofs
@[simp] theorem lay_2 : Try.prog.lay 2 = some (1, false) := by kernel_rfl
@[simp] theorem cells_2 : Try.prog.cellsOf 2 = 1 := by kernel_rfl
@[simp] theorem info_2 : (Try.prog.info? 2).isSome = true := by kernel_rfl
@[simp] theorem bytes_2 : Try.prog.bytesOf 2 = 8 := by kernel_rfl
@[simp] theorem ctys_2 : ctys Try.prog 2 = [none] := by kernel_rfl
@[simp] theorem conc_2 : Try.prog.concrete 2 = true := by kernel_rfl
@[simp] theorem zero_2 : zeroCs Try.prog 2 = some [.d (.v (.int .i64 0))] := by kernel_rfl
@[simp] theorem ifc_2 : isIfcT Try.prog 2 = some false := by kernel_rfl
@[simp] theorem map_2 : Try.prog.isMap 2 = false := by kernel_rfl
@[simp] theorem ptr_2 : Try.prog.ptrT 2 = some none := by kernel_rfl
@[simp] theorem ztup_2 : zeroTup Try.prog 2 = some (.tup [(false, [.d (.v (.int .i64 0))]), (false, [.d (.v (.bool false))])]) := by kernel_rfl
@[simp] theorem app_2 : Try.prog.appOk 2 = true := by kernel_rfl
@[simp] theorem und_2 : Try.prog.underlying 2 = some (.int .i64) := by kernel_rfl
@[simp] theorem lay_3 : Try.prog.lay 3 = some (1, false) := by kernel_rfl
@[simp] theorem cells_3 : Try.prog.cellsOf 3 = 1 := by kernel_rfl
@[simp] theorem info_3 : (Try.prog.info? 3).isSome = true := by kernel_rfl
@[simp] theorem bytes_3 : Try.prog.bytesOf 3 = 8 := by kernel_rfl
@[simp] theorem ctys_3 : ctys Try.prog 3 = [none] := by kernel_rfl
@[simp] theorem conc_3 : Try.prog.concrete 3 = true := by kernel_rfl
@[simp] theorem zero_3 : zeroCs Try.prog 3 = some [.d (.v (.int .i64 0))] := by kernel_rfl
@[simp] theorem ifc_3 : isIfcT Try.prog 3 = some false := by kernel_rfl
@[simp] theorem map_3 : Try.prog.isMap 3 = false := by kernel_rfl
@[simp] theorem ptr_3 : Try.prog.ptrT 3 = some none := by kernel_rfl
@[simp] theorem ztup_3 : zeroTup Try.prog 3 = some (.tup [(false, [.d (.v (.int .i64 0))]), (false, [.d (.v (.bool false))])]) := by kernel_rfl
@[simp] theorem app_3 : Try.prog.appOk 3 = true := by kernel_rfl
@[simp] theorem und_3 : Try.prog.underlying 3 = some (.int .i64) := by kernel_rfl
@[simp] theorem lay_4 : Try.prog.lay 4 = some (1, false) := by kernel_rfl
@[simp] theorem cells_4 : Try.prog.cellsOf 4 = 1 := by kernel_rfl
@[simp] theorem info_4 : (Try.prog.info? 4).isSome = true := by kernel_rfl
@[simp] theorem bytes_4 : Try.prog.bytesOf 4 = 1 := by kernel_rfl
@[simp] theorem ctys_4 : ctys Try.prog 4 = [none] := by kernel_rfl
@[simp] theorem conc_4 : Try.prog.concrete 4 = true := by kernel_rfl
@[simp] theorem zero_4 : zeroCs Try.prog 4 = some [.d (.v (.bool false))] := by kernel_rfl
@[simp] theorem ifc_4 : isIfcT Try.prog 4 = some false := by kernel_rfl
@[simp] theorem map_4 : Try.prog.isMap 4 = false := by kernel_rfl
@[simp] theorem ptr_4 : Try.prog.ptrT 4 = some none := by kernel_rfl
@[simp] theorem ztup_4 : zeroTup Try.prog 4 = some (.tup [(false, [.d (.v (.bool false))]), (false, [.d (.v (.bool false))])]) := by kernel_rfl
@[simp] theorem app_4 : Try.prog.appOk 4 = true := by kernel_rfl
@[simp] theorem und_4 : Try.prog.underlying 4 = some .bool := by kernel_rfl
@[simp] theorem lay_5 : Try.prog.lay 5 = some (1, false) := by kernel_rfl
@[simp] theorem cells_5 : Try.prog.cellsOf 5 = 1 := by kernel_rfl
@[simp] theorem info_5 : (Try.prog.info? 5).isSome = true := by kernel_rfl
@[simp] theorem bytes_5 : Try.prog.bytesOf 5 = 1 := by kernel_rfl
@[simp] theorem ctys_5 : ctys Try.prog 5 = [none] := by kernel_rfl
@[simp] theorem conc_5 : Try.prog.concrete 5 = true := by kernel_rfl
@[simp] theorem zero_5 : zeroCs Try.prog 5 = some [.d (.v (.int .u8 0))] := by kernel_rfl
@[simp] theorem ifc_5 : isIfcT Try.prog 5 = some false := by kernel_rfl
@[simp] theorem map_5 : Try.prog.isMap 5 = false := by kernel_rfl
@[simp] theorem ptr_5 : Try.prog.ptrT 5 = some none := by kernel_rfl
@[simp] theorem ztup_5 : zeroTup Try.prog 5 = some (.tup [(false, [.d (.v (.int .u8 0))]), (false, [.d (.v (.bool false))])]) := by kernel_rfl
@[simp] theorem app_5 : Try.prog.appOk 5 = true := by kernel_rfl
@[simp] theorem und_5 : Try.prog.underlying 5 = some (.int .u8) := by kernel_rfl
@[simp] theorem fld_7_0 : Try.prog.fld 7 0 = some (0, 1, false) := by kernel_rfl
@[simp] theorem fld_7_1 : Try.prog.fld 7 1 = some (1, 1, false) := by kernel_rfl
@[simp] theorem fld_7_2 : Try.prog.fld 7 2 = some (2, 1, false) := by kernel_rfl
@[simp] theorem fld_7_3 : Try.prog.fld 7 3 = some (3, 1, false) := by kernel_rfl
@[simp] theorem fld_8_0 : Try.prog.fld 8 0 = some (0, 1, false) := by kernel_rfl
@[simp] theorem fld_8_1 : Try.prog.fld 8 1 = some (1, 1, false) := by kernel_rfl
@[simp] theorem fld_8_2 : Try.prog.fld 8 2 = some (2, 1, false) := by kernel_rfl
@[simp] theorem fld_8_3 : Try.prog.fld 8 3 = some (3, 1, false) := by kernel_rfl
@[simp] theorem lay_9 : Try.prog.lay 9 = some (1, false) := by kernel_rfl
@[simp] theorem cells_9 : Try.prog.cellsOf 9 = 1 := by kernel_rfl
@[simp] theorem info_9 : (Try.prog.info? 9).isSome = true := by kernel_rfl
@[simp] theorem bytes_9 : Try.prog.bytesOf 9 = 16 := by kernel_rfl
@[simp] theorem ctys_9 : ctys Try.prog 9 = [none] := by kernel_rfl
@[simp] theorem conc_9 : Try.prog.concrete 9 = true := by kernel_rfl
@[simp] theorem zero_9 : zeroCs Try.prog 9 = some [.d (.v (.string ⟨#[]⟩))] := by kernel_rfl
@[simp] theorem ifc_9 : isIfcT Try.prog 9 = some false := by kernel_rfl
@[simp] theorem map_9 : Try.prog.isMap 9 = false := by kernel_rfl
@[simp] theorem ptr_9 : Try.prog.ptrT 9 = some none := by kernel_rfl
@[simp] theorem ztup_9 : zeroTup Try.prog 9 = some (.tup [(false, [.d (.v (.string ⟨#[]⟩))]), (false, [.d (.v (.bool false))])]) := by kernel_rfl
@[simp] theorem app_9 : Try.prog.appOk 9 = true := by kernel_rfl
@[simp] theorem und_9 : Try.prog.underlying 9 = some .string := by kernel_rfl
@[simp] theorem fld_13_0 : Try.prog.fld 13 0 = some (0, 1, false) := by kernel_rfl
@[simp] theorem fld_13_1 : Try.prog.fld 13 1 = some (1, 1, false) := by kernel_rfl
@[simp] theorem fld_14_0 : Try.prog.fld 14 0 = some (0, 1, false) := by kernel_rfl
@[simp] theorem fld_14_1 : Try.prog.fld 14 1 = some (1, 1, false) := by kernel_rfl
@[simp] theorem fld_18_0 : Try.prog.fld 18 0 = some (0, 1, false) := by kernel_rfl
@[simp] theorem fld_19_0 : Try.prog.fld 19 0 = some (0, 1, false) := by kernel_rfl
@[simp] theorem lay_20 : Try.prog.lay 20 = some (1, false) := by kernel_rfl
@[simp] theorem cells_20 : Try.prog.cellsOf 20 = 1 := by kernel_rfl
@[simp] theorem info_20 : (Try.prog.info? 20).isSome = true := by kernel_rfl
@[simp] theorem bytes_20 : Try.prog.bytesOf 20 = 16 := by kernel_rfl
@[simp] theorem ctys_20 : ctys Try.prog 20 = [none] := by kernel_rfl
@[simp] theorem zero_20 : zeroCs Try.prog 20 = some [.d (.v (.nilIface))] := by kernel_rfl
@[simp] theorem ifc_20 : isIfcT Try.prog 20 = some true := by kernel_rfl
@[simp] theorem map_20 : Try.prog.isMap 20 = false := by kernel_rfl
@[simp] theorem app_20 : Try.prog.appOk 20 = true := by kernel_rfl
@[simp] theorem lay_22 : Try.prog.lay 22 = some (1, false) := by kernel_rfl
@[simp] theorem cells_22 : Try.prog.cellsOf 22 = 1 := by kernel_rfl
@[simp] theorem info_22 : (Try.prog.info? 22).isSome = true := by kernel_rfl
@[simp] theorem bytes_22 : Try.prog.bytesOf 22 = 8 := by kernel_rfl
@[simp] theorem ctys_22 : ctys Try.prog 22 = [none] := by kernel_rfl
@[simp] theorem conc_22 : Try.prog.concrete 22 = true := by kernel_rfl
@[simp] theorem zero_22 : zeroCs Try.prog 22 = some [.d (.v (.float .f64 0))] := by kernel_rfl
@[simp] theorem ifc_22 : isIfcT Try.prog 22 = some false := by kernel_rfl
@[simp] theorem map_22 : Try.prog.isMap 22 = false := by kernel_rfl
@[simp] theorem ptr_22 : Try.prog.ptrT 22 = some none := by kernel_rfl
@[simp] theorem ztup_22 : zeroTup Try.prog 22 = some (.tup [(false, [.d (.v (.float .f64 0))]), (false, [.d (.v (.bool false))])]) := by kernel_rfl
@[simp] theorem app_22 : Try.prog.appOk 22 = true := by kernel_rfl
@[simp] theorem und_22 : Try.prog.underlying 22 = some (.float .f64) := by kernel_rfl
@[simp] theorem lay_23 : Try.prog.lay 23 = some (1, false) := by kernel_rfl
@[simp] theorem cells_23 : Try.prog.cellsOf 23 = 1 := by kernel_rfl
@[simp] theorem info_23 : (Try.prog.info? 23).isSome = true := by kernel_rfl
@[simp] theorem bytes_23 : Try.prog.bytesOf 23 = 24 := by kernel_rfl
@[simp] theorem ctys_23 : ctys Try.prog 23 = [some 9] := by kernel_rfl
@[simp] theorem conc_23 : Try.prog.concrete 23 = true := by kernel_rfl
@[simp] theorem zero_23 : zeroCs Try.prog 23 = some [.d (.v (.slice none 0 0))] := by kernel_rfl
@[simp] theorem ifc_23 : isIfcT Try.prog 23 = some false := by kernel_rfl
@[simp] theorem map_23 : Try.prog.isMap 23 = false := by kernel_rfl
@[simp] theorem ptr_23 : Try.prog.ptrT 23 = some none := by kernel_rfl
@[simp] theorem ztup_23 : zeroTup Try.prog 23 = some (.tup [(false, [.d (.v (.slice none 0 0))]), (false, [.d (.v (.bool false))])]) := by kernel_rfl
@[simp] theorem app_23 : Try.prog.appOk 23 = true := by kernel_rfl
@[simp] theorem elem_23 : Try.prog.elemT 23 = some 9 := by kernel_rfl
@[simp] theorem und_23 : Try.prog.underlying 23 = some (.slice 9) := by kernel_rfl
@[simp] theorem lay_24 : Try.prog.lay 24 = some (1, false) := by kernel_rfl
@[simp] theorem cells_24 : Try.prog.cellsOf 24 = 1 := by kernel_rfl
@[simp] theorem info_24 : (Try.prog.info? 24).isSome = true := by kernel_rfl
@[simp] theorem bytes_24 : Try.prog.bytesOf 24 = 24 := by kernel_rfl
@[simp] theorem ctys_24 : ctys Try.prog 24 = [some 26] := by kernel_rfl
@[simp] theorem conc_24 : Try.prog.concrete 24 = true := by kernel_rfl
@[simp] theorem zero_24 : zeroCs Try.prog 24 = some [.d (.v (.slice none 0 0))] := by kernel_rfl
@[simp] theorem ifc_24 : isIfcT Try.prog 24 = some false := by kernel_rfl
@[simp] theorem map_24 : Try.prog.isMap 24 = false := by kernel_rfl
@[simp] theorem ptr_24 : Try.prog.ptrT 24 = some none := by kernel_rfl
@[simp] theorem ztup_24 : zeroTup Try.prog 24 = some (.tup [(false, [.d (.v (.slice none 0 0))]), (false, [.d (.v (.bool false))])]) := by kernel_rfl
@[simp] theorem app_24 : Try.prog.appOk 24 = true := by kernel_rfl
@[simp] theorem elem_24 : Try.prog.elemT 24 = some 26 := by kernel_rfl
@[simp] theorem und_24 : Try.prog.underlying 24 = some (.slice 26) := by kernel_rfl
@[simp] theorem fld_25_0 : Try.prog.fld 25 0 = some (0, 1, false) := by kernel_rfl
@[simp] theorem fld_25_1 : Try.prog.fld 25 1 = some (1, 1, false) := by kernel_rfl
@[simp] theorem fld_25_2 : Try.prog.fld 25 2 = some (2, 1, false) := by kernel_rfl
@[simp] theorem fld_25_3 : Try.prog.fld 25 3 = some (3, 1, false) := by kernel_rfl
@[simp] theorem fld_25_4 : Try.prog.fld 25 4 = some (4, 1, false) := by kernel_rfl
@[simp] theorem fld_25_5 : Try.prog.fld 25 5 = some (5, 1, false) := by kernel_rfl
@[simp] theorem lay_26 : Try.prog.lay 26 = some (6, true) := by kernel_rfl
@[simp] theorem cells_26 : Try.prog.cellsOf 26 = 6 := by kernel_rfl
@[simp] theorem info_26 : (Try.prog.info? 26).isSome = true := by kernel_rfl
@[simp] theorem bytes_26 : Try.prog.bytesOf 26 = 88 := by kernel_rfl
@[simp] theorem ctys_26 : ctys Try.prog 26 = [none, none, none, none, some 9, some 26] := by kernel_rfl
@[simp] theorem conc_26 : Try.prog.concrete 26 = true := by kernel_rfl
@[simp] theorem zero_26 : zeroCs Try.prog 26 = some [.d (.v (.int .i64 0)), .d (.v (.int .i64 0)), .d (.v (.float .f64 0)), .d (.v (.string ⟨#[]⟩)), .d (.v (.slice none 0 0)), .d (.v (.slice none 0 0))] := by kernel_rfl
@[simp] theorem fld_26_0 : Try.prog.fld 26 0 = some (0, 1, false) := by kernel_rfl
@[simp] theorem fld_26_1 : Try.prog.fld 26 1 = some (1, 1, false) := by kernel_rfl
@[simp] theorem fld_26_2 : Try.prog.fld 26 2 = some (2, 1, false) := by kernel_rfl
@[simp] theorem fld_26_3 : Try.prog.fld 26 3 = some (3, 1, false) := by kernel_rfl
@[simp] theorem fld_26_4 : Try.prog.fld 26 4 = some (4, 1, false) := by kernel_rfl
@[simp] theorem fld_26_5 : Try.prog.fld 26 5 = some (5, 1, false) := by kernel_rfl
@[simp] theorem str_26 : Try.prog.strOk 26 = true := by kernel_rfl
@[simp] theorem ifc_26 : isIfcT Try.prog 26 = some false := by kernel_rfl
@[simp] theorem map_26 : Try.prog.isMap 26 = false := by kernel_rfl
@[simp] theorem ptr_26 : Try.prog.ptrT 26 = some none := by kernel_rfl
@[simp] theorem ztup_26 : zeroTup Try.prog 26 = some (.tup [(true, [.d (.v (.int .i64 0)), .d (.v (.int .i64 0)), .d (.v (.float .f64 0)), .d (.v (.string ⟨#[]⟩)), .d (.v (.slice none 0 0)), .d (.v (.slice none 0 0))]), (false, [.d (.v (.bool false))])]) := by kernel_rfl
@[simp] theorem app_26 : Try.prog.appOk 26 = true := by kernel_rfl
@[simp] theorem fld_35_0 : Try.prog.fld 35 0 = some (0, 1, false) := by kernel_rfl
@[simp] theorem fld_35_1 : Try.prog.fld 35 1 = some (1, 1, false) := by kernel_rfl
@[simp] theorem fld_35_2 : Try.prog.fld 35 2 = some (2, 1, false) := by kernel_rfl
@[simp] theorem fld_36_0 : Try.prog.fld 36 0 = some (0, 1, false) := by kernel_rfl
@[simp] theorem fld_36_1 : Try.prog.fld 36 1 = some (1, 1, false) := by kernel_rfl
@[simp] theorem fld_36_2 : Try.prog.fld 36 2 = some (2, 1, false) := by kernel_rfl
@[simp] theorem fld_37_0 : Try.prog.fld 37 0 = some (0, 1, false) := by kernel_rfl
@[simp] theorem fld_37_1 : Try.prog.fld 37 1 = some (1, 1, false) := by kernel_rfl
@[simp] theorem fld_37_2 : Try.prog.fld 37 2 = some (2, 3, true) := by kernel_rfl
@[simp] theorem fld_37_3 : Try.prog.fld 37 3 = some (5, 1, false) := by kernel_rfl
@[simp] theorem fld_38_0 : Try.prog.fld 38 0 = some (0, 1, false) := by kernel_rfl
@[simp] theorem fld_38_1 : Try.prog.fld 38 1 = some (1, 1, false) := by kernel_rfl
@[simp] theorem fld_38_2 : Try.prog.fld 38 2 = some (2, 3, true) := by kernel_rfl
@[simp] theorem fld_38_3 : Try.prog.fld 38 3 = some (5, 1, false) := by kernel_rfl
@[simp] theorem fld_39_0 : Try.prog.fld 39 0 = some (0, 1, false) := by kernel_rfl
@[simp] theorem fld_39_1 : Try.prog.fld 39 1 = some (1, 6, true) := by kernel_rfl
@[simp] theorem fld_39_2 : Try.prog.fld 39 2 = some (7, 1, false) := by kernel_rfl
@[simp] theorem fld_40_0 : Try.prog.fld 40 0 = some (0, 1, false) := by kernel_rfl
@[simp] theorem fld_40_1 : Try.prog.fld 40 1 = some (1, 6, true) := by kernel_rfl
@[simp] theorem fld_40_2 : Try.prog.fld 40 2 = some (7, 1, false) := by kernel_rfl
@[simp] theorem fld_43_0 : Try.prog.fld 43 0 = some (0, 1, false) := by kernel_rfl
@[simp] theorem fld_43_1 : Try.prog.fld 43 1 = some (1, 6, true) := by kernel_rfl
@[simp] theorem fld_43_2 : Try.prog.fld 43 2 = some (7, 1, false) := by kernel_rfl
@[simp] theorem fld_44_0 : Try.prog.fld 44 0 = some (0, 1, false) := by kernel_rfl
@[simp] theorem fld_44_1 : Try.prog.fld 44 1 = some (1, 6, true) := by kernel_rfl
@[simp] theorem fld_44_2 : Try.prog.fld 44 2 = some (7, 1, false) := by kernel_rfl
@[simp] theorem fld_50_0 : Try.prog.fld 50 0 = some (0, 1, false) := by kernel_rfl
@[simp] theorem fld_51_0 : Try.prog.fld 51 0 = some (0, 1, false) := by kernel_rfl
@[simp] theorem fld_54_0 : Try.prog.fld 54 0 = some (0, 1, false) := by kernel_rfl
@[simp] theorem fld_54_1 : Try.prog.fld 54 1 = some (1, 3, true) := by kernel_rfl
@[simp] theorem fld_55_0 : Try.prog.fld 55 0 = some (0, 1, false) := by kernel_rfl
@[simp] theorem fld_55_1 : Try.prog.fld 55 1 = some (1, 3, true) := by kernel_rfl
@[simp] theorem lay_58 : Try.prog.lay 58 = some (1, false) := by kernel_rfl
@[simp] theorem cells_58 : Try.prog.cellsOf 58 = 1 := by kernel_rfl
@[simp] theorem info_58 : (Try.prog.info? 58).isSome = true := by kernel_rfl
@[simp] theorem bytes_58 : Try.prog.bytesOf 58 = 24 := by kernel_rfl
@[simp] theorem ctys_58 : ctys Try.prog 58 = [some 60] := by kernel_rfl
@[simp] theorem conc_58 : Try.prog.concrete 58 = true := by kernel_rfl
@[simp] theorem zero_58 : zeroCs Try.prog 58 = some [.d (.v (.slice none 0 0))] := by kernel_rfl
@[simp] theorem ifc_58 : isIfcT Try.prog 58 = some false := by kernel_rfl
@[simp] theorem map_58 : Try.prog.isMap 58 = false := by kernel_rfl
@[simp] theorem ptr_58 : Try.prog.ptrT 58 = some none := by kernel_rfl
@[simp] theorem ztup_58 : zeroTup Try.prog 58 = some (.tup [(false, [.d (.v (.slice none 0 0))]), (false, [.d (.v (.bool false))])]) := by kernel_rfl
@[simp] theorem app_58 : Try.prog.appOk 58 = true := by kernel_rfl
@[simp] theorem elem_58 : Try.prog.elemT 58 = some 60 := by kernel_rfl
@[simp] theorem und_58 : Try.prog.underlying 58 = some (.slice 60) := by kernel_rfl
@[simp] theorem fld_59_0 : Try.prog.fld 59 0 = some (0, 1, false) := by kernel_rfl
@[simp] theorem fld_59_1 : Try.prog.fld 59 1 = some (1, 1, false) := by kernel_rfl
@[simp] theorem fld_59_2 : Try.prog.fld 59 2 = some (2, 1, false) := by kernel_rfl
@[simp] theorem fld_59_3 : Try.prog.fld 59 3 = some (3, 1, false) := by kernel_rfl
@[simp] theorem fld_59_4 : Try.prog.fld 59 4 = some (4, 6, true) := by kernel_rfl
@[simp] theorem fld_59_5 : Try.prog.fld 59 5 = some (10, 1, false) := by kernel_rfl
@[simp] theorem lay_60 : Try.prog.lay 60 = some (11, true) := by kernel_rfl
@[simp] theorem cells_60 : Try.prog.cellsOf 60 = 11 := by kernel_rfl
@[simp] theorem info_60 : (Try.prog.info? 60).isSome = true := by kernel_rfl
@[simp] theorem bytes_60 : Try.prog.bytesOf 60 = 168 := by kernel_rfl
@[simp] theorem ctys_60 : ctys Try.prog 60 = [none, none, some 9, some 26, none, none, none, none, some 9, some 26, none] := by kernel_rfl
@[simp] theorem conc_60 : Try.prog.concrete 60 = true := by kernel_rfl
@[simp] theorem zero_60 : zeroCs Try.prog 60 = some [.d (.v (.int .i64 0)), .d (.v (.string ⟨#[]⟩)), .d (.v (.slice none 0 0)), .d (.v (.slice none 0 0)), .d (.v (.int .i64 0)), .d (.v (.int .i64 0)), .d (.v (.float .f64 0)), .d (.v (.string ⟨#[]⟩)), .d (.v (.slice none 0 0)), .d (.v (.slice none 0 0)), .d (.v (.int .i64 0))] := by kernel_rfl
@[simp] theorem fld_60_0 : Try.prog.fld 60 0 = some (0, 1, false) := by kernel_rfl
@[simp] theorem fld_60_1 : Try.prog.fld 60 1 = some (1, 1, false) := by kernel_rfl
@[simp] theorem fld_60_2 : Try.prog.fld 60 2 = some (2, 1, false) := by kernel_rfl
@[simp] theorem fld_60_3 : Try.prog.fld 60 3 = some (3, 1, false) := by kernel_rfl
@[simp] theorem fld_60_4 : Try.prog.fld 60 4 = some (4, 6, true) := by kernel_rfl
@[simp] theorem fld_60_5 : Try.prog.fld 60 5 = some (10, 1, false) := by kernel_rfl
@[simp] theorem str_60 : Try.prog.strOk 60 = true := by kernel_rfl
@[simp] theorem ifc_60 : isIfcT Try.prog 60 = some false := by kernel_rfl
@[simp] theorem map_60 : Try.prog.isMap 60 = false := by kernel_rfl
@[simp] theorem ptr_60 : Try.prog.ptrT 60 = some none := by kernel_rfl
@[simp] theorem ztup_60 : zeroTup Try.prog 60 = some (.tup [(true, [.d (.v (.int .i64 0)), .d (.v (.string ⟨#[]⟩)), .d (.v (.slice none 0 0)), .d (.v (.slice none 0 0)), .d (.v (.int .i64 0)), .d (.v (.int .i64 0)), .d (.v (.float .f64 0)), .d (.v (.string ⟨#[]⟩)), .d (.v (.slice none 0 0)), .d (.v (.slice none 0 0)), .d (.v (.int .i64 0))]), (false, [.d (.v (.bool false))])]) := by kernel_rfl
@[simp] theorem app_60 : Try.prog.appOk 60 = true := by kernel_rfl
@[simp] theorem fld_74_0 : Try.prog.fld 74 0 = some (0, 1, false) := by kernel_rfl
@[simp] theorem fld_74_1 : Try.prog.fld 74 1 = some (1, 1, false) := by kernel_rfl
@[simp] theorem fld_74_2 : Try.prog.fld 74 2 = some (2, 1, false) := by kernel_rfl
@[simp] theorem fld_75_0 : Try.prog.fld 75 0 = some (0, 1, false) := by kernel_rfl
@[simp] theorem fld_75_1 : Try.prog.fld 75 1 = some (1, 1, false) := by kernel_rfl
@[simp] theorem fld_75_2 : Try.prog.fld 75 2 = some (2, 1, false) := by kernel_rfl
@[simp] theorem lay_94 : Try.prog.lay 94 = some (1, false) := by kernel_rfl
@[simp] theorem cells_94 : Try.prog.cellsOf 94 = 1 := by kernel_rfl
@[simp] theorem info_94 : (Try.prog.info? 94).isSome = true := by kernel_rfl
@[simp] theorem bytes_94 : Try.prog.bytesOf 94 = 16 := by kernel_rfl
@[simp] theorem ctys_94 : ctys Try.prog 94 = [none] := by kernel_rfl
@[simp] theorem zero_94 : zeroCs Try.prog 94 = some [.d (.v (.nilIface))] := by kernel_rfl
@[simp] theorem ifc_94 : isIfcT Try.prog 94 = some true := by kernel_rfl
@[simp] theorem map_94 : Try.prog.isMap 94 = false := by kernel_rfl
@[simp] theorem app_94 : Try.prog.appOk 94 = true := by kernel_rfl
@[simp] theorem fld_98_0 : Try.prog.fld 98 0 = some (0, 6, true) := by kernel_rfl
@[simp] theorem fld_98_1 : Try.prog.fld 98 1 = some (6, 1, false) := by kernel_rfl
@[simp] theorem fld_98_2 : Try.prog.fld 98 2 = some (7, 1, false) := by kernel_rfl
@[simp] theorem fld_99_0 : Try.prog.fld 99 0 = some (0, 6, true) := by kernel_rfl
@[simp] theorem fld_99_1 : Try.prog.fld 99 1 = some (6, 1, false) := by kernel_rfl
@[simp] theorem fld_99_2 : Try.prog.fld 99 2 = some (7, 1, false) := by kernel_rfl
@[simp] theorem lay_104 : Try.prog.lay 104 = some (1, false) := by kernel_rfl
@[simp] theorem cells_104 : Try.prog.cellsOf 104 = 1 := by kernel_rfl
@[simp] theorem info_104 : (Try.prog.info? 104).isSome = true := by kernel_rfl
@[simp] theorem bytes_104 : Try.prog.bytesOf 104 = 8 := by kernel_rfl
@[simp] theorem ctys_104 : ctys Try.prog 104 = [none] := by kernel_rfl
@[simp] theorem conc_104 : Try.prog.concrete 104 = true := by kernel_rfl
@[simp] theorem zero_104 : zeroCs Try.prog 104 = some [.d (.v (.pointer none))] := by kernel_rfl
@[simp] theorem ifc_104 : isIfcT Try.prog 104 = some false := by kernel_rfl
@[simp] theorem map_104 : Try.prog.isMap 104 = false := by kernel_rfl
@[simp] theorem ptr_104 : Try.prog.ptrT 104 = some (some 9) := by kernel_rfl
@[simp] theorem ztup_104 : zeroTup Try.prog 104 = some (.tup [(false, [.d (.v (.pointer none))]), (false, [.d (.v (.bool false))])]) := by kernel_rfl
@[simp] theorem app_104 : Try.prog.appOk 104 = true := by kernel_rfl
@[simp] theorem und_104 : Try.prog.underlying 104 = some (.pointer 9) := by kernel_rfl
@[simp] theorem fld_108_0 : Try.prog.fld 108 0 = some (0, 1, false) := by kernel_rfl
@[simp] theorem fld_108_1 : Try.prog.fld 108 1 = some (1, 1, false) := by kernel_rfl
@[simp] theorem fld_108_2 : Try.prog.fld 108 2 = some (2, 1, false) := by kernel_rfl
@[simp] theorem fld_109_0 : Try.prog.fld 109 0 = some (0, 1, false) := by kernel_rfl
@[simp] theorem fld_109_1 : Try.prog.fld 109 1 = some (1, 1, false) := by kernel_rfl
@[simp] theorem fld_109_2 : Try.prog.fld 109 2 = some (2, 1, false) := by kernel_rfl
@[simp] theorem fld_111_0 : Try.prog.fld 111 0 = some (0, 1, false) := by kernel_rfl
@[simp] theorem fld_111_1 : Try.prog.fld 111 1 = some (1, 3, true) := by kernel_rfl
@[simp] theorem fld_111_2 : Try.prog.fld 111 2 = some (4, 1, false) := by kernel_rfl
@[simp] theorem fld_111_3 : Try.prog.fld 111 3 = some (5, 1, false) := by kernel_rfl
@[simp] theorem fld_112_0 : Try.prog.fld 112 0 = some (0, 1, false) := by kernel_rfl
@[simp] theorem fld_112_1 : Try.prog.fld 112 1 = some (1, 3, true) := by kernel_rfl
@[simp] theorem fld_112_2 : Try.prog.fld 112 2 = some (4, 1, false) := by kernel_rfl
@[simp] theorem fld_112_3 : Try.prog.fld 112 3 = some (5, 1, false) := by kernel_rfl
@[simp] theorem fld_114_0 : Try.prog.fld 114 0 = some (0, 1, false) := by kernel_rfl
@[simp] theorem fld_114_1 : Try.prog.fld 114 1 = some (1, 1, false) := by kernel_rfl
@[simp] theorem fld_114_2 : Try.prog.fld 114 2 = some (2, 6, true) := by kernel_rfl
@[simp] theorem fld_114_3 : Try.prog.fld 114 3 = some (8, 1, false) := by kernel_rfl
@[simp] theorem fld_115_0 : Try.prog.fld 115 0 = some (0, 1, false) := by kernel_rfl
@[simp] theorem fld_115_1 : Try.prog.fld 115 1 = some (1, 1, false) := by kernel_rfl
@[simp] theorem fld_115_2 : Try.prog.fld 115 2 = some (2, 6, true) := by kernel_rfl
@[simp] theorem fld_115_3 : Try.prog.fld 115 3 = some (8, 1, false) := by kernel_rfl
@[simp] theorem fld_117_0 : Try.prog.fld 117 0 = some (0, 1, false) := by kernel_rfl
@[simp] theorem fld_117_1 : Try.prog.fld 117 1 = some (1, 6, true) := by kernel_rfl
@[simp] theorem fld_117_2 : Try.prog.fld 117 2 = some (7, 1, false) := by kernel_rfl
@[simp] theorem fld_118_0 : Try.prog.fld 118 0 = some (0, 1, false) := by kernel_rfl
@[simp] theorem fld_118_1 : Try.prog.fld 118 1 = some (1, 6, true) := by kernel_rfl
@[simp] theorem fld_118_2 : Try.prog.fld 118 2 = some (7, 1, false) := by kernel_rfl
@[simp] theorem lay_128 : Try.prog.lay 128 = some (1, false) := by kernel_rfl
@[simp] theorem cells_128 : Try.prog.cellsOf 128 = 1 := by kernel_rfl
@[simp] theorem info_128 : (Try.prog.info? 128).isSome = true := by kernel_rfl
@[simp] theorem bytes_128 : Try.prog.bytesOf 128 = 24 := by kernel_rfl
@[simp] theorem ctys_128 : ctys Try.prog 128 = [some 20] := by kernel_rfl
@[simp] theorem conc_128 : Try.prog.concrete 128 = true := by kernel_rfl
@[simp] theorem zero_128 : zeroCs Try.prog 128 = some [.d (.v (.slice none 0 0))] := by kernel_rfl
@[simp] theorem ifc_128 : isIfcT Try.prog 128 = some false := by kernel_rfl
@[simp] theorem map_128 : Try.prog.isMap 128 = false := by kernel_rfl
@[simp] theorem ptr_128 : Try.prog.ptrT 128 = some none := by kernel_rfl
@[simp] theorem ztup_128 : zeroTup Try.prog 128 = some (.tup [(false, [.d (.v (.slice none 0 0))]), (false, [.d (.v (.bool false))])]) := by kernel_rfl
@[simp] theorem app_128 : Try.prog.appOk 128 = true := by kernel_rfl
@[simp] theorem elem_128 : Try.prog.elemT 128 = some 20 := by kernel_rfl
@[simp] theorem und_128 : Try.prog.underlying 128 = some (.slice 20) := by kernel_rfl
@[simp] theorem lay_129 : Try.prog.lay 129 = some (1, false) := by kernel_rfl
@[simp] theorem cells_129 : Try.prog.cellsOf 129 = 1 := by kernel_rfl
@[simp] theorem info_129 : (Try.prog.info? 129).isSome = true := by kernel_rfl
@[simp] theorem bytes_129 : Try.prog.bytesOf 129 = 8 := by kernel_rfl
@[simp] theorem ctys_129 : ctys Try.prog 129 = [none] := by kernel_rfl
@[simp] theorem conc_129 : Try.prog.concrete 129 = true := by kernel_rfl
@[simp] theorem zero_129 : zeroCs Try.prog 129 = some [.d (.v (.pointer none))] := by kernel_rfl
@[simp] theorem ifc_129 : isIfcT Try.prog 129 = some false := by kernel_rfl
@[simp] theorem map_129 : Try.prog.isMap 129 = false := by kernel_rfl
@[simp] theorem ptr_129 : Try.prog.ptrT 129 = some (some 180) := by kernel_rfl
@[simp] theorem ztup_129 : zeroTup Try.prog 129 = some (.tup [(false, [.d (.v (.pointer none))]), (false, [.d (.v (.bool false))])]) := by kernel_rfl
@[simp] theorem app_129 : Try.prog.appOk 129 = true := by kernel_rfl
@[simp] theorem und_129 : Try.prog.underlying 129 = some (.pointer 180) := by kernel_rfl
@[simp] theorem lay_130 : Try.prog.lay 130 = some (1, false) := by kernel_rfl
@[simp] theorem cells_130 : Try.prog.cellsOf 130 = 1 := by kernel_rfl
@[simp] theorem info_130 : (Try.prog.info? 130).isSome = true := by kernel_rfl
@[simp] theorem bytes_130 : Try.prog.bytesOf 130 = 8 := by kernel_rfl
@[simp] theorem ctys_130 : ctys Try.prog 130 = [none] := by kernel_rfl
@[simp] theorem conc_130 : Try.prog.concrete 130 = true := by kernel_rfl
@[simp] theorem zero_130 : zeroCs Try.prog 130 = some [.d (.v (.pointer none))] := by kernel_rfl
@[simp] theorem ifc_130 : isIfcT Try.prog 130 = some false := by kernel_rfl
@[simp] theorem map_130 : Try.prog.isMap 130 = false := by kernel_rfl
@[simp] theorem ptr_130 : Try.prog.ptrT 130 = some (some 94) := by kernel_rfl
@[simp] theorem ztup_130 : zeroTup Try.prog 130 = some (.tup [(false, [.d (.v (.pointer none))]), (false, [.d (.v (.bool false))])]) := by kernel_rfl
@[simp] theorem app_130 : Try.prog.appOk 130 = true := by kernel_rfl
@[simp] theorem und_130 : Try.prog.underlying 130 = some (.pointer 94) := by kernel_rfl
@[simp] theorem lay_131 : Try.prog.lay 131 = some (1, false) := by kernel_rfl
@[simp] theorem cells_131 : Try.prog.cellsOf 131 = 1 := by kernel_rfl
@[simp] theorem info_131 : (Try.prog.info? 131).isSome = true := by kernel_rfl
@[simp] theorem bytes_131 : Try.prog.bytesOf 131 = 8 := by kernel_rfl
@[simp] theorem ctys_131 : ctys Try.prog 131 = [none] := by kernel_rfl
@[simp] theorem conc_131 : Try.prog.concrete 131 = true := by kernel_rfl
@[simp] theorem zero_131 : zeroCs Try.prog 131 = some [.d (.v (.pointer none))] := by kernel_rfl
@[simp] theorem ifc_131 : isIfcT Try.prog 131 = some false := by kernel_rfl
@[simp] theorem map_131 : Try.prog.isMap 131 = false := by kernel_rfl
@[simp] theorem ptr_131 : Try.prog.ptrT 131 = some (some 3) := by kernel_rfl
@[simp] theorem ztup_131 : zeroTup Try.prog 131 = some (.tup [(false, [.d (.v (.pointer none))]), (false, [.d (.v (.bool false))])]) := by kernel_rfl
@[simp] theorem app_131 : Try.prog.appOk 131 = true := by kernel_rfl
@[simp] theorem und_131 : Try.prog.underlying 131 = some (.pointer 3) := by kernel_rfl
@[simp] theorem fld_132_0 : Try.prog.fld 132 0 = some (0, 1, false) := by kernel_rfl
@[simp] theorem fld_132_1 : Try.prog.fld 132 1 = some (1, 1, false) := by kernel_rfl
@[simp] theorem fld_132_2 : Try.prog.fld 132 2 = some (2, 1, false) := by kernel_rfl
@[simp] theorem fld_132_3 : Try.prog.fld 132 3 = some (3, 1, false) := by kernel_rfl
@[simp] theorem lay_133 : Try.prog.lay 133 = some (4, true) := by kernel_rfl
@[simp] theorem cells_133 : Try.prog.cellsOf 133 = 4 := by kernel_rfl
@[simp] theorem info_133 : (Try.prog.info? 133).isSome = true := by kernel_rfl
@[simp] theorem bytes_133 : Try.prog.bytesOf 133 = 32 := by kernel_rfl
@[simp] theorem ctys_133 : ctys Try.prog 133 = [none, none, none, none] := by kernel_rfl
@[simp] theorem conc_133 : Try.prog.concrete 133 = true := by kernel_rfl
@[simp] theorem zero_133 : zeroCs Try.prog 133 = some [.d (.v (.pointer none)), .d (.v (.pointer none)), .d (.v (.pointer none)), .d (.v (.pointer none))] := by kernel_rfl
@[simp] theorem fld_133_0 : Try.prog.fld 133 0 = some (0, 1, false) := by kernel_rfl
@[simp] theorem fld_133_1 : Try.prog.fld 133 1 = some (1, 1, false) := by kernel_rfl
@[simp] theorem fld_133_2 : Try.prog.fld 133 2 = some (2, 1, false) := by kernel_rfl
@[simp] theorem fld_133_3 : Try.prog.fld 133 3 = some (3, 1, false) := by kernel_rfl
@[simp] theorem str_133 : Try.prog.strOk 133 = true := by kernel_rfl
@[simp] theorem ifc_133 : isIfcT Try.prog 133 = some false := by kernel_rfl
@[simp] theorem map_133 : Try.prog.isMap 133 = false := by kernel_rfl
@[simp] theorem ptr_133 : Try.prog.ptrT 133 = some none := by kernel_rfl
@[simp] theorem ztup_133 : zeroTup Try.prog 133 = some (.tup [(true, [.d (.v (.pointer none)), .d (.v (.pointer none)), .d (.v (.pointer none)), .d (.v (.pointer none))]), (false, [.d (.v (.bool false))])]) := by kernel_rfl
@[simp] theorem app_133 : Try.prog.appOk 133 = true := by kernel_rfl
@[simp] theorem lay_136 : Try.prog.lay 136 = some (1, false) := by kernel_rfl
@[simp] theorem cells_136 : Try.prog.cellsOf 136 = 1 := by kernel_rfl
@[simp] theorem info_136 : (Try.prog.info? 136).isSome = true := by kernel_rfl
@[simp] theorem bytes_136 : Try.prog.bytesOf 136 = 24 := by kernel_rfl
@[simp] theorem ctys_136 : ctys Try.prog 136 = [some 133] := by kernel_rfl
@[simp] theorem conc_136 : Try.prog.concrete 136 = true := by kernel_rfl
@[simp] theorem zero_136 : zeroCs Try.prog 136 = some [.d (.v (.slice none 0 0))] := by kernel_rfl
@[simp] theorem ifc_136 : isIfcT Try.prog 136 = some false := by kernel_rfl
@[simp] theorem map_136 : Try.prog.isMap 136 = false := by kernel_rfl
@[simp] theorem ptr_136 : Try.prog.ptrT 136 = some none := by kernel_rfl
@[simp] theorem ztup_136 : zeroTup Try.prog 136 = some (.tup [(false, [.d (.v (.slice none 0 0))]), (false, [.d (.v (.bool false))])]) := by kernel_rfl
@[simp] theorem app_136 : Try.prog.appOk 136 = true := by kernel_rfl
@[simp] theorem elem_136 : Try.prog.elemT 136 = some 133 := by kernel_rfl
@[simp] theorem und_136 : Try.prog.underlying 136 = some (.slice 133) := by kernel_rfl
@[simp] theorem lay_138 : Try.prog.lay 138 = some (1, false) := by kernel_rfl
@[simp] theorem cells_138 : Try.prog.cellsOf 138 = 1 := by kernel_rfl
@[simp] theorem info_138 : (Try.prog.info? 138).isSome = true := by kernel_rfl
@[simp] theorem bytes_138 : Try.prog.bytesOf 138 = 16 := by kernel_rfl
@[simp] theorem ctys_138 : ctys Try.prog 138 = [none] := by kernel_rfl
@[simp] theorem zero_138 : zeroCs Try.prog 138 = some [.d (.v (.nilIface))] := by kernel_rfl
@[simp] theorem ifc_138 : isIfcT Try.prog 138 = some true := by kernel_rfl
@[simp] theorem map_138 : Try.prog.isMap 138 = false := by kernel_rfl
@[simp] theorem app_138 : Try.prog.appOk 138 = true := by kernel_rfl
@[simp] theorem lay_154 : Try.prog.lay 154 = some (1, false) := by kernel_rfl
@[simp] theorem cells_154 : Try.prog.cellsOf 154 = 1 := by kernel_rfl
@[simp] theorem info_154 : (Try.prog.info? 154).isSome = true := by kernel_rfl
@[simp] theorem bytes_154 : Try.prog.bytesOf 154 = 8 := by kernel_rfl
@[simp] theorem ctys_154 : ctys Try.prog 154 = [none] := by kernel_rfl
@[simp] theorem conc_154 : Try.prog.concrete 154 = true := by kernel_rfl
@[simp] theorem zero_154 : zeroCs Try.prog 154 = some [.d (.v (.map none))] := by kernel_rfl
@[simp] theorem ifc_154 : isIfcT Try.prog 154 = some false := by kernel_rfl
@[simp] theorem map_154 : Try.prog.isMap 154 = true := by kernel_rfl
@[simp] theorem ptr_154 : Try.prog.ptrT 154 = some none := by kernel_rfl
@[simp] theorem ztup_154 : zeroTup Try.prog 154 = some (.tup [(false, [.d (.v (.map none))]), (false, [.d (.v (.bool false))])]) := by kernel_rfl
@[simp] theorem app_154 : Try.prog.appOk 154 = true := by kernel_rfl
@[simp] theorem fld_173_0 : Try.prog.fld 173 0 = some (0, 1, false) := by kernel_rfl
@[simp] theorem fld_174_0 : Try.prog.fld 174 0 = some (0, 1, false) := by kernel_rfl
@[simp] theorem fld_176_0 : Try.prog.fld 176 0 = some (0, 1, false) := by kernel_rfl
@[simp] theorem fld_176_1 : Try.prog.fld 176 1 = some (1, 3, true) := by kernel_rfl
@[simp] theorem fld_177_0 : Try.prog.fld 177 0 = some (0, 1, false) := by kernel_rfl
@[simp] theorem fld_177_1 : Try.prog.fld 177 1 = some (1, 3, true) := by kernel_rfl
@[simp] theorem lay_180 : Try.prog.lay 180 = some (1, false) := by kernel_rfl
@[simp] theorem cells_180 : Try.prog.cellsOf 180 = 1 := by kernel_rfl
@[simp] theorem info_180 : (Try.prog.info? 180).isSome = true := by kernel_rfl
@[simp] theorem bytes_180 : Try.prog.bytesOf 180 = 24 := by kernel_rfl
@[simp] theorem ctys_180 : ctys Try.prog 180 = [some 204] := by kernel_rfl
@[simp] theorem conc_180 : Try.prog.concrete 180 = true := by kernel_rfl
@[simp] theorem zero_180 : zeroCs Try.prog 180 = some [.d (.v (.slice none 0 0))] := by kernel_rfl
@[simp] theorem ifc_180 : isIfcT Try.prog 180 = some false := by kernel_rfl
@[simp] theorem map_180 : Try.prog.isMap 180 = false := by kernel_rfl
@[simp] theorem ptr_180 : Try.prog.ptrT 180 = some none := by kernel_rfl
@[simp] theorem ztup_180 : zeroTup Try.prog 180 = some (.tup [(false, [.d (.v (.slice none 0 0))]), (false, [.d (.v (.bool false))])]) := by kernel_rfl
@[simp] theorem app_180 : Try.prog.appOk 180 = true := by kernel_rfl
@[simp] theorem elem_180 : Try.prog.elemT 180 = some 204 := by kernel_rfl
@[simp] theorem und_180 : Try.prog.underlying 180 = some (.slice 204) := by kernel_rfl
@[simp] theorem lay_190 : Try.prog.lay 190 = some (1, false) := by kernel_rfl
@[simp] theorem cells_190 : Try.prog.cellsOf 190 = 1 := by kernel_rfl
@[simp] theorem info_190 : (Try.prog.info? 190).isSome = true := by kernel_rfl
@[simp] theorem bytes_190 : Try.prog.bytesOf 190 = 8 := by kernel_rfl
@[simp] theorem ctys_190 : ctys Try.prog 190 = [none] := by kernel_rfl
@[simp] theorem conc_190 : Try.prog.concrete 190 = true := by kernel_rfl
@[simp] theorem zero_190 : zeroCs Try.prog 190 = some [.d (.v (.pointer none))] := by kernel_rfl
@[simp] theorem ifc_190 : isIfcT Try.prog 190 = some false := by kernel_rfl
@[simp] theorem map_190 : Try.prog.isMap 190 = false := by kernel_rfl
@[simp] theorem ptr_190 : Try.prog.ptrT 190 = some (some 192) := by kernel_rfl
@[simp] theorem ztup_190 : zeroTup Try.prog 190 = some (.tup [(false, [.d (.v (.pointer none))]), (false, [.d (.v (.bool false))])]) := by kernel_rfl
@[simp] theorem app_190 : Try.prog.appOk 190 = true := by kernel_rfl
@[simp] theorem und_190 : Try.prog.underlying 190 = some (.pointer 192) := by kernel_rfl
@[simp] theorem lay_192 : Try.prog.lay 192 = some (0, true) := by kernel_rfl
@[simp] theorem cells_192 : Try.prog.cellsOf 192 = 0 := by kernel_rfl
@[simp] theorem info_192 : (Try.prog.info? 192).isSome = true := by kernel_rfl
@[simp] theorem bytes_192 : Try.prog.bytesOf 192 = 0 := by kernel_rfl
@[simp] theorem ctys_192 : ctys Try.prog 192 = [] := by kernel_rfl
@[simp] theorem conc_192 : Try.prog.concrete 192 = true := by kernel_rfl
@[simp] theorem zero_192 : zeroCs Try.prog 192 = some [] := by kernel_rfl
@[simp] theorem str_192 : Try.prog.strOk 192 = true := by kernel_rfl
@[simp] theorem ifc_192 : isIfcT Try.prog 192 = some false := by kernel_rfl
@[simp] theorem map_192 : Try.prog.isMap 192 = false := by kernel_rfl
@[simp] theorem ptr_192 : Try.prog.ptrT 192 = some none := by kernel_rfl
@[simp] theorem ztup_192 : zeroTup Try.prog 192 = some (.tup [(true, []), (false, [.d (.v (.bool false))])]) := by kernel_rfl
@[simp] theorem lay_193 : Try.prog.lay 193 = some (1, false) := by kernel_rfl
@[simp] theorem cells_193 : Try.prog.cellsOf 193 = 1 := by kernel_rfl
@[simp] theorem info_193 : (Try.prog.info? 193).isSome = true := by kernel_rfl
@[simp] theorem bytes_193 : Try.prog.bytesOf 193 = 8 := by kernel_rfl
@[simp] theorem ctys_193 : ctys Try.prog 193 = [none] := by kernel_rfl
@[simp] theorem conc_193 : Try.prog.concrete 193 = true := by kernel_rfl
@[simp] theorem zero_193 : zeroCs Try.prog 193 = some [.d (.v (.pointer none))] := by kernel_rfl
@[simp] theorem ifc_193 : isIfcT Try.prog 193 = some false := by kernel_rfl
@[simp] theorem map_193 : Try.prog.isMap 193 = false := by kernel_rfl
@[simp] theorem ptr_193 : Try.prog.ptrT 193 = some (some 216) := by kernel_rfl
@[simp] theorem ztup_193 : zeroTup Try.prog 193 = some (.tup [(false, [.d (.v (.pointer none))]), (false, [.d (.v (.bool false))])]) := by kernel_rfl
@[simp] theorem app_193 : Try.prog.appOk 193 = true := by kernel_rfl
@[simp] theorem und_193 : Try.prog.underlying 193 = some (.pointer 216) := by kernel_rfl
@[simp] theorem fld_199_0 : Try.prog.fld 199 0 = some (0, 6, true) := by kernel_rfl
@[simp] theorem fld_199_1 : Try.prog.fld 199 1 = some (6, 1, false) := by kernel_rfl
@[simp] theorem fld_199_2 : Try.prog.fld 199 2 = some (7, 1, false) := by kernel_rfl
@[simp] theorem fld_200_0 : Try.prog.fld 200 0 = some (0, 6, true) := by kernel_rfl
@[simp] theorem fld_200_1 : Try.prog.fld 200 1 = some (6, 1, false) := by kernel_rfl
@[simp] theorem fld_200_2 : Try.prog.fld 200 2 = some (7, 1, false) := by kernel_rfl
@[simp] theorem fld_203_0 : Try.prog.fld 203 0 = some (0, 1, false) := by kernel_rfl
@[simp] theorem fld_203_1 : Try.prog.fld 203 1 = some (1, 1, false) := by kernel_rfl
@[simp] theorem lay_204 : Try.prog.lay 204 = some (2, true) := by kernel_rfl
@[simp] theorem cells_204 : Try.prog.cellsOf 204 = 2 := by kernel_rfl
@[simp] theorem info_204 : (Try.prog.info? 204).isSome = true := by kernel_rfl
@[simp] theorem bytes_204 : Try.prog.bytesOf 204 = 32 := by kernel_rfl
@[simp] theorem ctys_204 : ctys Try.prog 204 = [none, none] := by kernel_rfl
@[simp] theorem conc_204 : Try.prog.concrete 204 = true := by kernel_rfl
@[simp] theorem zero_204 : zeroCs Try.prog 204 = some [.d (.v (.string ⟨#[]⟩)), .d (.v (.nilIface))] := by kernel_rfl
@[simp] theorem fld_204_0 : Try.prog.fld 204 0 = some (0, 1, false) := by kernel_rfl
@[simp] theorem fld_204_1 : Try.prog.fld 204 1 = some (1, 1, false) := by kernel_rfl
@[simp] theorem str_204 : Try.prog.strOk 204 = true := by kernel_rfl
@[simp] theorem ifc_204 : isIfcT Try.prog 204 = some false := by kernel_rfl
@[simp] theorem map_204 : Try.prog.isMap 204 = false := by kernel_rfl
@[simp] theorem ptr_204 : Try.prog.ptrT 204 = some none := by kernel_rfl
@[simp] theorem ztup_204 : zeroTup Try.prog 204 = some (.tup [(true, [.d (.v (.string ⟨#[]⟩)), .d (.v (.nilIface))]), (false, [.d (.v (.bool false))])]) := by kernel_rfl
@[simp] theorem app_204 : Try.prog.appOk 204 = true := by kernel_rfl
@[simp] theorem lay_205 : Try.prog.lay 205 = some (1, false) := by kernel_rfl
@[simp] theorem cells_205 : Try.prog.cellsOf 205 = 1 := by kernel_rfl
@[simp] theorem info_205 : (Try.prog.info? 205).isSome = true := by kernel_rfl
@[simp] theorem bytes_205 : Try.prog.bytesOf 205 = 8 := by kernel_rfl
@[simp] theorem ctys_205 : ctys Try.prog 205 = [none] := by kernel_rfl
@[simp] theorem conc_205 : Try.prog.concrete 205 = true := by kernel_rfl
@[simp] theorem zero_205 : zeroCs Try.prog 205 = some [.d (.v (.pointer none))] := by kernel_rfl
@[simp] theorem ifc_205 : isIfcT Try.prog 205 = some false := by kernel_rfl
@[simp] theorem map_205 : Try.prog.isMap 205 = false := by kernel_rfl
@[simp] theorem ptr_205 : Try.prog.ptrT 205 = some (some 207) := by kernel_rfl
@[simp] theorem ztup_205 : zeroTup Try.prog 205 = some (.tup [(false, [.d (.v (.pointer none))]), (false, [.d (.v (.bool false))])]) := by kernel_rfl
@[simp] theorem app_205 : Try.prog.appOk 205 = true := by kernel_rfl
@[simp] theorem und_205 : Try.prog.underlying 205 = some (.pointer 207) := by kernel_rfl
@[simp] theorem fld_206_0 : Try.prog.fld 206 0 = some (0, 1, false) := by kernel_rfl
@[simp] theorem lay_207 : Try.prog.lay 207 = some (1, true) := by kernel_rfl
@[simp] theorem cells_207 : Try.prog.cellsOf 207 = 1 := by kernel_rfl
@[simp] theorem info_207 : (Try.prog.info? 207).isSome = true := by kernel_rfl
@[simp] theorem bytes_207 : Try.prog.bytesOf 207 = 16 := by kernel_rfl
@[simp] theorem ctys_207 : ctys Try.prog 207 = [none] := by kernel_rfl
@[simp] theorem conc_207 : Try.prog.concrete 207 = true := by kernel_rfl
@[simp] theorem zero_207 : zeroCs Try.prog 207 = some [.d (.v (.string ⟨#[]⟩))] := by kernel_rfl
@[simp] theorem fld_207_0 : Try.prog.fld 207 0 = some (0, 1, false) := by kernel_rfl
@[simp] theorem str_207 : Try.prog.strOk 207 = true := by kernel_rfl
@[simp] theorem ifc_207 : isIfcT Try.prog 207 = some false := by kernel_rfl
@[simp] theorem map_207 : Try.prog.isMap 207 = false := by kernel_rfl
@[simp] theorem ptr_207 : Try.prog.ptrT 207 = some none := by kernel_rfl
@[simp] theorem ztup_207 : zeroTup Try.prog 207 = some (.tup [(true, [.d (.v (.string ⟨#[]⟩))]), (false, [.d (.v (.bool false))])]) := by kernel_rfl
@[simp] theorem app_207 : Try.prog.appOk 207 = true := by kernel_rfl
@[simp] theorem fld_215_0 : Try.prog.fld 215 0 = some (0, 1, false) := by kernel_rfl
@[simp] theorem lay_216 : Try.prog.lay 216 = some (1, true) := by kernel_rfl
@[simp] theorem cells_216 : Try.prog.cellsOf 216 = 1 := by kernel_rfl
@[simp] theorem info_216 : (Try.prog.info? 216).isSome = true := by kernel_rfl
@[simp] theorem bytes_216 : Try.prog.bytesOf 216 = 16 := by kernel_rfl
@[simp] theorem ctys_216 : ctys Try.prog 216 = [none] := by kernel_rfl
@[simp] theorem conc_216 : Try.prog.concrete 216 = true := by kernel_rfl
@[simp] theorem zero_216 : zeroCs Try.prog 216 = some [.d (.v (.nilIface))] := by kernel_rfl
@[simp] theorem fld_216_0 : Try.prog.fld 216 0 = some (0, 1, false) := by kernel_rfl
@[simp] theorem str_216 : Try.prog.strOk 216 = true := by kernel_rfl
@[simp] theorem ifc_216 : isIfcT Try.prog 216 = some false := by kernel_rfl
@[simp] theorem map_216 : Try.prog.isMap 216 = false := by kernel_rfl
@[simp] theorem ptr_216 : Try.prog.ptrT 216 = some none := by kernel_rfl
@[simp] theorem ztup_216 : zeroTup Try.prog 216 = some (.tup [(true, [.d (.v (.nilIface))]), (false, [.d (.v (.bool false))])]) := by kernel_rfl
@[simp] theorem app_216 : Try.prog.appOk 216 = true := by kernel_rfl
@[simp] theorem fld_234_0 : Try.prog.fld 234 0 = some (0, 1, false) := by kernel_rfl
@[simp] theorem fld_234_1 : Try.prog.fld 234 1 = some (1, 1, false) := by kernel_rfl
@[simp] theorem fld_234_2 : Try.prog.fld 234 2 = some (2, 1, false) := by kernel_rfl
@[simp] theorem fld_235_0 : Try.prog.fld 235 0 = some (0, 1, false) := by kernel_rfl
@[simp] theorem fld_235_1 : Try.prog.fld 235 1 = some (1, 1, false) := by kernel_rfl
@[simp] theorem fld_235_2 : Try.prog.fld 235 2 = some (2, 1, false) := by kernel_rfl
@[simp] theorem fld_244_0 : Try.prog.fld 244 0 = some (0, 1, false) := by kernel_rfl
@[simp] theorem fld_244_1 : Try.prog.fld 244 1 = some (1, 1, false) := by kernel_rfl
@[simp] theorem fld_245_0 : Try.prog.fld 245 0 = some (0, 1, false) := by kernel_rfl
@[simp] theorem fld_245_1 : Try.prog.fld 245 1 = some (1, 1, false) := by kernel_rfl
@[simp] theorem fld_255_0 : Try.prog.fld 255 0 = some (0, 1, false) := by kernel_rfl
@[simp] theorem fld_255_1 : Try.prog.fld 255 1 = some (1, 1, false) := by kernel_rfl
@[simp] theorem fld_255_2 : Try.prog.fld 255 2 = some (2, 1, false) := by kernel_rfl
@[simp] theorem fld_255_3 : Try.prog.fld 255 3 = some (3, 1, false) := by kernel_rfl
@[simp] theorem fld_256_0 : Try.prog.fld 256 0 = some (0, 1, false) := by kernel_rfl
@[simp] theorem fld_256_1 : Try.prog.fld 256 1 = some (1, 1, false) := by kernel_rfl
@[simp] theorem fld_256_2 : Try.prog.fld 256 2 = some (2, 1, false) := by kernel_rfl
@[simp] theorem fld_256_3 : Try.prog.fld 256 3 = some (3, 1, false) := by kernel_rfl
@[simp] theorem fld_267_0 : Try.prog.fld 267 0 = some (0, 1, false) := by kernel_rfl
@[simp] theorem fld_267_1 : Try.prog.fld 267 1 = some (1, 1, false) := by kernel_rfl
@[simp] theorem fld_267_2 : Try.prog.fld 267 2 = some (2, 1, false) := by kernel_rfl
@[simp] theorem fld_267_3 : Try.prog.fld 267 3 = some (3, 1, false) := by kernel_rfl
@[simp] theorem fld_267_4 : Try.prog.fld 267 4 = some (4, 1, false) := by kernel_rfl
@[simp] theorem fld_267_5 : Try.prog.fld 267 5 = some (5, 1, false) := by kernel_rfl
@[simp] theorem fld_267_9 : Try.prog.fld 267 9 = some (9, 1, false) := by kernel_rfl
@[simp] theorem fld_268_0 : Try.prog.fld 268 0 = some (0, 1, false) := by kernel_rfl
@[simp] theorem fld_268_1 : Try.prog.fld 268 1 = some (1, 1, false) := by kernel_rfl
@[simp] theorem fld_268_2 : Try.prog.fld 268 2 = some (2, 1, false) := by kernel_rfl
@[simp] theorem fld_268_3 : Try.prog.fld 268 3 = some (3, 1, false) := by kernel_rfl
@[simp] theorem fld_268_4 : Try.prog.fld 268 4 = some (4, 1, false) := by kernel_rfl
@[simp] theorem fld_268_5 : Try.prog.fld 268 5 = some (5, 1, false) := by kernel_rfl
@[simp] theorem fld_268_9 : Try.prog.fld 268 9 = some (9, 1, false) := by kernel_rfl
@[simp] theorem fld_306_0 : Try.prog.fld 306 0 = some (0, 1, false) := by kernel_rfl
@[simp] theorem fld_306_1 : Try.prog.fld 306 1 = some (1, 1, false) := by kernel_rfl
@[simp] theorem fld_306_2 : Try.prog.fld 306 2 = some (2, 1, false) := by kernel_rfl
@[simp] theorem fld_307_0 : Try.prog.fld 307 0 = some (0, 1, false) := by kernel_rfl
@[simp] theorem fld_307_1 : Try.prog.fld 307 1 = some (1, 1, false) := by kernel_rfl
@[simp] theorem fld_307_2 : Try.prog.fld 307 2 = some (2, 1, false) := by kernel_rfl
end Go.Smd
end
