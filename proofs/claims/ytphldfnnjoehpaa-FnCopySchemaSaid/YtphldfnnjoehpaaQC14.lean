/- Part 14 of the proof: Ty. -/
import Derived.Test.YtphldfnnjoehpaaQC09
set_option linter.unusedVariables false
section
set_option linter.unusedSimpArgs false
namespace Go.Smd
open Go.RowKit Go.Proofs
@[simp] theorem lay_2 : Try.prog.lay 2 = some (1, false) := by kernel_rfl
@[simp] theorem cells_2 : Try.prog.cellsOf 2 = 1 := by kernel_rfl
@[simp] theorem info_2 : (Try.prog.info? 2).isSome = true := by kernel_rfl
@[simp] theorem bytes_2 : Try.prog.bytesOf 2 = 8 := by kernel_rfl
@[simp] theorem ctys_2 : ctys Try.prog 2 = [none] := by kernel_rfl
@[simp] theorem conc_2 : Try.prog.concrete 2 = true := by kernel_rfl
@[simp] theorem zero_2 : zeroCs Try.prog 2 = some [.d (.v (.int .i64 0))] := by kernel_rfl
@[simp] theorem ifc_2 : isIfcT Try.prog 2 = some false := by kernel_rfl
@[simp] theorem map_2 : Try.prog.isMap 2 = false := by kernel_rfl
@[simp] theorem ptr_2 : Try.prog.ptrT 2 = some none := by kernel_rfl
@[simp] theorem ztup_2 : zeroTup Try.prog 2 = some (.tup [(false, [.d (.v (.int .i64 0))]), (false, [.d (.v (.bool false))])]) := by kernel_rfl
@[simp] theorem app_2 : Try.prog.appOk 2 = true := by kernel_rfl
@[simp] theorem und_2 : Try.prog.underlying 2 = some (.int .i64) := by kernel_rfl
@[simp] theorem lay_3 : Try.prog.lay 3 = some (1, false) := by kernel_rfl
@[simp] theorem cells_3 : Try.prog.cellsOf 3 = 1 := by kernel_rfl
@[simp] theorem info_3 : (Try.prog.info? 3).isSome = true := by kernel_rfl
@[simp] theorem bytes_3 : Try.prog.bytesOf 3 = 8 := by kernel_rfl
@[simp] theorem ctys_3 : ctys Try.prog 3 = [none] := by kernel_rfl
@[simp] theorem conc_3 : Try.prog.concrete 3 = true := by kernel_rfl
@[simp] theorem zero_3 : zeroCs Try.prog 3 = some [.d (.v (.int .i64 0))] := by kernel_rfl
@[simp] theorem ifc_3 : isIfcT Try.prog 3 = some false := by kernel_rfl
@[simp] theorem map_3 : Try.prog.isMap 3 = false := by kernel_rfl
@[simp] theorem ptr_3 : Try.prog.ptrT 3 = some none := by kernel_rfl
@[simp] theorem ztup_3 : zeroTup Try.prog 3 = some (.tup [(false, [.d (.v (.int .i64 0))]), (false, [.d (.v (.bool false))])]) := by kernel_rfl
@[simp] theorem app_3 : Try.prog.appOk 3 = true := by kernel_rfl
@[simp] theorem und_3 : Try.prog.underlying 3 = some (.int .i64) := by kernel_rfl
@[simp] theorem lay_4 : Try.prog.lay 4 = some (1, false) := by kernel_rfl
@[simp] theorem cells_4 : Try.prog.cellsOf 4 = 1 := by kernel_rfl
@[simp] theorem info_4 : (Try.prog.info? 4).isSome = true := by kernel_rfl
@[simp] theorem bytes_4 : Try.prog.bytesOf 4 = 1 := by kernel_rfl
@[simp] theorem ctys_4 : ctys Try.prog 4 = [none] := by kernel_rfl
@[simp] theorem conc_4 : Try.prog.concrete 4 = true := by kernel_rfl
@[simp] theorem zero_4 : zeroCs Try.prog 4 = some [.d (.v (.bool false))] := by kernel_rfl
@[simp] theorem ifc_4 : isIfcT Try.prog 4 = some false := by kernel_rfl
@[simp] theorem map_4 : Try.prog.isMap 4 = false := by kernel_rfl
@[simp] theorem ptr_4 : Try.prog.ptrT 4 = some none := by kernel_rfl
@[simp] theorem ztup_4 : zeroTup Try.prog 4 = some (.tup [(false, [.d (.v (.bool false))]), (false, [.d (.v (.bool false))])]) := by kernel_rfl
@[simp] theorem app_4 : Try.prog.appOk 4 = true := by kernel_rfl
@[simp] theorem und_4 : Try.prog.underlying 4 = some .bool := by kernel_rfl
@[simp] theorem lay_5 : Try.prog.lay 5 = some (1, false) := by kernel_rfl
@[simp] theorem cells_5 : Try.prog.cellsOf 5 = 1 := by kernel_rfl
@[simp] theorem info_5 : (Try.prog.info? 5).isSome = true := by kernel_rfl
@[simp] theorem bytes_5 : Try.prog.bytesOf 5 = 1 := by kernel_rfl
@[simp] theorem ctys_5 : ctys Try.prog 5 = [none] := by kernel_rfl
@[simp] theorem conc_5 : Try.prog.concrete 5 = true := by kernel_rfl
@[simp] theorem zero_5 : zeroCs Try.prog 5 = some [.d (.v (.int .u8 0))] := by kernel_rfl
@[simp] theorem ifc_5 : isIfcT Try.prog 5 = some false := by kernel_rfl
@[simp] theorem map_5 : Try.prog.isMap 5 = false := by kernel_rfl
@[simp] theorem ptr_5 : Try.prog.ptrT 5 = some none := by kernel_rfl
@[simp] theorem ztup_5 : zeroTup Try.prog 5 = some (.tup [(false, [.d (.v (.int .u8 0))]), (false, [.d (.v (.bool false))])]) := by kernel_rfl
@[simp] theorem app_5 : Try.prog.appOk 5 = true := by kernel_rfl
@[simp] theorem und_5 : Try.prog.underlying 5 = some (.int .u8) := by kernel_rfl
@[simp] theorem fld_7_0 : Try.prog.fld 7 0 = some (0, 1, false) := by kernel_rfl
@[simp] theorem fld_7_1 : Try.prog.fld 7 1 = some (1, 1, false) := by kernel_rfl
@[simp] theorem fld_7_2 : Try.prog.fld 7 2 = some (2, 1, false) := by kernel_rfl
@[simp] theorem fld_7_3 : Try.prog.fld 7 3 = some (3, 1, false) := by kernel_rfl
@[simp] theorem fld_8_0 : Try.prog.fld 8 0 = some (0, 1, false) := by kernel_rfl
@[simp] theorem fld_8_1 : Try.prog.fld 8 1 = some (1, 1, false) := by kernel_rfl
@[simp] theorem fld_8_2 : Try.prog.fld 8 2 = some (2, 1, false) := by kernel_rfl
@[simp] theorem fld_8_3 : Try.prog.fld 8 3 = some (3, 1, false) := by kernel_rfl
@[simp] theorem lay_9 : Try.prog.lay 9 = some (1, false) := by kernel_rfl
@[simp] theorem cells_9 : Try.prog.cellsOf 9 = 1 := by kernel_rfl
@[simp] theorem info_9 : (Try.prog.info? 9).isSome = true := by kernel_rfl
@[simp] theorem bytes_9 : Try.prog.bytesOf 9 = 16 := by kernel_rfl
@[simp] theorem ctys_9 : ctys Try.prog 9 = [none] := by kernel_rfl
@[simp] theorem conc_9 : Try.prog.concrete 9 = true := by kernel_rfl
@[simp] theorem zero_9 : zeroCs Try.prog 9 = some [.d (.v (.string ⟨#[]⟩))] := by kernel_rfl
@[simp] theorem ifc_9 : isIfcT Try.prog 9 = some false := by kernel_rfl
@[simp] theorem map_9 : Try.prog.isMap 9 = false := by kernel_rfl
@[simp] theorem ptr_9 : Try.prog.ptrT 9 = some none := by kernel_rfl
@[simp] theorem ztup_9 : zeroTup Try.prog 9 = some (.tup [(false, [.d (.v (.string ⟨#[]⟩))]), (false, [.d (.v (.bool false))])]) := by kernel_rfl
@[simp] theorem app_9 : Try.prog.appOk 9 = true := by kernel_rfl
@[simp] theorem und_9 : Try.prog.underlying 9 = some .string := by kernel_rfl
@[simp] theorem fld_13_0 : Try.prog.fld 13 0 = some (0, 1, false) := by kernel_rfl
@[simp] theorem fld_13_1 : Try.prog.fld 13 1 = some (1, 1, false) := by kernel_rfl
@[simp] theorem fld_14_0 : Try.prog.fld 14 0 = some (0, 1, false) := by kernel_rfl
@[simp] theorem fld_14_1 : Try.prog.fld 14 1 = some (1, 1, false) := by kernel_rfl
@[simp] theorem fld_18_0 : Try.prog.fld 18 0 = some (0, 1, false) := by kernel_rfl
@[simp] theorem fld_19_0 : Try.prog.fld 19 0 = some (0, 1, false) := by kernel_rfl
@[simp] theorem lay_20 : Try.prog.lay 20 = some (1, false) := by kernel_rfl
@[simp] theorem cells_20 : Try.prog.cellsOf 20 = 1 := by kernel_rfl
@[simp] theorem info_20 : (Try.prog.info? 20).isSome = true := by kernel_rfl
@[simp] theorem bytes_20 : Try.prog.bytesOf 20 = 16 := by kernel_rfl
@[simp] theorem ctys_20 : ctys Try.prog 20 = [none] := by kernel_rfl
@[simp] theorem zero_20 : zeroCs Try.prog 20 = some [.d (.v (.nilIface))] := by kernel_rfl
@[simp] theorem ifc_20 : isIfcT Try.prog 20 = some true := by kernel_rfl
@[simp] theorem map_20 : Try.prog.isMap 20 = false := by kernel_rfl
@[simp] theorem app_20 : Try.prog.appOk 20 = true := by kernel_rfl
@[simp] theorem lay_22 : Try.prog.lay 22 = some (1, false) := by kernel_rfl
@[simp] theorem cells_22 : Try.prog.cellsOf 22 = 1 := by kernel_rfl
@[simp] theorem info_22 : (Try.prog.info? 22).isSome = true := by kernel_rfl
@[simp] theorem bytes_22 : Try.prog.bytesOf 22 = 8 := by kernel_rfl
@[simp] theorem ctys_22 : ctys Try.prog 22 = [none] := by kernel_rfl
@[simp] theorem conc_22 : Try.prog.concrete 22 = true := by kernel_rfl
@[simp] theorem zero_22 : zeroCs Try.prog 22 = some [.d (.v (.float .f64 0))] := by kernel_rfl
@[simp] theorem ifc_22 : isIfcT Try.prog 22 = some false := by kernel_rfl
@[simp] theorem map_22 : Try.prog.isMap 22 = false := by kernel_rfl
@[simp] theorem ptr_22 : Try.prog.ptrT 22 = some none := by kernel_rfl
@[simp] theorem ztup_22 : zeroTup Try.prog 22 = some (.tup [(false, [.d (.v (.float .f64 0))]), (false, [.d (.v (.bool false))])]) := by kernel_rfl
@[simp] theorem app_22 : Try.prog.appOk 22 = true := by kernel_rfl
@[simp] theorem und_22 : Try.prog.underlying 22 = some (.float .f64) := by kernel_rfl
@[simp] theorem lay_23 : Try.prog.lay 23 = some (1, false) := by kernel_rfl
@[simp] theorem cells_23 : Try.prog.cellsOf 23 = 1 := by kernel_rfl
@[simp] theorem info_23 : (Try.prog.info? 23).isSome = true := by kernel_rfl
@[simp] theorem bytes_23 : Try.prog.bytesOf 23 = 24 := by kernel_rfl
@[simp] theorem ctys_23 : ctys Try.prog 23 = [some 9] := by kernel_rfl
@[simp] theorem conc_23 : Try.prog.concrete 23 = true := by kernel_rfl
@[simp] theorem zero_23 : zeroCs Try.prog 23 = some [.d (.v (.slice none 0 0))] := by kernel_rfl
@[simp] theorem ifc_23 : isIfcT Try.prog 23 = some false := by kernel_rfl
@[simp] theorem map_23 : Try.prog.isMap 23 = false := by kernel_rfl
@[simp] theorem ptr_23 : Try.prog.ptrT 23 = some none := by kernel_rfl
@[simp] theorem ztup_23 : zeroTup Try.prog 23 = some (.tup [(false, [.d (.v (.slice none 0 0))]), (false, [.d (.v (.bool false))])]) := by kernel_rfl
@[simp] theorem app_23 : Try.prog.appOk 23 = true := by kernel_rfl
@[simp] theorem elem_23 : Try.prog.elemT 23 = some 9 := by kernel_rfl
@[simp] theorem und_23 : Try.prog.underlying 23 = some (.slice 9) := by kernel_rfl
@[simp] theorem lay_24 : Try.prog.lay 24 = some (1, false) := by kernel_rfl
@[simp] theorem cells_24 : Try.prog.cellsOf 24 = 1 := by kernel_rfl
@[simp] theorem info_24 : (Try.prog.info? 24).isSome = true := by kernel_rfl
@[simp] theorem bytes_24 : Try.prog.bytesOf 24 = 24 := by kernel_rfl
@[simp] theorem ctys_24 : ctys Try.prog 24 = [some 26] := by kernel_rfl
@[simp] theorem conc_24 : Try.prog.concrete 24 = true := by kernel_rfl
@[simp] theorem zero_24 : zeroCs Try.prog 24 = some [.d (.v (.slice none 0 0))] := by kernel_rfl
@[simp] theorem ifc_24 : isIfcT Try.prog 24 = some false := by kernel_rfl
@[simp] theorem map_24 : Try.prog.isMap 24 = false := by kernel_rfl
@[simp] theorem ptr_24 : Try.prog.ptrT 24 = some none := by kernel_rfl
@[simp] theorem ztup_24 : zeroTup Try.prog 24 = some (.tup [(false, [.d (.v (.slice none 0 0))]), (false, [.d (.v (.bool false))])]) := by kernel_rfl
@[simp] theorem app_24 : Try.prog.appOk 24 = true := by kernel_rfl
@[simp] theorem elem_24 : Try.prog.elemT 24 = some 26 := by kernel_rfl
@[simp] theorem und_24 : Try.prog.underlying 24 = some (.slice 26) := by kernel_rfl
@[simp] theorem fld_25_0 : Try.prog.fld 25 0 = some (0, 1, false) := by kernel_rfl
@[simp] theorem fld_25_1 : Try.prog.fld 25 1 = some (1, 1, false) := by kernel_rfl
@[simp] theorem fld_25_2 : Try.prog.fld 25 2 = some (2, 1, false) := by kernel_rfl
@[simp] theorem fld_25_3 : Try.prog.fld 25 3 = some (3, 1, false) := by kernel_rfl
@[simp] theorem fld_25_4 : Try.prog.fld 25 4 = some (4, 1, false) := by kernel_rfl
@[simp] theorem fld_25_5 : Try.prog.fld 25 5 = some (5, 1, false) := by kernel_rfl
@[simp] theorem lay_26 : Try.prog.lay 26 = some (6, true) := by kernel_rfl
@[simp] theorem cells_26 : Try.prog.cellsOf 26 = 6 := by kernel_rfl
@[simp] theorem info_26 : (Try.prog.info? 26).isSome = true := by kernel_rfl
@[simp] theorem bytes_26 : Try.prog.bytesOf 26 = 88 := by kernel_rfl
@[simp] theorem ctys_26 : ctys Try.prog 26 = [none, none, none, none, some 9, some 26] := by kernel_rfl
@[simp] theorem conc_26 : Try.prog.concrete 26 = true := by kernel_rfl
@[simp] theorem zero_26 : zeroCs Try.prog 26 = some [.d (.v (.int .i64 0)), .d (.v (.int .i64 0)), .d (.v (.float .f64 0)), .d (.v (.string ⟨#[]⟩)), .d (.v (.slice none 0 0)), .d (.v (.slice none 0 0))] := by kernel_rfl
@[simp] theorem fld_26_0 : Try.prog.fld 26 0 = some (0, 1, false) := by kernel_rfl
@[simp] theorem fld_26_1 : Try.prog.fld 26 1 = some (1, 1, false) := by kernel_rfl
@[simp] theorem fld_26_2 : Try.prog.fld 26 2 = some (2, 1, false) := by kernel_rfl
@[simp] theorem fld_26_3 : Try.prog.fld 26 3 = some (3, 1, false) := by kernel_rfl
@[simp] theorem fld_26_4 : Try.prog.fld 26 4 = some (4, 1, false) := by kernel_rfl
@[simp] theorem fld_26_5 : Try.prog.fld 26 5 = some (5, 1, false) := by kernel_rfl
@[simp] theorem str_26 : Try.prog.strOk 26 = true := by kernel_rfl
@[simp] theorem ifc_26 : isIfcT Try.prog 26 = some false := by kernel_rfl
@[simp] theorem map_26 : Try.prog.isMap 26 = false := by kernel_rfl
@[simp] theorem ptr_26 : Try.prog.ptrT 26 = some none := by kernel_rfl
@[simp] theorem ztup_26 : zeroTup Try.prog 26 = some (.tup [(true, [.d (.v (.int .i64 0)), .d (.v (.int .i64 0)), .d (.v (.float .f64 0)), .d (.v (.string ⟨#[]⟩)), .d (.v (.slice none 0 0)), .d (.v (.slice none 0 0))]), (false, [.d (.v (.bool false))])]) := by kernel_rfl
@[simp] theorem app_26 : Try.prog.appOk 26 = true := by kernel_rfl
@[simp] theorem lay_32 : Try.prog.lay 32 = some (1, false) := by kernel_rfl
@[simp] theorem cells_32 : Try.prog.cellsOf 32 = 1 := by kernel_rfl
@[simp] theorem info_32 : (Try.prog.info? 32).isSome = true := by kernel_rfl
@[simp] theorem bytes_32 : Try.prog.bytesOf 32 = 24 := by kernel_rfl
@[simp] theorem ctys_32 : ctys Try.prog 32 = [some 44] := by kernel_rfl
@[simp] theorem conc_32 : Try.prog.concrete 32 = true := by kernel_rfl
@[simp] theorem zero_32 : zeroCs Try.prog 32 = some [.d (.v (.slice none 0 0))] := by kernel_rfl
@[simp] theorem ifc_32 : isIfcT Try.prog 32 = some false := by kernel_rfl
@[simp] theorem map_32 : Try.prog.isMap 32 = false := by kernel_rfl
@[simp] theorem ptr_32 : Try.prog.ptrT 32 = some none := by kernel_rfl
@[simp] theorem ztup_32 : zeroTup Try.prog 32 = some (.tup [(false, [.d (.v (.slice none 0 0))]), (false, [.d (.v (.bool false))])]) := by kernel_rfl
@[simp] theorem app_32 : Try.prog.appOk 32 = true := by kernel_rfl
@[simp] theorem elem_32 : Try.prog.elemT 32 = some 44 := by kernel_rfl
@[simp] theorem und_32 : Try.prog.underlying 32 = some (.slice 44) := by kernel_rfl
@[simp] theorem lay_33 : Try.prog.lay 33 = some (1, false) := by kernel_rfl
@[simp] theorem cells_33 : Try.prog.cellsOf 33 = 1 := by kernel_rfl
@[simp] theorem info_33 : (Try.prog.info? 33).isSome = true := by kernel_rfl
@[simp] theorem bytes_33 : Try.prog.bytesOf 33 = 24 := by kernel_rfl
@[simp] theorem ctys_33 : ctys Try.prog 33 = [some 99] := by kernel_rfl
@[simp] theorem conc_33 : Try.prog.concrete 33 = true := by kernel_rfl
@[simp] theorem zero_33 : zeroCs Try.prog 33 = some [.d (.v (.slice none 0 0))] := by kernel_rfl
@[simp] theorem ifc_33 : isIfcT Try.prog 33 = some false := by kernel_rfl
@[simp] theorem map_33 : Try.prog.isMap 33 = false := by kernel_rfl
@[simp] theorem ptr_33 : Try.prog.ptrT 33 = some none := by kernel_rfl
@[simp] theorem ztup_33 : zeroTup Try.prog 33 = some (.tup [(false, [.d (.v (.slice none 0 0))]), (false, [.d (.v (.bool false))])]) := by kernel_rfl
@[simp] theorem app_33 : Try.prog.appOk 33 = true := by kernel_rfl
@[simp] theorem elem_33 : Try.prog.elemT 33 = some 99 := by kernel_rfl
@[simp] theorem und_33 : Try.prog.underlying 33 = some (.slice 99) := by kernel_rfl
@[simp] theorem lay_34 : Try.prog.lay 34 = some (1, false) := by kernel_rfl
@[simp] theorem cells_34 : Try.prog.cellsOf 34 = 1 := by kernel_rfl
@[simp] theorem info_34 : (Try.prog.info? 34).isSome = true := by kernel_rfl
@[simp] theorem bytes_34 : Try.prog.bytesOf 34 = 24 := by kernel_rfl
@[simp] theorem ctys_34 : ctys Try.prog 34 = [some 40] := by kernel_rfl
@[simp] theorem conc_34 : Try.prog.concrete 34 = true := by kernel_rfl
@[simp] theorem zero_34 : zeroCs Try.prog 34 = some [.d (.v (.slice none 0 0))] := by kernel_rfl
@[simp] theorem ifc_34 : isIfcT Try.prog 34 = some false := by kernel_rfl
@[simp] theorem map_34 : Try.prog.isMap 34 = false := by kernel_rfl
@[simp] theorem ptr_34 : Try.prog.ptrT 34 = some none := by kernel_rfl
@[simp] theorem ztup_34 : zeroTup Try.prog 34 = some (.tup [(false, [.d (.v (.slice none 0 0))]), (false, [.d (.v (.bool false))])]) := by kernel_rfl
@[simp] theorem app_34 : Try.prog.appOk 34 = true := by kernel_rfl
@[simp] theorem elem_34 : Try.prog.elemT 34 = some 40 := by kernel_rfl
@[simp] theorem und_34 : Try.prog.underlying 34 = some (.slice 40) := by kernel_rfl
@[simp] theorem fld_35_0 : Try.prog.fld 35 0 = some (0, 1, false) := by kernel_rfl
@[simp] theorem fld_35_1 : Try.prog.fld 35 1 = some (1, 1, false) := by kernel_rfl
@[simp] theorem fld_35_2 : Try.prog.fld 35 2 = some (2, 1, false) := by kernel_rfl
@[simp] theorem lay_36 : Try.prog.lay 36 = some (3, true) := by kernel_rfl
@[simp] theorem cells_36 : Try.prog.cellsOf 36 = 3 := by kernel_rfl
@[simp] theorem info_36 : (Try.prog.info? 36).isSome = true := by kernel_rfl
@[simp] theorem bytes_36 : Try.prog.bytesOf 36 = 64 := by kernel_rfl
@[simp] theorem ctys_36 : ctys Try.prog 36 = [none, some 99, some 40] := by kernel_rfl
@[simp] theorem conc_36 : Try.prog.concrete 36 = true := by kernel_rfl
@[simp] theorem zero_36 : zeroCs Try.prog 36 = some [.d (.v (.string ⟨#[]⟩)), .d (.v (.slice none 0 0)), .d (.v (.slice none 0 0))] := by kernel_rfl
@[simp] theorem fld_36_0 : Try.prog.fld 36 0 = some (0, 1, false) := by kernel_rfl
@[simp] theorem fld_36_1 : Try.prog.fld 36 1 = some (1, 1, false) := by kernel_rfl
@[simp] theorem fld_36_2 : Try.prog.fld 36 2 = some (2, 1, false) := by kernel_rfl
@[simp] theorem str_36 : Try.prog.strOk 36 = true := by kernel_rfl
@[simp] theorem ifc_36 : isIfcT Try.prog 36 = some false := by kernel_rfl
@[simp] theorem map_36 : Try.prog.isMap 36 = false := by kernel_rfl
@[simp] theorem ptr_36 : Try.prog.ptrT 36 = some none := by kernel_rfl
@[simp] theorem ztup_36 : zeroTup Try.prog 36 = some (.tup [(true, [.d (.v (.string ⟨#[]⟩)), .d (.v (.slice none 0 0)), .d (.v (.slice none 0 0))]), (false, [.d (.v (.bool false))])]) := by kernel_rfl
@[simp] theorem app_36 : Try.prog.appOk 36 = true := by kernel_rfl
@[simp] theorem fld_37_0 : Try.prog.fld 37 0 = some (0, 1, false) := by kernel_rfl
@[simp] theorem fld_37_1 : Try.prog.fld 37 1 = some (1, 1, false) := by kernel_rfl
@[simp] theorem fld_37_2 : Try.prog.fld 37 2 = some (2, 3, true) := by kernel_rfl
@[simp] theorem fld_37_3 : Try.prog.fld 37 3 = some (5, 1, false) := by kernel_rfl
@[simp] theorem lay_38 : Try.prog.lay 38 = some (6, true) := by kernel_rfl
@[simp] theorem cells_38 : Try.prog.cellsOf 38 = 6 := by kernel_rfl
@[simp] theorem info_38 : (Try.prog.info? 38).isSome = true := by kernel_rfl
@[simp] theorem bytes_38 : Try.prog.bytesOf 38 = 104 := by kernel_rfl
@[simp] theorem ctys_38 : ctys Try.prog 38 = [none, none, none, some 99, some 40, none] := by kernel_rfl
@[simp] theorem conc_38 : Try.prog.concrete 38 = true := by kernel_rfl
@[simp] theorem zero_38 : zeroCs Try.prog 38 = some [.d (.v (.bool false)), .d (.v (.string ⟨#[]⟩)), .d (.v (.string ⟨#[]⟩)), .d (.v (.slice none 0 0)), .d (.v (.slice none 0 0)), .d (.v (.string ⟨#[]⟩))] := by kernel_rfl
@[simp] theorem fld_38_0 : Try.prog.fld 38 0 = some (0, 1, false) := by kernel_rfl
@[simp] theorem fld_38_1 : Try.prog.fld 38 1 = some (1, 1, false) := by kernel_rfl
@[simp] theorem fld_38_2 : Try.prog.fld 38 2 = some (2, 3, true) := by kernel_rfl
@[simp] theorem fld_38_3 : Try.prog.fld 38 3 = some (5, 1, false) := by kernel_rfl
@[simp] theorem str_38 : Try.prog.strOk 38 = true := by kernel_rfl
@[simp] theorem ifc_38 : isIfcT Try.prog 38 = some false := by kernel_rfl
@[simp] theorem map_38 : Try.prog.isMap 38 = false := by kernel_rfl
@[simp] theorem ptr_38 : Try.prog.ptrT 38 = some none := by kernel_rfl
@[simp] theorem ztup_38 : zeroTup Try.prog 38 = some (.tup [(true, [.d (.v (.bool false)), .d (.v (.string ⟨#[]⟩)), .d (.v (.string ⟨#[]⟩)), .d (.v (.slice none 0 0)), .d (.v (.slice none 0 0)), .d (.v (.string ⟨#[]⟩))]), (false, [.d (.v (.bool false))])]) := by kernel_rfl
@[simp] theorem app_38 : Try.prog.appOk 38 = true := by kernel_rfl
@[simp] theorem fld_39_0 : Try.prog.fld 39 0 = some (0, 1, false) := by kernel_rfl
@[simp] theorem fld_39_1 : Try.prog.fld 39 1 = some (1, 6, true) := by kernel_rfl
@[simp] theorem fld_39_2 : Try.prog.fld 39 2 = some (7, 1, false) := by kernel_rfl
@[simp] theorem lay_40 : Try.prog.lay 40 = some (8, true) := by kernel_rfl
@[simp] theorem cells_40 : Try.prog.cellsOf 40 = 8 := by kernel_rfl
@[simp] theorem info_40 : (Try.prog.info? 40).isSome = true := by kernel_rfl
@[simp] theorem bytes_40 : Try.prog.bytesOf 40 = 144 := by kernel_rfl
@[simp] theorem ctys_40 : ctys Try.prog 40 = [some 44, none, none, none, some 99, some 40, none, none] := by kernel_rfl
@[simp] theorem conc_40 : Try.prog.concrete 40 = true := by kernel_rfl
@[simp] theorem zero_40 : zeroCs Try.prog 40 = some [.d (.v (.slice none 0 0)), .d (.v (.bool false)), .d (.v (.string ⟨#[]⟩)), .d (.v (.string ⟨#[]⟩)), .d (.v (.slice none 0 0)), .d (.v (.slice none 0 0)), .d (.v (.string ⟨#[]⟩)), .d (.v (.string ⟨#[]⟩))] := by kernel_rfl
@[simp] theorem fld_40_0 : Try.prog.fld 40 0 = some (0, 1, false) := by kernel_rfl
@[simp] theorem fld_40_1 : Try.prog.fld 40 1 = some (1, 6, true) := by kernel_rfl
@[simp] theorem fld_40_2 : Try.prog.fld 40 2 = some (7, 1, false) := by kernel_rfl
@[simp] theorem str_40 : Try.prog.strOk 40 = true := by kernel_rfl
@[simp] theorem ifc_40 : isIfcT Try.prog 40 = some false := by kernel_rfl
@[simp] theorem map_40 : Try.prog.isMap 40 = false := by kernel_rfl
@[simp] theorem ptr_40 : Try.prog.ptrT 40 = some none := by kernel_rfl
@[simp] theorem ztup_40 : zeroTup Try.prog 40 = some (.tup [(true, [.d (.v (.slice none 0 0)), .d (.v (.bool false)), .d (.v (.string ⟨#[]⟩)), .d (.v (.string ⟨#[]⟩)), .d (.v (.slice none 0 0)), .d (.v (.slice none 0 0)), .d (.v (.string ⟨#[]⟩)), .d (.v (.string ⟨#[]⟩))]), (false, [.d (.v (.bool false))])]) := by kernel_rfl
@[simp] theorem app_40 : Try.prog.appOk 40 = true := by kernel_rfl
@[simp] theorem fld_43_0 : Try.prog.fld 43 0 = some (0, 1, false) := by kernel_rfl
@[simp] theorem fld_43_1 : Try.prog.fld 43 1 = some (1, 6, true) := by kernel_rfl
@[simp] theorem fld_43_2 : Try.prog.fld 43 2 = some (7, 1, false) := by kernel_rfl
@[simp] theorem lay_44 : Try.prog.lay 44 = some (8, true) := by kernel_rfl
@[simp] theorem cells_44 : Try.prog.cellsOf 44 = 8 := by kernel_rfl
@[simp] theorem info_44 : (Try.prog.info? 44).isSome = true := by kernel_rfl
@[simp] theorem bytes_44 : Try.prog.bytesOf 44 = 144 := by kernel_rfl
@[simp] theorem ctys_44 : ctys Try.prog 44 = [none, none, none, none, some 99, some 40, none, some 26] := by kernel_rfl
@[simp] theorem conc_44 : Try.prog.concrete 44 = true := by kernel_rfl
@[simp] theorem zero_44 : zeroCs Try.prog 44 = some [.d (.v (.string ⟨#[]⟩)), .d (.v (.bool false)), .d (.v (.string ⟨#[]⟩)), .d (.v (.string ⟨#[]⟩)), .d (.v (.slice none 0 0)), .d (.v (.slice none 0 0)), .d (.v (.string ⟨#[]⟩)), .d (.v (.slice none 0 0))] := by kernel_rfl
@[simp] theorem fld_44_0 : Try.prog.fld 44 0 = some (0, 1, false) := by kernel_rfl
@[simp] theorem fld_44_1 : Try.prog.fld 44 1 = some (1, 6, true) := by kernel_rfl
@[simp] theorem fld_44_2 : Try.prog.fld 44 2 = some (7, 1, false) := by kernel_rfl
@[simp] theorem str_44 : Try.prog.strOk 44 = true := by kernel_rfl
@[simp] theorem ifc_44 : isIfcT Try.prog 44 = some false := by kernel_rfl
@[simp] theorem map_44 : Try.prog.isMap 44 = false := by kernel_rfl
@[simp] theorem ptr_44 : Try.prog.ptrT 44 = some none := by kernel_rfl
@[simp] theorem ztup_44 : zeroTup Try.prog 44 = some (.tup [(true, [.d (.v (.string ⟨#[]⟩)), .d (.v (.bool false)), .d (.v (.string ⟨#[]⟩)), .d (.v (.string ⟨#[]⟩)), .d (.v (.slice none 0 0)), .d (.v (.slice none 0 0)), .d (.v (.string ⟨#[]⟩)), .d (.v (.slice none 0 0))]), (false, [.d (.v (.bool false))])]) := by kernel_rfl
@[simp] theorem app_44 : Try.prog.appOk 44 = true := by kernel_rfl
@[simp] theorem lay_49 : Try.prog.lay 49 = some (1, false) := by kernel_rfl
@[simp] theorem cells_49 : Try.prog.cellsOf 49 = 1 := by kernel_rfl
@[simp] theorem info_49 : (Try.prog.info? 49).isSome = true := by kernel_rfl
@[simp] theorem bytes_49 : Try.prog.bytesOf 49 = 24 := by kernel_rfl
@[simp] theorem ctys_49 : ctys Try.prog 49 = [some 55] := by kernel_rfl
@[simp] theorem conc_49 : Try.prog.concrete 49 = true := by kernel_rfl
@[simp] theorem zero_49 : zeroCs Try.prog 49 = some [.d (.v (.slice none 0 0))] := by kernel_rfl
@[simp] theorem ifc_49 : isIfcT Try.prog 49 = some false := by kernel_rfl
@[simp] theorem map_49 : Try.prog.isMap 49 = false := by kernel_rfl
@[simp] theorem ptr_49 : Try.prog.ptrT 49 = some none := by kernel_rfl
@[simp] theorem ztup_49 : zeroTup Try.prog 49 = some (.tup [(false, [.d (.v (.slice none 0 0))]), (false, [.d (.v (.bool false))])]) := by kernel_rfl
@[simp] theorem app_49 : Try.prog.appOk 49 = true := by kernel_rfl
@[simp] theorem elem_49 : Try.prog.elemT 49 = some 55 := by kernel_rfl
@[simp] theorem und_49 : Try.prog.underlying 49 = some (.slice 55) := by kernel_rfl
@[simp] theorem fld_50_0 : Try.prog.fld 50 0 = some (0, 1, false) := by kernel_rfl
@[simp] theorem lay_51 : Try.prog.lay 51 = some (1, true) := by kernel_rfl
@[simp] theorem cells_51 : Try.prog.cellsOf 51 = 1 := by kernel_rfl
@[simp] theorem info_51 : (Try.prog.info? 51).isSome = true := by kernel_rfl
@[simp] theorem bytes_51 : Try.prog.bytesOf 51 = 24 := by kernel_rfl
@[simp] theorem ctys_51 : ctys Try.prog 51 = [some 55] := by kernel_rfl
@[simp] theorem conc_51 : Try.prog.concrete 51 = true := by kernel_rfl
@[simp] theorem zero_51 : zeroCs Try.prog 51 = some [.d (.v (.slice none 0 0))] := by kernel_rfl
@[simp] theorem fld_51_0 : Try.prog.fld 51 0 = some (0, 1, false) := by kernel_rfl
@[simp] theorem str_51 : Try.prog.strOk 51 = true := by kernel_rfl
@[simp] theorem ifc_51 : isIfcT Try.prog 51 = some false := by kernel_rfl
@[simp] theorem map_51 : Try.prog.isMap 51 = false := by kernel_rfl
@[simp] theorem ptr_51 : Try.prog.ptrT 51 = some none := by kernel_rfl
@[simp] theorem ztup_51 : zeroTup Try.prog 51 = some (.tup [(true, [.d (.v (.slice none 0 0))]), (false, [.d (.v (.bool false))])]) := by kernel_rfl
@[simp] theorem app_51 : Try.prog.appOk 51 = true := by kernel_rfl
@[simp] theorem fld_54_0 : Try.prog.fld 54 0 = some (0, 1, false) := by kernel_rfl
@[simp] theorem fld_54_1 : Try.prog.fld 54 1 = some (1, 3, true) := by kernel_rfl
@[simp] theorem lay_55 : Try.prog.lay 55 = some (4, true) := by kernel_rfl
@[simp] theorem cells_55 : Try.prog.cellsOf 55 = 4 := by kernel_rfl
@[simp] theorem info_55 : (Try.prog.info? 55).isSome = true := by kernel_rfl
@[simp] theorem bytes_55 : Try.prog.bytesOf 55 = 80 := by kernel_rfl
@[simp] theorem ctys_55 : ctys Try.prog 55 = [none, none, some 99, some 40] := by kernel_rfl
@[simp] theorem conc_55 : Try.prog.concrete 55 = true := by kernel_rfl
@[simp] theorem zero_55 : zeroCs Try.prog 55 = some [.d (.v (.string ⟨#[]⟩)), .d (.v (.string ⟨#[]⟩)), .d (.v (.slice none 0 0)), .d (.v (.slice none 0 0))] := by kernel_rfl
@[simp] theorem fld_55_0 : Try.prog.fld 55 0 = some (0, 1, false) := by kernel_rfl
@[simp] theorem fld_55_1 : Try.prog.fld 55 1 = some (1, 3, true) := by kernel_rfl
@[simp] theorem str_55 : Try.prog.strOk 55 = true := by kernel_rfl
@[simp] theorem ifc_55 : isIfcT Try.prog 55 = some false := by kernel_rfl
@[simp] theorem map_55 : Try.prog.isMap 55 = false := by kernel_rfl
@[simp] theorem ptr_55 : Try.prog.ptrT 55 = some none := by kernel_rfl
@[simp] theorem ztup_55 : zeroTup Try.prog 55 = some (.tup [(true, [.d (.v (.string ⟨#[]⟩)), .d (.v (.string ⟨#[]⟩)), .d (.v (.slice none 0 0)), .d (.v (.slice none 0 0))]), (false, [.d (.v (.bool false))])]) := by kernel_rfl
@[simp] theorem app_55 : Try.prog.appOk 55 = true := by kernel_rfl
@[simp] theorem fld_59_0 : Try.prog.fld 59 0 = some (0, 1, false) := by kernel_rfl
@[simp] theorem fld_59_1 : Try.prog.fld 59 1 = some (1, 1, false) := by kernel_rfl
@[simp] theorem fld_59_2 : Try.prog.fld 59 2 = some (2, 1, false) := by kernel_rfl
@[simp] theorem fld_59_3 : Try.prog.fld 59 3 = some (3, 1, false) := by kernel_rfl
@[simp] theorem fld_59_4 : Try.prog.fld 59 4 = some (4, 6, true) := by kernel_rfl
@[simp] theorem fld_59_5 : Try.prog.fld 59 5 = some (10, 1, false) := by kernel_rfl
@[simp] theorem fld_60_0 : Try.prog.fld 60 0 = some (0, 1, false) := by kernel_rfl
@[simp] theorem fld_60_1 : Try.prog.fld 60 1 = some (1, 1, false) := by kernel_rfl
@[simp] theorem fld_60_2 : Try.prog.fld 60 2 = some (2, 1, false) := by kernel_rfl
@[simp] theorem fld_60_3 : Try.prog.fld 60 3 = some (3, 1, false) := by kernel_rfl
@[simp] theorem fld_60_4 : Try.prog.fld 60 4 = some (4, 6, true) := by kernel_rfl
@[simp] theorem fld_60_5 : Try.prog.fld 60 5 = some (10, 1, false) := by kernel_rfl
@[simp] theorem fld_74_0 : Try.prog.fld 74 0 = some (0, 1, false) := by kernel_rfl
@[simp] theorem fld_74_1 : Try.prog.fld 74 1 = some (1, 1, false) := by kernel_rfl
@[simp] theorem fld_74_2 : Try.prog.fld 74 2 = some (2, 1, false) := by kernel_rfl
@[simp] theorem fld_75_0 : Try.prog.fld 75 0 = some (0, 1, false) := by kernel_rfl
@[simp] theorem fld_75_1 : Try.prog.fld 75 1 = some (1, 1, false) := by kernel_rfl
@[simp] theorem fld_75_2 : Try.prog.fld 75 2 = some (2, 1, false) := by kernel_rfl
@[simp] theorem fld_98_0 : Try.prog.fld 98 0 = some (0, 6, true) := by kernel_rfl
@[simp] theorem fld_98_1 : Try.prog.fld 98 1 = some (6, 1, false) := by kernel_rfl
@[simp] theorem fld_98_2 : Try.prog.fld 98 2 = some (7, 1, false) := by kernel_rfl
@[simp] theorem lay_99 : Try.prog.lay 99 = some (8, true) := by kernel_rfl
@[simp] theorem cells_99 : Try.prog.cellsOf 99 = 8 := by kernel_rfl
@[simp] theorem info_99 : (Try.prog.info? 99).isSome = true := by kernel_rfl
@[simp] theorem bytes_99 : Try.prog.bytesOf 99 = 144 := by kernel_rfl
@[simp] theorem ctys_99 : ctys Try.prog 99 = [none, none, none, some 99, some 40, none, none, some 9] := by kernel_rfl
@[simp] theorem conc_99 : Try.prog.concrete 99 = true := by kernel_rfl
@[simp] theorem zero_99 : zeroCs Try.prog 99 = some [.d (.v (.bool false)), .d (.v (.string ⟨#[]⟩)), .d (.v (.string ⟨#[]⟩)), .d (.v (.slice none 0 0)), .d (.v (.slice none 0 0)), .d (.v (.string ⟨#[]⟩)), .d (.v (.string ⟨#[]⟩)), .d (.v (.slice none 0 0))] := by kernel_rfl
@[simp] theorem fld_99_0 : Try.prog.fld 99 0 = some (0, 6, true) := by kernel_rfl
@[simp] theorem fld_99_1 : Try.prog.fld 99 1 = some (6, 1, false) := by kernel_rfl
@[simp] theorem fld_99_2 : Try.prog.fld 99 2 = some (7, 1, false) := by kernel_rfl
@[simp] theorem str_99 : Try.prog.strOk 99 = true := by kernel_rfl
@[simp] theorem ifc_99 : isIfcT Try.prog 99 = some false := by kernel_rfl
@[simp] theorem map_99 : Try.prog.isMap 99 = false := by kernel_rfl
@[simp] theorem ptr_99 : Try.prog.ptrT 99 = some none := by kernel_rfl
@[simp] theorem ztup_99 : zeroTup Try.prog 99 = some (.tup [(true, [.d (.v (.bool false)), .d (.v (.string ⟨#[]⟩)), .d (.v (.string ⟨#[]⟩)), .d (.v (.slice none 0 0)), .d (.v (.slice none 0 0)), .d (.v (.string ⟨#[]⟩)), .d (.v (.string ⟨#[]⟩)), .d (.v (.slice none 0 0))]), (false, [.d (.v (.bool false))])]) := by kernel_rfl
@[simp] theorem app_99 : Try.prog.appOk 99 = true := by kernel_rfl
@[simp] theorem lay_102 : Try.prog.lay 102 = some (1, false) := by kernel_rfl
@[simp] theorem cells_102 : Try.prog.cellsOf 102 = 1 := by kernel_rfl
@[simp] theorem info_102 : (Try.prog.info? 102).isSome = true := by kernel_rfl
@[simp] theorem bytes_102 : Try.prog.bytesOf 102 = 24 := by kernel_rfl
@[simp] theorem ctys_102 : ctys Try.prog 102 = [some 118] := by kernel_rfl
@[simp] theorem conc_102 : Try.prog.concrete 102 = true := by kernel_rfl
@[simp] theorem zero_102 : zeroCs Try.prog 102 = some [.d (.v (.slice none 0 0))] := by kernel_rfl
@[simp] theorem ifc_102 : isIfcT Try.prog 102 = some false := by kernel_rfl
@[simp] theorem map_102 : Try.prog.isMap 102 = false := by kernel_rfl
@[simp] theorem ptr_102 : Try.prog.ptrT 102 = some none := by kernel_rfl
@[simp] theorem ztup_102 : zeroTup Try.prog 102 = some (.tup [(false, [.d (.v (.slice none 0 0))]), (false, [.d (.v (.bool false))])]) := by kernel_rfl
@[simp] theorem app_102 : Try.prog.appOk 102 = true := by kernel_rfl
@[simp] theorem elem_102 : Try.prog.elemT 102 = some 118 := by kernel_rfl
@[simp] theorem und_102 : Try.prog.underlying 102 = some (.slice 118) := by kernel_rfl
@[simp] theorem lay_104 : Try.prog.lay 104 = some (1, false) := by kernel_rfl
@[simp] theorem cells_104 : Try.prog.cellsOf 104 = 1 := by kernel_rfl
@[simp] theorem info_104 : (Try.prog.info? 104).isSome = true := by kernel_rfl
@[simp] theorem bytes_104 : Try.prog.bytesOf 104 = 8 := by kernel_rfl
@[simp] theorem ctys_104 : ctys Try.prog 104 = [none] := by kernel_rfl
@[simp] theorem conc_104 : Try.prog.concrete 104 = true := by kernel_rfl
@[simp] theorem zero_104 : zeroCs Try.prog 104 = some [.d (.v (.pointer none))] := by kernel_rfl
@[simp] theorem ifc_104 : isIfcT Try.prog 104 = some false := by kernel_rfl
@[simp] theorem map_104 : Try.prog.isMap 104 = false := by kernel_rfl
@[simp] theorem ptr_104 : Try.prog.ptrT 104 = some (some 9) := by kernel_rfl
@[simp] theorem ztup_104 : zeroTup Try.prog 104 = some (.tup [(false, [.d (.v (.pointer none))]), (false, [.d (.v (.bool false))])]) := by kernel_rfl
@[simp] theorem app_104 : Try.prog.appOk 104 = true := by kernel_rfl
@[simp] theorem und_104 : Try.prog.underlying 104 = some (.pointer 9) := by kernel_rfl
@[simp] theorem lay_105 : Try.prog.lay 105 = some (1, false) := by kernel_rfl
@[simp] theorem cells_105 : Try.prog.cellsOf 105 = 1 := by kernel_rfl
@[simp] theorem info_105 : (Try.prog.info? 105).isSome = true := by kernel_rfl
@[simp] theorem bytes_105 : Try.prog.bytesOf 105 = 8 := by kernel_rfl
@[simp] theorem ctys_105 : ctys Try.prog 105 = [none] := by kernel_rfl
@[simp] theorem conc_105 : Try.prog.concrete 105 = true := by kernel_rfl
@[simp] theorem zero_105 : zeroCs Try.prog 105 = some [.d (.v (.pointer none))] := by kernel_rfl
@[simp] theorem ifc_105 : isIfcT Try.prog 105 = some false := by kernel_rfl
@[simp] theorem map_105 : Try.prog.isMap 105 = false := by kernel_rfl
@[simp] theorem ptr_105 : Try.prog.ptrT 105 = some (some 198) := by kernel_rfl
@[simp] theorem ztup_105 : zeroTup Try.prog 105 = some (.tup [(false, [.d (.v (.pointer none))]), (false, [.d (.v (.bool false))])]) := by kernel_rfl
@[simp] theorem app_105 : Try.prog.appOk 105 = true := by kernel_rfl
@[simp] theorem und_105 : Try.prog.underlying 105 = some (.pointer 198) := by kernel_rfl
@[simp] theorem lay_106 : Try.prog.lay 106 = some (1, false) := by kernel_rfl
@[simp] theorem cells_106 : Try.prog.cellsOf 106 = 1 := by kernel_rfl
@[simp] theorem info_106 : (Try.prog.info? 106).isSome = true := by kernel_rfl
@[simp] theorem bytes_106 : Try.prog.bytesOf 106 = 8 := by kernel_rfl
@[simp] theorem ctys_106 : ctys Try.prog 106 = [none] := by kernel_rfl
@[simp] theorem conc_106 : Try.prog.concrete 106 = true := by kernel_rfl
@[simp] theorem zero_106 : zeroCs Try.prog 106 = some [.d (.v (.pointer none))] := by kernel_rfl
@[simp] theorem ifc_106 : isIfcT Try.prog 106 = some false := by kernel_rfl
@[simp] theorem map_106 : Try.prog.isMap 106 = false := by kernel_rfl
@[simp] theorem ptr_106 : Try.prog.ptrT 106 = some (some 200) := by kernel_rfl
@[simp] theorem ztup_106 : zeroTup Try.prog 106 = some (.tup [(false, [.d (.v (.pointer none))]), (false, [.d (.v (.bool false))])]) := by kernel_rfl
@[simp] theorem app_106 : Try.prog.appOk 106 = true := by kernel_rfl
@[simp] theorem und_106 : Try.prog.underlying 106 = some (.pointer 200) := by kernel_rfl
@[simp] theorem lay_107 : Try.prog.lay 107 = some (1, false) := by kernel_rfl
@[simp] theorem cells_107 : Try.prog.cellsOf 107 = 1 := by kernel_rfl
@[simp] theorem info_107 : (Try.prog.info? 107).isSome = true := by kernel_rfl
@[simp] theorem bytes_107 : Try.prog.bytesOf 107 = 8 := by kernel_rfl
@[simp] theorem ctys_107 : ctys Try.prog 107 = [none] := by kernel_rfl
@[simp] theorem conc_107 : Try.prog.concrete 107 = true := by kernel_rfl
@[simp] theorem zero_107 : zeroCs Try.prog 107 = some [.d (.v (.pointer none))] := by kernel_rfl
@[simp] theorem ifc_107 : isIfcT Try.prog 107 = some false := by kernel_rfl
@[simp] theorem map_107 : Try.prog.isMap 107 = false := by kernel_rfl
@[simp] theorem ptr_107 : Try.prog.ptrT 107 = some (some 115) := by kernel_rfl
@[simp] theorem ztup_107 : zeroTup Try.prog 107 = some (.tup [(false, [.d (.v (.pointer none))]), (false, [.d (.v (.bool false))])]) := by kernel_rfl
@[simp] theorem app_107 : Try.prog.appOk 107 = true := by kernel_rfl
@[simp] theorem und_107 : Try.prog.underlying 107 = some (.pointer 115) := by kernel_rfl
@[simp] theorem fld_108_0 : Try.prog.fld 108 0 = some (0, 1, false) := by kernel_rfl
@[simp] theorem fld_108_1 : Try.prog.fld 108 1 = some (1, 1, false) := by kernel_rfl
@[simp] theorem fld_108_2 : Try.prog.fld 108 2 = some (2, 1, false) := by kernel_rfl
@[simp] theorem lay_109 : Try.prog.lay 109 = some (3, true) := by kernel_rfl
@[simp] theorem cells_109 : Try.prog.cellsOf 109 = 3 := by kernel_rfl
@[simp] theorem info_109 : (Try.prog.info? 109).isSome = true := by kernel_rfl
@[simp] theorem bytes_109 : Try.prog.bytesOf 109 = 24 := by kernel_rfl
@[simp] theorem ctys_109 : ctys Try.prog 109 = [none, none, none] := by kernel_rfl
@[simp] theorem conc_109 : Try.prog.concrete 109 = true := by kernel_rfl
@[simp] theorem zero_109 : zeroCs Try.prog 109 = some [.d (.v (.pointer none)), .d (.v (.pointer none)), .d (.v (.pointer none))] := by kernel_rfl
@[simp] theorem fld_109_0 : Try.prog.fld 109 0 = some (0, 1, false) := by kernel_rfl
@[simp] theorem fld_109_1 : Try.prog.fld 109 1 = some (1, 1, false) := by kernel_rfl
@[simp] theorem fld_109_2 : Try.prog.fld 109 2 = some (2, 1, false) := by kernel_rfl
@[simp] theorem str_109 : Try.prog.strOk 109 = true := by kernel_rfl
@[simp] theorem ifc_109 : isIfcT Try.prog 109 = some false := by kernel_rfl
@[simp] theorem map_109 : Try.prog.isMap 109 = false := by kernel_rfl
@[simp] theorem ptr_109 : Try.prog.ptrT 109 = some none := by kernel_rfl
@[simp] theorem ztup_109 : zeroTup Try.prog 109 = some (.tup [(true, [.d (.v (.pointer none)), .d (.v (.pointer none)), .d (.v (.pointer none))]), (false, [.d (.v (.bool false))])]) := by kernel_rfl
@[simp] theorem app_109 : Try.prog.appOk 109 = true := by kernel_rfl
@[simp] theorem lay_110 : Try.prog.lay 110 = some (1, false) := by kernel_rfl
@[simp] theorem cells_110 : Try.prog.cellsOf 110 = 1 := by kernel_rfl
@[simp] theorem info_110 : (Try.prog.info? 110).isSome = true := by kernel_rfl
@[simp] theorem bytes_110 : Try.prog.bytesOf 110 = 8 := by kernel_rfl
@[simp] theorem ctys_110 : ctys Try.prog 110 = [none] := by kernel_rfl
@[simp] theorem conc_110 : Try.prog.concrete 110 = true := by kernel_rfl
@[simp] theorem zero_110 : zeroCs Try.prog 110 = some [.d (.v (.pointer none))] := by kernel_rfl
@[simp] theorem ifc_110 : isIfcT Try.prog 110 = some false := by kernel_rfl
@[simp] theorem map_110 : Try.prog.isMap 110 = false := by kernel_rfl
@[simp] theorem ptr_110 : Try.prog.ptrT 110 = some (some 113) := by kernel_rfl
@[simp] theorem ztup_110 : zeroTup Try.prog 110 = some (.tup [(false, [.d (.v (.pointer none))]), (false, [.d (.v (.bool false))])]) := by kernel_rfl
@[simp] theorem app_110 : Try.prog.appOk 110 = true := by kernel_rfl
@[simp] theorem und_110 : Try.prog.underlying 110 = some (.pointer 113) := by kernel_rfl
@[simp] theorem fld_111_0 : Try.prog.fld 111 0 = some (0, 1, false) := by kernel_rfl
@[simp] theorem fld_111_1 : Try.prog.fld 111 1 = some (1, 3, true) := by kernel_rfl
@[simp] theorem fld_111_2 : Try.prog.fld 111 2 = some (4, 1, false) := by kernel_rfl
@[simp] theorem fld_111_3 : Try.prog.fld 111 3 = some (5, 1, false) := by kernel_rfl
@[simp] theorem lay_112 : Try.prog.lay 112 = some (6, true) := by kernel_rfl
@[simp] theorem cells_112 : Try.prog.cellsOf 112 = 6 := by kernel_rfl
@[simp] theorem info_112 : (Try.prog.info? 112).isSome = true := by kernel_rfl
@[simp] theorem bytes_112 : Try.prog.bytesOf 112 = 48 := by kernel_rfl
@[simp] theorem ctys_112 : ctys Try.prog 112 = [none, none, none, none, none, none] := by kernel_rfl
@[simp] theorem conc_112 : Try.prog.concrete 112 = true := by kernel_rfl
@[simp] theorem zero_112 : zeroCs Try.prog 112 = some [.d (.v (.pointer none)), .d (.v (.pointer none)), .d (.v (.pointer none)), .d (.v (.pointer none)), .d (.v (.pointer none)), .d (.v (.bool false))] := by kernel_rfl
@[simp] theorem fld_112_0 : Try.prog.fld 112 0 = some (0, 1, false) := by kernel_rfl
@[simp] theorem fld_112_1 : Try.prog.fld 112 1 = some (1, 3, true) := by kernel_rfl
@[simp] theorem fld_112_2 : Try.prog.fld 112 2 = some (4, 1, false) := by kernel_rfl
@[simp] theorem fld_112_3 : Try.prog.fld 112 3 = some (5, 1, false) := by kernel_rfl
@[simp] theorem str_112 : Try.prog.strOk 112 = true := by kernel_rfl
@[simp] theorem ifc_112 : isIfcT Try.prog 112 = some false := by kernel_rfl
@[simp] theorem map_112 : Try.prog.isMap 112 = false := by kernel_rfl
@[simp] theorem ptr_112 : Try.prog.ptrT 112 = some none := by kernel_rfl
@[simp] theorem ztup_112 : zeroTup Try.prog 112 = some (.tup [(true, [.d (.v (.pointer none)), .d (.v (.pointer none)), .d (.v (.pointer none)), .d (.v (.pointer none)), .d (.v (.pointer none)), .d (.v (.bool false))]), (false, [.d (.v (.bool false))])]) := by kernel_rfl
@[simp] theorem app_112 : Try.prog.appOk 112 = true := by kernel_rfl
@[simp] theorem lay_113 : Try.prog.lay 113 = some (1, false) := by kernel_rfl
@[simp] theorem cells_113 : Try.prog.cellsOf 113 = 1 := by kernel_rfl
@[simp] theorem info_113 : (Try.prog.info? 113).isSome = true := by kernel_rfl
@[simp] theorem bytes_113 : Try.prog.bytesOf 113 = 16 := by kernel_rfl
@[simp] theorem ctys_113 : ctys Try.prog 113 = [none] := by kernel_rfl
@[simp] theorem conc_113 : Try.prog.concrete 113 = true := by kernel_rfl
@[simp] theorem zero_113 : zeroCs Try.prog 113 = some [.d (.v (.string ⟨#[]⟩))] := by kernel_rfl
@[simp] theorem ifc_113 : isIfcT Try.prog 113 = some false := by kernel_rfl
@[simp] theorem map_113 : Try.prog.isMap 113 = false := by kernel_rfl
@[simp] theorem ptr_113 : Try.prog.ptrT 113 = some none := by kernel_rfl
@[simp] theorem ztup_113 : zeroTup Try.prog 113 = some (.tup [(false, [.d (.v (.string ⟨#[]⟩))]), (false, [.d (.v (.bool false))])]) := by kernel_rfl
@[simp] theorem app_113 : Try.prog.appOk 113 = true := by kernel_rfl
@[simp] theorem und_113 : Try.prog.underlying 113 = some .string := by kernel_rfl
@[simp] theorem fld_114_0 : Try.prog.fld 114 0 = some (0, 1, false) := by kernel_rfl
@[simp] theorem fld_114_1 : Try.prog.fld 114 1 = some (1, 1, false) := by kernel_rfl
@[simp] theorem fld_114_2 : Try.prog.fld 114 2 = some (2, 6, true) := by kernel_rfl
@[simp] theorem fld_114_3 : Try.prog.fld 114 3 = some (8, 1, false) := by kernel_rfl
@[simp] theorem lay_115 : Try.prog.lay 115 = some (9, true) := by kernel_rfl
@[simp] theorem cells_115 : Try.prog.cellsOf 115 = 9 := by kernel_rfl
@[simp] theorem info_115 : (Try.prog.info? 115).isSome = true := by kernel_rfl
@[simp] theorem bytes_115 : Try.prog.bytesOf 115 = 112 := by kernel_rfl
@[simp] theorem ctys_115 : ctys Try.prog 115 = [some 118, some 235, none, none, none, none, none, none, none] := by kernel_rfl
@[simp] theorem conc_115 : Try.prog.concrete 115 = true := by kernel_rfl
@[simp] theorem zero_115 : zeroCs Try.prog 115 = some [.d (.v (.slice none 0 0)), .d (.v (.slice none 0 0)), .d (.v (.pointer none)), .d (.v (.pointer none)), .d (.v (.pointer none)), .d (.v (.pointer none)), .d (.v (.pointer none)), .d (.v (.bool false)), .d (.v (.string ⟨#[]⟩))] := by kernel_rfl
@[simp] theorem fld_115_0 : Try.prog.fld 115 0 = some (0, 1, false) := by kernel_rfl
@[simp] theorem fld_115_1 : Try.prog.fld 115 1 = some (1, 1, false) := by kernel_rfl
@[simp] theorem fld_115_2 : Try.prog.fld 115 2 = some (2, 6, true) := by kernel_rfl
@[simp] theorem fld_115_3 : Try.prog.fld 115 3 = some (8, 1, false) := by kernel_rfl
@[simp] theorem str_115 : Try.prog.strOk 115 = true := by kernel_rfl
@[simp] theorem ifc_115 : isIfcT Try.prog 115 = some false := by kernel_rfl
@[simp] theorem map_115 : Try.prog.isMap 115 = false := by kernel_rfl
@[simp] theorem ptr_115 : Try.prog.ptrT 115 = some none := by kernel_rfl
@[simp] theorem ztup_115 : zeroTup Try.prog 115 = some (.tup [(true, [.d (.v (.slice none 0 0)), .d (.v (.slice none 0 0)), .d (.v (.pointer none)), .d (.v (.pointer none)), .d (.v (.pointer none)), .d (.v (.pointer none)), .d (.v (.pointer none)), .d (.v (.bool false)), .d (.v (.string ⟨#[]⟩))]), (false, [.d (.v (.bool false))])]) := by kernel_rfl
@[simp] theorem app_115 : Try.prog.appOk 115 = true := by kernel_rfl
@[simp] theorem fld_117_0 : Try.prog.fld 117 0 = some (0, 1, false) := by kernel_rfl
@[simp] theorem fld_117_1 : Try.prog.fld 117 1 = some (1, 6, true) := by kernel_rfl
@[simp] theorem fld_117_2 : Try.prog.fld 117 2 = some (7, 1, false) := by kernel_rfl
@[simp] theorem lay_118 : Try.prog.lay 118 = some (8, true) := by kernel_rfl
@[simp] theorem cells_118 : Try.prog.cellsOf 118 = 8 := by kernel_rfl
@[simp] theorem info_118 : (Try.prog.info? 118).isSome = true := by kernel_rfl
@[simp] theorem bytes_118 : Try.prog.bytesOf 118 = 80 := by kernel_rfl
@[simp] theorem ctys_118 : ctys Try.prog 118 = [none, none, none, none, none, none, none, none] := by kernel_rfl
@[simp] theorem conc_118 : Try.prog.concrete 118 = true := by kernel_rfl
@[simp] theorem zero_118 : zeroCs Try.prog 118 = some [.d (.v (.string ⟨#[]⟩)), .d (.v (.pointer none)), .d (.v (.pointer none)), .d (.v (.pointer none)), .d (.v (.pointer none)), .d (.v (.pointer none)), .d (.v (.bool false)), .d (.v (.nilIface))] := by kernel_rfl
@[simp] theorem fld_118_0 : Try.prog.fld 118 0 = some (0, 1, false) := by kernel_rfl
@[simp] theorem fld_118_1 : Try.prog.fld 118 1 = some (1, 6, true) := by kernel_rfl
@[simp] theorem fld_118_2 : Try.prog.fld 118 2 = some (7, 1, false) := by kernel_rfl
@[simp] theorem str_118 : Try.prog.strOk 118 = true := by kernel_rfl
@[simp] theorem ifc_118 : isIfcT Try.prog 118 = some false := by kernel_rfl
@[simp] theorem map_118 : Try.prog.isMap 118 = false := by kernel_rfl
@[simp] theorem ptr_118 : Try.prog.ptrT 118 = some none := by kernel_rfl
@[simp] theorem ztup_118 : zeroTup Try.prog 118 = some (.tup [(true, [.d (.v (.string ⟨#[]⟩)), .d (.v (.pointer none)), .d (.v (.pointer none)), .d (.v (.pointer none)), .d (.v (.pointer none)), .d (.v (.pointer none)), .d (.v (.bool false)), .d (.v (.nilIface))]), (false, [.d (.v (.bool false))])]) := by kernel_rfl
@[simp] theorem app_118 : Try.prog.appOk 118 = true := by kernel_rfl
@[simp] theorem lay_123 : Try.prog.lay 123 = some (1, false) := by kernel_rfl
@[simp] theorem cells_123 : Try.prog.cellsOf 123 = 1 := by kernel_rfl
@[simp] theorem info_123 : (Try.prog.info? 123).isSome = true := by kernel_rfl
@[simp] theorem bytes_123 : Try.prog.bytesOf 123 = 8 := by kernel_rfl
@[simp] theorem ctys_123 : ctys Try.prog 123 = [none] := by kernel_rfl
@[simp] theorem conc_123 : Try.prog.concrete 123 = true := by kernel_rfl
@[simp] theorem zero_123 : zeroCs Try.prog 123 = some [.d (.v (.pointer none))] := by kernel_rfl
@[simp] theorem ifc_123 : isIfcT Try.prog 123 = some false := by kernel_rfl
@[simp] theorem map_123 : Try.prog.isMap 123 = false := by kernel_rfl
@[simp] theorem ptr_123 : Try.prog.ptrT 123 = some (some 174) := by kernel_rfl
@[simp] theorem ztup_123 : zeroTup Try.prog 123 = some (.tup [(false, [.d (.v (.pointer none))]), (false, [.d (.v (.bool false))])]) := by kernel_rfl
@[simp] theorem app_123 : Try.prog.appOk 123 = true := by kernel_rfl
@[simp] theorem und_123 : Try.prog.underlying 123 = some (.pointer 174) := by kernel_rfl
@[simp] theorem lay_128 : Try.prog.lay 128 = some (1, false) := by kernel_rfl
@[simp] theorem cells_128 : Try.prog.cellsOf 128 = 1 := by kernel_rfl
@[simp] theorem info_128 : (Try.prog.info? 128).isSome = true := by kernel_rfl
@[simp] theorem bytes_128 : Try.prog.bytesOf 128 = 24 := by kernel_rfl
@[simp] theorem ctys_128 : ctys Try.prog 128 = [some 20] := by kernel_rfl
@[simp] theorem conc_128 : Try.prog.concrete 128 = true := by kernel_rfl
@[simp] theorem zero_128 : zeroCs Try.prog 128 = some [.d (.v (.slice none 0 0))] := by kernel_rfl
@[simp] theorem ifc_128 : isIfcT Try.prog 128 = some false := by kernel_rfl
@[simp] theorem map_128 : Try.prog.isMap 128 = false := by kernel_rfl
@[simp] theorem ptr_128 : Try.prog.ptrT 128 = some none := by kernel_rfl
@[simp] theorem ztup_128 : zeroTup Try.prog 128 = some (.tup [(false, [.d (.v (.slice none 0 0))]), (false, [.d (.v (.bool false))])]) := by kernel_rfl
@[simp] theorem app_128 : Try.prog.appOk 128 = true := by kernel_rfl
@[simp] theorem elem_128 : Try.prog.elemT 128 = some 20 := by kernel_rfl
@[simp] theorem und_128 : Try.prog.underlying 128 = some (.slice 20) := by kernel_rfl
@[simp] theorem fld_132_0 : Try.prog.fld 132 0 = some (0, 1, false) := by kernel_rfl
@[simp] theorem fld_132_1 : Try.prog.fld 132 1 = some (1, 1, false) := by kernel_rfl
@[simp] theorem fld_132_2 : Try.prog.fld 132 2 = some (2, 1, false) := by kernel_rfl
@[simp] theorem fld_132_3 : Try.prog.fld 132 3 = some (3, 1, false) := by kernel_rfl
@[simp] theorem fld_133_0 : Try.prog.fld 133 0 = some (0, 1, false) := by kernel_rfl
@[simp] theorem fld_133_1 : Try.prog.fld 133 1 = some (1, 1, false) := by kernel_rfl
@[simp] theorem fld_133_2 : Try.prog.fld 133 2 = some (2, 1, false) := by kernel_rfl
@[simp] theorem fld_133_3 : Try.prog.fld 133 3 = some (3, 1, false) := by kernel_rfl
@[simp] theorem lay_154 : Try.prog.lay 154 = some (1, false) := by kernel_rfl
@[simp] theorem cells_154 : Try.prog.cellsOf 154 = 1 := by kernel_rfl
@[simp] theorem info_154 : (Try.prog.info? 154).isSome = true := by kernel_rfl
@[simp] theorem bytes_154 : Try.prog.bytesOf 154 = 8 := by kernel_rfl
@[simp] theorem ctys_154 : ctys Try.prog 154 = [none] := by kernel_rfl
@[simp] theorem conc_154 : Try.prog.concrete 154 = true := by kernel_rfl
@[simp] theorem zero_154 : zeroCs Try.prog 154 = some [.d (.v (.map none))] := by kernel_rfl
@[simp] theorem ifc_154 : isIfcT Try.prog 154 = some false := by kernel_rfl
@[simp] theorem map_154 : Try.prog.isMap 154 = true := by kernel_rfl
@[simp] theorem ptr_154 : Try.prog.ptrT 154 = some none := by kernel_rfl
@[simp] theorem ztup_154 : zeroTup Try.prog 154 = some (.tup [(false, [.d (.v (.map none))]), (false, [.d (.v (.bool false))])]) := by kernel_rfl
@[simp] theorem app_154 : Try.prog.appOk 154 = true := by kernel_rfl
@[simp] theorem lay_172 : Try.prog.lay 172 = some (1, false) := by kernel_rfl
@[simp] theorem cells_172 : Try.prog.cellsOf 172 = 1 := by kernel_rfl
@[simp] theorem info_172 : (Try.prog.info? 172).isSome = true := by kernel_rfl
@[simp] theorem bytes_172 : Try.prog.bytesOf 172 = 24 := by kernel_rfl
@[simp] theorem ctys_172 : ctys Try.prog 172 = [some 177] := by kernel_rfl
@[simp] theorem conc_172 : Try.prog.concrete 172 = true := by kernel_rfl
@[simp] theorem zero_172 : zeroCs Try.prog 172 = some [.d (.v (.slice none 0 0))] := by kernel_rfl
@[simp] theorem ifc_172 : isIfcT Try.prog 172 = some false := by kernel_rfl
@[simp] theorem map_172 : Try.prog.isMap 172 = false := by kernel_rfl
@[simp] theorem ptr_172 : Try.prog.ptrT 172 = some none := by kernel_rfl
@[simp] theorem ztup_172 : zeroTup Try.prog 172 = some (.tup [(false, [.d (.v (.slice none 0 0))]), (false, [.d (.v (.bool false))])]) := by kernel_rfl
@[simp] theorem app_172 : Try.prog.appOk 172 = true := by kernel_rfl
@[simp] theorem elem_172 : Try.prog.elemT 172 = some 177 := by kernel_rfl
@[simp] theorem und_172 : Try.prog.underlying 172 = some (.slice 177) := by kernel_rfl
@[simp] theorem fld_173_0 : Try.prog.fld 173 0 = some (0, 1, false) := by kernel_rfl
@[simp] theorem lay_174 : Try.prog.lay 174 = some (1, true) := by kernel_rfl
@[simp] theorem cells_174 : Try.prog.cellsOf 174 = 1 := by kernel_rfl
@[simp] theorem info_174 : (Try.prog.info? 174).isSome = true := by kernel_rfl
@[simp] theorem bytes_174 : Try.prog.bytesOf 174 = 24 := by kernel_rfl
@[simp] theorem ctys_174 : ctys Try.prog 174 = [some 177] := by kernel_rfl
@[simp] theorem conc_174 : Try.prog.concrete 174 = true := by kernel_rfl
@[simp] theorem zero_174 : zeroCs Try.prog 174 = some [.d (.v (.slice none 0 0))] := by kernel_rfl
@[simp] theorem fld_174_0 : Try.prog.fld 174 0 = some (0, 1, false) := by kernel_rfl
@[simp] theorem str_174 : Try.prog.strOk 174 = true := by kernel_rfl
@[simp] theorem ifc_174 : isIfcT Try.prog 174 = some false := by kernel_rfl
@[simp] theorem map_174 : Try.prog.isMap 174 = false := by kernel_rfl
@[simp] theorem ptr_174 : Try.prog.ptrT 174 = some none := by kernel_rfl
@[simp] theorem ztup_174 : zeroTup Try.prog 174 = some (.tup [(true, [.d (.v (.slice none 0 0))]), (false, [.d (.v (.bool false))])]) := by kernel_rfl
@[simp] theorem app_174 : Try.prog.appOk 174 = true := by kernel_rfl
@[simp] theorem fld_176_0 : Try.prog.fld 176 0 = some (0, 1, false) := by kernel_rfl
@[simp] theorem fld_176_1 : Try.prog.fld 176 1 = some (1, 3, true) := by kernel_rfl
@[simp] theorem lay_177 : Try.prog.lay 177 = some (4, true) := by kernel_rfl
@[simp] theorem cells_177 : Try.prog.cellsOf 177 = 4 := by kernel_rfl
@[simp] theorem info_177 : (Try.prog.info? 177).isSome = true := by kernel_rfl
@[simp] theorem bytes_177 : Try.prog.bytesOf 177 = 40 := by kernel_rfl
@[simp] theorem ctys_177 : ctys Try.prog 177 = [none, none, none, none] := by kernel_rfl
@[simp] theorem conc_177 : Try.prog.concrete 177 = true := by kernel_rfl
@[simp] theorem zero_177 : zeroCs Try.prog 177 = some [.d (.v (.string ⟨#[]⟩)), .d (.v (.pointer none)), .d (.v (.pointer none)), .d (.v (.pointer none))] := by kernel_rfl
@[simp] theorem fld_177_0 : Try.prog.fld 177 0 = some (0, 1, false) := by kernel_rfl
@[simp] theorem fld_177_1 : Try.prog.fld 177 1 = some (1, 3, true) := by kernel_rfl
@[simp] theorem str_177 : Try.prog.strOk 177 = true := by kernel_rfl
@[simp] theorem ifc_177 : isIfcT Try.prog 177 = some false := by kernel_rfl
@[simp] theorem map_177 : Try.prog.isMap 177 = false := by kernel_rfl
@[simp] theorem ptr_177 : Try.prog.ptrT 177 = some none := by kernel_rfl
@[simp] theorem ztup_177 : zeroTup Try.prog 177 = some (.tup [(true, [.d (.v (.string ⟨#[]⟩)), .d (.v (.pointer none)), .d (.v (.pointer none)), .d (.v (.pointer none))]), (false, [.d (.v (.bool false))])]) := by kernel_rfl
@[simp] theorem app_177 : Try.prog.appOk 177 = true := by kernel_rfl
@[simp] theorem lay_198 : Try.prog.lay 198 = some (1, false) := by kernel_rfl
@[simp] theorem cells_198 : Try.prog.cellsOf 198 = 1 := by kernel_rfl
@[simp] theorem info_198 : (Try.prog.info? 198).isSome = true := by kernel_rfl
@[simp] theorem bytes_198 : Try.prog.bytesOf 198 = 16 := by kernel_rfl
@[simp] theorem ctys_198 : ctys Try.prog 198 = [none] := by kernel_rfl
@[simp] theorem conc_198 : Try.prog.concrete 198 = true := by kernel_rfl
@[simp] theorem zero_198 : zeroCs Try.prog 198 = some [.d (.v (.string ⟨#[]⟩))] := by kernel_rfl
@[simp] theorem ifc_198 : isIfcT Try.prog 198 = some false := by kernel_rfl
@[simp] theorem map_198 : Try.prog.isMap 198 = false := by kernel_rfl
@[simp] theorem ptr_198 : Try.prog.ptrT 198 = some none := by kernel_rfl
@[simp] theorem ztup_198 : zeroTup Try.prog 198 = some (.tup [(false, [.d (.v (.string ⟨#[]⟩))]), (false, [.d (.v (.bool false))])]) := by kernel_rfl
@[simp] theorem app_198 : Try.prog.appOk 198 = true := by kernel_rfl
@[simp] theorem und_198 : Try.prog.underlying 198 = some .string := by kernel_rfl
@[simp] theorem fld_199_0 : Try.prog.fld 199 0 = some (0, 6, true) := by kernel_rfl
@[simp] theorem fld_199_1 : Try.prog.fld 199 1 = some (6, 1, false) := by kernel_rfl
@[simp] theorem fld_199_2 : Try.prog.fld 199 2 = some (7, 1, false) := by kernel_rfl
@[simp] theorem lay_200 : Try.prog.lay 200 = some (8, true) := by kernel_rfl
@[simp] theorem cells_200 : Try.prog.cellsOf 200 = 8 := by kernel_rfl
@[simp] theorem info_200 : (Try.prog.info? 200).isSome = true := by kernel_rfl
@[simp] theorem bytes_200 : Try.prog.bytesOf 200 = 88 := by kernel_rfl
@[simp] theorem ctys_200 : ctys Try.prog 200 = [none, none, none, none, none, none, none, some 9] := by kernel_rfl
@[simp] theorem conc_200 : Try.prog.concrete 200 = true := by kernel_rfl
@[simp] theorem zero_200 : zeroCs Try.prog 200 = some [.d (.v (.pointer none)), .d (.v (.pointer none)), .d (.v (.pointer none)), .d (.v (.pointer none)), .d (.v (.pointer none)), .d (.v (.bool false)), .d (.v (.string ⟨#[]⟩)), .d (.v (.slice none 0 0))] := by kernel_rfl
@[simp] theorem fld_200_0 : Try.prog.fld 200 0 = some (0, 6, true) := by kernel_rfl
@[simp] theorem fld_200_1 : Try.prog.fld 200 1 = some (6, 1, false) := by kernel_rfl
@[simp] theorem fld_200_2 : Try.prog.fld 200 2 = some (7, 1, false) := by kernel_rfl
@[simp] theorem str_200 : Try.prog.strOk 200 = true := by kernel_rfl
@[simp] theorem ifc_200 : isIfcT Try.prog 200 = some false := by kernel_rfl
@[simp] theorem map_200 : Try.prog.isMap 200 = false := by kernel_rfl
@[simp] theorem ptr_200 : Try.prog.ptrT 200 = some none := by kernel_rfl
@[simp] theorem ztup_200 : zeroTup Try.prog 200 = some (.tup [(true, [.d (.v (.pointer none)), .d (.v (.pointer none)), .d (.v (.pointer none)), .d (.v (.pointer none)), .d (.v (.pointer none)), .d (.v (.bool false)), .d (.v (.string ⟨#[]⟩)), .d (.v (.slice none 0 0))]), (false, [.d (.v (.bool false))])]) := by kernel_rfl
@[simp] theorem app_200 : Try.prog.appOk 200 = true := by kernel_rfl
@[simp] theorem fld_203_0 : Try.prog.fld 203 0 = some (0, 1, false) := by kernel_rfl
@[simp] theorem fld_203_1 : Try.prog.fld 203 1 = some (1, 1, false) := by kernel_rfl
@[simp] theorem fld_204_0 : Try.prog.fld 204 0 = some (0, 1, false) := by kernel_rfl
@[simp] theorem fld_204_1 : Try.prog.fld 204 1 = some (1, 1, false) := by kernel_rfl
@[simp] theorem fld_206_0 : Try.prog.fld 206 0 = some (0, 1, false) := by kernel_rfl
@[simp] theorem fld_207_0 : Try.prog.fld 207 0 = some (0, 1, false) := by kernel_rfl
@[simp] theorem fld_215_0 : Try.prog.fld 215 0 = some (0, 1, false) := by kernel_rfl
@[simp] theorem fld_216_0 : Try.prog.fld 216 0 = some (0, 1, false) := by kernel_rfl
@[simp] theorem fld_234_0 : Try.prog.fld 234 0 = some (0, 1, false) := by kernel_rfl
@[simp] theorem fld_234_1 : Try.prog.fld 234 1 = some (1, 1, false) := by kernel_rfl
@[simp] theorem fld_234_2 : Try.prog.fld 234 2 = some (2, 1, false) := by kernel_rfl
@[simp] theorem fld_235_0 : Try.prog.fld 235 0 = some (0, 1, false) := by kernel_rfl
@[simp] theorem fld_235_1 : Try.prog.fld 235 1 = some (1, 1, false) := by kernel_rfl
@[simp] theorem fld_235_2 : Try.prog.fld 235 2 = some (2, 1, false) := by kernel_rfl
@[simp] theorem fld_244_0 : Try.prog.fld 244 0 = some (0, 1, false) := by kernel_rfl
@[simp] theorem fld_244_1 : Try.prog.fld 244 1 = some (1, 1, false) := by kernel_rfl
@[simp] theorem fld_245_0 : Try.prog.fld 245 0 = some (0, 1, false) := by kernel_rfl
@[simp] theorem fld_245_1 : Try.prog.fld 245 1 = some (1, 1, false) := by kernel_rfl
@[simp] theorem fld_255_0 : Try.prog.fld 255 0 = some (0, 1, false) := by kernel_rfl
@[simp] theorem fld_255_1 : Try.prog.fld 255 1 = some (1, 1, false) := by kernel_rfl
@[simp] theorem fld_255_2 : Try.prog.fld 255 2 = some (2, 1, false) := by kernel_rfl
@[simp] theorem fld_255_3 : Try.prog.fld 255 3 = some (3, 1, false) := by kernel_rfl
@[simp] theorem fld_256_0 : Try.prog.fld 256 0 = some (0, 1, false) := by kernel_rfl
@[simp] theorem fld_256_1 : Try.prog.fld 256 1 = some (1, 1, false) := by kernel_rfl
@[simp] theorem fld_256_2 : Try.prog.fld 256 2 = some (2, 1, false) := by kernel_rfl
@[simp] theorem fld_256_3 : Try.prog.fld 256 3 = some (3, 1, false) := by kernel_rfl
@[simp] theorem fld_267_0 : Try.prog.fld 267 0 = some (0, 1, false) := by kernel_rfl
@[simp] theorem fld_267_1 : Try.prog.fld 267 1 = some (1, 1, false) := by kernel_rfl
@[simp] theorem fld_267_2 : Try.prog.fld 267 2 = some (2, 1, false) := by kernel_rfl
@[simp] theorem fld_267_3 : Try.prog.fld 267 3 = some (3, 1, false) := by kernel_rfl
@[simp] theorem fld_267_4 : Try.prog.fld 267 4 = some (4, 1, false) := by kernel_rfl
@[simp] theorem fld_267_5 : Try.prog.fld 267 5 = some (5, 1, false) := by kernel_rfl
@[simp] theorem fld_267_9 : Try.prog.fld 267 9 = some (9, 1, false) := by kernel_rfl
@[simp] theorem fld_268_0 : Try.prog.fld 268 0 = some (0, 1, false) := by kernel_rfl
@[simp] theorem fld_268_1 : Try.prog.fld 268 1 = some (1, 1, false) := by kernel_rfl
@[simp] theorem fld_268_2 : Try.prog.fld 268 2 = some (2, 1, false) := by kernel_rfl
@[simp] theorem fld_268_3 : Try.prog.fld 268 3 = some (3, 1, false) := by kernel_rfl
@[simp] theorem fld_268_4 : Try.prog.fld 268 4 = some (4, 1, false) := by kernel_rfl
@[simp] theorem fld_268_5 : Try.prog.fld 268 5 = some (5, 1, false) := by kernel_rfl
@[simp] theorem fld_268_9 : Try.prog.fld 268 9 = some (9, 1, false) := by kernel_rfl
@[simp] theorem fld_306_0 : Try.prog.fld 306 0 = some (0, 1, false) := by kernel_rfl
@[simp] theorem fld_306_1 : Try.prog.fld 306 1 = some (1, 1, false) := by kernel_rfl
@[simp] theorem fld_306_2 : Try.prog.fld 306 2 = some (2, 1, false) := by kernel_rfl
@[simp] theorem fld_307_0 : Try.prog.fld 307 0 = some (0, 1, false) := by kernel_rfl
@[simp] theorem fld_307_1 : Try.prog.fld 307 1 = some (1, 1, false) := by kernel_rfl
@[simp] theorem fld_307_2 : Try.prog.fld 307 2 = some (2, 1, false) := by kernel_rfl
end Go.Smd
end
