/- Part 13 of the proof: Ty. -/
import Derived.Test.YtannholebjdckaaGreatQS07
set_option linter.unusedVariables false
section
set_option linter.unusedSimpArgs false
namespace Go.Smd
open Go.RowKit Go.Proofs
@[simp] theorem lay_2 : Tryz.prog.lay 2 = some (1, false) := by kernel_rfl
@[simp] theorem cells_2 : Tryz.prog.cellsOf 2 = 1 := by kernel_rfl
@[simp] theorem info_2 : (Tryz.prog.info? 2).isSome = true := by kernel_rfl
@[simp] theorem bytes_2 : Tryz.prog.bytesOf 2 = 8 := by kernel_rfl
@[simp] theorem ctys_2 : ctys Tryz.prog 2 = [none] := by kernel_rfl
@[simp] theorem conc_2 : Tryz.prog.concrete 2 = true := by kernel_rfl
@[simp] theorem zero_2 : zeroCs Tryz.prog 2 = some [.d (.v (.int .i64 0))] := by kernel_rfl
@[simp] theorem ifc_2 : isIfcT Tryz.prog 2 = some false := by kernel_rfl
@[simp] theorem map_2 : Tryz.prog.isMap 2 = false := by kernel_rfl
@[simp] theorem ptr_2 : Tryz.prog.ptrT 2 = some none := by kernel_rfl
@[simp] theorem ztup_2 : zeroTup Tryz.prog 2 = some (.tup [(false, [.d (.v (.int .i64 0))]), (false, [.d (.v (.bool false))])]) := by kernel_rfl
@[simp] theorem app_2 : Tryz.prog.appOk 2 = true := by kernel_rfl
@[simp] theorem und_2 : Tryz.prog.underlying 2 = some (.int .i64) := by kernel_rfl
@[simp] theorem lay_3 : Tryz.prog.lay 3 = some (1, false) := by kernel_rfl
@[simp] theorem cells_3 : Tryz.prog.cellsOf 3 = 1 := by kernel_rfl
@[simp] theorem info_3 : (Tryz.prog.info? 3).isSome = true := by kernel_rfl
@[simp] theorem bytes_3 : Tryz.prog.bytesOf 3 = 8 := by kernel_rfl
@[simp] theorem ctys_3 : ctys Tryz.prog 3 = [none] := by kernel_rfl
@[simp] theorem conc_3 : Tryz.prog.concrete 3 = true := by kernel_rfl
@[simp] theorem zero_3 : zeroCs Tryz.prog 3 = some [.d (.v (.int .i64 0))] := by kernel_rfl
@[simp] theorem ifc_3 : isIfcT Tryz.prog 3 = some false := by kernel_rfl
@[simp] theorem map_3 : Tryz.prog.isMap 3 = false := by kernel_rfl
@[simp] theorem ptr_3 : Tryz.prog.ptrT 3 = some none := by kernel_rfl
@[simp] theorem ztup_3 : zeroTup Tryz.prog 3 = some (.tup [(false, [.d (.v (.int .i64 0))]), (false, [.d (.v (.bool false))])]) := by kernel_rfl
@[simp] theorem app_3 : Tryz.prog.appOk 3 = true := by kernel_rfl
@[simp] theorem und_3 : Tryz.prog.underlying 3 = some (.int .i64) := by kernel_rfl
@[simp] theorem lay_4 : Tryz.prog.lay 4 = some (1, false) := by kernel_rfl
@[simp] theorem cells_4 : Tryz.prog.cellsOf 4 = 1 := by kernel_rfl
@[simp] theorem info_4 : (Tryz.prog.info? 4).isSome = true := by kernel_rfl
@[simp] theorem bytes_4 : Tryz.prog.bytesOf 4 = 1 := by kernel_rfl
@[simp] theorem ctys_4 : ctys Tryz.prog 4 = [none] := by kernel_rfl
@[simp] theorem conc_4 : Tryz.prog.concrete 4 = true := by kernel_rfl
@[simp] theorem zero_4 : zeroCs Tryz.prog 4 = some [.d (.v (.bool false))] := by kernel_rfl
@[simp] theorem ifc_4 : isIfcT Tryz.prog 4 = some false := by kernel_rfl
@[simp] theorem map_4 : Tryz.prog.isMap 4 = false := by kernel_rfl
@[simp] theorem ptr_4 : Tryz.prog.ptrT 4 = some none := by kernel_rfl
@[simp] theorem ztup_4 : zeroTup Tryz.prog 4 = some (.tup [(false, [.d (.v (.bool false))]), (false, [.d (.v (.bool false))])]) := by kernel_rfl
@[simp] theorem app_4 : Tryz.prog.appOk 4 = true := by kernel_rfl
@[simp] theorem und_4 : Tryz.prog.underlying 4 = some .bool := by kernel_rfl
@[simp] theorem lay_5 : Tryz.prog.lay 5 = some (1, false) := by kernel_rfl
@[simp] theorem cells_5 : Tryz.prog.cellsOf 5 = 1 := by kernel_rfl
@[simp] theorem info_5 : (Tryz.prog.info? 5).isSome = true := by kernel_rfl
@[simp] theorem bytes_5 : Tryz.prog.bytesOf 5 = 1 := by kernel_rfl
@[simp] theorem ctys_5 : ctys Tryz.prog 5 = [none] := by kernel_rfl
@[simp] theorem conc_5 : Tryz.prog.concrete 5 = true := by kernel_rfl
@[simp] theorem zero_5 : zeroCs Tryz.prog 5 = some [.d (.v (.int .u8 0))] := by kernel_rfl
@[simp] theorem ifc_5 : isIfcT Tryz.prog 5 = some false := by kernel_rfl
@[simp] theorem map_5 : Tryz.prog.isMap 5 = false := by kernel_rfl
@[simp] theorem ptr_5 : Tryz.prog.ptrT 5 = some none := by kernel_rfl
@[simp] theorem ztup_5 : zeroTup Tryz.prog 5 = some (.tup [(false, [.d (.v (.int .u8 0))]), (false, [.d (.v (.bool false))])]) := by kernel_rfl
@[simp] theorem app_5 : Tryz.prog.appOk 5 = true := by kernel_rfl
@[simp] theorem und_5 : Tryz.prog.underlying 5 = some (.int .u8) := by kernel_rfl
@[simp] theorem fld_7_0 : Tryz.prog.fld 7 0 = some (0, 1, false) := by kernel_rfl
@[simp] theorem fld_7_1 : Tryz.prog.fld 7 1 = some (1, 1, false) := by kernel_rfl
@[simp] theorem fld_7_2 : Tryz.prog.fld 7 2 = some (2, 1, false) := by kernel_rfl
@[simp] theorem fld_7_3 : Tryz.prog.fld 7 3 = some (3, 1, false) := by kernel_rfl
@[simp] theorem fld_8_0 : Tryz.prog.fld 8 0 = some (0, 1, false) := by kernel_rfl
@[simp] theorem fld_8_1 : Tryz.prog.fld 8 1 = some (1, 1, false) := by kernel_rfl
@[simp] theorem fld_8_2 : Tryz.prog.fld 8 2 = some (2, 1, false) := by kernel_rfl
@[simp] theorem fld_8_3 : Tryz.prog.fld 8 3 = some (3, 1, false) := by kernel_rfl
@[simp] theorem lay_9 : Tryz.prog.lay 9 = some (1, false) := by kernel_rfl
@[simp] theorem cells_9 : Tryz.prog.cellsOf 9 = 1 := by kernel_rfl
@[simp] theorem info_9 : (Tryz.prog.info? 9).isSome = true := by kernel_rfl
@[simp] theorem bytes_9 : Tryz.prog.bytesOf 9 = 16 := by kernel_rfl
@[simp] theorem ctys_9 : ctys Tryz.prog 9 = [none] := by kernel_rfl
@[simp] theorem conc_9 : Tryz.prog.concrete 9 = true := by kernel_rfl
@[simp] theorem zero_9 : zeroCs Tryz.prog 9 = some [.d (.v (.string ⟨#[]⟩))] := by kernel_rfl
@[simp] theorem ifc_9 : isIfcT Tryz.prog 9 = some false := by kernel_rfl
@[simp] theorem map_9 : Tryz.prog.isMap 9 = false := by kernel_rfl
@[simp] theorem ptr_9 : Tryz.prog.ptrT 9 = some none := by kernel_rfl
@[simp] theorem ztup_9 : zeroTup Tryz.prog 9 = some (.tup [(false, [.d (.v (.string ⟨#[]⟩))]), (false, [.d (.v (.bool false))])]) := by kernel_rfl
@[simp] theorem app_9 : Tryz.prog.appOk 9 = true := by kernel_rfl
@[simp] theorem und_9 : Tryz.prog.underlying 9 = some .string := by kernel_rfl
@[simp] theorem fld_13_0 : Tryz.prog.fld 13 0 = some (0, 1, false) := by kernel_rfl
@[simp] theorem fld_13_1 : Tryz.prog.fld 13 1 = some (1, 1, false) := by kernel_rfl
@[simp] theorem fld_14_0 : Tryz.prog.fld 14 0 = some (0, 1, false) := by kernel_rfl
@[simp] theorem fld_14_1 : Tryz.prog.fld 14 1 = some (1, 1, false) := by kernel_rfl
@[simp] theorem fld_18_0 : Tryz.prog.fld 18 0 = some (0, 1, false) := by kernel_rfl
@[simp] theorem fld_19_0 : Tryz.prog.fld 19 0 = some (0, 1, false) := by kernel_rfl
@[simp] theorem lay_20 : Tryz.prog.lay 20 = some (1, false) := by kernel_rfl
@[simp] theorem cells_20 : Tryz.prog.cellsOf 20 = 1 := by kernel_rfl
@[simp] theorem info_20 : (Tryz.prog.info? 20).isSome = true := by kernel_rfl
@[simp] theorem bytes_20 : Tryz.prog.bytesOf 20 = 16 := by kernel_rfl
@[simp] theorem ctys_20 : ctys Tryz.prog 20 = [none] := by kernel_rfl
@[simp] theorem zero_20 : zeroCs Tryz.prog 20 = some [.d (.v (.nilIface))] := by kernel_rfl
@[simp] theorem ifc_20 : isIfcT Tryz.prog 20 = some true := by kernel_rfl
@[simp] theorem map_20 : Tryz.prog.isMap 20 = false := by kernel_rfl
@[simp] theorem app_20 : Tryz.prog.appOk 20 = true := by kernel_rfl
@[simp] theorem lay_21 : Tryz.prog.lay 21 = some (1, false) := by kernel_rfl
@[simp] theorem cells_21 : Tryz.prog.cellsOf 21 = 1 := by kernel_rfl
@[simp] theorem info_21 : (Tryz.prog.info? 21).isSome = true := by kernel_rfl
@[simp] theorem bytes_21 : Tryz.prog.bytesOf 21 = 4 := by kernel_rfl
@[simp] theorem ctys_21 : ctys Tryz.prog 21 = [none] := by kernel_rfl
@[simp] theorem conc_21 : Tryz.prog.concrete 21 = true := by kernel_rfl
@[simp] theorem zero_21 : zeroCs Tryz.prog 21 = some [.d (.v (.int .i32 0))] := by kernel_rfl
@[simp] theorem ifc_21 : isIfcT Tryz.prog 21 = some false := by kernel_rfl
@[simp] theorem map_21 : Tryz.prog.isMap 21 = false := by kernel_rfl
@[simp] theorem ptr_21 : Tryz.prog.ptrT 21 = some none := by kernel_rfl
@[simp] theorem ztup_21 : zeroTup Tryz.prog 21 = some (.tup [(false, [.d (.v (.int .i32 0))]), (false, [.d (.v (.bool false))])]) := by kernel_rfl
@[simp] theorem app_21 : Tryz.prog.appOk 21 = true := by kernel_rfl
@[simp] theorem und_21 : Tryz.prog.underlying 21 = some (.int .i32) := by kernel_rfl
@[simp] theorem lay_22 : Tryz.prog.lay 22 = some (1, false) := by kernel_rfl
@[simp] theorem cells_22 : Tryz.prog.cellsOf 22 = 1 := by kernel_rfl
@[simp] theorem info_22 : (Tryz.prog.info? 22).isSome = true := by kernel_rfl
@[simp] theorem bytes_22 : Tryz.prog.bytesOf 22 = 24 := by kernel_rfl
@[simp] theorem ctys_22 : ctys Tryz.prog 22 = [some 26] := by kernel_rfl
@[simp] theorem conc_22 : Tryz.prog.concrete 22 = true := by kernel_rfl
@[simp] theorem zero_22 : zeroCs Tryz.prog 22 = some [.d (.v (.slice none 0 0))] := by kernel_rfl
@[simp] theorem ifc_22 : isIfcT Tryz.prog 22 = some false := by kernel_rfl
@[simp] theorem map_22 : Tryz.prog.isMap 22 = false := by kernel_rfl
@[simp] theorem ptr_22 : Tryz.prog.ptrT 22 = some none := by kernel_rfl
@[simp] theorem ztup_22 : zeroTup Tryz.prog 22 = some (.tup [(false, [.d (.v (.slice none 0 0))]), (false, [.d (.v (.bool false))])]) := by kernel_rfl
@[simp] theorem app_22 : Tryz.prog.appOk 22 = true := by kernel_rfl
@[simp] theorem isl_22 : Tryz.prog.isSl 22 = true := by kernel_rfl
@[simp] theorem elem_22 : Tryz.prog.elemT 22 = some 26 := by kernel_rfl
@[simp] theorem und_22 : Tryz.prog.underlying 22 = some (.slice 26) := by kernel_rfl
@[simp] theorem lay_26 : Tryz.prog.lay 26 = some (1, false) := by kernel_rfl
@[simp] theorem cells_26 : Tryz.prog.cellsOf 26 = 1 := by kernel_rfl
@[simp] theorem info_26 : (Tryz.prog.info? 26).isSome = true := by kernel_rfl
@[simp] theorem bytes_26 : Tryz.prog.bytesOf 26 = 24 := by kernel_rfl
@[simp] theorem ctys_26 : ctys Tryz.prog 26 = [some 33] := by kernel_rfl
@[simp] theorem conc_26 : Tryz.prog.concrete 26 = true := by kernel_rfl
@[simp] theorem zero_26 : zeroCs Tryz.prog 26 = some [.d (.v (.slice none 0 0))] := by kernel_rfl
@[simp] theorem ifc_26 : isIfcT Tryz.prog 26 = some false := by kernel_rfl
@[simp] theorem map_26 : Tryz.prog.isMap 26 = false := by kernel_rfl
@[simp] theorem ptr_26 : Tryz.prog.ptrT 26 = some none := by kernel_rfl
@[simp] theorem ztup_26 : zeroTup Tryz.prog 26 = some (.tup [(false, [.d (.v (.slice none 0 0))]), (false, [.d (.v (.bool false))])]) := by kernel_rfl
@[simp] theorem app_26 : Tryz.prog.appOk 26 = true := by kernel_rfl
@[simp] theorem isl_26 : Tryz.prog.isSl 26 = true := by kernel_rfl
@[simp] theorem elem_26 : Tryz.prog.elemT 26 = some 33 := by kernel_rfl
@[simp] theorem und_26 : Tryz.prog.underlying 26 = some (.slice 33) := by kernel_rfl
@[simp] theorem lay_27 : Tryz.prog.lay 27 = some (1, false) := by kernel_rfl
@[simp] theorem cells_27 : Tryz.prog.cellsOf 27 = 1 := by kernel_rfl
@[simp] theorem info_27 : (Tryz.prog.info? 27).isSome = true := by kernel_rfl
@[simp] theorem bytes_27 : Tryz.prog.bytesOf 27 = 24 := by kernel_rfl
@[simp] theorem ctys_27 : ctys Tryz.prog 27 = [some 31] := by kernel_rfl
@[simp] theorem conc_27 : Tryz.prog.concrete 27 = true := by kernel_rfl
@[simp] theorem zero_27 : zeroCs Tryz.prog 27 = some [.d (.v (.slice none 0 0))] := by kernel_rfl
@[simp] theorem ifc_27 : isIfcT Tryz.prog 27 = some false := by kernel_rfl
@[simp] theorem map_27 : Tryz.prog.isMap 27 = false := by kernel_rfl
@[simp] theorem ptr_27 : Tryz.prog.ptrT 27 = some none := by kernel_rfl
@[simp] theorem ztup_27 : zeroTup Tryz.prog 27 = some (.tup [(false, [.d (.v (.slice none 0 0))]), (false, [.d (.v (.bool false))])]) := by kernel_rfl
@[simp] theorem app_27 : Tryz.prog.appOk 27 = true := by kernel_rfl
@[simp] theorem isl_27 : Tryz.prog.isSl 27 = true := by kernel_rfl
@[simp] theorem elem_27 : Tryz.prog.elemT 27 = some 31 := by kernel_rfl
@[simp] theorem und_27 : Tryz.prog.underlying 27 = some (.slice 31) := by kernel_rfl
@[simp] theorem lay_28 : Tryz.prog.lay 28 = some (1, false) := by kernel_rfl
@[simp] theorem cells_28 : Tryz.prog.cellsOf 28 = 1 := by kernel_rfl
@[simp] theorem info_28 : (Tryz.prog.info? 28).isSome = true := by kernel_rfl
@[simp] theorem bytes_28 : Tryz.prog.bytesOf 28 = 24 := by kernel_rfl
@[simp] theorem ctys_28 : ctys Tryz.prog 28 = [some 9] := by kernel_rfl
@[simp] theorem conc_28 : Tryz.prog.concrete 28 = true := by kernel_rfl
@[simp] theorem zero_28 : zeroCs Tryz.prog 28 = some [.d (.v (.slice none 0 0))] := by kernel_rfl
@[simp] theorem ifc_28 : isIfcT Tryz.prog 28 = some false := by kernel_rfl
@[simp] theorem map_28 : Tryz.prog.isMap 28 = false := by kernel_rfl
@[simp] theorem ptr_28 : Tryz.prog.ptrT 28 = some none := by kernel_rfl
@[simp] theorem ztup_28 : zeroTup Tryz.prog 28 = some (.tup [(false, [.d (.v (.slice none 0 0))]), (false, [.d (.v (.bool false))])]) := by kernel_rfl
@[simp] theorem app_28 : Tryz.prog.appOk 28 = true := by kernel_rfl
@[simp] theorem isl_28 : Tryz.prog.isSl 28 = true := by kernel_rfl
@[simp] theorem elem_28 : Tryz.prog.elemT 28 = some 9 := by kernel_rfl
@[simp] theorem und_28 : Tryz.prog.underlying 28 = some (.slice 9) := by kernel_rfl
@[simp] theorem lay_29 : Tryz.prog.lay 29 = some (1, false) := by kernel_rfl
@[simp] theorem cells_29 : Tryz.prog.cellsOf 29 = 1 := by kernel_rfl
@[simp] theorem info_29 : (Tryz.prog.info? 29).isSome = true := by kernel_rfl
@[simp] theorem bytes_29 : Tryz.prog.bytesOf 29 = 8 := by kernel_rfl
@[simp] theorem ctys_29 : ctys Tryz.prog 29 = [none] := by kernel_rfl
@[simp] theorem conc_29 : Tryz.prog.concrete 29 = true := by kernel_rfl
@[simp] theorem zero_29 : zeroCs Tryz.prog 29 = some [.d (.v (.float .f64 0))] := by kernel_rfl
@[simp] theorem ifc_29 : isIfcT Tryz.prog 29 = some false := by kernel_rfl
@[simp] theorem map_29 : Tryz.prog.isMap 29 = false := by kernel_rfl
@[simp] theorem ptr_29 : Tryz.prog.ptrT 29 = some none := by kernel_rfl
@[simp] theorem ztup_29 : zeroTup Tryz.prog 29 = some (.tup [(false, [.d (.v (.float .f64 0))]), (false, [.d (.v (.bool false))])]) := by kernel_rfl
@[simp] theorem app_29 : Tryz.prog.appOk 29 = true := by kernel_rfl
@[simp] theorem und_29 : Tryz.prog.underlying 29 = some (.float .f64) := by kernel_rfl
@[simp] theorem fld_30_0 : Tryz.prog.fld 30 0 = some (0, 1, false) := by kernel_rfl
@[simp] theorem fld_30_1 : Tryz.prog.fld 30 1 = some (1, 1, false) := by kernel_rfl
@[simp] theorem fld_30_2 : Tryz.prog.fld 30 2 = some (2, 1, false) := by kernel_rfl
@[simp] theorem fld_30_3 : Tryz.prog.fld 30 3 = some (3, 1, false) := by kernel_rfl
@[simp] theorem fld_30_4 : Tryz.prog.fld 30 4 = some (4, 1, false) := by kernel_rfl
@[simp] theorem fld_30_5 : Tryz.prog.fld 30 5 = some (5, 1, false) := by kernel_rfl
@[simp] theorem lay_31 : Tryz.prog.lay 31 = some (6, true) := by kernel_rfl
@[simp] theorem cells_31 : Tryz.prog.cellsOf 31 = 6 := by kernel_rfl
@[simp] theorem info_31 : (Tryz.prog.info? 31).isSome = true := by kernel_rfl
@[simp] theorem bytes_31 : Tryz.prog.bytesOf 31 = 88 := by kernel_rfl
@[simp] theorem ctys_31 : ctys Tryz.prog 31 = [none, none, none, none, some 9, some 31] := by kernel_rfl
@[simp] theorem conc_31 : Tryz.prog.concrete 31 = true := by kernel_rfl
@[simp] theorem zero_31 : zeroCs Tryz.prog 31 = some [.d (.v (.int .i64 0)), .d (.v (.int .i64 0)), .d (.v (.float .f64 0)), .d (.v (.string ⟨#[]⟩)), .d (.v (.slice none 0 0)), .d (.v (.slice none 0 0))] := by kernel_rfl
@[simp] theorem fld_31_0 : Tryz.prog.fld 31 0 = some (0, 1, false) := by kernel_rfl
@[simp] theorem fld_31_1 : Tryz.prog.fld 31 1 = some (1, 1, false) := by kernel_rfl
@[simp] theorem fld_31_2 : Tryz.prog.fld 31 2 = some (2, 1, false) := by kernel_rfl
@[simp] theorem fld_31_3 : Tryz.prog.fld 31 3 = some (3, 1, false) := by kernel_rfl
@[simp] theorem fld_31_4 : Tryz.prog.fld 31 4 = some (4, 1, false) := by kernel_rfl
@[simp] theorem fld_31_5 : Tryz.prog.fld 31 5 = some (5, 1, false) := by kernel_rfl
@[simp] theorem str_31 : Tryz.prog.strOk 31 = true := by kernel_rfl
@[simp] theorem ifc_31 : isIfcT Tryz.prog 31 = some false := by kernel_rfl
@[simp] theorem map_31 : Tryz.prog.isMap 31 = false := by kernel_rfl
@[simp] theorem ptr_31 : Tryz.prog.ptrT 31 = some none := by kernel_rfl
@[simp] theorem ztup_31 : zeroTup Tryz.prog 31 = some (.tup [(true, [.d (.v (.int .i64 0)), .d (.v (.int .i64 0)), .d (.v (.float .f64 0)), .d (.v (.string ⟨#[]⟩)), .d (.v (.slice none 0 0)), .d (.v (.slice none 0 0))]), (false, [.d (.v (.bool false))])]) := by kernel_rfl
@[simp] theorem app_31 : Tryz.prog.appOk 31 = true := by kernel_rfl
@[simp] theorem fld_32_0 : Tryz.prog.fld 32 0 = some (0, 1, false) := by kernel_rfl
@[simp] theorem fld_32_1 : Tryz.prog.fld 32 1 = some (1, 1, false) := by kernel_rfl
@[simp] theorem fld_32_2 : Tryz.prog.fld 32 2 = some (2, 1, false) := by kernel_rfl
@[simp] theorem fld_32_3 : Tryz.prog.fld 32 3 = some (3, 1, false) := by kernel_rfl
@[simp] theorem fld_32_4 : Tryz.prog.fld 32 4 = some (4, 6, true) := by kernel_rfl
@[simp] theorem fld_32_5 : Tryz.prog.fld 32 5 = some (10, 1, false) := by kernel_rfl
@[simp] theorem lay_33 : Tryz.prog.lay 33 = some (11, true) := by kernel_rfl
@[simp] theorem cells_33 : Tryz.prog.cellsOf 33 = 11 := by kernel_rfl
@[simp] theorem info_33 : (Tryz.prog.info? 33).isSome = true := by kernel_rfl
@[simp] theorem bytes_33 : Tryz.prog.bytesOf 33 = 168 := by kernel_rfl
@[simp] theorem ctys_33 : ctys Tryz.prog 33 = [none, none, some 9, some 31, none, none, none, none, some 9, some 31, none] := by kernel_rfl
@[simp] theorem conc_33 : Tryz.prog.concrete 33 = true := by kernel_rfl
@[simp] theorem zero_33 : zeroCs Tryz.prog 33 = some [.d (.v (.int .i64 0)), .d (.v (.string ⟨#[]⟩)), .d (.v (.slice none 0 0)), .d (.v (.slice none 0 0)), .d (.v (.int .i64 0)), .d (.v (.int .i64 0)), .d (.v (.float .f64 0)), .d (.v (.string ⟨#[]⟩)), .d (.v (.slice none 0 0)), .d (.v (.slice none 0 0)), .d (.v (.int .i64 0))] := by kernel_rfl
@[simp] theorem fld_33_0 : Tryz.prog.fld 33 0 = some (0, 1, false) := by kernel_rfl
@[simp] theorem fld_33_1 : Tryz.prog.fld 33 1 = some (1, 1, false) := by kernel_rfl
@[simp] theorem fld_33_2 : Tryz.prog.fld 33 2 = some (2, 1, false) := by kernel_rfl
@[simp] theorem fld_33_3 : Tryz.prog.fld 33 3 = some (3, 1, false) := by kernel_rfl
@[simp] theorem fld_33_4 : Tryz.prog.fld 33 4 = some (4, 6, true) := by kernel_rfl
@[simp] theorem fld_33_5 : Tryz.prog.fld 33 5 = some (10, 1, false) := by kernel_rfl
@[simp] theorem str_33 : Tryz.prog.strOk 33 = true := by kernel_rfl
@[simp] theorem ifc_33 : isIfcT Tryz.prog 33 = some false := by kernel_rfl
@[simp] theorem map_33 : Tryz.prog.isMap 33 = false := by kernel_rfl
@[simp] theorem ptr_33 : Tryz.prog.ptrT 33 = some none := by kernel_rfl
@[simp] theorem ztup_33 : zeroTup Tryz.prog 33 = some (.tup [(true, [.d (.v (.int .i64 0)), .d (.v (.string ⟨#[]⟩)), .d (.v (.slice none 0 0)), .d (.v (.slice none 0 0)), .d (.v (.int .i64 0)), .d (.v (.int .i64 0)), .d (.v (.float .f64 0)), .d (.v (.string ⟨#[]⟩)), .d (.v (.slice none 0 0)), .d (.v (.slice none 0 0)), .d (.v (.int .i64 0))]), (false, [.d (.v (.bool false))])]) := by kernel_rfl
@[simp] theorem app_33 : Tryz.prog.appOk 33 = true := by kernel_rfl
@[simp] theorem fld_42_0 : Tryz.prog.fld 42 0 = some (0, 1, false) := by kernel_rfl
@[simp] theorem fld_43_0 : Tryz.prog.fld 43 0 = some (0, 1, false) := by kernel_rfl
@[simp] theorem fld_46_0 : Tryz.prog.fld 46 0 = some (0, 1, false) := by kernel_rfl
@[simp] theorem fld_46_1 : Tryz.prog.fld 46 1 = some (1, 1, false) := by kernel_rfl
@[simp] theorem fld_46_2 : Tryz.prog.fld 46 2 = some (2, 1, false) := by kernel_rfl
@[simp] theorem fld_47_0 : Tryz.prog.fld 47 0 = some (0, 1, false) := by kernel_rfl
@[simp] theorem fld_47_1 : Tryz.prog.fld 47 1 = some (1, 1, false) := by kernel_rfl
@[simp] theorem fld_47_2 : Tryz.prog.fld 47 2 = some (2, 1, false) := by kernel_rfl
@[simp] theorem fld_48_0 : Tryz.prog.fld 48 0 = some (0, 1, false) := by kernel_rfl
@[simp] theorem fld_48_1 : Tryz.prog.fld 48 1 = some (1, 1, false) := by kernel_rfl
@[simp] theorem fld_48_2 : Tryz.prog.fld 48 2 = some (2, 3, true) := by kernel_rfl
@[simp] theorem fld_48_3 : Tryz.prog.fld 48 3 = some (5, 1, false) := by kernel_rfl
@[simp] theorem fld_49_0 : Tryz.prog.fld 49 0 = some (0, 1, false) := by kernel_rfl
@[simp] theorem fld_49_1 : Tryz.prog.fld 49 1 = some (1, 1, false) := by kernel_rfl
@[simp] theorem fld_49_2 : Tryz.prog.fld 49 2 = some (2, 3, true) := by kernel_rfl
@[simp] theorem fld_49_3 : Tryz.prog.fld 49 3 = some (5, 1, false) := by kernel_rfl
@[simp] theorem fld_50_0 : Tryz.prog.fld 50 0 = some (0, 6, true) := by kernel_rfl
@[simp] theorem fld_50_1 : Tryz.prog.fld 50 1 = some (6, 1, false) := by kernel_rfl
@[simp] theorem fld_50_2 : Tryz.prog.fld 50 2 = some (7, 1, false) := by kernel_rfl
@[simp] theorem fld_51_0 : Tryz.prog.fld 51 0 = some (0, 6, true) := by kernel_rfl
@[simp] theorem fld_51_1 : Tryz.prog.fld 51 1 = some (6, 1, false) := by kernel_rfl
@[simp] theorem fld_51_2 : Tryz.prog.fld 51 2 = some (7, 1, false) := by kernel_rfl
@[simp] theorem fld_66_0 : Tryz.prog.fld 66 0 = some (0, 1, false) := by kernel_rfl
@[simp] theorem fld_66_1 : Tryz.prog.fld 66 1 = some (1, 1, false) := by kernel_rfl
@[simp] theorem fld_66_2 : Tryz.prog.fld 66 2 = some (2, 1, false) := by kernel_rfl
@[simp] theorem fld_67_0 : Tryz.prog.fld 67 0 = some (0, 1, false) := by kernel_rfl
@[simp] theorem fld_67_1 : Tryz.prog.fld 67 1 = some (1, 1, false) := by kernel_rfl
@[simp] theorem fld_67_2 : Tryz.prog.fld 67 2 = some (2, 1, false) := by kernel_rfl
@[simp] theorem lay_77 : Tryz.prog.lay 77 = some (1, false) := by kernel_rfl
@[simp] theorem cells_77 : Tryz.prog.cellsOf 77 = 1 := by kernel_rfl
@[simp] theorem info_77 : (Tryz.prog.info? 77).isSome = true := by kernel_rfl
@[simp] theorem bytes_77 : Tryz.prog.bytesOf 77 = 8 := by kernel_rfl
@[simp] theorem ctys_77 : ctys Tryz.prog 77 = [none] := by kernel_rfl
@[simp] theorem conc_77 : Tryz.prog.concrete 77 = true := by kernel_rfl
@[simp] theorem zero_77 : zeroCs Tryz.prog 77 = some [.d (.v (.pointer none))] := by kernel_rfl
@[simp] theorem ifc_77 : isIfcT Tryz.prog 77 = some false := by kernel_rfl
@[simp] theorem map_77 : Tryz.prog.isMap 77 = false := by kernel_rfl
@[simp] theorem ptr_77 : Tryz.prog.ptrT 77 = some (some 159) := by kernel_rfl
@[simp] theorem ztup_77 : zeroTup Tryz.prog 77 = some (.tup [(false, [.d (.v (.pointer none))]), (false, [.d (.v (.bool false))])]) := by kernel_rfl
@[simp] theorem app_77 : Tryz.prog.appOk 77 = true := by kernel_rfl
@[simp] theorem und_77 : Tryz.prog.underlying 77 = some (.pointer 159) := by kernel_rfl
@[simp] theorem fld_87_0 : Tryz.prog.fld 87 0 = some (0, 1, false) := by kernel_rfl
@[simp] theorem fld_88_0 : Tryz.prog.fld 88 0 = some (0, 1, false) := by kernel_rfl
@[simp] theorem fld_89_0 : Tryz.prog.fld 89 0 = some (0, 1, true) := by kernel_rfl
@[simp] theorem fld_90_0 : Tryz.prog.fld 90 0 = some (0, 1, true) := by kernel_rfl
@[simp] theorem lay_93 : Tryz.prog.lay 93 = some (1, false) := by kernel_rfl
@[simp] theorem cells_93 : Tryz.prog.cellsOf 93 = 1 := by kernel_rfl
@[simp] theorem info_93 : (Tryz.prog.info? 93).isSome = true := by kernel_rfl
@[simp] theorem bytes_93 : Tryz.prog.bytesOf 93 = 8 := by kernel_rfl
@[simp] theorem ctys_93 : ctys Tryz.prog 93 = [none] := by kernel_rfl
@[simp] theorem conc_93 : Tryz.prog.concrete 93 = true := by kernel_rfl
@[simp] theorem zero_93 : zeroCs Tryz.prog 93 = some [.d (.v (.pointer none))] := by kernel_rfl
@[simp] theorem ifc_93 : isIfcT Tryz.prog 93 = some false := by kernel_rfl
@[simp] theorem map_93 : Tryz.prog.isMap 93 = false := by kernel_rfl
@[simp] theorem ptr_93 : Tryz.prog.ptrT 93 = some (some 9) := by kernel_rfl
@[simp] theorem ztup_93 : zeroTup Tryz.prog 93 = some (.tup [(false, [.d (.v (.pointer none))]), (false, [.d (.v (.bool false))])]) := by kernel_rfl
@[simp] theorem app_93 : Tryz.prog.appOk 93 = true := by kernel_rfl
@[simp] theorem und_93 : Tryz.prog.underlying 93 = some (.pointer 9) := by kernel_rfl
@[simp] theorem lay_94 : Tryz.prog.lay 94 = some (1, false) := by kernel_rfl
@[simp] theorem cells_94 : Tryz.prog.cellsOf 94 = 1 := by kernel_rfl
@[simp] theorem info_94 : (Tryz.prog.info? 94).isSome = true := by kernel_rfl
@[simp] theorem bytes_94 : Tryz.prog.bytesOf 94 = 8 := by kernel_rfl
@[simp] theorem ctys_94 : ctys Tryz.prog 94 = [none] := by kernel_rfl
@[simp] theorem conc_94 : Tryz.prog.concrete 94 = true := by kernel_rfl
@[simp] theorem zero_94 : zeroCs Tryz.prog 94 = some [.d (.v (.pointer none))] := by kernel_rfl
@[simp] theorem ifc_94 : isIfcT Tryz.prog 94 = some false := by kernel_rfl
@[simp] theorem map_94 : Tryz.prog.isMap 94 = false := by kernel_rfl
@[simp] theorem ptr_94 : Tryz.prog.ptrT 94 = some (some 167) := by kernel_rfl
@[simp] theorem ztup_94 : zeroTup Tryz.prog 94 = some (.tup [(false, [.d (.v (.pointer none))]), (false, [.d (.v (.bool false))])]) := by kernel_rfl
@[simp] theorem app_94 : Tryz.prog.appOk 94 = true := by kernel_rfl
@[simp] theorem und_94 : Tryz.prog.underlying 94 = some (.pointer 167) := by kernel_rfl
@[simp] theorem lay_95 : Tryz.prog.lay 95 = some (1, false) := by kernel_rfl
@[simp] theorem cells_95 : Tryz.prog.cellsOf 95 = 1 := by kernel_rfl
@[simp] theorem info_95 : (Tryz.prog.info? 95).isSome = true := by kernel_rfl
@[simp] theorem bytes_95 : Tryz.prog.bytesOf 95 = 8 := by kernel_rfl
@[simp] theorem ctys_95 : ctys Tryz.prog 95 = [none] := by kernel_rfl
@[simp] theorem conc_95 : Tryz.prog.concrete 95 = true := by kernel_rfl
@[simp] theorem zero_95 : zeroCs Tryz.prog 95 = some [.d (.v (.pointer none))] := by kernel_rfl
@[simp] theorem ifc_95 : isIfcT Tryz.prog 95 = some false := by kernel_rfl
@[simp] theorem map_95 : Tryz.prog.isMap 95 = false := by kernel_rfl
@[simp] theorem ptr_95 : Tryz.prog.ptrT 95 = some (some 101) := by kernel_rfl
@[simp] theorem ztup_95 : zeroTup Tryz.prog 95 = some (.tup [(false, [.d (.v (.pointer none))]), (false, [.d (.v (.bool false))])]) := by kernel_rfl
@[simp] theorem app_95 : Tryz.prog.appOk 95 = true := by kernel_rfl
@[simp] theorem und_95 : Tryz.prog.underlying 95 = some (.pointer 101) := by kernel_rfl
@[simp] theorem lay_96 : Tryz.prog.lay 96 = some (1, false) := by kernel_rfl
@[simp] theorem cells_96 : Tryz.prog.cellsOf 96 = 1 := by kernel_rfl
@[simp] theorem info_96 : (Tryz.prog.info? 96).isSome = true := by kernel_rfl
@[simp] theorem bytes_96 : Tryz.prog.bytesOf 96 = 8 := by kernel_rfl
@[simp] theorem ctys_96 : ctys Tryz.prog 96 = [none] := by kernel_rfl
@[simp] theorem conc_96 : Tryz.prog.concrete 96 = true := by kernel_rfl
@[simp] theorem zero_96 : zeroCs Tryz.prog 96 = some [.d (.v (.pointer none))] := by kernel_rfl
@[simp] theorem ifc_96 : isIfcT Tryz.prog 96 = some false := by kernel_rfl
@[simp] theorem map_96 : Tryz.prog.isMap 96 = false := by kernel_rfl
@[simp] theorem ptr_96 : Tryz.prog.ptrT 96 = some (some 3) := by kernel_rfl
@[simp] theorem ztup_96 : zeroTup Tryz.prog 96 = some (.tup [(false, [.d (.v (.pointer none))]), (false, [.d (.v (.bool false))])]) := by kernel_rfl
@[simp] theorem app_96 : Tryz.prog.appOk 96 = true := by kernel_rfl
@[simp] theorem und_96 : Tryz.prog.underlying 96 = some (.pointer 3) := by kernel_rfl
@[simp] theorem fld_97_0 : Tryz.prog.fld 97 0 = some (0, 1, false) := by kernel_rfl
@[simp] theorem fld_97_1 : Tryz.prog.fld 97 1 = some (1, 1, false) := by kernel_rfl
@[simp] theorem fld_97_2 : Tryz.prog.fld 97 2 = some (2, 1, false) := by kernel_rfl
@[simp] theorem fld_97_3 : Tryz.prog.fld 97 3 = some (3, 1, false) := by kernel_rfl
@[simp] theorem lay_98 : Tryz.prog.lay 98 = some (4, true) := by kernel_rfl
@[simp] theorem cells_98 : Tryz.prog.cellsOf 98 = 4 := by kernel_rfl
@[simp] theorem info_98 : (Tryz.prog.info? 98).isSome = true := by kernel_rfl
@[simp] theorem bytes_98 : Tryz.prog.bytesOf 98 = 32 := by kernel_rfl
@[simp] theorem ctys_98 : ctys Tryz.prog 98 = [none, none, none, none] := by kernel_rfl
@[simp] theorem conc_98 : Tryz.prog.concrete 98 = true := by kernel_rfl
@[simp] theorem zero_98 : zeroCs Tryz.prog 98 = some [.d (.v (.pointer none)), .d (.v (.pointer none)), .d (.v (.pointer none)), .d (.v (.pointer none))] := by kernel_rfl
@[simp] theorem fld_98_0 : Tryz.prog.fld 98 0 = some (0, 1, false) := by kernel_rfl
@[simp] theorem fld_98_1 : Tryz.prog.fld 98 1 = some (1, 1, false) := by kernel_rfl
@[simp] theorem fld_98_2 : Tryz.prog.fld 98 2 = some (2, 1, false) := by kernel_rfl
@[simp] theorem fld_98_3 : Tryz.prog.fld 98 3 = some (3, 1, false) := by kernel_rfl
@[simp] theorem str_98 : Tryz.prog.strOk 98 = true := by kernel_rfl
@[simp] theorem ifc_98 : isIfcT Tryz.prog 98 = some false := by kernel_rfl
@[simp] theorem map_98 : Tryz.prog.isMap 98 = false := by kernel_rfl
@[simp] theorem ptr_98 : Tryz.prog.ptrT 98 = some none := by kernel_rfl
@[simp] theorem ztup_98 : zeroTup Tryz.prog 98 = some (.tup [(true, [.d (.v (.pointer none)), .d (.v (.pointer none)), .d (.v (.pointer none)), .d (.v (.pointer none))]), (false, [.d (.v (.bool false))])]) := by kernel_rfl
@[simp] theorem app_98 : Tryz.prog.appOk 98 = true := by kernel_rfl
@[simp] theorem lay_101 : Tryz.prog.lay 101 = some (1, false) := by kernel_rfl
@[simp] theorem cells_101 : Tryz.prog.cellsOf 101 = 1 := by kernel_rfl
@[simp] theorem info_101 : (Tryz.prog.info? 101).isSome = true := by kernel_rfl
@[simp] theorem bytes_101 : Tryz.prog.bytesOf 101 = 16 := by kernel_rfl
@[simp] theorem ctys_101 : ctys Tryz.prog 101 = [none] := by kernel_rfl
@[simp] theorem zero_101 : zeroCs Tryz.prog 101 = some [.d (.v (.nilIface))] := by kernel_rfl
@[simp] theorem ifc_101 : isIfcT Tryz.prog 101 = some true := by kernel_rfl
@[simp] theorem map_101 : Tryz.prog.isMap 101 = false := by kernel_rfl
@[simp] theorem app_101 : Tryz.prog.appOk 101 = true := by kernel_rfl
@[simp] theorem fld_112_0 : Tryz.prog.fld 112 0 = some (0, 1, false) := by kernel_rfl
@[simp] theorem fld_112_1 : Tryz.prog.fld 112 1 = some (1, 1, false) := by kernel_rfl
@[simp] theorem fld_112_2 : Tryz.prog.fld 112 2 = some (2, 1, false) := by kernel_rfl
@[simp] theorem fld_113_0 : Tryz.prog.fld 113 0 = some (0, 1, false) := by kernel_rfl
@[simp] theorem fld_113_1 : Tryz.prog.fld 113 1 = some (1, 1, false) := by kernel_rfl
@[simp] theorem fld_113_2 : Tryz.prog.fld 113 2 = some (2, 1, false) := by kernel_rfl
@[simp] theorem fld_115_0 : Tryz.prog.fld 115 0 = some (0, 1, false) := by kernel_rfl
@[simp] theorem fld_115_1 : Tryz.prog.fld 115 1 = some (1, 3, true) := by kernel_rfl
@[simp] theorem fld_115_2 : Tryz.prog.fld 115 2 = some (4, 1, false) := by kernel_rfl
@[simp] theorem fld_115_3 : Tryz.prog.fld 115 3 = some (5, 1, false) := by kernel_rfl
@[simp] theorem fld_116_0 : Tryz.prog.fld 116 0 = some (0, 1, false) := by kernel_rfl
@[simp] theorem fld_116_1 : Tryz.prog.fld 116 1 = some (1, 3, true) := by kernel_rfl
@[simp] theorem fld_116_2 : Tryz.prog.fld 116 2 = some (4, 1, false) := by kernel_rfl
@[simp] theorem fld_116_3 : Tryz.prog.fld 116 3 = some (5, 1, false) := by kernel_rfl
@[simp] theorem fld_118_0 : Tryz.prog.fld 118 0 = some (0, 6, true) := by kernel_rfl
@[simp] theorem fld_118_1 : Tryz.prog.fld 118 1 = some (6, 1, false) := by kernel_rfl
@[simp] theorem fld_118_2 : Tryz.prog.fld 118 2 = some (7, 1, false) := by kernel_rfl
@[simp] theorem fld_119_0 : Tryz.prog.fld 119 0 = some (0, 6, true) := by kernel_rfl
@[simp] theorem fld_119_1 : Tryz.prog.fld 119 1 = some (6, 1, false) := by kernel_rfl
@[simp] theorem fld_119_2 : Tryz.prog.fld 119 2 = some (7, 1, false) := by kernel_rfl
@[simp] theorem lay_145 : Tryz.prog.lay 145 = some (1, false) := by kernel_rfl
@[simp] theorem cells_145 : Tryz.prog.cellsOf 145 = 1 := by kernel_rfl
@[simp] theorem info_145 : (Tryz.prog.info? 145).isSome = true := by kernel_rfl
@[simp] theorem bytes_145 : Tryz.prog.bytesOf 145 = 24 := by kernel_rfl
@[simp] theorem ctys_145 : ctys Tryz.prog 145 = [some 98] := by kernel_rfl
@[simp] theorem conc_145 : Tryz.prog.concrete 145 = true := by kernel_rfl
@[simp] theorem zero_145 : zeroCs Tryz.prog 145 = some [.d (.v (.slice none 0 0))] := by kernel_rfl
@[simp] theorem ifc_145 : isIfcT Tryz.prog 145 = some false := by kernel_rfl
@[simp] theorem map_145 : Tryz.prog.isMap 145 = false := by kernel_rfl
@[simp] theorem ptr_145 : Tryz.prog.ptrT 145 = some none := by kernel_rfl
@[simp] theorem ztup_145 : zeroTup Tryz.prog 145 = some (.tup [(false, [.d (.v (.slice none 0 0))]), (false, [.d (.v (.bool false))])]) := by kernel_rfl
@[simp] theorem app_145 : Tryz.prog.appOk 145 = true := by kernel_rfl
@[simp] theorem isl_145 : Tryz.prog.isSl 145 = true := by kernel_rfl
@[simp] theorem elem_145 : Tryz.prog.elemT 145 = some 98 := by kernel_rfl
@[simp] theorem und_145 : Tryz.prog.underlying 145 = some (.slice 98) := by kernel_rfl
@[simp] theorem lay_146 : Tryz.prog.lay 146 = some (1, false) := by kernel_rfl
@[simp] theorem cells_146 : Tryz.prog.cellsOf 146 = 1 := by kernel_rfl
@[simp] theorem info_146 : (Tryz.prog.info? 146).isSome = true := by kernel_rfl
@[simp] theorem bytes_146 : Tryz.prog.bytesOf 146 = 24 := by kernel_rfl
@[simp] theorem ctys_146 : ctys Tryz.prog 146 = [some 98] := by kernel_rfl
@[simp] theorem conc_146 : Tryz.prog.concrete 146 = true := by kernel_rfl
@[simp] theorem zero_146 : zeroCs Tryz.prog 146 = some [.d (.v (.slice none 0 0))] := by kernel_rfl
@[simp] theorem ifc_146 : isIfcT Tryz.prog 146 = some false := by kernel_rfl
@[simp] theorem map_146 : Tryz.prog.isMap 146 = false := by kernel_rfl
@[simp] theorem ptr_146 : Tryz.prog.ptrT 146 = some none := by kernel_rfl
@[simp] theorem ztup_146 : zeroTup Tryz.prog 146 = some (.tup [(false, [.d (.v (.slice none 0 0))]), (false, [.d (.v (.bool false))])]) := by kernel_rfl
@[simp] theorem app_146 : Tryz.prog.appOk 146 = true := by kernel_rfl
@[simp] theorem isl_146 : Tryz.prog.isSl 146 = true := by kernel_rfl
@[simp] theorem elem_146 : Tryz.prog.elemT 146 = some 98 := by kernel_rfl
@[simp] theorem und_146 : Tryz.prog.underlying 146 = some (.slice 98) := by kernel_rfl
@[simp] theorem lay_151 : Tryz.prog.lay 151 = some (1, false) := by kernel_rfl
@[simp] theorem cells_151 : Tryz.prog.cellsOf 151 = 1 := by kernel_rfl
@[simp] theorem info_151 : (Tryz.prog.info? 151).isSome = true := by kernel_rfl
@[simp] theorem bytes_151 : Tryz.prog.bytesOf 151 = 24 := by kernel_rfl
@[simp] theorem ctys_151 : ctys Tryz.prog 151 = [some 98] := by kernel_rfl
@[simp] theorem conc_151 : Tryz.prog.concrete 151 = true := by kernel_rfl
@[simp] theorem zero_151 : zeroCs Tryz.prog 151 = some [.d (.v (.slice none 0 0))] := by kernel_rfl
@[simp] theorem ifc_151 : isIfcT Tryz.prog 151 = some false := by kernel_rfl
@[simp] theorem map_151 : Tryz.prog.isMap 151 = false := by kernel_rfl
@[simp] theorem ptr_151 : Tryz.prog.ptrT 151 = some none := by kernel_rfl
@[simp] theorem ztup_151 : zeroTup Tryz.prog 151 = some (.tup [(false, [.d (.v (.slice none 0 0))]), (false, [.d (.v (.bool false))])]) := by kernel_rfl
@[simp] theorem app_151 : Tryz.prog.appOk 151 = true := by kernel_rfl
@[simp] theorem isl_151 : Tryz.prog.isSl 151 = true := by kernel_rfl
@[simp] theorem elem_151 : Tryz.prog.elemT 151 = some 98 := by kernel_rfl
@[simp] theorem und_151 : Tryz.prog.underlying 151 = some (.slice 98) := by kernel_rfl
@[simp] theorem fld_152_0 : Tryz.prog.fld 152 0 = some (0, 1, false) := by kernel_rfl
@[simp] theorem lay_153 : Tryz.prog.lay 153 = some (1, true) := by kernel_rfl
@[simp] theorem cells_153 : Tryz.prog.cellsOf 153 = 1 := by kernel_rfl
@[simp] theorem info_153 : (Tryz.prog.info? 153).isSome = true := by kernel_rfl
@[simp] theorem bytes_153 : Tryz.prog.bytesOf 153 = 24 := by kernel_rfl
@[simp] theorem ctys_153 : ctys Tryz.prog 153 = [some 98] := by kernel_rfl
@[simp] theorem conc_153 : Tryz.prog.concrete 153 = true := by kernel_rfl
@[simp] theorem zero_153 : zeroCs Tryz.prog 153 = some [.d (.v (.slice none 0 0))] := by kernel_rfl
@[simp] theorem fld_153_0 : Tryz.prog.fld 153 0 = some (0, 1, false) := by kernel_rfl
@[simp] theorem str_153 : Tryz.prog.strOk 153 = true := by kernel_rfl
@[simp] theorem ifc_153 : isIfcT Tryz.prog 153 = some false := by kernel_rfl
@[simp] theorem map_153 : Tryz.prog.isMap 153 = false := by kernel_rfl
@[simp] theorem ptr_153 : Tryz.prog.ptrT 153 = some none := by kernel_rfl
@[simp] theorem ztup_153 : zeroTup Tryz.prog 153 = some (.tup [(true, [.d (.v (.slice none 0 0))]), (false, [.d (.v (.bool false))])]) := by kernel_rfl
@[simp] theorem app_153 : Tryz.prog.appOk 153 = true := by kernel_rfl
@[simp] theorem lay_155 : Tryz.prog.lay 155 = some (1, false) := by kernel_rfl
@[simp] theorem cells_155 : Tryz.prog.cellsOf 155 = 1 := by kernel_rfl
@[simp] theorem info_155 : (Tryz.prog.info? 155).isSome = true := by kernel_rfl
@[simp] theorem bytes_155 : Tryz.prog.bytesOf 155 = 24 := by kernel_rfl
@[simp] theorem ctys_155 : ctys Tryz.prog 155 = [some 209] := by kernel_rfl
@[simp] theorem conc_155 : Tryz.prog.concrete 155 = true := by kernel_rfl
@[simp] theorem zero_155 : zeroCs Tryz.prog 155 = some [.d (.v (.slice none 0 0))] := by kernel_rfl
@[simp] theorem ifc_155 : isIfcT Tryz.prog 155 = some false := by kernel_rfl
@[simp] theorem map_155 : Tryz.prog.isMap 155 = false := by kernel_rfl
@[simp] theorem ptr_155 : Tryz.prog.ptrT 155 = some none := by kernel_rfl
@[simp] theorem ztup_155 : zeroTup Tryz.prog 155 = some (.tup [(false, [.d (.v (.slice none 0 0))]), (false, [.d (.v (.bool false))])]) := by kernel_rfl
@[simp] theorem app_155 : Tryz.prog.appOk 155 = true := by kernel_rfl
@[simp] theorem isl_155 : Tryz.prog.isSl 155 = true := by kernel_rfl
@[simp] theorem elem_155 : Tryz.prog.elemT 155 = some 209 := by kernel_rfl
@[simp] theorem und_155 : Tryz.prog.underlying 155 = some (.slice 209) := by kernel_rfl
@[simp] theorem fld_156_0 : Tryz.prog.fld 156 0 = some (0, 1, false) := by kernel_rfl
@[simp] theorem lay_157 : Tryz.prog.lay 157 = some (1, true) := by kernel_rfl
@[simp] theorem cells_157 : Tryz.prog.cellsOf 157 = 1 := by kernel_rfl
@[simp] theorem info_157 : (Tryz.prog.info? 157).isSome = true := by kernel_rfl
@[simp] theorem bytes_157 : Tryz.prog.bytesOf 157 = 24 := by kernel_rfl
@[simp] theorem ctys_157 : ctys Tryz.prog 157 = [some 209] := by kernel_rfl
@[simp] theorem conc_157 : Tryz.prog.concrete 157 = true := by kernel_rfl
@[simp] theorem zero_157 : zeroCs Tryz.prog 157 = some [.d (.v (.slice none 0 0))] := by kernel_rfl
@[simp] theorem fld_157_0 : Tryz.prog.fld 157 0 = some (0, 1, false) := by kernel_rfl
@[simp] theorem str_157 : Tryz.prog.strOk 157 = true := by kernel_rfl
@[simp] theorem ifc_157 : isIfcT Tryz.prog 157 = some false := by kernel_rfl
@[simp] theorem map_157 : Tryz.prog.isMap 157 = false := by kernel_rfl
@[simp] theorem ptr_157 : Tryz.prog.ptrT 157 = some none := by kernel_rfl
@[simp] theorem ztup_157 : zeroTup Tryz.prog 157 = some (.tup [(true, [.d (.v (.slice none 0 0))]), (false, [.d (.v (.bool false))])]) := by kernel_rfl
@[simp] theorem app_157 : Tryz.prog.appOk 157 = true := by kernel_rfl
@[simp] theorem fld_158_0 : Tryz.prog.fld 158 0 = some (0, 1, true) := by kernel_rfl
@[simp] theorem fld_158_1 : Tryz.prog.fld 158 1 = some (1, 1, true) := by kernel_rfl
@[simp] theorem lay_159 : Tryz.prog.lay 159 = some (2, true) := by kernel_rfl
@[simp] theorem cells_159 : Tryz.prog.cellsOf 159 = 2 := by kernel_rfl
@[simp] theorem info_159 : (Tryz.prog.info? 159).isSome = true := by kernel_rfl
@[simp] theorem bytes_159 : Tryz.prog.bytesOf 159 = 48 := by kernel_rfl
@[simp] theorem ctys_159 : ctys Tryz.prog 159 = [some 98, some 209] := by kernel_rfl
@[simp] theorem conc_159 : Tryz.prog.concrete 159 = true := by kernel_rfl
@[simp] theorem zero_159 : zeroCs Tryz.prog 159 = some [.d (.v (.slice none 0 0)), .d (.v (.slice none 0 0))] := by kernel_rfl
@[simp] theorem fld_159_0 : Tryz.prog.fld 159 0 = some (0, 1, true) := by kernel_rfl
@[simp] theorem fld_159_1 : Tryz.prog.fld 159 1 = some (1, 1, true) := by kernel_rfl
@[simp] theorem str_159 : Tryz.prog.strOk 159 = true := by kernel_rfl
@[simp] theorem ifc_159 : isIfcT Tryz.prog 159 = some false := by kernel_rfl
@[simp] theorem map_159 : Tryz.prog.isMap 159 = false := by kernel_rfl
@[simp] theorem ptr_159 : Tryz.prog.ptrT 159 = some none := by kernel_rfl
@[simp] theorem ztup_159 : zeroTup Tryz.prog 159 = some (.tup [(true, [.d (.v (.slice none 0 0)), .d (.v (.slice none 0 0))]), (false, [.d (.v (.bool false))])]) := by kernel_rfl
@[simp] theorem app_159 : Tryz.prog.appOk 159 = true := by kernel_rfl
@[simp] theorem lay_167 : Tryz.prog.lay 167 = some (1, false) := by kernel_rfl
@[simp] theorem cells_167 : Tryz.prog.cellsOf 167 = 1 := by kernel_rfl
@[simp] theorem info_167 : (Tryz.prog.info? 167).isSome = true := by kernel_rfl
@[simp] theorem bytes_167 : Tryz.prog.bytesOf 167 = 24 := by kernel_rfl
@[simp] theorem ctys_167 : ctys Tryz.prog 167 = [some 193] := by kernel_rfl
@[simp] theorem conc_167 : Tryz.prog.concrete 167 = true := by kernel_rfl
@[simp] theorem zero_167 : zeroCs Tryz.prog 167 = some [.d (.v (.slice none 0 0))] := by kernel_rfl
@[simp] theorem ifc_167 : isIfcT Tryz.prog 167 = some false := by kernel_rfl
@[simp] theorem map_167 : Tryz.prog.isMap 167 = false := by kernel_rfl
@[simp] theorem ptr_167 : Tryz.prog.ptrT 167 = some none := by kernel_rfl
@[simp] theorem ztup_167 : zeroTup Tryz.prog 167 = some (.tup [(false, [.d (.v (.slice none 0 0))]), (false, [.d (.v (.bool false))])]) := by kernel_rfl
@[simp] theorem app_167 : Tryz.prog.appOk 167 = true := by kernel_rfl
@[simp] theorem isl_167 : Tryz.prog.isSl 167 = true := by kernel_rfl
@[simp] theorem elem_167 : Tryz.prog.elemT 167 = some 193 := by kernel_rfl
@[simp] theorem und_167 : Tryz.prog.underlying 167 = some (.slice 193) := by kernel_rfl
@[simp] theorem lay_182 : Tryz.prog.lay 182 = some (1, false) := by kernel_rfl
@[simp] theorem cells_182 : Tryz.prog.cellsOf 182 = 1 := by kernel_rfl
@[simp] theorem info_182 : (Tryz.prog.info? 182).isSome = true := by kernel_rfl
@[simp] theorem bytes_182 : Tryz.prog.bytesOf 182 = 16 := by kernel_rfl
@[simp] theorem ctys_182 : ctys Tryz.prog 182 = [none] := by kernel_rfl
@[simp] theorem zero_182 : zeroCs Tryz.prog 182 = some [.d (.v (.nilIface))] := by kernel_rfl
@[simp] theorem ifc_182 : isIfcT Tryz.prog 182 = some true := by kernel_rfl
@[simp] theorem map_182 : Tryz.prog.isMap 182 = false := by kernel_rfl
@[simp] theorem app_182 : Tryz.prog.appOk 182 = true := by kernel_rfl
@[simp] theorem fld_185_0 : Tryz.prog.fld 185 0 = some (0, 1, false) := by kernel_rfl
@[simp] theorem fld_186_0 : Tryz.prog.fld 186 0 = some (0, 1, false) := by kernel_rfl
@[simp] theorem fld_187_0 : Tryz.prog.fld 187 0 = some (0, 1, false) := by kernel_rfl
@[simp] theorem fld_187_1 : Tryz.prog.fld 187 1 = some (1, 3, true) := by kernel_rfl
@[simp] theorem fld_188_0 : Tryz.prog.fld 188 0 = some (0, 1, false) := by kernel_rfl
@[simp] theorem fld_188_1 : Tryz.prog.fld 188 1 = some (1, 3, true) := by kernel_rfl
@[simp] theorem fld_190_0 : Tryz.prog.fld 190 0 = some (0, 1, false) := by kernel_rfl
@[simp] theorem fld_190_1 : Tryz.prog.fld 190 1 = some (1, 3, true) := by kernel_rfl
@[simp] theorem fld_191_0 : Tryz.prog.fld 191 0 = some (0, 1, false) := by kernel_rfl
@[simp] theorem fld_191_1 : Tryz.prog.fld 191 1 = some (1, 3, true) := by kernel_rfl
@[simp] theorem fld_192_0 : Tryz.prog.fld 192 0 = some (0, 1, false) := by kernel_rfl
@[simp] theorem fld_192_1 : Tryz.prog.fld 192 1 = some (1, 1, false) := by kernel_rfl
@[simp] theorem lay_193 : Tryz.prog.lay 193 = some (2, true) := by kernel_rfl
@[simp] theorem cells_193 : Tryz.prog.cellsOf 193 = 2 := by kernel_rfl
@[simp] theorem info_193 : (Tryz.prog.info? 193).isSome = true := by kernel_rfl
@[simp] theorem bytes_193 : Tryz.prog.bytesOf 193 = 32 := by kernel_rfl
@[simp] theorem ctys_193 : ctys Tryz.prog 193 = [none, none] := by kernel_rfl
@[simp] theorem conc_193 : Tryz.prog.concrete 193 = true := by kernel_rfl
@[simp] theorem zero_193 : zeroCs Tryz.prog 193 = some [.d (.v (.string ⟨#[]⟩)), .d (.v (.nilIface))] := by kernel_rfl
@[simp] theorem fld_193_0 : Tryz.prog.fld 193 0 = some (0, 1, false) := by kernel_rfl
@[simp] theorem fld_193_1 : Tryz.prog.fld 193 1 = some (1, 1, false) := by kernel_rfl
@[simp] theorem str_193 : Tryz.prog.strOk 193 = true := by kernel_rfl
@[simp] theorem ifc_193 : isIfcT Tryz.prog 193 = some false := by kernel_rfl
@[simp] theorem map_193 : Tryz.prog.isMap 193 = false := by kernel_rfl
@[simp] theorem ptr_193 : Tryz.prog.ptrT 193 = some none := by kernel_rfl
@[simp] theorem ztup_193 : zeroTup Tryz.prog 193 = some (.tup [(true, [.d (.v (.string ⟨#[]⟩)), .d (.v (.nilIface))]), (false, [.d (.v (.bool false))])]) := by kernel_rfl
@[simp] theorem app_193 : Tryz.prog.appOk 193 = true := by kernel_rfl
@[simp] theorem fld_201_0 : Tryz.prog.fld 201 0 = some (0, 1, false) := by kernel_rfl
@[simp] theorem fld_201_1 : Tryz.prog.fld 201 1 = some (1, 1, false) := by kernel_rfl
@[simp] theorem fld_201_2 : Tryz.prog.fld 201 2 = some (2, 1, false) := by kernel_rfl
@[simp] theorem fld_202_0 : Tryz.prog.fld 202 0 = some (0, 1, false) := by kernel_rfl
@[simp] theorem fld_202_1 : Tryz.prog.fld 202 1 = some (1, 1, false) := by kernel_rfl
@[simp] theorem fld_202_2 : Tryz.prog.fld 202 2 = some (2, 1, false) := by kernel_rfl
@[simp] theorem fld_208_0 : Tryz.prog.fld 208 0 = some (0, 4, true) := by kernel_rfl
@[simp] theorem fld_208_1 : Tryz.prog.fld 208 1 = some (4, 1, false) := by kernel_rfl
@[simp] theorem lay_209 : Tryz.prog.lay 209 = some (5, true) := by kernel_rfl
@[simp] theorem cells_209 : Tryz.prog.cellsOf 209 = 5 := by kernel_rfl
@[simp] theorem info_209 : (Tryz.prog.info? 209).isSome = true := by kernel_rfl
@[simp] theorem bytes_209 : Tryz.prog.bytesOf 209 = 40 := by kernel_rfl
@[simp] theorem ctys_209 : ctys Tryz.prog 209 = [none, none, none, none, none] := by kernel_rfl
@[simp] theorem conc_209 : Tryz.prog.concrete 209 = true := by kernel_rfl
@[simp] theorem zero_209 : zeroCs Tryz.prog 209 = some [.d (.v (.pointer none)), .d (.v (.pointer none)), .d (.v (.pointer none)), .d (.v (.pointer none)), .d (.v (.pointer none))] := by kernel_rfl
@[simp] theorem fld_209_0 : Tryz.prog.fld 209 0 = some (0, 4, true) := by kernel_rfl
@[simp] theorem fld_209_1 : Tryz.prog.fld 209 1 = some (4, 1, false) := by kernel_rfl
@[simp] theorem str_209 : Tryz.prog.strOk 209 = true := by kernel_rfl
@[simp] theorem ifc_209 : isIfcT Tryz.prog 209 = some false := by kernel_rfl
@[simp] theorem map_209 : Tryz.prog.isMap 209 = false := by kernel_rfl
@[simp] theorem ptr_209 : Tryz.prog.ptrT 209 = some none := by kernel_rfl
@[simp] theorem ztup_209 : zeroTup Tryz.prog 209 = some (.tup [(true, [.d (.v (.pointer none)), .d (.v (.pointer none)), .d (.v (.pointer none)), .d (.v (.pointer none)), .d (.v (.pointer none))]), (false, [.d (.v (.bool false))])]) := by kernel_rfl
@[simp] theorem app_209 : Tryz.prog.appOk 209 = true := by kernel_rfl
@[simp] theorem lay_213 : Tryz.prog.lay 213 = some (1, false) := by kernel_rfl
@[simp] theorem cells_213 : Tryz.prog.cellsOf 213 = 1 := by kernel_rfl
@[simp] theorem info_213 : (Tryz.prog.info? 213).isSome = true := by kernel_rfl
@[simp] theorem bytes_213 : Tryz.prog.bytesOf 213 = 24 := by kernel_rfl
@[simp] theorem ctys_213 : ctys Tryz.prog 213 = [some 146] := by kernel_rfl
@[simp] theorem conc_213 : Tryz.prog.concrete 213 = true := by kernel_rfl
@[simp] theorem zero_213 : zeroCs Tryz.prog 213 = some [.d (.v (.slice none 0 0))] := by kernel_rfl
@[simp] theorem ifc_213 : isIfcT Tryz.prog 213 = some false := by kernel_rfl
@[simp] theorem map_213 : Tryz.prog.isMap 213 = false := by kernel_rfl
@[simp] theorem ptr_213 : Tryz.prog.ptrT 213 = some none := by kernel_rfl
@[simp] theorem ztup_213 : zeroTup Tryz.prog 213 = some (.tup [(false, [.d (.v (.slice none 0 0))]), (false, [.d (.v (.bool false))])]) := by kernel_rfl
@[simp] theorem app_213 : Tryz.prog.appOk 213 = true := by kernel_rfl
@[simp] theorem isl_213 : Tryz.prog.isSl 213 = true := by kernel_rfl
@[simp] theorem elem_213 : Tryz.prog.elemT 213 = some 146 := by kernel_rfl
@[simp] theorem und_213 : Tryz.prog.underlying 213 = some (.slice 146) := by kernel_rfl
@[simp] theorem fld_217_0 : Tryz.prog.fld 217 0 = some (0, 4, true) := by kernel_rfl
@[simp] theorem fld_217_1 : Tryz.prog.fld 217 1 = some (4, 1, false) := by kernel_rfl
@[simp] theorem fld_218_0 : Tryz.prog.fld 218 0 = some (0, 4, true) := by kernel_rfl
@[simp] theorem fld_218_1 : Tryz.prog.fld 218 1 = some (4, 1, false) := by kernel_rfl
@[simp] theorem lay_221 : Tryz.prog.lay 221 = some (1, false) := by kernel_rfl
@[simp] theorem cells_221 : Tryz.prog.cellsOf 221 = 1 := by kernel_rfl
@[simp] theorem info_221 : (Tryz.prog.info? 221).isSome = true := by kernel_rfl
@[simp] theorem bytes_221 : Tryz.prog.bytesOf 221 = 8 := by kernel_rfl
@[simp] theorem ctys_221 : ctys Tryz.prog 221 = [none] := by kernel_rfl
@[simp] theorem conc_221 : Tryz.prog.concrete 221 = true := by kernel_rfl
@[simp] theorem zero_221 : zeroCs Tryz.prog 221 = some [.d (.v (.pointer none))] := by kernel_rfl
@[simp] theorem ifc_221 : isIfcT Tryz.prog 221 = some false := by kernel_rfl
@[simp] theorem map_221 : Tryz.prog.isMap 221 = false := by kernel_rfl
@[simp] theorem ptr_221 : Tryz.prog.ptrT 221 = some (some 267) := by kernel_rfl
@[simp] theorem ztup_221 : zeroTup Tryz.prog 221 = some (.tup [(false, [.d (.v (.pointer none))]), (false, [.d (.v (.bool false))])]) := by kernel_rfl
@[simp] theorem app_221 : Tryz.prog.appOk 221 = true := by kernel_rfl
@[simp] theorem und_221 : Tryz.prog.underlying 221 = some (.pointer 267) := by kernel_rfl
@[simp] theorem lay_222 : Tryz.prog.lay 222 = some (1, false) := by kernel_rfl
@[simp] theorem cells_222 : Tryz.prog.cellsOf 222 = 1 := by kernel_rfl
@[simp] theorem info_222 : (Tryz.prog.info? 222).isSome = true := by kernel_rfl
@[simp] theorem bytes_222 : Tryz.prog.bytesOf 222 = 8 := by kernel_rfl
@[simp] theorem ctys_222 : ctys Tryz.prog 222 = [none] := by kernel_rfl
@[simp] theorem conc_222 : Tryz.prog.concrete 222 = true := by kernel_rfl
@[simp] theorem zero_222 : zeroCs Tryz.prog 222 = some [.d (.v (.pointer none))] := by kernel_rfl
@[simp] theorem ifc_222 : isIfcT Tryz.prog 222 = some false := by kernel_rfl
@[simp] theorem map_222 : Tryz.prog.isMap 222 = false := by kernel_rfl
@[simp] theorem ptr_222 : Tryz.prog.ptrT 222 = some (some 224) := by kernel_rfl
@[simp] theorem ztup_222 : zeroTup Tryz.prog 222 = some (.tup [(false, [.d (.v (.pointer none))]), (false, [.d (.v (.bool false))])]) := by kernel_rfl
@[simp] theorem app_222 : Tryz.prog.appOk 222 = true := by kernel_rfl
@[simp] theorem und_222 : Tryz.prog.underlying 222 = some (.pointer 224) := by kernel_rfl
@[simp] theorem lay_224 : Tryz.prog.lay 224 = some (0, true) := by kernel_rfl
@[simp] theorem cells_224 : Tryz.prog.cellsOf 224 = 0 := by kernel_rfl
@[simp] theorem info_224 : (Tryz.prog.info? 224).isSome = true := by kernel_rfl
@[simp] theorem bytes_224 : Tryz.prog.bytesOf 224 = 0 := by kernel_rfl
@[simp] theorem ctys_224 : ctys Tryz.prog 224 = [] := by kernel_rfl
@[simp] theorem conc_224 : Tryz.prog.concrete 224 = true := by kernel_rfl
@[simp] theorem zero_224 : zeroCs Tryz.prog 224 = some [] := by kernel_rfl
@[simp] theorem str_224 : Tryz.prog.strOk 224 = true := by kernel_rfl
@[simp] theorem ifc_224 : isIfcT Tryz.prog 224 = some false := by kernel_rfl
@[simp] theorem map_224 : Tryz.prog.isMap 224 = false := by kernel_rfl
@[simp] theorem ptr_224 : Tryz.prog.ptrT 224 = some none := by kernel_rfl
@[simp] theorem ztup_224 : zeroTup Tryz.prog 224 = some (.tup [(true, []), (false, [.d (.v (.bool false))])]) := by kernel_rfl
@[simp] theorem lay_226 : Tryz.prog.lay 226 = some (1, false) := by kernel_rfl
@[simp] theorem cells_226 : Tryz.prog.cellsOf 226 = 1 := by kernel_rfl
@[simp] theorem info_226 : (Tryz.prog.info? 226).isSome = true := by kernel_rfl
@[simp] theorem bytes_226 : Tryz.prog.bytesOf 226 = 24 := by kernel_rfl
@[simp] theorem ctys_226 : ctys Tryz.prog 226 = [some 20] := by kernel_rfl
@[simp] theorem conc_226 : Tryz.prog.concrete 226 = true := by kernel_rfl
@[simp] theorem zero_226 : zeroCs Tryz.prog 226 = some [.d (.v (.slice none 0 0))] := by kernel_rfl
@[simp] theorem ifc_226 : isIfcT Tryz.prog 226 = some false := by kernel_rfl
@[simp] theorem map_226 : Tryz.prog.isMap 226 = false := by kernel_rfl
@[simp] theorem ptr_226 : Tryz.prog.ptrT 226 = some none := by kernel_rfl
@[simp] theorem ztup_226 : zeroTup Tryz.prog 226 = some (.tup [(false, [.d (.v (.slice none 0 0))]), (false, [.d (.v (.bool false))])]) := by kernel_rfl
@[simp] theorem app_226 : Tryz.prog.appOk 226 = true := by kernel_rfl
@[simp] theorem isl_226 : Tryz.prog.isSl 226 = true := by kernel_rfl
@[simp] theorem elem_226 : Tryz.prog.elemT 226 = some 20 := by kernel_rfl
@[simp] theorem und_226 : Tryz.prog.underlying 226 = some (.slice 20) := by kernel_rfl
@[simp] theorem lay_227 : Tryz.prog.lay 227 = some (1, false) := by kernel_rfl
@[simp] theorem cells_227 : Tryz.prog.cellsOf 227 = 1 := by kernel_rfl
@[simp] theorem info_227 : (Tryz.prog.info? 227).isSome = true := by kernel_rfl
@[simp] theorem bytes_227 : Tryz.prog.bytesOf 227 = 8 := by kernel_rfl
@[simp] theorem ctys_227 : ctys Tryz.prog 227 = [none] := by kernel_rfl
@[simp] theorem conc_227 : Tryz.prog.concrete 227 = true := by kernel_rfl
@[simp] theorem zero_227 : zeroCs Tryz.prog 227 = some [.d (.v (.map none))] := by kernel_rfl
@[simp] theorem ifc_227 : isIfcT Tryz.prog 227 = some false := by kernel_rfl
@[simp] theorem map_227 : Tryz.prog.isMap 227 = true := by kernel_rfl
@[simp] theorem ptr_227 : Tryz.prog.ptrT 227 = some none := by kernel_rfl
@[simp] theorem ztup_227 : zeroTup Tryz.prog 227 = some (.tup [(false, [.d (.v (.map none))]), (false, [.d (.v (.bool false))])]) := by kernel_rfl
@[simp] theorem app_227 : Tryz.prog.appOk 227 = true := by kernel_rfl
@[simp] theorem fld_237_0 : Tryz.prog.fld 237 0 = some (0, 1, false) := by kernel_rfl
@[simp] theorem fld_237_1 : Tryz.prog.fld 237 1 = some (1, 1, false) := by kernel_rfl
@[simp] theorem fld_237_2 : Tryz.prog.fld 237 2 = some (2, 6, true) := by kernel_rfl
@[simp] theorem fld_237_3 : Tryz.prog.fld 237 3 = some (8, 1, false) := by kernel_rfl
@[simp] theorem fld_238_0 : Tryz.prog.fld 238 0 = some (0, 1, false) := by kernel_rfl
@[simp] theorem fld_238_1 : Tryz.prog.fld 238 1 = some (1, 1, false) := by kernel_rfl
@[simp] theorem fld_238_2 : Tryz.prog.fld 238 2 = some (2, 6, true) := by kernel_rfl
@[simp] theorem fld_238_3 : Tryz.prog.fld 238 3 = some (8, 1, false) := by kernel_rfl
@[simp] theorem fld_241_0 : Tryz.prog.fld 241 0 = some (0, 1, false) := by kernel_rfl
@[simp] theorem fld_241_1 : Tryz.prog.fld 241 1 = some (1, 6, true) := by kernel_rfl
@[simp] theorem fld_241_2 : Tryz.prog.fld 241 2 = some (7, 1, false) := by kernel_rfl
@[simp] theorem fld_242_0 : Tryz.prog.fld 242 0 = some (0, 1, false) := by kernel_rfl
@[simp] theorem fld_242_1 : Tryz.prog.fld 242 1 = some (1, 6, true) := by kernel_rfl
@[simp] theorem fld_242_2 : Tryz.prog.fld 242 2 = some (7, 1, false) := by kernel_rfl
@[simp] theorem fld_245_0 : Tryz.prog.fld 245 0 = some (0, 1, false) := by kernel_rfl
@[simp] theorem fld_245_1 : Tryz.prog.fld 245 1 = some (1, 6, true) := by kernel_rfl
@[simp] theorem fld_245_2 : Tryz.prog.fld 245 2 = some (7, 1, false) := by kernel_rfl
@[simp] theorem fld_246_0 : Tryz.prog.fld 246 0 = some (0, 1, false) := by kernel_rfl
@[simp] theorem fld_246_1 : Tryz.prog.fld 246 1 = some (1, 6, true) := by kernel_rfl
@[simp] theorem fld_246_2 : Tryz.prog.fld 246 2 = some (7, 1, false) := by kernel_rfl
@[simp] theorem lay_263 : Tryz.prog.lay 263 = some (1, false) := by kernel_rfl
@[simp] theorem cells_263 : Tryz.prog.cellsOf 263 = 1 := by kernel_rfl
@[simp] theorem info_263 : (Tryz.prog.info? 263).isSome = true := by kernel_rfl
@[simp] theorem bytes_263 : Tryz.prog.bytesOf 263 = 8 := by kernel_rfl
@[simp] theorem ctys_263 : ctys Tryz.prog 263 = [none] := by kernel_rfl
@[simp] theorem conc_263 : Tryz.prog.concrete 263 = true := by kernel_rfl
@[simp] theorem zero_263 : zeroCs Tryz.prog 263 = some [.d (.v (.int .u64 0))] := by kernel_rfl
@[simp] theorem ifc_263 : isIfcT Tryz.prog 263 = some false := by kernel_rfl
@[simp] theorem map_263 : Tryz.prog.isMap 263 = false := by kernel_rfl
@[simp] theorem ptr_263 : Tryz.prog.ptrT 263 = some none := by kernel_rfl
@[simp] theorem ztup_263 : zeroTup Tryz.prog 263 = some (.tup [(false, [.d (.v (.int .u64 0))]), (false, [.d (.v (.bool false))])]) := by kernel_rfl
@[simp] theorem app_263 : Tryz.prog.appOk 263 = true := by kernel_rfl
@[simp] theorem und_263 : Tryz.prog.underlying 263 = some (.int .u64) := by kernel_rfl
@[simp] theorem fld_266_0 : Tryz.prog.fld 266 0 = some (0, 1, false) := by kernel_rfl
@[simp] theorem lay_267 : Tryz.prog.lay 267 = some (1, true) := by kernel_rfl
@[simp] theorem cells_267 : Tryz.prog.cellsOf 267 = 1 := by kernel_rfl
@[simp] theorem info_267 : (Tryz.prog.info? 267).isSome = true := by kernel_rfl
@[simp] theorem bytes_267 : Tryz.prog.bytesOf 267 = 16 := by kernel_rfl
@[simp] theorem ctys_267 : ctys Tryz.prog 267 = [none] := by kernel_rfl
@[simp] theorem conc_267 : Tryz.prog.concrete 267 = true := by kernel_rfl
@[simp] theorem zero_267 : zeroCs Tryz.prog 267 = some [.d (.v (.nilIface))] := by kernel_rfl
@[simp] theorem fld_267_0 : Tryz.prog.fld 267 0 = some (0, 1, false) := by kernel_rfl
@[simp] theorem str_267 : Tryz.prog.strOk 267 = true := by kernel_rfl
@[simp] theorem ifc_267 : isIfcT Tryz.prog 267 = some false := by kernel_rfl
@[simp] theorem map_267 : Tryz.prog.isMap 267 = false := by kernel_rfl
@[simp] theorem ptr_267 : Tryz.prog.ptrT 267 = some none := by kernel_rfl
@[simp] theorem ztup_267 : zeroTup Tryz.prog 267 = some (.tup [(true, [.d (.v (.nilIface))]), (false, [.d (.v (.bool false))])]) := by kernel_rfl
@[simp] theorem app_267 : Tryz.prog.appOk 267 = true := by kernel_rfl
@[simp] theorem fld_272_0 : Tryz.prog.fld 272 0 = some (0, 1, false) := by kernel_rfl
@[simp] theorem fld_273_0 : Tryz.prog.fld 273 0 = some (0, 1, false) := by kernel_rfl
@[simp] theorem lay_275 : Tryz.prog.lay 275 = some (1, false) := by kernel_rfl
@[simp] theorem cells_275 : Tryz.prog.cellsOf 275 = 1 := by kernel_rfl
@[simp] theorem info_275 : (Tryz.prog.info? 275).isSome = true := by kernel_rfl
@[simp] theorem bytes_275 : Tryz.prog.bytesOf 275 = 16 := by kernel_rfl
@[simp] theorem ctys_275 : ctys Tryz.prog 275 = [none] := by kernel_rfl
@[simp] theorem zero_275 : zeroCs Tryz.prog 275 = some [.d (.v (.nilIface))] := by kernel_rfl
@[simp] theorem ifc_275 : isIfcT Tryz.prog 275 = some true := by kernel_rfl
@[simp] theorem map_275 : Tryz.prog.isMap 275 = false := by kernel_rfl
@[simp] theorem app_275 : Tryz.prog.appOk 275 = true := by kernel_rfl
@[simp] theorem fld_281_0 : Tryz.prog.fld 281 0 = some (0, 1, false) := by kernel_rfl
@[simp] theorem fld_281_1 : Tryz.prog.fld 281 1 = some (1, 6, true) := by kernel_rfl
@[simp] theorem fld_281_2 : Tryz.prog.fld 281 2 = some (7, 1, false) := by kernel_rfl
@[simp] theorem fld_282_0 : Tryz.prog.fld 282 0 = some (0, 1, false) := by kernel_rfl
@[simp] theorem fld_282_1 : Tryz.prog.fld 282 1 = some (1, 6, true) := by kernel_rfl
@[simp] theorem fld_282_2 : Tryz.prog.fld 282 2 = some (7, 1, false) := by kernel_rfl
@[simp] theorem lay_301 : Tryz.prog.lay 301 = some (1, false) := by kernel_rfl
@[simp] theorem cells_301 : Tryz.prog.cellsOf 301 = 1 := by kernel_rfl
@[simp] theorem info_301 : (Tryz.prog.info? 301).isSome = true := by kernel_rfl
@[simp] theorem bytes_301 : Tryz.prog.bytesOf 301 = 16 := by kernel_rfl
@[simp] theorem ctys_301 : ctys Tryz.prog 301 = [none] := by kernel_rfl
@[simp] theorem zero_301 : zeroCs Tryz.prog 301 = some [.d (.v (.nilIface))] := by kernel_rfl
@[simp] theorem ifc_301 : isIfcT Tryz.prog 301 = some true := by kernel_rfl
@[simp] theorem map_301 : Tryz.prog.isMap 301 = false := by kernel_rfl
@[simp] theorem app_301 : Tryz.prog.appOk 301 = true := by kernel_rfl
@[simp] theorem lay_318 : Tryz.prog.lay 318 = some (1, false) := by kernel_rfl
@[simp] theorem cells_318 : Tryz.prog.cellsOf 318 = 1 := by kernel_rfl
@[simp] theorem info_318 : (Tryz.prog.info? 318).isSome = true := by kernel_rfl
@[simp] theorem bytes_318 : Tryz.prog.bytesOf 318 = 8 := by kernel_rfl
@[simp] theorem ctys_318 : ctys Tryz.prog 318 = [none] := by kernel_rfl
@[simp] theorem conc_318 : Tryz.prog.concrete 318 = true := by kernel_rfl
@[simp] theorem zero_318 : zeroCs Tryz.prog 318 = some [.d (.v (.int .i64 0))] := by kernel_rfl
@[simp] theorem ifc_318 : isIfcT Tryz.prog 318 = some false := by kernel_rfl
@[simp] theorem map_318 : Tryz.prog.isMap 318 = false := by kernel_rfl
@[simp] theorem ptr_318 : Tryz.prog.ptrT 318 = some none := by kernel_rfl
@[simp] theorem ztup_318 : zeroTup Tryz.prog 318 = some (.tup [(false, [.d (.v (.int .i64 0))]), (false, [.d (.v (.bool false))])]) := by kernel_rfl
@[simp] theorem app_318 : Tryz.prog.appOk 318 = true := by kernel_rfl
@[simp] theorem und_318 : Tryz.prog.underlying 318 = some (.int .i64) := by kernel_rfl
@[simp] theorem fld_324_0 : Tryz.prog.fld 324 0 = some (0, 1, false) := by kernel_rfl
@[simp] theorem fld_324_1 : Tryz.prog.fld 324 1 = some (1, 1, false) := by kernel_rfl
@[simp] theorem fld_324_2 : Tryz.prog.fld 324 2 = some (2, 1, false) := by kernel_rfl
@[simp] theorem fld_324_3 : Tryz.prog.fld 324 3 = some (3, 1, false) := by kernel_rfl
@[simp] theorem fld_325_0 : Tryz.prog.fld 325 0 = some (0, 1, false) := by kernel_rfl
@[simp] theorem fld_325_1 : Tryz.prog.fld 325 1 = some (1, 1, false) := by kernel_rfl
@[simp] theorem fld_325_2 : Tryz.prog.fld 325 2 = some (2, 1, false) := by kernel_rfl
@[simp] theorem fld_325_3 : Tryz.prog.fld 325 3 = some (3, 1, false) := by kernel_rfl
@[simp] theorem lay_329 : Tryz.prog.lay 329 = some (1, false) := by kernel_rfl
@[simp] theorem cells_329 : Tryz.prog.cellsOf 329 = 1 := by kernel_rfl
@[simp] theorem info_329 : (Tryz.prog.info? 329).isSome = true := by kernel_rfl
@[simp] theorem bytes_329 : Tryz.prog.bytesOf 329 = 4 := by kernel_rfl
@[simp] theorem ctys_329 : ctys Tryz.prog 329 = [none] := by kernel_rfl
@[simp] theorem conc_329 : Tryz.prog.concrete 329 = true := by kernel_rfl
@[simp] theorem zero_329 : zeroCs Tryz.prog 329 = some [.d (.v (.int .u32 0))] := by kernel_rfl
@[simp] theorem ifc_329 : isIfcT Tryz.prog 329 = some false := by kernel_rfl
@[simp] theorem map_329 : Tryz.prog.isMap 329 = false := by kernel_rfl
@[simp] theorem ptr_329 : Tryz.prog.ptrT 329 = some none := by kernel_rfl
@[simp] theorem ztup_329 : zeroTup Tryz.prog 329 = some (.tup [(false, [.d (.v (.int .u32 0))]), (false, [.d (.v (.bool false))])]) := by kernel_rfl
@[simp] theorem app_329 : Tryz.prog.appOk 329 = true := by kernel_rfl
@[simp] theorem und_329 : Tryz.prog.underlying 329 = some (.int .u32) := by kernel_rfl
@[simp] theorem fld_336_0 : Tryz.prog.fld 336 0 = some (0, 1, false) := by kernel_rfl
@[simp] theorem fld_336_1 : Tryz.prog.fld 336 1 = some (1, 1, false) := by kernel_rfl
@[simp] theorem fld_336_2 : Tryz.prog.fld 336 2 = some (2, 1, false) := by kernel_rfl
@[simp] theorem fld_336_3 : Tryz.prog.fld 336 3 = some (3, 1, false) := by kernel_rfl
@[simp] theorem fld_336_4 : Tryz.prog.fld 336 4 = some (4, 1, false) := by kernel_rfl
@[simp] theorem fld_336_5 : Tryz.prog.fld 336 5 = some (5, 1, false) := by kernel_rfl
@[simp] theorem fld_336_9 : Tryz.prog.fld 336 9 = some (9, 1, false) := by kernel_rfl
@[simp] theorem fld_337_0 : Tryz.prog.fld 337 0 = some (0, 1, false) := by kernel_rfl
@[simp] theorem fld_337_1 : Tryz.prog.fld 337 1 = some (1, 1, false) := by kernel_rfl
@[simp] theorem fld_337_2 : Tryz.prog.fld 337 2 = some (2, 1, false) := by kernel_rfl
@[simp] theorem fld_337_3 : Tryz.prog.fld 337 3 = some (3, 1, false) := by kernel_rfl
@[simp] theorem fld_337_4 : Tryz.prog.fld 337 4 = some (4, 1, false) := by kernel_rfl
@[simp] theorem fld_337_5 : Tryz.prog.fld 337 5 = some (5, 1, false) := by kernel_rfl
@[simp] theorem fld_337_9 : Tryz.prog.fld 337 9 = some (9, 1, false) := by kernel_rfl
@[simp] theorem lay_346 : Tryz.prog.lay 346 = some (1, false) := by kernel_rfl
@[simp] theorem cells_346 : Tryz.prog.cellsOf 346 = 1 := by kernel_rfl
@[simp] theorem info_346 : (Tryz.prog.info? 346).isSome = true := by kernel_rfl
@[simp] theorem bytes_346 : Tryz.prog.bytesOf 346 = 4 := by kernel_rfl
@[simp] theorem ctys_346 : ctys Tryz.prog 346 = [none] := by kernel_rfl
@[simp] theorem conc_346 : Tryz.prog.concrete 346 = true := by kernel_rfl
@[simp] theorem zero_346 : zeroCs Tryz.prog 346 = some [.d (.v (.float .f32 0))] := by kernel_rfl
@[simp] theorem ifc_346 : isIfcT Tryz.prog 346 = some false := by kernel_rfl
@[simp] theorem map_346 : Tryz.prog.isMap 346 = false := by kernel_rfl
@[simp] theorem ptr_346 : Tryz.prog.ptrT 346 = some none := by kernel_rfl
@[simp] theorem ztup_346 : zeroTup Tryz.prog 346 = some (.tup [(false, [.d (.v (.float .f32 0))]), (false, [.d (.v (.bool false))])]) := by kernel_rfl
@[simp] theorem app_346 : Tryz.prog.appOk 346 = true := by kernel_rfl
@[simp] theorem und_346 : Tryz.prog.underlying 346 = some (.float .f32) := by kernel_rfl
@[simp] theorem lay_348 : Tryz.prog.lay 348 = some (1, false) := by kernel_rfl
@[simp] theorem cells_348 : Tryz.prog.cellsOf 348 = 1 := by kernel_rfl
@[simp] theorem info_348 : (Tryz.prog.info? 348).isSome = true := by kernel_rfl
@[simp] theorem bytes_348 : Tryz.prog.bytesOf 348 = 1 := by kernel_rfl
@[simp] theorem ctys_348 : ctys Tryz.prog 348 = [none] := by kernel_rfl
@[simp] theorem conc_348 : Tryz.prog.concrete 348 = true := by kernel_rfl
@[simp] theorem zero_348 : zeroCs Tryz.prog 348 = some [.d (.v (.int .i8 0))] := by kernel_rfl
@[simp] theorem ifc_348 : isIfcT Tryz.prog 348 = some false := by kernel_rfl
@[simp] theorem map_348 : Tryz.prog.isMap 348 = false := by kernel_rfl
@[simp] theorem ptr_348 : Tryz.prog.ptrT 348 = some none := by kernel_rfl
@[simp] theorem ztup_348 : zeroTup Tryz.prog 348 = some (.tup [(false, [.d (.v (.int .i8 0))]), (false, [.d (.v (.bool false))])]) := by kernel_rfl
@[simp] theorem app_348 : Tryz.prog.appOk 348 = true := by kernel_rfl
@[simp] theorem und_348 : Tryz.prog.underlying 348 = some (.int .i8) := by kernel_rfl
@[simp] theorem lay_350 : Tryz.prog.lay 350 = some (1, false) := by kernel_rfl
@[simp] theorem cells_350 : Tryz.prog.cellsOf 350 = 1 := by kernel_rfl
@[simp] theorem info_350 : (Tryz.prog.info? 350).isSome = true := by kernel_rfl
@[simp] theorem bytes_350 : Tryz.prog.bytesOf 350 = 2 := by kernel_rfl
@[simp] theorem ctys_350 : ctys Tryz.prog 350 = [none] := by kernel_rfl
@[simp] theorem conc_350 : Tryz.prog.concrete 350 = true := by kernel_rfl
@[simp] theorem zero_350 : zeroCs Tryz.prog 350 = some [.d (.v (.int .i16 0))] := by kernel_rfl
@[simp] theorem ifc_350 : isIfcT Tryz.prog 350 = some false := by kernel_rfl
@[simp] theorem map_350 : Tryz.prog.isMap 350 = false := by kernel_rfl
@[simp] theorem ptr_350 : Tryz.prog.ptrT 350 = some none := by kernel_rfl
@[simp] theorem ztup_350 : zeroTup Tryz.prog 350 = some (.tup [(false, [.d (.v (.int .i16 0))]), (false, [.d (.v (.bool false))])]) := by kernel_rfl
@[simp] theorem app_350 : Tryz.prog.appOk 350 = true := by kernel_rfl
@[simp] theorem und_350 : Tryz.prog.underlying 350 = some (.int .i16) := by kernel_rfl
@[simp] theorem lay_355 : Tryz.prog.lay 355 = some (1, false) := by kernel_rfl
@[simp] theorem cells_355 : Tryz.prog.cellsOf 355 = 1 := by kernel_rfl
@[simp] theorem info_355 : (Tryz.prog.info? 355).isSome = true := by kernel_rfl
@[simp] theorem bytes_355 : Tryz.prog.bytesOf 355 = 2 := by kernel_rfl
@[simp] theorem ctys_355 : ctys Tryz.prog 355 = [none] := by kernel_rfl
@[simp] theorem conc_355 : Tryz.prog.concrete 355 = true := by kernel_rfl
@[simp] theorem zero_355 : zeroCs Tryz.prog 355 = some [.d (.v (.int .u16 0))] := by kernel_rfl
@[simp] theorem ifc_355 : isIfcT Tryz.prog 355 = some false := by kernel_rfl
@[simp] theorem map_355 : Tryz.prog.isMap 355 = false := by kernel_rfl
@[simp] theorem ptr_355 : Tryz.prog.ptrT 355 = some none := by kernel_rfl
@[simp] theorem ztup_355 : zeroTup Tryz.prog 355 = some (.tup [(false, [.d (.v (.int .u16 0))]), (false, [.d (.v (.bool false))])]) := by kernel_rfl
@[simp] theorem app_355 : Tryz.prog.appOk 355 = true := by kernel_rfl
@[simp] theorem und_355 : Tryz.prog.underlying 355 = some (.int .u16) := by kernel_rfl
@[simp] theorem lay_358 : Tryz.prog.lay 358 = some (1, false) := by kernel_rfl
@[simp] theorem cells_358 : Tryz.prog.cellsOf 358 = 1 := by kernel_rfl
@[simp] theorem info_358 : (Tryz.prog.info? 358).isSome = true := by kernel_rfl
@[simp] theorem bytes_358 : Tryz.prog.bytesOf 358 = 24 := by kernel_rfl
@[simp] theorem ctys_358 : ctys Tryz.prog 358 = [some 20] := by kernel_rfl
@[simp] theorem conc_358 : Tryz.prog.concrete 358 = true := by kernel_rfl
@[simp] theorem zero_358 : zeroCs Tryz.prog 358 = some [.d (.v (.slice none 0 0))] := by kernel_rfl
@[simp] theorem ifc_358 : isIfcT Tryz.prog 358 = some false := by kernel_rfl
@[simp] theorem map_358 : Tryz.prog.isMap 358 = false := by kernel_rfl
@[simp] theorem ptr_358 : Tryz.prog.ptrT 358 = some none := by kernel_rfl
@[simp] theorem ztup_358 : zeroTup Tryz.prog 358 = some (.tup [(false, [.d (.v (.slice none 0 0))]), (false, [.d (.v (.bool false))])]) := by kernel_rfl
@[simp] theorem app_358 : Tryz.prog.appOk 358 = true := by kernel_rfl
@[simp] theorem isl_358 : Tryz.prog.isSl 358 = true := by kernel_rfl
@[simp] theorem elem_358 : Tryz.prog.elemT 358 = some 20 := by kernel_rfl
@[simp] theorem und_358 : Tryz.prog.underlying 358 = some (.slice 20) := by kernel_rfl
@[simp] theorem lay_359 : Tryz.prog.lay 359 = some (1, false) := by kernel_rfl
@[simp] theorem cells_359 : Tryz.prog.cellsOf 359 = 1 := by kernel_rfl
@[simp] theorem info_359 : (Tryz.prog.info? 359).isSome = true := by kernel_rfl
@[simp] theorem bytes_359 : Tryz.prog.bytesOf 359 = 8 := by kernel_rfl
@[simp] theorem ctys_359 : ctys Tryz.prog 359 = [none] := by kernel_rfl
@[simp] theorem conc_359 : Tryz.prog.concrete 359 = true := by kernel_rfl
@[simp] theorem zero_359 : zeroCs Tryz.prog 359 = some [.d (.v (.map none))] := by kernel_rfl
@[simp] theorem ifc_359 : isIfcT Tryz.prog 359 = some false := by kernel_rfl
@[simp] theorem map_359 : Tryz.prog.isMap 359 = true := by kernel_rfl
@[simp] theorem ptr_359 : Tryz.prog.ptrT 359 = some none := by kernel_rfl
@[simp] theorem ztup_359 : zeroTup Tryz.prog 359 = some (.tup [(false, [.d (.v (.map none))]), (false, [.d (.v (.bool false))])]) := by kernel_rfl
@[simp] theorem app_359 : Tryz.prog.appOk 359 = true := by kernel_rfl
@[simp] theorem fld_367_0 : Tryz.prog.fld 367 0 = some (0, 1, false) := by kernel_rfl
@[simp] theorem fld_367_1 : Tryz.prog.fld 367 1 = some (1, 1, false) := by kernel_rfl
@[simp] theorem fld_367_2 : Tryz.prog.fld 367 2 = some (2, 1, false) := by kernel_rfl
@[simp] theorem fld_368_0 : Tryz.prog.fld 368 0 = some (0, 1, false) := by kernel_rfl
@[simp] theorem fld_368_1 : Tryz.prog.fld 368 1 = some (1, 1, false) := by kernel_rfl
@[simp] theorem fld_368_2 : Tryz.prog.fld 368 2 = some (2, 1, false) := by kernel_rfl
@[simp] theorem lay_382 : Tryz.prog.lay 382 = some (1, false) := by kernel_rfl
@[simp] theorem cells_382 : Tryz.prog.cellsOf 382 = 1 := by kernel_rfl
@[simp] theorem info_382 : (Tryz.prog.info? 382).isSome = true := by kernel_rfl
@[simp] theorem bytes_382 : Tryz.prog.bytesOf 382 = 8 := by kernel_rfl
@[simp] theorem ctys_382 : ctys Tryz.prog 382 = [none] := by kernel_rfl
@[simp] theorem conc_382 : Tryz.prog.concrete 382 = true := by kernel_rfl
@[simp] theorem zero_382 : zeroCs Tryz.prog 382 = some [.d (.v (.pointer none))] := by kernel_rfl
@[simp] theorem ifc_382 : isIfcT Tryz.prog 382 = some false := by kernel_rfl
@[simp] theorem map_382 : Tryz.prog.isMap 382 = false := by kernel_rfl
@[simp] theorem ptr_382 : Tryz.prog.ptrT 382 = some (some 388) := by kernel_rfl
@[simp] theorem ztup_382 : zeroTup Tryz.prog 382 = some (.tup [(false, [.d (.v (.pointer none))]), (false, [.d (.v (.bool false))])]) := by kernel_rfl
@[simp] theorem app_382 : Tryz.prog.appOk 382 = true := by kernel_rfl
@[simp] theorem und_382 : Tryz.prog.underlying 382 = some (.pointer 388) := by kernel_rfl
@[simp] theorem lay_385 : Tryz.prog.lay 385 = some (1, false) := by kernel_rfl
@[simp] theorem cells_385 : Tryz.prog.cellsOf 385 = 1 := by kernel_rfl
@[simp] theorem info_385 : (Tryz.prog.info? 385).isSome = true := by kernel_rfl
@[simp] theorem bytes_385 : Tryz.prog.bytesOf 385 = 8 := by kernel_rfl
@[simp] theorem ctys_385 : ctys Tryz.prog 385 = [none] := by kernel_rfl
@[simp] theorem conc_385 : Tryz.prog.concrete 385 = true := by kernel_rfl
@[simp] theorem zero_385 : zeroCs Tryz.prog 385 = some [.d (.v (.pointer none))] := by kernel_rfl
@[simp] theorem ifc_385 : isIfcT Tryz.prog 385 = some false := by kernel_rfl
@[simp] theorem map_385 : Tryz.prog.isMap 385 = false := by kernel_rfl
@[simp] theorem ptr_385 : Tryz.prog.ptrT 385 = some (some 386) := by kernel_rfl
@[simp] theorem ztup_385 : zeroTup Tryz.prog 385 = some (.tup [(false, [.d (.v (.pointer none))]), (false, [.d (.v (.bool false))])]) := by kernel_rfl
@[simp] theorem app_385 : Tryz.prog.appOk 385 = true := by kernel_rfl
@[simp] theorem und_385 : Tryz.prog.underlying 385 = some (.pointer 386) := by kernel_rfl
@[simp] theorem lay_386 : Tryz.prog.lay 386 = some (0, true) := by kernel_rfl
@[simp] theorem cells_386 : Tryz.prog.cellsOf 386 = 0 := by kernel_rfl
@[simp] theorem info_386 : (Tryz.prog.info? 386).isSome = true := by kernel_rfl
@[simp] theorem bytes_386 : Tryz.prog.bytesOf 386 = 0 := by kernel_rfl
@[simp] theorem ctys_386 : ctys Tryz.prog 386 = [] := by kernel_rfl
@[simp] theorem conc_386 : Tryz.prog.concrete 386 = true := by kernel_rfl
@[simp] theorem zero_386 : zeroCs Tryz.prog 386 = some [] := by kernel_rfl
@[simp] theorem str_386 : Tryz.prog.strOk 386 = true := by kernel_rfl
@[simp] theorem ifc_386 : isIfcT Tryz.prog 386 = some false := by kernel_rfl
@[simp] theorem map_386 : Tryz.prog.isMap 386 = false := by kernel_rfl
@[simp] theorem ptr_386 : Tryz.prog.ptrT 386 = some none := by kernel_rfl
@[simp] theorem ztup_386 : zeroTup Tryz.prog 386 = some (.tup [(true, []), (false, [.d (.v (.bool false))])]) := by kernel_rfl
@[simp] theorem fld_387_0 : Tryz.prog.fld 387 0 = some (0, 1, false) := by kernel_rfl
@[simp] theorem fld_387_1 : Tryz.prog.fld 387 1 = some (1, 1, false) := by kernel_rfl
@[simp] theorem fld_387_2 : Tryz.prog.fld 387 2 = some (2, 1, false) := by kernel_rfl
@[simp] theorem lay_388 : Tryz.prog.lay 388 = some (3, true) := by kernel_rfl
@[simp] theorem cells_388 : Tryz.prog.cellsOf 388 = 3 := by kernel_rfl
@[simp] theorem info_388 : (Tryz.prog.info? 388).isSome = true := by kernel_rfl
@[simp] theorem bytes_388 : Tryz.prog.bytesOf 388 = 40 := by kernel_rfl
@[simp] theorem ctys_388 : ctys Tryz.prog 388 = [some 20, none, none] := by kernel_rfl
@[simp] theorem conc_388 : Tryz.prog.concrete 388 = true := by kernel_rfl
@[simp] theorem zero_388 : zeroCs Tryz.prog 388 = some [.d (.v (.slice none 0 0)), .d (.v (.pointer none)), .d (.v (.int .i64 0))] := by kernel_rfl
@[simp] theorem fld_388_0 : Tryz.prog.fld 388 0 = some (0, 1, false) := by kernel_rfl
@[simp] theorem fld_388_1 : Tryz.prog.fld 388 1 = some (1, 1, false) := by kernel_rfl
@[simp] theorem fld_388_2 : Tryz.prog.fld 388 2 = some (2, 1, false) := by kernel_rfl
@[simp] theorem str_388 : Tryz.prog.strOk 388 = true := by kernel_rfl
@[simp] theorem ifc_388 : isIfcT Tryz.prog 388 = some false := by kernel_rfl
@[simp] theorem map_388 : Tryz.prog.isMap 388 = false := by kernel_rfl
@[simp] theorem ptr_388 : Tryz.prog.ptrT 388 = some none := by kernel_rfl
@[simp] theorem ztup_388 : zeroTup Tryz.prog 388 = some (.tup [(true, [.d (.v (.slice none 0 0)), .d (.v (.pointer none)), .d (.v (.int .i64 0))]), (false, [.d (.v (.bool false))])]) := by kernel_rfl
@[simp] theorem app_388 : Tryz.prog.appOk 388 = true := by kernel_rfl
@[simp] theorem fld_391_0 : Tryz.prog.fld 391 0 = some (0, 1, false) := by kernel_rfl
@[simp] theorem fld_391_1 : Tryz.prog.fld 391 1 = some (1, 1, false) := by kernel_rfl
@[simp] theorem fld_392_0 : Tryz.prog.fld 392 0 = some (0, 1, false) := by kernel_rfl
@[simp] theorem fld_392_1 : Tryz.prog.fld 392 1 = some (1, 1, false) := by kernel_rfl
end Go.Smd
end
