/- Part 12 of the proof: Ty. -/
import Derived.Test.YtphldfnnjoehpaaGreatQC06
set_option linter.unusedVariables false
section
set_option linter.unusedSimpArgs false
namespace Go.Smd
open Go.RowKit Go.Proofs
@[simp] theorem lay_2 : Tryz.prog.lay 2 = some (1, false) := by kernel_rfl
@[simp] theorem cells_2 : Tryz.prog.cellsOf 2 = 1 := by kernel_rfl
@[simp] theorem info_2 : (Tryz.prog.info? 2).isSome = true := by kernel_rfl
@[simp] theorem bytes_2 : Tryz.prog.bytesOf 2 = 8 := by kernel_rfl
@[simp] theorem ctys_2 : ctys Tryz.prog 2 = [none] := by kernel_rfl
@[simp] theorem conc_2 : Tryz.prog.concrete 2 = true := by kernel_rfl
@[simp] theorem zero_2 : zeroCs Tryz.prog 2 = some [.d (.v (.int .i64 0))] := by kernel_rfl
@[simp] theorem ifc_2 : isIfcT Tryz.prog 2 = some false := by kernel_rfl
@[simp] theorem map_2 : Tryz.prog.isMap 2 = false := by kernel_rfl
@[simp] theorem ptr_2 : Tryz.prog.ptrT 2 = some none := by kernel_rfl
@[simp] theorem ztup_2 : zeroTup Tryz.prog 2 = some (.tup [(false, [.d (.v (.int .i64 0))]), (false, [.d (.v (.bool false))])]) := by kernel_rfl
@[simp] theorem app_2 : Tryz.prog.appOk 2 = true := by kernel_rfl
@[simp] theorem und_2 : Tryz.prog.underlying 2 = some (.int .i64) := by kernel_rfl
@[simp] theorem lay_3 : Tryz.prog.lay 3 = some (1, false) := by kernel_rfl
@[simp] theorem cells_3 : Tryz.prog.cellsOf 3 = 1 := by kernel_rfl
@[simp] theorem info_3 : (Tryz.prog.info? 3).isSome = true := by kernel_rfl
@[simp] theorem bytes_3 : Tryz.prog.bytesOf 3 = 8 := by kernel_rfl
@[simp] theorem ctys_3 : ctys Tryz.prog 3 = [none] := by kernel_rfl
@[simp] theorem conc_3 : Tryz.prog.concrete 3 = true := by kernel_rfl
@[simp] theorem zero_3 : zeroCs Tryz.prog 3 = some [.d (.v (.int .i64 0))] := by kernel_rfl
@[simp] theorem ifc_3 : isIfcT Tryz.prog 3 = some false := by kernel_rfl
@[simp] theorem map_3 : Tryz.prog.isMap 3 = false := by kernel_rfl
@[simp] theorem ptr_3 : Tryz.prog.ptrT 3 = some none := by kernel_rfl
@[simp] theorem ztup_3 : zeroTup Tryz.prog 3 = some (.tup [(false, [.d (.v (.int .i64 0))]), (false, [.d (.v (.bool false))])]) := by kernel_rfl
@[simp] theorem app_3 : Tryz.prog.appOk 3 = true := by kernel_rfl
@[simp] theorem und_3 : Tryz.prog.underlying 3 = some (.int .i64) := by kernel_rfl
@[simp] theorem lay_4 : Tryz.prog.lay 4 = some (1, false) := by kernel_rfl
@[simp] theorem cells_4 : Tryz.prog.cellsOf 4 = 1 := by kernel_rfl
@[simp] theorem info_4 : (Tryz.prog.info? 4).isSome = true := by kernel_rfl
@[simp] theorem bytes_4 : Tryz.prog.bytesOf 4 = 1 := by kernel_rfl
@[simp] theorem ctys_4 : ctys Tryz.prog 4 = [none] := by kernel_rfl
@[simp] theorem conc_4 : Tryz.prog.concrete 4 = true := by kernel_rfl
@[simp] theorem zero_4 : zeroCs Tryz.prog 4 = some [.d (.v (.bool false))] := by kernel_rfl
@[simp] theorem ifc_4 : isIfcT Tryz.prog 4 = some false := by kernel_rfl
@[simp] theorem map_4 : Tryz.prog.isMap 4 = false := by kernel_rfl
@[simp] theorem ptr_4 : Tryz.prog.ptrT 4 = some none := by kernel_rfl
@[simp] theorem ztup_4 : zeroTup Tryz.prog 4 = some (.tup [(false, [.d (.v (.bool false))]), (false, [.d (.v (.bool false))])]) := by kernel_rfl
@[simp] theorem app_4 : Tryz.prog.appOk 4 = true := by kernel_rfl
@[simp] theorem und_4 : Tryz.prog.underlying 4 = some .bool := by kernel_rfl
@[simp] theorem lay_5 : Tryz.prog.lay 5 = some (1, false) := by kernel_rfl
@[simp] theorem cells_5 : Tryz.prog.cellsOf 5 = 1 := by kernel_rfl
@[simp] theorem info_5 : (Tryz.prog.info? 5).isSome = true := by kernel_rfl
@[simp] theorem bytes_5 : Tryz.prog.bytesOf 5 = 1 := by kernel_rfl
@[simp] theorem ctys_5 : ctys Tryz.prog 5 = [none] := by kernel_rfl
@[simp] theorem conc_5 : Tryz.prog.concrete 5 = true := by kernel_rfl
@[simp] theorem zero_5 : zeroCs Tryz.prog 5 = some [.d (.v (.int .u8 0))] := by kernel_rfl
@[simp] theorem ifc_5 : isIfcT Tryz.prog 5 = some false := by kernel_rfl
@[simp] theorem map_5 : Tryz.prog.isMap 5 = false := by kernel_rfl
@[simp] theorem ptr_5 : Tryz.prog.ptrT 5 = some none := by kernel_rfl
@[simp] theorem ztup_5 : zeroTup Tryz.prog 5 = some (.tup [(false, [.d (.v (.int .u8 0))]), (false, [.d (.v (.bool false))])]) := by kernel_rfl
@[simp] theorem app_5 : Tryz.prog.appOk 5 = true := by kernel_rfl
@[simp] theorem und_5 : Tryz.prog.underlying 5 = some (.int .u8) := by kernel_rfl
@[simp] theorem fld_7_0 : Tryz.prog.fld 7 0 = some (0, 1, false) := by kernel_rfl
@[simp] theorem fld_7_1 : Tryz.prog.fld 7 1 = some (1, 1, false) := by kernel_rfl
@[simp] theorem fld_7_2 : Tryz.prog.fld 7 2 = some (2, 1, false) := by kernel_rfl
@[simp] theorem fld_7_3 : Tryz.prog.fld 7 3 = some (3, 1, false) := by kernel_rfl
@[simp] theorem fld_8_0 : Tryz.prog.fld 8 0 = some (0, 1, false) := by kernel_rfl
@[simp] theorem fld_8_1 : Tryz.prog.fld 8 1 = some (1, 1, false) := by kernel_rfl
@[simp] theorem fld_8_2 : Tryz.prog.fld 8 2 = some (2, 1, false) := by kernel_rfl
@[simp] theorem fld_8_3 : Tryz.prog.fld 8 3 = some (3, 1, false) := by kernel_rfl
@[simp] theorem lay_9 : Tryz.prog.lay 9 = some (1, false) := by kernel_rfl
@[simp] theorem cells_9 : Tryz.prog.cellsOf 9 = 1 := by kernel_rfl
@[simp] theorem info_9 : (Tryz.prog.info? 9).isSome = true := by kernel_rfl
@[simp] theorem bytes_9 : Tryz.prog.bytesOf 9 = 16 := by kernel_rfl
@[simp] theorem ctys_9 : ctys Tryz.prog 9 = [none] := by kernel_rfl
@[simp] theorem conc_9 : Tryz.prog.concrete 9 = true := by kernel_rfl
@[simp] theorem zero_9 : zeroCs Tryz.prog 9 = some [.d (.v (.string ⟨#[]⟩))] := by kernel_rfl
@[simp] theorem ifc_9 : isIfcT Tryz.prog 9 = some false := by kernel_rfl
@[simp] theorem map_9 : Tryz.prog.isMap 9 = false := by kernel_rfl
@[simp] theorem ptr_9 : Tryz.prog.ptrT 9 = some none := by kernel_rfl
@[simp] theorem ztup_9 : zeroTup Tryz.prog 9 = some (.tup [(false, [.d (.v (.string ⟨#[]⟩))]), (false, [.d (.v (.bool false))])]) := by kernel_rfl
@[simp] theorem app_9 : Tryz.prog.appOk 9 = true := by kernel_rfl
@[simp] theorem und_9 : Tryz.prog.underlying 9 = some .string := by kernel_rfl
@[simp] theorem fld_13_0 : Tryz.prog.fld 13 0 = some (0, 1, false) := by kernel_rfl
@[simp] theorem fld_13_1 : Tryz.prog.fld 13 1 = some (1, 1, false) := by kernel_rfl
@[simp] theorem fld_14_0 : Tryz.prog.fld 14 0 = some (0, 1, false) := by kernel_rfl
@[simp] theorem fld_14_1 : Tryz.prog.fld 14 1 = some (1, 1, false) := by kernel_rfl
@[simp] theorem fld_18_0 : Tryz.prog.fld 18 0 = some (0, 1, false) := by kernel_rfl
@[simp] theorem fld_19_0 : Tryz.prog.fld 19 0 = some (0, 1, false) := by kernel_rfl
@[simp] theorem lay_20 : Tryz.prog.lay 20 = some (1, false) := by kernel_rfl
@[simp] theorem cells_20 : Tryz.prog.cellsOf 20 = 1 := by kernel_rfl
@[simp] theorem info_20 : (Tryz.prog.info? 20).isSome = true := by kernel_rfl
@[simp] theorem bytes_20 : Tryz.prog.bytesOf 20 = 16 := by kernel_rfl
@[simp] theorem ctys_20 : ctys Tryz.prog 20 = [none] := by kernel_rfl
@[simp] theorem zero_20 : zeroCs Tryz.prog 20 = some [.d (.v (.nilIface))] := by kernel_rfl
@[simp] theorem ifc_20 : isIfcT Tryz.prog 20 = some true := by kernel_rfl
@[simp] theorem map_20 : Tryz.prog.isMap 20 = false := by kernel_rfl
@[simp] theorem app_20 : Tryz.prog.appOk 20 = true := by kernel_rfl
@[simp] theorem lay_21 : Tryz.prog.lay 21 = some (1, false) := by kernel_rfl
@[simp] theorem cells_21 : Tryz.prog.cellsOf 21 = 1 := by kernel_rfl
@[simp] theorem info_21 : (Tryz.prog.info? 21).isSome = true := by kernel_rfl
@[simp] theorem bytes_21 : Tryz.prog.bytesOf 21 = 4 := by kernel_rfl
@[simp] theorem ctys_21 : ctys Tryz.prog 21 = [none] := by kernel_rfl
@[simp] theorem conc_21 : Tryz.prog.concrete 21 = true := by kernel_rfl
@[simp] theorem zero_21 : zeroCs Tryz.prog 21 = some [.d (.v (.int .i32 0))] := by kernel_rfl
@[simp] theorem ifc_21 : isIfcT Tryz.prog 21 = some false := by kernel_rfl
@[simp] theorem map_21 : Tryz.prog.isMap 21 = false := by kernel_rfl
@[simp] theorem ptr_21 : Tryz.prog.ptrT 21 = some none := by kernel_rfl
@[simp] theorem ztup_21 : zeroTup Tryz.prog 21 = some (.tup [(false, [.d (.v (.int .i32 0))]), (false, [.d (.v (.bool false))])]) := by kernel_rfl
@[simp] theorem app_21 : Tryz.prog.appOk 21 = true := by kernel_rfl
@[simp] theorem und_21 : Tryz.prog.underlying 21 = some (.int .i32) := by kernel_rfl
@[simp] theorem lay_22 : Tryz.prog.lay 22 = some (1, false) := by kernel_rfl
@[simp] theorem cells_22 : Tryz.prog.cellsOf 22 = 1 := by kernel_rfl
@[simp] theorem info_22 : (Tryz.prog.info? 22).isSome = true := by kernel_rfl
@[simp] theorem bytes_22 : Tryz.prog.bytesOf 22 = 24 := by kernel_rfl
@[simp] theorem ctys_22 : ctys Tryz.prog 22 = [some 39] := by kernel_rfl
@[simp] theorem conc_22 : Tryz.prog.concrete 22 = true := by kernel_rfl
@[simp] theorem zero_22 : zeroCs Tryz.prog 22 = some [.d (.v (.slice none 0 0))] := by kernel_rfl
@[simp] theorem ifc_22 : isIfcT Tryz.prog 22 = some false := by kernel_rfl
@[simp] theorem map_22 : Tryz.prog.isMap 22 = false := by kernel_rfl
@[simp] theorem ptr_22 : Tryz.prog.ptrT 22 = some none := by kernel_rfl
@[simp] theorem ztup_22 : zeroTup Tryz.prog 22 = some (.tup [(false, [.d (.v (.slice none 0 0))]), (false, [.d (.v (.bool false))])]) := by kernel_rfl
@[simp] theorem app_22 : Tryz.prog.appOk 22 = true := by kernel_rfl
@[simp] theorem elem_22 : Tryz.prog.elemT 22 = some 39 := by kernel_rfl
@[simp] theorem und_22 : Tryz.prog.underlying 22 = some (.slice 39) := by kernel_rfl
@[simp] theorem lay_27 : Tryz.prog.lay 27 = some (1, false) := by kernel_rfl
@[simp] theorem cells_27 : Tryz.prog.cellsOf 27 = 1 := by kernel_rfl
@[simp] theorem info_27 : (Tryz.prog.info? 27).isSome = true := by kernel_rfl
@[simp] theorem bytes_27 : Tryz.prog.bytesOf 27 = 24 := by kernel_rfl
@[simp] theorem ctys_27 : ctys Tryz.prog 27 = [some 22] := by kernel_rfl
@[simp] theorem conc_27 : Tryz.prog.concrete 27 = true := by kernel_rfl
@[simp] theorem zero_27 : zeroCs Tryz.prog 27 = some [.d (.v (.slice none 0 0))] := by kernel_rfl
@[simp] theorem ifc_27 : isIfcT Tryz.prog 27 = some false := by kernel_rfl
@[simp] theorem map_27 : Tryz.prog.isMap 27 = false := by kernel_rfl
@[simp] theorem ptr_27 : Tryz.prog.ptrT 27 = some none := by kernel_rfl
@[simp] theorem ztup_27 : zeroTup Tryz.prog 27 = some (.tup [(false, [.d (.v (.slice none 0 0))]), (false, [.d (.v (.bool false))])]) := by kernel_rfl
@[simp] theorem app_27 : Tryz.prog.appOk 27 = true := by kernel_rfl
@[simp] theorem elem_27 : Tryz.prog.elemT 27 = some 22 := by kernel_rfl
@[simp] theorem und_27 : Tryz.prog.underlying 27 = some (.slice 22) := by kernel_rfl
@[simp] theorem lay_29 : Tryz.prog.lay 29 = some (1, false) := by kernel_rfl
@[simp] theorem cells_29 : Tryz.prog.cellsOf 29 = 1 := by kernel_rfl
@[simp] theorem info_29 : (Tryz.prog.info? 29).isSome = true := by kernel_rfl
@[simp] theorem bytes_29 : Tryz.prog.bytesOf 29 = 24 := by kernel_rfl
@[simp] theorem ctys_29 : ctys Tryz.prog 29 = [some 47] := by kernel_rfl
@[simp] theorem conc_29 : Tryz.prog.concrete 29 = true := by kernel_rfl
@[simp] theorem zero_29 : zeroCs Tryz.prog 29 = some [.d (.v (.slice none 0 0))] := by kernel_rfl
@[simp] theorem ifc_29 : isIfcT Tryz.prog 29 = some false := by kernel_rfl
@[simp] theorem map_29 : Tryz.prog.isMap 29 = false := by kernel_rfl
@[simp] theorem ptr_29 : Tryz.prog.ptrT 29 = some none := by kernel_rfl
@[simp] theorem ztup_29 : zeroTup Tryz.prog 29 = some (.tup [(false, [.d (.v (.slice none 0 0))]), (false, [.d (.v (.bool false))])]) := by kernel_rfl
@[simp] theorem app_29 : Tryz.prog.appOk 29 = true := by kernel_rfl
@[simp] theorem elem_29 : Tryz.prog.elemT 29 = some 47 := by kernel_rfl
@[simp] theorem und_29 : Tryz.prog.underlying 29 = some (.slice 47) := by kernel_rfl
@[simp] theorem lay_33 : Tryz.prog.lay 33 = some (1, false) := by kernel_rfl
@[simp] theorem cells_33 : Tryz.prog.cellsOf 33 = 1 := by kernel_rfl
@[simp] theorem info_33 : (Tryz.prog.info? 33).isSome = true := by kernel_rfl
@[simp] theorem bytes_33 : Tryz.prog.bytesOf 33 = 24 := by kernel_rfl
@[simp] theorem ctys_33 : ctys Tryz.prog 33 = [some 9] := by kernel_rfl
@[simp] theorem conc_33 : Tryz.prog.concrete 33 = true := by kernel_rfl
@[simp] theorem zero_33 : zeroCs Tryz.prog 33 = some [.d (.v (.slice none 0 0))] := by kernel_rfl
@[simp] theorem ifc_33 : isIfcT Tryz.prog 33 = some false := by kernel_rfl
@[simp] theorem map_33 : Tryz.prog.isMap 33 = false := by kernel_rfl
@[simp] theorem ptr_33 : Tryz.prog.ptrT 33 = some none := by kernel_rfl
@[simp] theorem ztup_33 : zeroTup Tryz.prog 33 = some (.tup [(false, [.d (.v (.slice none 0 0))]), (false, [.d (.v (.bool false))])]) := by kernel_rfl
@[simp] theorem app_33 : Tryz.prog.appOk 33 = true := by kernel_rfl
@[simp] theorem elem_33 : Tryz.prog.elemT 33 = some 9 := by kernel_rfl
@[simp] theorem und_33 : Tryz.prog.underlying 33 = some (.slice 9) := by kernel_rfl
@[simp] theorem lay_34 : Tryz.prog.lay 34 = some (1, false) := by kernel_rfl
@[simp] theorem cells_34 : Tryz.prog.cellsOf 34 = 1 := by kernel_rfl
@[simp] theorem info_34 : (Tryz.prog.info? 34).isSome = true := by kernel_rfl
@[simp] theorem bytes_34 : Tryz.prog.bytesOf 34 = 24 := by kernel_rfl
@[simp] theorem ctys_34 : ctys Tryz.prog 34 = [some 37] := by kernel_rfl
@[simp] theorem conc_34 : Tryz.prog.concrete 34 = true := by kernel_rfl
@[simp] theorem zero_34 : zeroCs Tryz.prog 34 = some [.d (.v (.slice none 0 0))] := by kernel_rfl
@[simp] theorem ifc_34 : isIfcT Tryz.prog 34 = some false := by kernel_rfl
@[simp] theorem map_34 : Tryz.prog.isMap 34 = false := by kernel_rfl
@[simp] theorem ptr_34 : Tryz.prog.ptrT 34 = some none := by kernel_rfl
@[simp] theorem ztup_34 : zeroTup Tryz.prog 34 = some (.tup [(false, [.d (.v (.slice none 0 0))]), (false, [.d (.v (.bool false))])]) := by kernel_rfl
@[simp] theorem app_34 : Tryz.prog.appOk 34 = true := by kernel_rfl
@[simp] theorem elem_34 : Tryz.prog.elemT 34 = some 37 := by kernel_rfl
@[simp] theorem und_34 : Tryz.prog.underlying 34 = some (.slice 37) := by kernel_rfl
@[simp] theorem lay_35 : Tryz.prog.lay 35 = some (1, false) := by kernel_rfl
@[simp] theorem cells_35 : Tryz.prog.cellsOf 35 = 1 := by kernel_rfl
@[simp] theorem info_35 : (Tryz.prog.info? 35).isSome = true := by kernel_rfl
@[simp] theorem bytes_35 : Tryz.prog.bytesOf 35 = 8 := by kernel_rfl
@[simp] theorem ctys_35 : ctys Tryz.prog 35 = [none] := by kernel_rfl
@[simp] theorem conc_35 : Tryz.prog.concrete 35 = true := by kernel_rfl
@[simp] theorem zero_35 : zeroCs Tryz.prog 35 = some [.d (.v (.float .f64 0))] := by kernel_rfl
@[simp] theorem ifc_35 : isIfcT Tryz.prog 35 = some false := by kernel_rfl
@[simp] theorem map_35 : Tryz.prog.isMap 35 = false := by kernel_rfl
@[simp] theorem ptr_35 : Tryz.prog.ptrT 35 = some none := by kernel_rfl
@[simp] theorem ztup_35 : zeroTup Tryz.prog 35 = some (.tup [(false, [.d (.v (.float .f64 0))]), (false, [.d (.v (.bool false))])]) := by kernel_rfl
@[simp] theorem app_35 : Tryz.prog.appOk 35 = true := by kernel_rfl
@[simp] theorem und_35 : Tryz.prog.underlying 35 = some (.float .f64) := by kernel_rfl
@[simp] theorem fld_36_0 : Tryz.prog.fld 36 0 = some (0, 1, false) := by kernel_rfl
@[simp] theorem fld_36_1 : Tryz.prog.fld 36 1 = some (1, 1, false) := by kernel_rfl
@[simp] theorem fld_36_2 : Tryz.prog.fld 36 2 = some (2, 1, false) := by kernel_rfl
@[simp] theorem fld_36_3 : Tryz.prog.fld 36 3 = some (3, 1, false) := by kernel_rfl
@[simp] theorem fld_36_4 : Tryz.prog.fld 36 4 = some (4, 1, false) := by kernel_rfl
@[simp] theorem fld_36_5 : Tryz.prog.fld 36 5 = some (5, 1, false) := by kernel_rfl
@[simp] theorem lay_37 : Tryz.prog.lay 37 = some (6, true) := by kernel_rfl
@[simp] theorem cells_37 : Tryz.prog.cellsOf 37 = 6 := by kernel_rfl
@[simp] theorem info_37 : (Tryz.prog.info? 37).isSome = true := by kernel_rfl
@[simp] theorem bytes_37 : Tryz.prog.bytesOf 37 = 88 := by kernel_rfl
@[simp] theorem ctys_37 : ctys Tryz.prog 37 = [none, none, none, none, some 9, some 37] := by kernel_rfl
@[simp] theorem conc_37 : Tryz.prog.concrete 37 = true := by kernel_rfl
@[simp] theorem zero_37 : zeroCs Tryz.prog 37 = some [.d (.v (.int .i64 0)), .d (.v (.int .i64 0)), .d (.v (.float .f64 0)), .d (.v (.string ⟨#[]⟩)), .d (.v (.slice none 0 0)), .d (.v (.slice none 0 0))] := by kernel_rfl
@[simp] theorem fld_37_0 : Tryz.prog.fld 37 0 = some (0, 1, false) := by kernel_rfl
@[simp] theorem fld_37_1 : Tryz.prog.fld 37 1 = some (1, 1, false) := by kernel_rfl
@[simp] theorem fld_37_2 : Tryz.prog.fld 37 2 = some (2, 1, false) := by kernel_rfl
@[simp] theorem fld_37_3 : Tryz.prog.fld 37 3 = some (3, 1, false) := by kernel_rfl
@[simp] theorem fld_37_4 : Tryz.prog.fld 37 4 = some (4, 1, false) := by kernel_rfl
@[simp] theorem fld_37_5 : Tryz.prog.fld 37 5 = some (5, 1, false) := by kernel_rfl
@[simp] theorem str_37 : Tryz.prog.strOk 37 = true := by kernel_rfl
@[simp] theorem ifc_37 : isIfcT Tryz.prog 37 = some false := by kernel_rfl
@[simp] theorem map_37 : Tryz.prog.isMap 37 = false := by kernel_rfl
@[simp] theorem ptr_37 : Tryz.prog.ptrT 37 = some none := by kernel_rfl
@[simp] theorem ztup_37 : zeroTup Tryz.prog 37 = some (.tup [(true, [.d (.v (.int .i64 0)), .d (.v (.int .i64 0)), .d (.v (.float .f64 0)), .d (.v (.string ⟨#[]⟩)), .d (.v (.slice none 0 0)), .d (.v (.slice none 0 0))]), (false, [.d (.v (.bool false))])]) := by kernel_rfl
@[simp] theorem app_37 : Tryz.prog.appOk 37 = true := by kernel_rfl
@[simp] theorem fld_38_0 : Tryz.prog.fld 38 0 = some (0, 1, false) := by kernel_rfl
@[simp] theorem fld_38_1 : Tryz.prog.fld 38 1 = some (1, 1, false) := by kernel_rfl
@[simp] theorem fld_38_2 : Tryz.prog.fld 38 2 = some (2, 1, false) := by kernel_rfl
@[simp] theorem fld_38_3 : Tryz.prog.fld 38 3 = some (3, 1, false) := by kernel_rfl
@[simp] theorem fld_38_4 : Tryz.prog.fld 38 4 = some (4, 6, true) := by kernel_rfl
@[simp] theorem fld_38_5 : Tryz.prog.fld 38 5 = some (10, 1, false) := by kernel_rfl
@[simp] theorem lay_39 : Tryz.prog.lay 39 = some (11, true) := by kernel_rfl
@[simp] theorem cells_39 : Tryz.prog.cellsOf 39 = 11 := by kernel_rfl
@[simp] theorem info_39 : (Tryz.prog.info? 39).isSome = true := by kernel_rfl
@[simp] theorem bytes_39 : Tryz.prog.bytesOf 39 = 168 := by kernel_rfl
@[simp] theorem ctys_39 : ctys Tryz.prog 39 = [none, none, some 9, some 37, none, none, none, none, some 9, some 37, none] := by kernel_rfl
@[simp] theorem conc_39 : Tryz.prog.concrete 39 = true := by kernel_rfl
@[simp] theorem zero_39 : zeroCs Tryz.prog 39 = some [.d (.v (.int .i64 0)), .d (.v (.string ⟨#[]⟩)), .d (.v (.slice none 0 0)), .d (.v (.slice none 0 0)), .d (.v (.int .i64 0)), .d (.v (.int .i64 0)), .d (.v (.float .f64 0)), .d (.v (.string ⟨#[]⟩)), .d (.v (.slice none 0 0)), .d (.v (.slice none 0 0)), .d (.v (.int .i64 0))] := by kernel_rfl
@[simp] theorem fld_39_0 : Tryz.prog.fld 39 0 = some (0, 1, false) := by kernel_rfl
@[simp] theorem fld_39_1 : Tryz.prog.fld 39 1 = some (1, 1, false) := by kernel_rfl
@[simp] theorem fld_39_2 : Tryz.prog.fld 39 2 = some (2, 1, false) := by kernel_rfl
@[simp] theorem fld_39_3 : Tryz.prog.fld 39 3 = some (3, 1, false) := by kernel_rfl
@[simp] theorem fld_39_4 : Tryz.prog.fld 39 4 = some (4, 6, true) := by kernel_rfl
@[simp] theorem fld_39_5 : Tryz.prog.fld 39 5 = some (10, 1, false) := by kernel_rfl
@[simp] theorem str_39 : Tryz.prog.strOk 39 = true := by kernel_rfl
@[simp] theorem ifc_39 : isIfcT Tryz.prog 39 = some false := by kernel_rfl
@[simp] theorem map_39 : Tryz.prog.isMap 39 = false := by kernel_rfl
@[simp] theorem ptr_39 : Tryz.prog.ptrT 39 = some none := by kernel_rfl
@[simp] theorem ztup_39 : zeroTup Tryz.prog 39 = some (.tup [(true, [.d (.v (.int .i64 0)), .d (.v (.string ⟨#[]⟩)), .d (.v (.slice none 0 0)), .d (.v (.slice none 0 0)), .d (.v (.int .i64 0)), .d (.v (.int .i64 0)), .d (.v (.float .f64 0)), .d (.v (.string ⟨#[]⟩)), .d (.v (.slice none 0 0)), .d (.v (.slice none 0 0)), .d (.v (.int .i64 0))]), (false, [.d (.v (.bool false))])]) := by kernel_rfl
@[simp] theorem app_39 : Tryz.prog.appOk 39 = true := by kernel_rfl
@[simp] theorem lay_42 : Tryz.prog.lay 42 = some (1, false) := by kernel_rfl
@[simp] theorem cells_42 : Tryz.prog.cellsOf 42 = 1 := by kernel_rfl
@[simp] theorem info_42 : (Tryz.prog.info? 42).isSome = true := by kernel_rfl
@[simp] theorem bytes_42 : Tryz.prog.bytesOf 42 = 8 := by kernel_rfl
@[simp] theorem ctys_42 : ctys Tryz.prog 42 = [none] := by kernel_rfl
@[simp] theorem conc_42 : Tryz.prog.concrete 42 = true := by kernel_rfl
@[simp] theorem zero_42 : zeroCs Tryz.prog 42 = some [.d (.v (.pointer none))] := by kernel_rfl
@[simp] theorem ifc_42 : isIfcT Tryz.prog 42 = some false := by kernel_rfl
@[simp] theorem map_42 : Tryz.prog.isMap 42 = false := by kernel_rfl
@[simp] theorem ptr_42 : Tryz.prog.ptrT 42 = some (some 9) := by kernel_rfl
@[simp] theorem ztup_42 : zeroTup Tryz.prog 42 = some (.tup [(false, [.d (.v (.pointer none))]), (false, [.d (.v (.bool false))])]) := by kernel_rfl
@[simp] theorem app_42 : Tryz.prog.appOk 42 = true := by kernel_rfl
@[simp] theorem und_42 : Tryz.prog.underlying 42 = some (.pointer 9) := by kernel_rfl
@[simp] theorem lay_43 : Tryz.prog.lay 43 = some (1, false) := by kernel_rfl
@[simp] theorem cells_43 : Tryz.prog.cellsOf 43 = 1 := by kernel_rfl
@[simp] theorem info_43 : (Tryz.prog.info? 43).isSome = true := by kernel_rfl
@[simp] theorem bytes_43 : Tryz.prog.bytesOf 43 = 8 := by kernel_rfl
@[simp] theorem ctys_43 : ctys Tryz.prog 43 = [none] := by kernel_rfl
@[simp] theorem conc_43 : Tryz.prog.concrete 43 = true := by kernel_rfl
@[simp] theorem zero_43 : zeroCs Tryz.prog 43 = some [.d (.v (.pointer none))] := by kernel_rfl
@[simp] theorem ifc_43 : isIfcT Tryz.prog 43 = some false := by kernel_rfl
@[simp] theorem map_43 : Tryz.prog.isMap 43 = false := by kernel_rfl
@[simp] theorem ptr_43 : Tryz.prog.ptrT 43 = some (some 57) := by kernel_rfl
@[simp] theorem ztup_43 : zeroTup Tryz.prog 43 = some (.tup [(false, [.d (.v (.pointer none))]), (false, [.d (.v (.bool false))])]) := by kernel_rfl
@[simp] theorem app_43 : Tryz.prog.appOk 43 = true := by kernel_rfl
@[simp] theorem und_43 : Tryz.prog.underlying 43 = some (.pointer 57) := by kernel_rfl
@[simp] theorem lay_44 : Tryz.prog.lay 44 = some (1, false) := by kernel_rfl
@[simp] theorem cells_44 : Tryz.prog.cellsOf 44 = 1 := by kernel_rfl
@[simp] theorem info_44 : (Tryz.prog.info? 44).isSome = true := by kernel_rfl
@[simp] theorem bytes_44 : Tryz.prog.bytesOf 44 = 8 := by kernel_rfl
@[simp] theorem ctys_44 : ctys Tryz.prog 44 = [none] := by kernel_rfl
@[simp] theorem conc_44 : Tryz.prog.concrete 44 = true := by kernel_rfl
@[simp] theorem zero_44 : zeroCs Tryz.prog 44 = some [.d (.v (.pointer none))] := by kernel_rfl
@[simp] theorem ifc_44 : isIfcT Tryz.prog 44 = some false := by kernel_rfl
@[simp] theorem map_44 : Tryz.prog.isMap 44 = false := by kernel_rfl
@[simp] theorem ptr_44 : Tryz.prog.ptrT 44 = some (some 60) := by kernel_rfl
@[simp] theorem ztup_44 : zeroTup Tryz.prog 44 = some (.tup [(false, [.d (.v (.pointer none))]), (false, [.d (.v (.bool false))])]) := by kernel_rfl
@[simp] theorem app_44 : Tryz.prog.appOk 44 = true := by kernel_rfl
@[simp] theorem und_44 : Tryz.prog.underlying 44 = some (.pointer 60) := by kernel_rfl
@[simp] theorem lay_45 : Tryz.prog.lay 45 = some (1, false) := by kernel_rfl
@[simp] theorem cells_45 : Tryz.prog.cellsOf 45 = 1 := by kernel_rfl
@[simp] theorem info_45 : (Tryz.prog.info? 45).isSome = true := by kernel_rfl
@[simp] theorem bytes_45 : Tryz.prog.bytesOf 45 = 8 := by kernel_rfl
@[simp] theorem ctys_45 : ctys Tryz.prog 45 = [none] := by kernel_rfl
@[simp] theorem conc_45 : Tryz.prog.concrete 45 = true := by kernel_rfl
@[simp] theorem zero_45 : zeroCs Tryz.prog 45 = some [.d (.v (.pointer none))] := by kernel_rfl
@[simp] theorem ifc_45 : isIfcT Tryz.prog 45 = some false := by kernel_rfl
@[simp] theorem map_45 : Tryz.prog.isMap 45 = false := by kernel_rfl
@[simp] theorem ptr_45 : Tryz.prog.ptrT 45 = some (some 3) := by kernel_rfl
@[simp] theorem ztup_45 : zeroTup Tryz.prog 45 = some (.tup [(false, [.d (.v (.pointer none))]), (false, [.d (.v (.bool false))])]) := by kernel_rfl
@[simp] theorem app_45 : Tryz.prog.appOk 45 = true := by kernel_rfl
@[simp] theorem und_45 : Tryz.prog.underlying 45 = some (.pointer 3) := by kernel_rfl
@[simp] theorem fld_46_0 : Tryz.prog.fld 46 0 = some (0, 1, false) := by kernel_rfl
@[simp] theorem fld_46_1 : Tryz.prog.fld 46 1 = some (1, 1, false) := by kernel_rfl
@[simp] theorem fld_46_2 : Tryz.prog.fld 46 2 = some (2, 1, false) := by kernel_rfl
@[simp] theorem fld_46_3 : Tryz.prog.fld 46 3 = some (3, 1, false) := by kernel_rfl
@[simp] theorem lay_47 : Tryz.prog.lay 47 = some (4, true) := by kernel_rfl
@[simp] theorem cells_47 : Tryz.prog.cellsOf 47 = 4 := by kernel_rfl
@[simp] theorem info_47 : (Tryz.prog.info? 47).isSome = true := by kernel_rfl
@[simp] theorem bytes_47 : Tryz.prog.bytesOf 47 = 32 := by kernel_rfl
@[simp] theorem ctys_47 : ctys Tryz.prog 47 = [none, none, none, none] := by kernel_rfl
@[simp] theorem conc_47 : Tryz.prog.concrete 47 = true := by kernel_rfl
@[simp] theorem zero_47 : zeroCs Tryz.prog 47 = some [.d (.v (.pointer none)), .d (.v (.pointer none)), .d (.v (.pointer none)), .d (.v (.pointer none))] := by kernel_rfl
@[simp] theorem fld_47_0 : Tryz.prog.fld 47 0 = some (0, 1, false) := by kernel_rfl
@[simp] theorem fld_47_1 : Tryz.prog.fld 47 1 = some (1, 1, false) := by kernel_rfl
@[simp] theorem fld_47_2 : Tryz.prog.fld 47 2 = some (2, 1, false) := by kernel_rfl
@[simp] theorem fld_47_3 : Tryz.prog.fld 47 3 = some (3, 1, false) := by kernel_rfl
@[simp] theorem str_47 : Tryz.prog.strOk 47 = true := by kernel_rfl
@[simp] theorem ifc_47 : isIfcT Tryz.prog 47 = some false := by kernel_rfl
@[simp] theorem map_47 : Tryz.prog.isMap 47 = false := by kernel_rfl
@[simp] theorem ptr_47 : Tryz.prog.ptrT 47 = some none := by kernel_rfl
@[simp] theorem ztup_47 : zeroTup Tryz.prog 47 = some (.tup [(true, [.d (.v (.pointer none)), .d (.v (.pointer none)), .d (.v (.pointer none)), .d (.v (.pointer none))]), (false, [.d (.v (.bool false))])]) := by kernel_rfl
@[simp] theorem app_47 : Tryz.prog.appOk 47 = true := by kernel_rfl
@[simp] theorem lay_57 : Tryz.prog.lay 57 = some (1, false) := by kernel_rfl
@[simp] theorem cells_57 : Tryz.prog.cellsOf 57 = 1 := by kernel_rfl
@[simp] theorem info_57 : (Tryz.prog.info? 57).isSome = true := by kernel_rfl
@[simp] theorem bytes_57 : Tryz.prog.bytesOf 57 = 24 := by kernel_rfl
@[simp] theorem ctys_57 : ctys Tryz.prog 57 = [some 67] := by kernel_rfl
@[simp] theorem conc_57 : Tryz.prog.concrete 57 = true := by kernel_rfl
@[simp] theorem zero_57 : zeroCs Tryz.prog 57 = some [.d (.v (.slice none 0 0))] := by kernel_rfl
@[simp] theorem ifc_57 : isIfcT Tryz.prog 57 = some false := by kernel_rfl
@[simp] theorem map_57 : Tryz.prog.isMap 57 = false := by kernel_rfl
@[simp] theorem ptr_57 : Tryz.prog.ptrT 57 = some none := by kernel_rfl
@[simp] theorem ztup_57 : zeroTup Tryz.prog 57 = some (.tup [(false, [.d (.v (.slice none 0 0))]), (false, [.d (.v (.bool false))])]) := by kernel_rfl
@[simp] theorem app_57 : Tryz.prog.appOk 57 = true := by kernel_rfl
@[simp] theorem elem_57 : Tryz.prog.elemT 57 = some 67 := by kernel_rfl
@[simp] theorem und_57 : Tryz.prog.underlying 57 = some (.slice 67) := by kernel_rfl
@[simp] theorem lay_60 : Tryz.prog.lay 60 = some (1, false) := by kernel_rfl
@[simp] theorem cells_60 : Tryz.prog.cellsOf 60 = 1 := by kernel_rfl
@[simp] theorem info_60 : (Tryz.prog.info? 60).isSome = true := by kernel_rfl
@[simp] theorem bytes_60 : Tryz.prog.bytesOf 60 = 16 := by kernel_rfl
@[simp] theorem ctys_60 : ctys Tryz.prog 60 = [none] := by kernel_rfl
@[simp] theorem zero_60 : zeroCs Tryz.prog 60 = some [.d (.v (.nilIface))] := by kernel_rfl
@[simp] theorem ifc_60 : isIfcT Tryz.prog 60 = some true := by kernel_rfl
@[simp] theorem map_60 : Tryz.prog.isMap 60 = false := by kernel_rfl
@[simp] theorem app_60 : Tryz.prog.appOk 60 = true := by kernel_rfl
@[simp] theorem fld_66_0 : Tryz.prog.fld 66 0 = some (0, 1, false) := by kernel_rfl
@[simp] theorem fld_66_1 : Tryz.prog.fld 66 1 = some (1, 1, false) := by kernel_rfl
@[simp] theorem lay_67 : Tryz.prog.lay 67 = some (2, true) := by kernel_rfl
@[simp] theorem cells_67 : Tryz.prog.cellsOf 67 = 2 := by kernel_rfl
@[simp] theorem info_67 : (Tryz.prog.info? 67).isSome = true := by kernel_rfl
@[simp] theorem bytes_67 : Tryz.prog.bytesOf 67 = 32 := by kernel_rfl
@[simp] theorem ctys_67 : ctys Tryz.prog 67 = [none, none] := by kernel_rfl
@[simp] theorem conc_67 : Tryz.prog.concrete 67 = true := by kernel_rfl
@[simp] theorem zero_67 : zeroCs Tryz.prog 67 = some [.d (.v (.string ⟨#[]⟩)), .d (.v (.nilIface))] := by kernel_rfl
@[simp] theorem fld_67_0 : Tryz.prog.fld 67 0 = some (0, 1, false) := by kernel_rfl
@[simp] theorem fld_67_1 : Tryz.prog.fld 67 1 = some (1, 1, false) := by kernel_rfl
@[simp] theorem str_67 : Tryz.prog.strOk 67 = true := by kernel_rfl
@[simp] theorem ifc_67 : isIfcT Tryz.prog 67 = some false := by kernel_rfl
@[simp] theorem map_67 : Tryz.prog.isMap 67 = false := by kernel_rfl
@[simp] theorem ptr_67 : Tryz.prog.ptrT 67 = some none := by kernel_rfl
@[simp] theorem ztup_67 : zeroTup Tryz.prog 67 = some (.tup [(true, [.d (.v (.string ⟨#[]⟩)), .d (.v (.nilIface))]), (false, [.d (.v (.bool false))])]) := by kernel_rfl
@[simp] theorem app_67 : Tryz.prog.appOk 67 = true := by kernel_rfl
@[simp] theorem lay_71 : Tryz.prog.lay 71 = some (1, false) := by kernel_rfl
@[simp] theorem cells_71 : Tryz.prog.cellsOf 71 = 1 := by kernel_rfl
@[simp] theorem info_71 : (Tryz.prog.info? 71).isSome = true := by kernel_rfl
@[simp] theorem bytes_71 : Tryz.prog.bytesOf 71 = 8 := by kernel_rfl
@[simp] theorem ctys_71 : ctys Tryz.prog 71 = [none] := by kernel_rfl
@[simp] theorem conc_71 : Tryz.prog.concrete 71 = true := by kernel_rfl
@[simp] theorem zero_71 : zeroCs Tryz.prog 71 = some [.d (.v (.pointer none))] := by kernel_rfl
@[simp] theorem ifc_71 : isIfcT Tryz.prog 71 = some false := by kernel_rfl
@[simp] theorem map_71 : Tryz.prog.isMap 71 = false := by kernel_rfl
@[simp] theorem ptr_71 : Tryz.prog.ptrT 71 = some (some 73) := by kernel_rfl
@[simp] theorem ztup_71 : zeroTup Tryz.prog 71 = some (.tup [(false, [.d (.v (.pointer none))]), (false, [.d (.v (.bool false))])]) := by kernel_rfl
@[simp] theorem app_71 : Tryz.prog.appOk 71 = true := by kernel_rfl
@[simp] theorem und_71 : Tryz.prog.underlying 71 = some (.pointer 73) := by kernel_rfl
@[simp] theorem lay_73 : Tryz.prog.lay 73 = some (0, true) := by kernel_rfl
@[simp] theorem cells_73 : Tryz.prog.cellsOf 73 = 0 := by kernel_rfl
@[simp] theorem info_73 : (Tryz.prog.info? 73).isSome = true := by kernel_rfl
@[simp] theorem bytes_73 : Tryz.prog.bytesOf 73 = 0 := by kernel_rfl
@[simp] theorem ctys_73 : ctys Tryz.prog 73 = [] := by kernel_rfl
@[simp] theorem conc_73 : Tryz.prog.concrete 73 = true := by kernel_rfl
@[simp] theorem zero_73 : zeroCs Tryz.prog 73 = some [] := by kernel_rfl
@[simp] theorem str_73 : Tryz.prog.strOk 73 = true := by kernel_rfl
@[simp] theorem ifc_73 : isIfcT Tryz.prog 73 = some false := by kernel_rfl
@[simp] theorem map_73 : Tryz.prog.isMap 73 = false := by kernel_rfl
@[simp] theorem ptr_73 : Tryz.prog.ptrT 73 = some none := by kernel_rfl
@[simp] theorem ztup_73 : zeroTup Tryz.prog 73 = some (.tup [(true, []), (false, [.d (.v (.bool false))])]) := by kernel_rfl
@[simp] theorem lay_78 : Tryz.prog.lay 78 = some (1, false) := by kernel_rfl
@[simp] theorem cells_78 : Tryz.prog.cellsOf 78 = 1 := by kernel_rfl
@[simp] theorem info_78 : (Tryz.prog.info? 78).isSome = true := by kernel_rfl
@[simp] theorem bytes_78 : Tryz.prog.bytesOf 78 = 8 := by kernel_rfl
@[simp] theorem ctys_78 : ctys Tryz.prog 78 = [none] := by kernel_rfl
@[simp] theorem conc_78 : Tryz.prog.concrete 78 = true := by kernel_rfl
@[simp] theorem zero_78 : zeroCs Tryz.prog 78 = some [.d (.v (.pointer none))] := by kernel_rfl
@[simp] theorem ifc_78 : isIfcT Tryz.prog 78 = some false := by kernel_rfl
@[simp] theorem map_78 : Tryz.prog.isMap 78 = false := by kernel_rfl
@[simp] theorem ptr_78 : Tryz.prog.ptrT 78 = some (some 101) := by kernel_rfl
@[simp] theorem ztup_78 : zeroTup Tryz.prog 78 = some (.tup [(false, [.d (.v (.pointer none))]), (false, [.d (.v (.bool false))])]) := by kernel_rfl
@[simp] theorem app_78 : Tryz.prog.appOk 78 = true := by kernel_rfl
@[simp] theorem und_78 : Tryz.prog.underlying 78 = some (.pointer 101) := by kernel_rfl
@[simp] theorem lay_80 : Tryz.prog.lay 80 = some (1, false) := by kernel_rfl
@[simp] theorem cells_80 : Tryz.prog.cellsOf 80 = 1 := by kernel_rfl
@[simp] theorem info_80 : (Tryz.prog.info? 80).isSome = true := by kernel_rfl
@[simp] theorem bytes_80 : Tryz.prog.bytesOf 80 = 24 := by kernel_rfl
@[simp] theorem ctys_80 : ctys Tryz.prog 80 = [some 20] := by kernel_rfl
@[simp] theorem conc_80 : Tryz.prog.concrete 80 = true := by kernel_rfl
@[simp] theorem zero_80 : zeroCs Tryz.prog 80 = some [.d (.v (.slice none 0 0))] := by kernel_rfl
@[simp] theorem ifc_80 : isIfcT Tryz.prog 80 = some false := by kernel_rfl
@[simp] theorem map_80 : Tryz.prog.isMap 80 = false := by kernel_rfl
@[simp] theorem ptr_80 : Tryz.prog.ptrT 80 = some none := by kernel_rfl
@[simp] theorem ztup_80 : zeroTup Tryz.prog 80 = some (.tup [(false, [.d (.v (.slice none 0 0))]), (false, [.d (.v (.bool false))])]) := by kernel_rfl
@[simp] theorem app_80 : Tryz.prog.appOk 80 = true := by kernel_rfl
@[simp] theorem elem_80 : Tryz.prog.elemT 80 = some 20 := by kernel_rfl
@[simp] theorem und_80 : Tryz.prog.underlying 80 = some (.slice 20) := by kernel_rfl
@[simp] theorem lay_81 : Tryz.prog.lay 81 = some (1, false) := by kernel_rfl
@[simp] theorem cells_81 : Tryz.prog.cellsOf 81 = 1 := by kernel_rfl
@[simp] theorem info_81 : (Tryz.prog.info? 81).isSome = true := by kernel_rfl
@[simp] theorem bytes_81 : Tryz.prog.bytesOf 81 = 8 := by kernel_rfl
@[simp] theorem ctys_81 : ctys Tryz.prog 81 = [none] := by kernel_rfl
@[simp] theorem conc_81 : Tryz.prog.concrete 81 = true := by kernel_rfl
@[simp] theorem zero_81 : zeroCs Tryz.prog 81 = some [.d (.v (.map none))] := by kernel_rfl
@[simp] theorem ifc_81 : isIfcT Tryz.prog 81 = some false := by kernel_rfl
@[simp] theorem map_81 : Tryz.prog.isMap 81 = true := by kernel_rfl
@[simp] theorem ptr_81 : Tryz.prog.ptrT 81 = some none := by kernel_rfl
@[simp] theorem ztup_81 : zeroTup Tryz.prog 81 = some (.tup [(false, [.d (.v (.map none))]), (false, [.d (.v (.bool false))])]) := by kernel_rfl
@[simp] theorem app_81 : Tryz.prog.appOk 81 = true := by kernel_rfl
@[simp] theorem lay_84 : Tryz.prog.lay 84 = some (1, false) := by kernel_rfl
@[simp] theorem cells_84 : Tryz.prog.cellsOf 84 = 1 := by kernel_rfl
@[simp] theorem info_84 : (Tryz.prog.info? 84).isSome = true := by kernel_rfl
@[simp] theorem bytes_84 : Tryz.prog.bytesOf 84 = 16 := by kernel_rfl
@[simp] theorem ctys_84 : ctys Tryz.prog 84 = [none] := by kernel_rfl
@[simp] theorem zero_84 : zeroCs Tryz.prog 84 = some [.d (.v (.nilIface))] := by kernel_rfl
@[simp] theorem ifc_84 : isIfcT Tryz.prog 84 = some true := by kernel_rfl
@[simp] theorem map_84 : Tryz.prog.isMap 84 = false := by kernel_rfl
@[simp] theorem app_84 : Tryz.prog.appOk 84 = true := by kernel_rfl
@[simp] theorem lay_91 : Tryz.prog.lay 91 = some (1, false) := by kernel_rfl
@[simp] theorem cells_91 : Tryz.prog.cellsOf 91 = 1 := by kernel_rfl
@[simp] theorem info_91 : (Tryz.prog.info? 91).isSome = true := by kernel_rfl
@[simp] theorem bytes_91 : Tryz.prog.bytesOf 91 = 16 := by kernel_rfl
@[simp] theorem ctys_91 : ctys Tryz.prog 91 = [none] := by kernel_rfl
@[simp] theorem zero_91 : zeroCs Tryz.prog 91 = some [.d (.v (.nilIface))] := by kernel_rfl
@[simp] theorem ifc_91 : isIfcT Tryz.prog 91 = some true := by kernel_rfl
@[simp] theorem map_91 : Tryz.prog.isMap 91 = false := by kernel_rfl
@[simp] theorem app_91 : Tryz.prog.appOk 91 = true := by kernel_rfl
@[simp] theorem lay_96 : Tryz.prog.lay 96 = some (1, false) := by kernel_rfl
@[simp] theorem cells_96 : Tryz.prog.cellsOf 96 = 1 := by kernel_rfl
@[simp] theorem info_96 : (Tryz.prog.info? 96).isSome = true := by kernel_rfl
@[simp] theorem bytes_96 : Tryz.prog.bytesOf 96 = 16 := by kernel_rfl
@[simp] theorem ctys_96 : ctys Tryz.prog 96 = [none] := by kernel_rfl
@[simp] theorem zero_96 : zeroCs Tryz.prog 96 = some [.d (.v (.nilIface))] := by kernel_rfl
@[simp] theorem ifc_96 : isIfcT Tryz.prog 96 = some true := by kernel_rfl
@[simp] theorem map_96 : Tryz.prog.isMap 96 = false := by kernel_rfl
@[simp] theorem app_96 : Tryz.prog.appOk 96 = true := by kernel_rfl
@[simp] theorem fld_100_0 : Tryz.prog.fld 100 0 = some (0, 1, false) := by kernel_rfl
@[simp] theorem lay_101 : Tryz.prog.lay 101 = some (1, true) := by kernel_rfl
@[simp] theorem cells_101 : Tryz.prog.cellsOf 101 = 1 := by kernel_rfl
@[simp] theorem info_101 : (Tryz.prog.info? 101).isSome = true := by kernel_rfl
@[simp] theorem bytes_101 : Tryz.prog.bytesOf 101 = 16 := by kernel_rfl
@[simp] theorem ctys_101 : ctys Tryz.prog 101 = [none] := by kernel_rfl
@[simp] theorem conc_101 : Tryz.prog.concrete 101 = true := by kernel_rfl
@[simp] theorem zero_101 : zeroCs Tryz.prog 101 = some [.d (.v (.nilIface))] := by kernel_rfl
@[simp] theorem fld_101_0 : Tryz.prog.fld 101 0 = some (0, 1, false) := by kernel_rfl
@[simp] theorem str_101 : Tryz.prog.strOk 101 = true := by kernel_rfl
@[simp] theorem ifc_101 : isIfcT Tryz.prog 101 = some false := by kernel_rfl
@[simp] theorem map_101 : Tryz.prog.isMap 101 = false := by kernel_rfl
@[simp] theorem ptr_101 : Tryz.prog.ptrT 101 = some none := by kernel_rfl
@[simp] theorem ztup_101 : zeroTup Tryz.prog 101 = some (.tup [(true, [.d (.v (.nilIface))]), (false, [.d (.v (.bool false))])]) := by kernel_rfl
@[simp] theorem app_101 : Tryz.prog.appOk 101 = true := by kernel_rfl
@[simp] theorem lay_109 : Tryz.prog.lay 109 = some (1, false) := by kernel_rfl
@[simp] theorem cells_109 : Tryz.prog.cellsOf 109 = 1 := by kernel_rfl
@[simp] theorem info_109 : (Tryz.prog.info? 109).isSome = true := by kernel_rfl
@[simp] theorem bytes_109 : Tryz.prog.bytesOf 109 = 8 := by kernel_rfl
@[simp] theorem ctys_109 : ctys Tryz.prog 109 = [none] := by kernel_rfl
@[simp] theorem conc_109 : Tryz.prog.concrete 109 = true := by kernel_rfl
@[simp] theorem zero_109 : zeroCs Tryz.prog 109 = some [.d (.v (.int .i64 0))] := by kernel_rfl
@[simp] theorem ifc_109 : isIfcT Tryz.prog 109 = some false := by kernel_rfl
@[simp] theorem map_109 : Tryz.prog.isMap 109 = false := by kernel_rfl
@[simp] theorem ptr_109 : Tryz.prog.ptrT 109 = some none := by kernel_rfl
@[simp] theorem ztup_109 : zeroTup Tryz.prog 109 = some (.tup [(false, [.d (.v (.int .i64 0))]), (false, [.d (.v (.bool false))])]) := by kernel_rfl
@[simp] theorem app_109 : Tryz.prog.appOk 109 = true := by kernel_rfl
@[simp] theorem und_109 : Tryz.prog.underlying 109 = some (.int .i64) := by kernel_rfl
@[simp] theorem fld_114_0 : Tryz.prog.fld 114 0 = some (0, 1, false) := by kernel_rfl
@[simp] theorem fld_114_1 : Tryz.prog.fld 114 1 = some (1, 1, false) := by kernel_rfl
@[simp] theorem fld_114_2 : Tryz.prog.fld 114 2 = some (2, 1, false) := by kernel_rfl
@[simp] theorem fld_114_3 : Tryz.prog.fld 114 3 = some (3, 1, false) := by kernel_rfl
@[simp] theorem fld_115_0 : Tryz.prog.fld 115 0 = some (0, 1, false) := by kernel_rfl
@[simp] theorem fld_115_1 : Tryz.prog.fld 115 1 = some (1, 1, false) := by kernel_rfl
@[simp] theorem fld_115_2 : Tryz.prog.fld 115 2 = some (2, 1, false) := by kernel_rfl
@[simp] theorem fld_115_3 : Tryz.prog.fld 115 3 = some (3, 1, false) := by kernel_rfl
@[simp] theorem lay_119 : Tryz.prog.lay 119 = some (1, false) := by kernel_rfl
@[simp] theorem cells_119 : Tryz.prog.cellsOf 119 = 1 := by kernel_rfl
@[simp] theorem info_119 : (Tryz.prog.info? 119).isSome = true := by kernel_rfl
@[simp] theorem bytes_119 : Tryz.prog.bytesOf 119 = 4 := by kernel_rfl
@[simp] theorem ctys_119 : ctys Tryz.prog 119 = [none] := by kernel_rfl
@[simp] theorem conc_119 : Tryz.prog.concrete 119 = true := by kernel_rfl
@[simp] theorem zero_119 : zeroCs Tryz.prog 119 = some [.d (.v (.int .u32 0))] := by kernel_rfl
@[simp] theorem ifc_119 : isIfcT Tryz.prog 119 = some false := by kernel_rfl
@[simp] theorem map_119 : Tryz.prog.isMap 119 = false := by kernel_rfl
@[simp] theorem ptr_119 : Tryz.prog.ptrT 119 = some none := by kernel_rfl
@[simp] theorem ztup_119 : zeroTup Tryz.prog 119 = some (.tup [(false, [.d (.v (.int .u32 0))]), (false, [.d (.v (.bool false))])]) := by kernel_rfl
@[simp] theorem app_119 : Tryz.prog.appOk 119 = true := by kernel_rfl
@[simp] theorem und_119 : Tryz.prog.underlying 119 = some (.int .u32) := by kernel_rfl
@[simp] theorem fld_126_0 : Tryz.prog.fld 126 0 = some (0, 1, false) := by kernel_rfl
@[simp] theorem fld_126_1 : Tryz.prog.fld 126 1 = some (1, 1, false) := by kernel_rfl
@[simp] theorem fld_126_2 : Tryz.prog.fld 126 2 = some (2, 1, false) := by kernel_rfl
@[simp] theorem fld_126_3 : Tryz.prog.fld 126 3 = some (3, 1, false) := by kernel_rfl
@[simp] theorem fld_126_4 : Tryz.prog.fld 126 4 = some (4, 1, false) := by kernel_rfl
@[simp] theorem fld_126_5 : Tryz.prog.fld 126 5 = some (5, 1, false) := by kernel_rfl
@[simp] theorem fld_126_9 : Tryz.prog.fld 126 9 = some (9, 1, false) := by kernel_rfl
@[simp] theorem fld_127_0 : Tryz.prog.fld 127 0 = some (0, 1, false) := by kernel_rfl
@[simp] theorem fld_127_1 : Tryz.prog.fld 127 1 = some (1, 1, false) := by kernel_rfl
@[simp] theorem fld_127_2 : Tryz.prog.fld 127 2 = some (2, 1, false) := by kernel_rfl
@[simp] theorem fld_127_3 : Tryz.prog.fld 127 3 = some (3, 1, false) := by kernel_rfl
@[simp] theorem fld_127_4 : Tryz.prog.fld 127 4 = some (4, 1, false) := by kernel_rfl
@[simp] theorem fld_127_5 : Tryz.prog.fld 127 5 = some (5, 1, false) := by kernel_rfl
@[simp] theorem fld_127_9 : Tryz.prog.fld 127 9 = some (9, 1, false) := by kernel_rfl
@[simp] theorem lay_133 : Tryz.prog.lay 133 = some (1, false) := by kernel_rfl
@[simp] theorem cells_133 : Tryz.prog.cellsOf 133 = 1 := by kernel_rfl
@[simp] theorem info_133 : (Tryz.prog.info? 133).isSome = true := by kernel_rfl
@[simp] theorem bytes_133 : Tryz.prog.bytesOf 133 = 4 := by kernel_rfl
@[simp] theorem ctys_133 : ctys Tryz.prog 133 = [none] := by kernel_rfl
@[simp] theorem conc_133 : Tryz.prog.concrete 133 = true := by kernel_rfl
@[simp] theorem zero_133 : zeroCs Tryz.prog 133 = some [.d (.v (.float .f32 0))] := by kernel_rfl
@[simp] theorem ifc_133 : isIfcT Tryz.prog 133 = some false := by kernel_rfl
@[simp] theorem map_133 : Tryz.prog.isMap 133 = false := by kernel_rfl
@[simp] theorem ptr_133 : Tryz.prog.ptrT 133 = some none := by kernel_rfl
@[simp] theorem ztup_133 : zeroTup Tryz.prog 133 = some (.tup [(false, [.d (.v (.float .f32 0))]), (false, [.d (.v (.bool false))])]) := by kernel_rfl
@[simp] theorem app_133 : Tryz.prog.appOk 133 = true := by kernel_rfl
@[simp] theorem und_133 : Tryz.prog.underlying 133 = some (.float .f32) := by kernel_rfl
@[simp] theorem lay_135 : Tryz.prog.lay 135 = some (1, false) := by kernel_rfl
@[simp] theorem cells_135 : Tryz.prog.cellsOf 135 = 1 := by kernel_rfl
@[simp] theorem info_135 : (Tryz.prog.info? 135).isSome = true := by kernel_rfl
@[simp] theorem bytes_135 : Tryz.prog.bytesOf 135 = 1 := by kernel_rfl
@[simp] theorem ctys_135 : ctys Tryz.prog 135 = [none] := by kernel_rfl
@[simp] theorem conc_135 : Tryz.prog.concrete 135 = true := by kernel_rfl
@[simp] theorem zero_135 : zeroCs Tryz.prog 135 = some [.d (.v (.int .i8 0))] := by kernel_rfl
@[simp] theorem ifc_135 : isIfcT Tryz.prog 135 = some false := by kernel_rfl
@[simp] theorem map_135 : Tryz.prog.isMap 135 = false := by kernel_rfl
@[simp] theorem ptr_135 : Tryz.prog.ptrT 135 = some none := by kernel_rfl
@[simp] theorem ztup_135 : zeroTup Tryz.prog 135 = some (.tup [(false, [.d (.v (.int .i8 0))]), (false, [.d (.v (.bool false))])]) := by kernel_rfl
@[simp] theorem app_135 : Tryz.prog.appOk 135 = true := by kernel_rfl
@[simp] theorem und_135 : Tryz.prog.underlying 135 = some (.int .i8) := by kernel_rfl
@[simp] theorem lay_137 : Tryz.prog.lay 137 = some (1, false) := by kernel_rfl
@[simp] theorem cells_137 : Tryz.prog.cellsOf 137 = 1 := by kernel_rfl
@[simp] theorem info_137 : (Tryz.prog.info? 137).isSome = true := by kernel_rfl
@[simp] theorem bytes_137 : Tryz.prog.bytesOf 137 = 2 := by kernel_rfl
@[simp] theorem ctys_137 : ctys Tryz.prog 137 = [none] := by kernel_rfl
@[simp] theorem conc_137 : Tryz.prog.concrete 137 = true := by kernel_rfl
@[simp] theorem zero_137 : zeroCs Tryz.prog 137 = some [.d (.v (.int .i16 0))] := by kernel_rfl
@[simp] theorem ifc_137 : isIfcT Tryz.prog 137 = some false := by kernel_rfl
@[simp] theorem map_137 : Tryz.prog.isMap 137 = false := by kernel_rfl
@[simp] theorem ptr_137 : Tryz.prog.ptrT 137 = some none := by kernel_rfl
@[simp] theorem ztup_137 : zeroTup Tryz.prog 137 = some (.tup [(false, [.d (.v (.int .i16 0))]), (false, [.d (.v (.bool false))])]) := by kernel_rfl
@[simp] theorem app_137 : Tryz.prog.appOk 137 = true := by kernel_rfl
@[simp] theorem und_137 : Tryz.prog.underlying 137 = some (.int .i16) := by kernel_rfl
@[simp] theorem lay_140 : Tryz.prog.lay 140 = some (1, false) := by kernel_rfl
@[simp] theorem cells_140 : Tryz.prog.cellsOf 140 = 1 := by kernel_rfl
@[simp] theorem info_140 : (Tryz.prog.info? 140).isSome = true := by kernel_rfl
@[simp] theorem bytes_140 : Tryz.prog.bytesOf 140 = 8 := by kernel_rfl
@[simp] theorem ctys_140 : ctys Tryz.prog 140 = [none] := by kernel_rfl
@[simp] theorem conc_140 : Tryz.prog.concrete 140 = true := by kernel_rfl
@[simp] theorem zero_140 : zeroCs Tryz.prog 140 = some [.d (.v (.int .u64 0))] := by kernel_rfl
@[simp] theorem ifc_140 : isIfcT Tryz.prog 140 = some false := by kernel_rfl
@[simp] theorem map_140 : Tryz.prog.isMap 140 = false := by kernel_rfl
@[simp] theorem ptr_140 : Tryz.prog.ptrT 140 = some none := by kernel_rfl
@[simp] theorem ztup_140 : zeroTup Tryz.prog 140 = some (.tup [(false, [.d (.v (.int .u64 0))]), (false, [.d (.v (.bool false))])]) := by kernel_rfl
@[simp] theorem app_140 : Tryz.prog.appOk 140 = true := by kernel_rfl
@[simp] theorem und_140 : Tryz.prog.underlying 140 = some (.int .u64) := by kernel_rfl
@[simp] theorem lay_143 : Tryz.prog.lay 143 = some (1, false) := by kernel_rfl
@[simp] theorem cells_143 : Tryz.prog.cellsOf 143 = 1 := by kernel_rfl
@[simp] theorem info_143 : (Tryz.prog.info? 143).isSome = true := by kernel_rfl
@[simp] theorem bytes_143 : Tryz.prog.bytesOf 143 = 2 := by kernel_rfl
@[simp] theorem ctys_143 : ctys Tryz.prog 143 = [none] := by kernel_rfl
@[simp] theorem conc_143 : Tryz.prog.concrete 143 = true := by kernel_rfl
@[simp] theorem zero_143 : zeroCs Tryz.prog 143 = some [.d (.v (.int .u16 0))] := by kernel_rfl
@[simp] theorem ifc_143 : isIfcT Tryz.prog 143 = some false := by kernel_rfl
@[simp] theorem map_143 : Tryz.prog.isMap 143 = false := by kernel_rfl
@[simp] theorem ptr_143 : Tryz.prog.ptrT 143 = some none := by kernel_rfl
@[simp] theorem ztup_143 : zeroTup Tryz.prog 143 = some (.tup [(false, [.d (.v (.int .u16 0))]), (false, [.d (.v (.bool false))])]) := by kernel_rfl
@[simp] theorem app_143 : Tryz.prog.appOk 143 = true := by kernel_rfl
@[simp] theorem und_143 : Tryz.prog.underlying 143 = some (.int .u16) := by kernel_rfl
@[simp] theorem lay_146 : Tryz.prog.lay 146 = some (1, false) := by kernel_rfl
@[simp] theorem cells_146 : Tryz.prog.cellsOf 146 = 1 := by kernel_rfl
@[simp] theorem info_146 : (Tryz.prog.info? 146).isSome = true := by kernel_rfl
@[simp] theorem bytes_146 : Tryz.prog.bytesOf 146 = 24 := by kernel_rfl
@[simp] theorem ctys_146 : ctys Tryz.prog 146 = [some 20] := by kernel_rfl
@[simp] theorem conc_146 : Tryz.prog.concrete 146 = true := by kernel_rfl
@[simp] theorem zero_146 : zeroCs Tryz.prog 146 = some [.d (.v (.slice none 0 0))] := by kernel_rfl
@[simp] theorem ifc_146 : isIfcT Tryz.prog 146 = some false := by kernel_rfl
@[simp] theorem map_146 : Tryz.prog.isMap 146 = false := by kernel_rfl
@[simp] theorem ptr_146 : Tryz.prog.ptrT 146 = some none := by kernel_rfl
@[simp] theorem ztup_146 : zeroTup Tryz.prog 146 = some (.tup [(false, [.d (.v (.slice none 0 0))]), (false, [.d (.v (.bool false))])]) := by kernel_rfl
@[simp] theorem app_146 : Tryz.prog.appOk 146 = true := by kernel_rfl
@[simp] theorem elem_146 : Tryz.prog.elemT 146 = some 20 := by kernel_rfl
@[simp] theorem und_146 : Tryz.prog.underlying 146 = some (.slice 20) := by kernel_rfl
@[simp] theorem lay_147 : Tryz.prog.lay 147 = some (1, false) := by kernel_rfl
@[simp] theorem cells_147 : Tryz.prog.cellsOf 147 = 1 := by kernel_rfl
@[simp] theorem info_147 : (Tryz.prog.info? 147).isSome = true := by kernel_rfl
@[simp] theorem bytes_147 : Tryz.prog.bytesOf 147 = 8 := by kernel_rfl
@[simp] theorem ctys_147 : ctys Tryz.prog 147 = [none] := by kernel_rfl
@[simp] theorem conc_147 : Tryz.prog.concrete 147 = true := by kernel_rfl
@[simp] theorem zero_147 : zeroCs Tryz.prog 147 = some [.d (.v (.map none))] := by kernel_rfl
@[simp] theorem ifc_147 : isIfcT Tryz.prog 147 = some false := by kernel_rfl
@[simp] theorem map_147 : Tryz.prog.isMap 147 = true := by kernel_rfl
@[simp] theorem ptr_147 : Tryz.prog.ptrT 147 = some none := by kernel_rfl
@[simp] theorem ztup_147 : zeroTup Tryz.prog 147 = some (.tup [(false, [.d (.v (.map none))]), (false, [.d (.v (.bool false))])]) := by kernel_rfl
@[simp] theorem app_147 : Tryz.prog.appOk 147 = true := by kernel_rfl
@[simp] theorem lay_171 : Tryz.prog.lay 171 = some (1, false) := by kernel_rfl
@[simp] theorem cells_171 : Tryz.prog.cellsOf 171 = 1 := by kernel_rfl
@[simp] theorem info_171 : (Tryz.prog.info? 171).isSome = true := by kernel_rfl
@[simp] theorem bytes_171 : Tryz.prog.bytesOf 171 = 8 := by kernel_rfl
@[simp] theorem ctys_171 : ctys Tryz.prog 171 = [none] := by kernel_rfl
@[simp] theorem conc_171 : Tryz.prog.concrete 171 = true := by kernel_rfl
@[simp] theorem zero_171 : zeroCs Tryz.prog 171 = some [.d (.v (.pointer none))] := by kernel_rfl
@[simp] theorem ifc_171 : isIfcT Tryz.prog 171 = some false := by kernel_rfl
@[simp] theorem map_171 : Tryz.prog.isMap 171 = false := by kernel_rfl
@[simp] theorem ptr_171 : Tryz.prog.ptrT 171 = some (some 172) := by kernel_rfl
@[simp] theorem ztup_171 : zeroTup Tryz.prog 171 = some (.tup [(false, [.d (.v (.pointer none))]), (false, [.d (.v (.bool false))])]) := by kernel_rfl
@[simp] theorem app_171 : Tryz.prog.appOk 171 = true := by kernel_rfl
@[simp] theorem und_171 : Tryz.prog.underlying 171 = some (.pointer 172) := by kernel_rfl
@[simp] theorem lay_172 : Tryz.prog.lay 172 = some (0, true) := by kernel_rfl
@[simp] theorem cells_172 : Tryz.prog.cellsOf 172 = 0 := by kernel_rfl
@[simp] theorem info_172 : (Tryz.prog.info? 172).isSome = true := by kernel_rfl
@[simp] theorem bytes_172 : Tryz.prog.bytesOf 172 = 0 := by kernel_rfl
@[simp] theorem ctys_172 : ctys Tryz.prog 172 = [] := by kernel_rfl
@[simp] theorem conc_172 : Tryz.prog.concrete 172 = true := by kernel_rfl
@[simp] theorem zero_172 : zeroCs Tryz.prog 172 = some [] := by kernel_rfl
@[simp] theorem str_172 : Tryz.prog.strOk 172 = true := by kernel_rfl
@[simp] theorem ifc_172 : isIfcT Tryz.prog 172 = some false := by kernel_rfl
@[simp] theorem map_172 : Tryz.prog.isMap 172 = false := by kernel_rfl
@[simp] theorem ptr_172 : Tryz.prog.ptrT 172 = some none := by kernel_rfl
@[simp] theorem ztup_172 : zeroTup Tryz.prog 172 = some (.tup [(true, []), (false, [.d (.v (.bool false))])]) := by kernel_rfl
@[simp] theorem lay_173 : Tryz.prog.lay 173 = some (1, false) := by kernel_rfl
@[simp] theorem cells_173 : Tryz.prog.cellsOf 173 = 1 := by kernel_rfl
@[simp] theorem info_173 : (Tryz.prog.info? 173).isSome = true := by kernel_rfl
@[simp] theorem bytes_173 : Tryz.prog.bytesOf 173 = 8 := by kernel_rfl
@[simp] theorem ctys_173 : ctys Tryz.prog 173 = [none] := by kernel_rfl
@[simp] theorem conc_173 : Tryz.prog.concrete 173 = true := by kernel_rfl
@[simp] theorem zero_173 : zeroCs Tryz.prog 173 = some [.d (.v (.pointer none))] := by kernel_rfl
@[simp] theorem ifc_173 : isIfcT Tryz.prog 173 = some false := by kernel_rfl
@[simp] theorem map_173 : Tryz.prog.isMap 173 = false := by kernel_rfl
@[simp] theorem ptr_173 : Tryz.prog.ptrT 173 = some (some 175) := by kernel_rfl
@[simp] theorem ztup_173 : zeroTup Tryz.prog 173 = some (.tup [(false, [.d (.v (.pointer none))]), (false, [.d (.v (.bool false))])]) := by kernel_rfl
@[simp] theorem app_173 : Tryz.prog.appOk 173 = true := by kernel_rfl
@[simp] theorem und_173 : Tryz.prog.underlying 173 = some (.pointer 175) := by kernel_rfl
@[simp] theorem fld_174_0 : Tryz.prog.fld 174 0 = some (0, 1, false) := by kernel_rfl
@[simp] theorem fld_174_1 : Tryz.prog.fld 174 1 = some (1, 1, false) := by kernel_rfl
@[simp] theorem fld_174_2 : Tryz.prog.fld 174 2 = some (2, 1, false) := by kernel_rfl
@[simp] theorem lay_175 : Tryz.prog.lay 175 = some (3, true) := by kernel_rfl
@[simp] theorem cells_175 : Tryz.prog.cellsOf 175 = 3 := by kernel_rfl
@[simp] theorem info_175 : (Tryz.prog.info? 175).isSome = true := by kernel_rfl
@[simp] theorem bytes_175 : Tryz.prog.bytesOf 175 = 40 := by kernel_rfl
@[simp] theorem ctys_175 : ctys Tryz.prog 175 = [some 20, none, none] := by kernel_rfl
@[simp] theorem conc_175 : Tryz.prog.concrete 175 = true := by kernel_rfl
@[simp] theorem zero_175 : zeroCs Tryz.prog 175 = some [.d (.v (.slice none 0 0)), .d (.v (.pointer none)), .d (.v (.int .i64 0))] := by kernel_rfl
@[simp] theorem fld_175_0 : Tryz.prog.fld 175 0 = some (0, 1, false) := by kernel_rfl
@[simp] theorem fld_175_1 : Tryz.prog.fld 175 1 = some (1, 1, false) := by kernel_rfl
@[simp] theorem fld_175_2 : Tryz.prog.fld 175 2 = some (2, 1, false) := by kernel_rfl
@[simp] theorem str_175 : Tryz.prog.strOk 175 = true := by kernel_rfl
@[simp] theorem ifc_175 : isIfcT Tryz.prog 175 = some false := by kernel_rfl
@[simp] theorem map_175 : Tryz.prog.isMap 175 = false := by kernel_rfl
@[simp] theorem ptr_175 : Tryz.prog.ptrT 175 = some none := by kernel_rfl
@[simp] theorem ztup_175 : zeroTup Tryz.prog 175 = some (.tup [(true, [.d (.v (.slice none 0 0)), .d (.v (.pointer none)), .d (.v (.int .i64 0))]), (false, [.d (.v (.bool false))])]) := by kernel_rfl
@[simp] theorem app_175 : Tryz.prog.appOk 175 = true := by kernel_rfl
end Go.Smd
end
