/- Part 13 of the proof: Ty Ak Ms. -/
import Derived.Test.YtannholebjdckaaQM08
import Derived.Test.YtannholebjdckaaQM11
import Derived.Test.YtannholebjdckaaQM10
import Derived.Test.YtannholebjdckaaQM09
import Derived.Test.YtannholebjdckaaQM03
import Derived.Test.YtannholebjdckaaQM12
set_option linter.unusedVariables false
section
set_option linter.unusedSimpArgs false
namespace Go.Smd
open Go.RowKit Go.Proofs
@[simp] theorem lay_2 : Try.prog.lay 2 = some (1, false) := by kernel_rfl
@[simp] theorem cells_2 : Try.prog.cellsOf 2 = 1 := by kernel_rfl
@[simp] theorem info_2 : (Try.prog.info? 2).isSome = true := by kernel_rfl
@[simp] theorem bytes_2 : Try.prog.bytesOf 2 = 8 := by kernel_rfl
@[simp] theorem ctys_2 : ctys Try.prog 2 = [none] := by kernel_rfl
@[simp] theorem conc_2 : Try.prog.concrete 2 = true := by kernel_rfl
@[simp] theorem zero_2 : zeroCs Try.prog 2 = some [.d (.v (.int .i64 0))] := by kernel_rfl
@[simp] theorem ifc_2 : isIfcT Try.prog 2 = some false := by kernel_rfl
@[simp] theorem map_2 : Try.prog.isMap 2 = false := by kernel_rfl
@[simp] theorem ptr_2 : Try.prog.ptrT 2 = some none := by kernel_rfl
@[simp] theorem ztup_2 : zeroTup Try.prog 2 = some (.tup [(false, [.d (.v (.int .i64 0))]), (false, [.d (.v (.bool false))])]) := by kernel_rfl
@[simp] theorem app_2 : Try.prog.appOk 2 = true := by kernel_rfl
@[simp] theorem und_2 : Try.prog.underlying 2 = some (.int .i64) := by kernel_rfl
@[simp] theorem lay_3 : Try.prog.lay 3 = some (1, false) := by kernel_rfl
@[simp] theorem cells_3 : Try.prog.cellsOf 3 = 1 := by kernel_rfl
@[simp] theorem info_3 : (Try.prog.info? 3).isSome = true := by kernel_rfl
@[simp] theorem bytes_3 : Try.prog.bytesOf 3 = 8 := by kernel_rfl
@[simp] theorem ctys_3 : ctys Try.prog 3 = [none] := by kernel_rfl
@[simp] theorem conc_3 : Try.prog.concrete 3 = true := by kernel_rfl
@[simp] theorem zero_3 : zeroCs Try.prog 3 = some [.d (.v (.int .i64 0))] := by kernel_rfl
@[simp] theorem ifc_3 : isIfcT Try.prog 3 = some false := by kernel_rfl
@[simp] theorem map_3 : Try.prog.isMap 3 = false := by kernel_rfl
@[simp] theorem ptr_3 : Try.prog.ptrT 3 = some none := by kernel_rfl
@[simp] theorem ztup_3 : zeroTup Try.prog 3 = some (.tup [(false, [.d (.v (.int .i64 0))]), (false, [.d (.v (.bool false))])]) := by kernel_rfl
@[simp] theorem app_3 : Try.prog.appOk 3 = true := by kernel_rfl
@[simp] theorem und_3 : Try.prog.underlying 3 = some (.int .i64) := by kernel_rfl
@[simp] theorem lay_4 : Try.prog.lay 4 = some (1, false) := by kernel_rfl
@[simp] theorem cells_4 : Try.prog.cellsOf 4 = 1 := by kernel_rfl
@[simp] theorem info_4 : (Try.prog.info? 4).isSome = true := by kernel_rfl
@[simp] theorem bytes_4 : Try.prog.bytesOf 4 = 1 := by kernel_rfl
@[simp] theorem ctys_4 : ctys Try.prog 4 = [none] := by kernel_rfl
@[simp] theorem conc_4 : Try.prog.concrete 4 = true := by kernel_rfl
@[simp] theorem zero_4 : zeroCs Try.prog 4 = some [.d (.v (.bool false))] := by kernel_rfl
@[simp] theorem ifc_4 : isIfcT Try.prog 4 = some false := by kernel_rfl
@[simp] theorem map_4 : Try.prog.isMap 4 = false := by kernel_rfl
@[simp] theorem ptr_4 : Try.prog.ptrT 4 = some none := by kernel_rfl
@[simp] theorem ztup_4 : zeroTup Try.prog 4 = some (.tup [(false, [.d (.v (.bool false))]), (false, [.d (.v (.bool false))])]) := by kernel_rfl
@[simp] theorem app_4 : Try.prog.appOk 4 = true := by kernel_rfl
@[simp] theorem und_4 : Try.prog.underlying 4 = some .bool := by kernel_rfl
@[simp] theorem lay_5 : Try.prog.lay 5 = some (1, false) := by kernel_rfl
@[simp] theorem cells_5 : Try.prog.cellsOf 5 = 1 := by kernel_rfl
@[simp] theorem info_5 : (Try.prog.info? 5).isSome = true := by kernel_rfl
@[simp] theorem bytes_5 : Try.prog.bytesOf 5 = 1 := by kernel_rfl
@[simp] theorem ctys_5 : ctys Try.prog 5 = [none] := by kernel_rfl
@[simp] theorem conc_5 : Try.prog.concrete 5 = true := by kernel_rfl
@[simp] theorem zero_5 : zeroCs Try.prog 5 = some [.d (.v (.int .u8 0))] := by kernel_rfl
@[simp] theorem ifc_5 : isIfcT Try.prog 5 = some false := by kernel_rfl
@[simp] theorem map_5 : Try.prog.isMap 5 = false := by kernel_rfl
@[simp] theorem ptr_5 : Try.prog.ptrT 5 = some none := by kernel_rfl
@[simp] theorem ztup_5 : zeroTup Try.prog 5 = some (.tup [(false, [.d (.v (.int .u8 0))]), (false, [.d (.v (.bool false))])]) := by kernel_rfl
@[simp] theorem app_5 : Try.prog.appOk 5 = true := by kernel_rfl
@[simp] theorem und_5 : Try.prog.underlying 5 = some (.int .u8) := by kernel_rfl
@[simp] theorem fld_7_0 : Try.prog.fld 7 0 = some (0, 1, false) := by kernel_rfl
@[simp] theorem fld_7_1 : Try.prog.fld 7 1 = some (1, 1, false) := by kernel_rfl
@[simp] theorem fld_7_2 : Try.prog.fld 7 2 = some (2, 1, false) := by kernel_rfl
@[simp] theorem fld_7_3 : Try.prog.fld 7 3 = some (3, 1, false) := by kernel_rfl
@[simp] theorem fld_8_0 : Try.prog.fld 8 0 = some (0, 1, false) := by kernel_rfl
@[simp] theorem fld_8_1 : Try.prog.fld 8 1 = some (1, 1, false) := by kernel_rfl
@[simp] theorem fld_8_2 : Try.prog.fld 8 2 = some (2, 1, false) := by kernel_rfl
@[simp] theorem fld_8_3 : Try.prog.fld 8 3 = some (3, 1, false) := by kernel_rfl
@[simp] theorem lay_9 : Try.prog.lay 9 = some (1, false) := by kernel_rfl
@[simp] theorem cells_9 : Try.prog.cellsOf 9 = 1 := by kernel_rfl
@[simp] theorem info_9 : (Try.prog.info? 9).isSome = true := by kernel_rfl
@[simp] theorem bytes_9 : Try.prog.bytesOf 9 = 16 := by kernel_rfl
@[simp] theorem ctys_9 : ctys Try.prog 9 = [none] := by kernel_rfl
@[simp] theorem conc_9 : Try.prog.concrete 9 = true := by kernel_rfl
@[simp] theorem zero_9 : zeroCs Try.prog 9 = some [.d (.v (.string ⟨#[]⟩))] := by kernel_rfl
@[simp] theorem ifc_9 : isIfcT Try.prog 9 = some false := by kernel_rfl
@[simp] theorem map_9 : Try.prog.isMap 9 = false := by kernel_rfl
@[simp] theorem ptr_9 : Try.prog.ptrT 9 = some none := by kernel_rfl
@[simp] theorem ztup_9 : zeroTup Try.prog 9 = some (.tup [(false, [.d (.v (.string ⟨#[]⟩))]), (false, [.d (.v (.bool false))])]) := by kernel_rfl
@[simp] theorem app_9 : Try.prog.appOk 9 = true := by kernel_rfl
@[simp] theorem und_9 : Try.prog.underlying 9 = some .string := by kernel_rfl
@[simp] theorem fld_13_0 : Try.prog.fld 13 0 = some (0, 1, false) := by kernel_rfl
@[simp] theorem fld_13_1 : Try.prog.fld 13 1 = some (1, 1, false) := by kernel_rfl
@[simp] theorem fld_14_0 : Try.prog.fld 14 0 = some (0, 1, false) := by kernel_rfl
@[simp] theorem fld_14_1 : Try.prog.fld 14 1 = some (1, 1, false) := by kernel_rfl
@[simp] theorem fld_18_0 : Try.prog.fld 18 0 = some (0, 1, false) := by kernel_rfl
@[simp] theorem fld_19_0 : Try.prog.fld 19 0 = some (0, 1, false) := by kernel_rfl
@[simp] theorem lay_20 : Try.prog.lay 20 = some (1, false) := by kernel_rfl
@[simp] theorem cells_20 : Try.prog.cellsOf 20 = 1 := by kernel_rfl
@[simp] theorem info_20 : (Try.prog.info? 20).isSome = true := by kernel_rfl
@[simp] theorem bytes_20 : Try.prog.bytesOf 20 = 16 := by kernel_rfl
@[simp] theorem ctys_20 : ctys Try.prog 20 = [none] := by kernel_rfl
@[simp] theorem zero_20 : zeroCs Try.prog 20 = some [.d (.v (.nilIface))] := by kernel_rfl
@[simp] theorem ifc_20 : isIfcT Try.prog 20 = some true := by kernel_rfl
@[simp] theorem map_20 : Try.prog.isMap 20 = false := by kernel_rfl
@[simp] theorem app_20 : Try.prog.appOk 20 = true := by kernel_rfl
@[simp] theorem lay_21 : Try.prog.lay 21 = some (1, false) := by kernel_rfl
@[simp] theorem cells_21 : Try.prog.cellsOf 21 = 1 := by kernel_rfl
@[simp] theorem info_21 : (Try.prog.info? 21).isSome = true := by kernel_rfl
@[simp] theorem bytes_21 : Try.prog.bytesOf 21 = 4 := by kernel_rfl
@[simp] theorem ctys_21 : ctys Try.prog 21 = [none] := by kernel_rfl
@[simp] theorem conc_21 : Try.prog.concrete 21 = true := by kernel_rfl
@[simp] theorem zero_21 : zeroCs Try.prog 21 = some [.d (.v (.int .i32 0))] := by kernel_rfl
@[simp] theorem ifc_21 : isIfcT Try.prog 21 = some false := by kernel_rfl
@[simp] theorem map_21 : Try.prog.isMap 21 = false := by kernel_rfl
@[simp] theorem ptr_21 : Try.prog.ptrT 21 = some none := by kernel_rfl
@[simp] theorem ztup_21 : zeroTup Try.prog 21 = some (.tup [(false, [.d (.v (.int .i32 0))]), (false, [.d (.v (.bool false))])]) := by kernel_rfl
@[simp] theorem app_21 : Try.prog.appOk 21 = true := by kernel_rfl
@[simp] theorem und_21 : Try.prog.underlying 21 = some (.int .i32) := by kernel_rfl
@[simp] theorem lay_22 : Try.prog.lay 22 = some (1, false) := by kernel_rfl
@[simp] theorem cells_22 : Try.prog.cellsOf 22 = 1 := by kernel_rfl
@[simp] theorem info_22 : (Try.prog.info? 22).isSome = true := by kernel_rfl
@[simp] theorem bytes_22 : Try.prog.bytesOf 22 = 24 := by kernel_rfl
@[simp] theorem ctys_22 : ctys Try.prog 22 = [some 29] := by kernel_rfl
@[simp] theorem conc_22 : Try.prog.concrete 22 = true := by kernel_rfl
@[simp] theorem zero_22 : zeroCs Try.prog 22 = some [.d (.v (.slice none 0 0))] := by kernel_rfl
@[simp] theorem ifc_22 : isIfcT Try.prog 22 = some false := by kernel_rfl
@[simp] theorem map_22 : Try.prog.isMap 22 = false := by kernel_rfl
@[simp] theorem ptr_22 : Try.prog.ptrT 22 = some none := by kernel_rfl
@[simp] theorem ztup_22 : zeroTup Try.prog 22 = some (.tup [(false, [.d (.v (.slice none 0 0))]), (false, [.d (.v (.bool false))])]) := by kernel_rfl
@[simp] theorem app_22 : Try.prog.appOk 22 = true := by kernel_rfl
@[simp] theorem elem_22 : Try.prog.elemT 22 = some 29 := by kernel_rfl
@[simp] theorem und_22 : Try.prog.underlying 22 = some (.slice 29) := by kernel_rfl
@[simp] theorem lay_26 : Try.prog.lay 26 = some (1, false) := by kernel_rfl
@[simp] theorem cells_26 : Try.prog.cellsOf 26 = 1 := by kernel_rfl
@[simp] theorem info_26 : (Try.prog.info? 26).isSome = true := by kernel_rfl
@[simp] theorem bytes_26 : Try.prog.bytesOf 26 = 24 := by kernel_rfl
@[simp] theorem ctys_26 : ctys Try.prog 26 = [some 9] := by kernel_rfl
@[simp] theorem conc_26 : Try.prog.concrete 26 = true := by kernel_rfl
@[simp] theorem zero_26 : zeroCs Try.prog 26 = some [.d (.v (.slice none 0 0))] := by kernel_rfl
@[simp] theorem ifc_26 : isIfcT Try.prog 26 = some false := by kernel_rfl
@[simp] theorem map_26 : Try.prog.isMap 26 = false := by kernel_rfl
@[simp] theorem ptr_26 : Try.prog.ptrT 26 = some none := by kernel_rfl
@[simp] theorem ztup_26 : zeroTup Try.prog 26 = some (.tup [(false, [.d (.v (.slice none 0 0))]), (false, [.d (.v (.bool false))])]) := by kernel_rfl
@[simp] theorem app_26 : Try.prog.appOk 26 = true := by kernel_rfl
@[simp] theorem elem_26 : Try.prog.elemT 26 = some 9 := by kernel_rfl
@[simp] theorem und_26 : Try.prog.underlying 26 = some (.slice 9) := by kernel_rfl
@[simp] theorem lay_27 : Try.prog.lay 27 = some (1, false) := by kernel_rfl
@[simp] theorem cells_27 : Try.prog.cellsOf 27 = 1 := by kernel_rfl
@[simp] theorem info_27 : (Try.prog.info? 27).isSome = true := by kernel_rfl
@[simp] theorem bytes_27 : Try.prog.bytesOf 27 = 8 := by kernel_rfl
@[simp] theorem ctys_27 : ctys Try.prog 27 = [none] := by kernel_rfl
@[simp] theorem conc_27 : Try.prog.concrete 27 = true := by kernel_rfl
@[simp] theorem zero_27 : zeroCs Try.prog 27 = some [.d (.v (.float .f64 0))] := by kernel_rfl
@[simp] theorem ifc_27 : isIfcT Try.prog 27 = some false := by kernel_rfl
@[simp] theorem map_27 : Try.prog.isMap 27 = false := by kernel_rfl
@[simp] theorem ptr_27 : Try.prog.ptrT 27 = some none := by kernel_rfl
@[simp] theorem ztup_27 : zeroTup Try.prog 27 = some (.tup [(false, [.d (.v (.float .f64 0))]), (false, [.d (.v (.bool false))])]) := by kernel_rfl
@[simp] theorem app_27 : Try.prog.appOk 27 = true := by kernel_rfl
@[simp] theorem und_27 : Try.prog.underlying 27 = some (.float .f64) := by kernel_rfl
@[simp] theorem fld_28_0 : Try.prog.fld 28 0 = some (0, 1, false) := by kernel_rfl
@[simp] theorem fld_28_1 : Try.prog.fld 28 1 = some (1, 1, false) := by kernel_rfl
@[simp] theorem fld_28_2 : Try.prog.fld 28 2 = some (2, 1, false) := by kernel_rfl
@[simp] theorem fld_28_3 : Try.prog.fld 28 3 = some (3, 1, false) := by kernel_rfl
@[simp] theorem fld_28_4 : Try.prog.fld 28 4 = some (4, 1, false) := by kernel_rfl
@[simp] theorem fld_28_5 : Try.prog.fld 28 5 = some (5, 1, false) := by kernel_rfl
@[simp] theorem lay_29 : Try.prog.lay 29 = some (6, true) := by kernel_rfl
@[simp] theorem cells_29 : Try.prog.cellsOf 29 = 6 := by kernel_rfl
@[simp] theorem info_29 : (Try.prog.info? 29).isSome = true := by kernel_rfl
@[simp] theorem bytes_29 : Try.prog.bytesOf 29 = 88 := by kernel_rfl
@[simp] theorem ctys_29 : ctys Try.prog 29 = [none, none, none, none, some 9, some 29] := by kernel_rfl
@[simp] theorem conc_29 : Try.prog.concrete 29 = true := by kernel_rfl
@[simp] theorem zero_29 : zeroCs Try.prog 29 = some [.d (.v (.int .i64 0)), .d (.v (.int .i64 0)), .d (.v (.float .f64 0)), .d (.v (.string ⟨#[]⟩)), .d (.v (.slice none 0 0)), .d (.v (.slice none 0 0))] := by kernel_rfl
@[simp] theorem fld_29_0 : Try.prog.fld 29 0 = some (0, 1, false) := by kernel_rfl
@[simp] theorem fld_29_1 : Try.prog.fld 29 1 = some (1, 1, false) := by kernel_rfl
@[simp] theorem fld_29_2 : Try.prog.fld 29 2 = some (2, 1, false) := by kernel_rfl
@[simp] theorem fld_29_3 : Try.prog.fld 29 3 = some (3, 1, false) := by kernel_rfl
@[simp] theorem fld_29_4 : Try.prog.fld 29 4 = some (4, 1, false) := by kernel_rfl
@[simp] theorem fld_29_5 : Try.prog.fld 29 5 = some (5, 1, false) := by kernel_rfl
@[simp] theorem str_29 : Try.prog.strOk 29 = true := by kernel_rfl
@[simp] theorem ifc_29 : isIfcT Try.prog 29 = some false := by kernel_rfl
@[simp] theorem map_29 : Try.prog.isMap 29 = false := by kernel_rfl
@[simp] theorem ptr_29 : Try.prog.ptrT 29 = some none := by kernel_rfl
@[simp] theorem ztup_29 : zeroTup Try.prog 29 = some (.tup [(true, [.d (.v (.int .i64 0)), .d (.v (.int .i64 0)), .d (.v (.float .f64 0)), .d (.v (.string ⟨#[]⟩)), .d (.v (.slice none 0 0)), .d (.v (.slice none 0 0))]), (false, [.d (.v (.bool false))])]) := by kernel_rfl
@[simp] theorem app_29 : Try.prog.appOk 29 = true := by kernel_rfl
@[simp] theorem fld_30_0 : Try.prog.fld 30 0 = some (0, 1, false) := by kernel_rfl
@[simp] theorem fld_30_1 : Try.prog.fld 30 1 = some (1, 1, false) := by kernel_rfl
@[simp] theorem fld_30_2 : Try.prog.fld 30 2 = some (2, 1, false) := by kernel_rfl
@[simp] theorem fld_30_3 : Try.prog.fld 30 3 = some (3, 1, false) := by kernel_rfl
@[simp] theorem fld_30_4 : Try.prog.fld 30 4 = some (4, 6, true) := by kernel_rfl
@[simp] theorem fld_30_5 : Try.prog.fld 30 5 = some (10, 1, false) := by kernel_rfl
@[simp] theorem fld_31_0 : Try.prog.fld 31 0 = some (0, 1, false) := by kernel_rfl
@[simp] theorem fld_31_1 : Try.prog.fld 31 1 = some (1, 1, false) := by kernel_rfl
@[simp] theorem fld_31_2 : Try.prog.fld 31 2 = some (2, 1, false) := by kernel_rfl
@[simp] theorem fld_31_3 : Try.prog.fld 31 3 = some (3, 1, false) := by kernel_rfl
@[simp] theorem fld_31_4 : Try.prog.fld 31 4 = some (4, 6, true) := by kernel_rfl
@[simp] theorem fld_31_5 : Try.prog.fld 31 5 = some (10, 1, false) := by kernel_rfl
@[simp] theorem lay_44 : Try.prog.lay 44 = some (1, false) := by kernel_rfl
@[simp] theorem cells_44 : Try.prog.cellsOf 44 = 1 := by kernel_rfl
@[simp] theorem info_44 : (Try.prog.info? 44).isSome = true := by kernel_rfl
@[simp] theorem bytes_44 : Try.prog.bytesOf 44 = 16 := by kernel_rfl
@[simp] theorem ctys_44 : ctys Try.prog 44 = [none] := by kernel_rfl
@[simp] theorem zero_44 : zeroCs Try.prog 44 = some [.d (.v (.nilIface))] := by kernel_rfl
@[simp] theorem ifc_44 : isIfcT Try.prog 44 = some true := by kernel_rfl
@[simp] theorem map_44 : Try.prog.isMap 44 = false := by kernel_rfl
@[simp] theorem app_44 : Try.prog.appOk 44 = true := by kernel_rfl
@[simp] theorem lay_57 : Try.prog.lay 57 = some (1, false) := by kernel_rfl
@[simp] theorem cells_57 : Try.prog.cellsOf 57 = 1 := by kernel_rfl
@[simp] theorem info_57 : (Try.prog.info? 57).isSome = true := by kernel_rfl
@[simp] theorem bytes_57 : Try.prog.bytesOf 57 = 16 := by kernel_rfl
@[simp] theorem ctys_57 : ctys Try.prog 57 = [none] := by kernel_rfl
@[simp] theorem zero_57 : zeroCs Try.prog 57 = some [.d (.v (.nilIface))] := by kernel_rfl
@[simp] theorem ifc_57 : isIfcT Try.prog 57 = some true := by kernel_rfl
@[simp] theorem map_57 : Try.prog.isMap 57 = false := by kernel_rfl
@[simp] theorem app_57 : Try.prog.appOk 57 = true := by kernel_rfl
@[simp] theorem lay_62 : Try.prog.lay 62 = some (1, false) := by kernel_rfl
@[simp] theorem cells_62 : Try.prog.cellsOf 62 = 1 := by kernel_rfl
@[simp] theorem info_62 : (Try.prog.info? 62).isSome = true := by kernel_rfl
@[simp] theorem bytes_62 : Try.prog.bytesOf 62 = 8 := by kernel_rfl
@[simp] theorem ctys_62 : ctys Try.prog 62 = [none] := by kernel_rfl
@[simp] theorem conc_62 : Try.prog.concrete 62 = true := by kernel_rfl
@[simp] theorem zero_62 : zeroCs Try.prog 62 = some [.d (.v (.pointer none))] := by kernel_rfl
@[simp] theorem ifc_62 : isIfcT Try.prog 62 = some false := by kernel_rfl
@[simp] theorem map_62 : Try.prog.isMap 62 = false := by kernel_rfl
@[simp] theorem ptr_62 : Try.prog.ptrT 62 = some (some 64) := by kernel_rfl
@[simp] theorem ztup_62 : zeroTup Try.prog 62 = some (.tup [(false, [.d (.v (.pointer none))]), (false, [.d (.v (.bool false))])]) := by kernel_rfl
@[simp] theorem app_62 : Try.prog.appOk 62 = true := by kernel_rfl
@[simp] theorem und_62 : Try.prog.underlying 62 = some (.pointer 64) := by kernel_rfl
@[simp] theorem lay_64 : Try.prog.lay 64 = some (0, true) := by kernel_rfl
@[simp] theorem cells_64 : Try.prog.cellsOf 64 = 0 := by kernel_rfl
@[simp] theorem info_64 : (Try.prog.info? 64).isSome = true := by kernel_rfl
@[simp] theorem bytes_64 : Try.prog.bytesOf 64 = 0 := by kernel_rfl
@[simp] theorem ctys_64 : ctys Try.prog 64 = [] := by kernel_rfl
@[simp] theorem conc_64 : Try.prog.concrete 64 = true := by kernel_rfl
@[simp] theorem zero_64 : zeroCs Try.prog 64 = some [] := by kernel_rfl
@[simp] theorem str_64 : Try.prog.strOk 64 = true := by kernel_rfl
@[simp] theorem ifc_64 : isIfcT Try.prog 64 = some false := by kernel_rfl
@[simp] theorem map_64 : Try.prog.isMap 64 = false := by kernel_rfl
@[simp] theorem ptr_64 : Try.prog.ptrT 64 = some none := by kernel_rfl
@[simp] theorem ztup_64 : zeroTup Try.prog 64 = some (.tup [(true, []), (false, [.d (.v (.bool false))])]) := by kernel_rfl
@[simp] theorem fld_67_0 : Try.prog.fld 67 0 = some (0, 1, false) := by kernel_rfl
@[simp] theorem fld_67_1 : Try.prog.fld 67 1 = some (1, 1, false) := by kernel_rfl
@[simp] theorem fld_68_0 : Try.prog.fld 68 0 = some (0, 1, false) := by kernel_rfl
@[simp] theorem fld_68_1 : Try.prog.fld 68 1 = some (1, 1, false) := by kernel_rfl
@[simp] theorem lay_82 : Try.prog.lay 82 = some (1, false) := by kernel_rfl
@[simp] theorem cells_82 : Try.prog.cellsOf 82 = 1 := by kernel_rfl
@[simp] theorem info_82 : (Try.prog.info? 82).isSome = true := by kernel_rfl
@[simp] theorem bytes_82 : Try.prog.bytesOf 82 = 16 := by kernel_rfl
@[simp] theorem ctys_82 : ctys Try.prog 82 = [none] := by kernel_rfl
@[simp] theorem zero_82 : zeroCs Try.prog 82 = some [.d (.v (.nilIface))] := by kernel_rfl
@[simp] theorem ifc_82 : isIfcT Try.prog 82 = some true := by kernel_rfl
@[simp] theorem map_82 : Try.prog.isMap 82 = false := by kernel_rfl
@[simp] theorem app_82 : Try.prog.appOk 82 = true := by kernel_rfl
@[simp] theorem lay_99 : Try.prog.lay 99 = some (1, false) := by kernel_rfl
@[simp] theorem cells_99 : Try.prog.cellsOf 99 = 1 := by kernel_rfl
@[simp] theorem info_99 : (Try.prog.info? 99).isSome = true := by kernel_rfl
@[simp] theorem bytes_99 : Try.prog.bytesOf 99 = 16 := by kernel_rfl
@[simp] theorem ctys_99 : ctys Try.prog 99 = [none] := by kernel_rfl
@[simp] theorem zero_99 : zeroCs Try.prog 99 = some [.d (.v (.nilIface))] := by kernel_rfl
@[simp] theorem ifc_99 : isIfcT Try.prog 99 = some true := by kernel_rfl
@[simp] theorem map_99 : Try.prog.isMap 99 = false := by kernel_rfl
@[simp] theorem app_99 : Try.prog.appOk 99 = true := by kernel_rfl
@[simp] theorem lay_102 : Try.prog.lay 102 = some (1, false) := by kernel_rfl
@[simp] theorem cells_102 : Try.prog.cellsOf 102 = 1 := by kernel_rfl
@[simp] theorem info_102 : (Try.prog.info? 102).isSome = true := by kernel_rfl
@[simp] theorem bytes_102 : Try.prog.bytesOf 102 = 8 := by kernel_rfl
@[simp] theorem ctys_102 : ctys Try.prog 102 = [none] := by kernel_rfl
@[simp] theorem conc_102 : Try.prog.concrete 102 = true := by kernel_rfl
@[simp] theorem zero_102 : zeroCs Try.prog 102 = some [.d (.v (.pointer none))] := by kernel_rfl
@[simp] theorem ifc_102 : isIfcT Try.prog 102 = some false := by kernel_rfl
@[simp] theorem map_102 : Try.prog.isMap 102 = false := by kernel_rfl
@[simp] theorem ptr_102 : Try.prog.ptrT 102 = some (some 111) := by kernel_rfl
@[simp] theorem ztup_102 : zeroTup Try.prog 102 = some (.tup [(false, [.d (.v (.pointer none))]), (false, [.d (.v (.bool false))])]) := by kernel_rfl
@[simp] theorem app_102 : Try.prog.appOk 102 = true := by kernel_rfl
@[simp] theorem und_102 : Try.prog.underlying 102 = some (.pointer 111) := by kernel_rfl
@[simp] theorem lay_104 : Try.prog.lay 104 = some (1, false) := by kernel_rfl
@[simp] theorem cells_104 : Try.prog.cellsOf 104 = 1 := by kernel_rfl
@[simp] theorem info_104 : (Try.prog.info? 104).isSome = true := by kernel_rfl
@[simp] theorem bytes_104 : Try.prog.bytesOf 104 = 24 := by kernel_rfl
@[simp] theorem ctys_104 : ctys Try.prog 104 = [some 20] := by kernel_rfl
@[simp] theorem conc_104 : Try.prog.concrete 104 = true := by kernel_rfl
@[simp] theorem zero_104 : zeroCs Try.prog 104 = some [.d (.v (.slice none 0 0))] := by kernel_rfl
@[simp] theorem ifc_104 : isIfcT Try.prog 104 = some false := by kernel_rfl
@[simp] theorem map_104 : Try.prog.isMap 104 = false := by kernel_rfl
@[simp] theorem ptr_104 : Try.prog.ptrT 104 = some none := by kernel_rfl
@[simp] theorem ztup_104 : zeroTup Try.prog 104 = some (.tup [(false, [.d (.v (.slice none 0 0))]), (false, [.d (.v (.bool false))])]) := by kernel_rfl
@[simp] theorem app_104 : Try.prog.appOk 104 = true := by kernel_rfl
@[simp] theorem elem_104 : Try.prog.elemT 104 = some 20 := by kernel_rfl
@[simp] theorem und_104 : Try.prog.underlying 104 = some (.slice 20) := by kernel_rfl
@[simp] theorem lay_105 : Try.prog.lay 105 = some (1, false) := by kernel_rfl
@[simp] theorem cells_105 : Try.prog.cellsOf 105 = 1 := by kernel_rfl
@[simp] theorem info_105 : (Try.prog.info? 105).isSome = true := by kernel_rfl
@[simp] theorem bytes_105 : Try.prog.bytesOf 105 = 8 := by kernel_rfl
@[simp] theorem ctys_105 : ctys Try.prog 105 = [none] := by kernel_rfl
@[simp] theorem conc_105 : Try.prog.concrete 105 = true := by kernel_rfl
@[simp] theorem zero_105 : zeroCs Try.prog 105 = some [.d (.v (.map none))] := by kernel_rfl
@[simp] theorem ifc_105 : isIfcT Try.prog 105 = some false := by kernel_rfl
@[simp] theorem map_105 : Try.prog.isMap 105 = true := by kernel_rfl
@[simp] theorem ptr_105 : Try.prog.ptrT 105 = some none := by kernel_rfl
@[simp] theorem ztup_105 : zeroTup Try.prog 105 = some (.tup [(false, [.d (.v (.map none))]), (false, [.d (.v (.bool false))])]) := by kernel_rfl
@[simp] theorem app_105 : Try.prog.appOk 105 = true := by kernel_rfl
@[simp] theorem fld_110_0 : Try.prog.fld 110 0 = some (0, 1, false) := by kernel_rfl
@[simp] theorem lay_111 : Try.prog.lay 111 = some (1, true) := by kernel_rfl
@[simp] theorem cells_111 : Try.prog.cellsOf 111 = 1 := by kernel_rfl
@[simp] theorem info_111 : (Try.prog.info? 111).isSome = true := by kernel_rfl
@[simp] theorem bytes_111 : Try.prog.bytesOf 111 = 16 := by kernel_rfl
@[simp] theorem ctys_111 : ctys Try.prog 111 = [none] := by kernel_rfl
@[simp] theorem conc_111 : Try.prog.concrete 111 = true := by kernel_rfl
@[simp] theorem zero_111 : zeroCs Try.prog 111 = some [.d (.v (.nilIface))] := by kernel_rfl
@[simp] theorem fld_111_0 : Try.prog.fld 111 0 = some (0, 1, false) := by kernel_rfl
@[simp] theorem str_111 : Try.prog.strOk 111 = true := by kernel_rfl
@[simp] theorem ifc_111 : isIfcT Try.prog 111 = some false := by kernel_rfl
@[simp] theorem map_111 : Try.prog.isMap 111 = false := by kernel_rfl
@[simp] theorem ptr_111 : Try.prog.ptrT 111 = some none := by kernel_rfl
@[simp] theorem ztup_111 : zeroTup Try.prog 111 = some (.tup [(true, [.d (.v (.nilIface))]), (false, [.d (.v (.bool false))])]) := by kernel_rfl
@[simp] theorem app_111 : Try.prog.appOk 111 = true := by kernel_rfl
@[simp] theorem lay_113 : Try.prog.lay 113 = some (1, false) := by kernel_rfl
@[simp] theorem cells_113 : Try.prog.cellsOf 113 = 1 := by kernel_rfl
@[simp] theorem info_113 : (Try.prog.info? 113).isSome = true := by kernel_rfl
@[simp] theorem bytes_113 : Try.prog.bytesOf 113 = 8 := by kernel_rfl
@[simp] theorem ctys_113 : ctys Try.prog 113 = [none] := by kernel_rfl
@[simp] theorem conc_113 : Try.prog.concrete 113 = true := by kernel_rfl
@[simp] theorem zero_113 : zeroCs Try.prog 113 = some [.d (.v (.int .i64 0))] := by kernel_rfl
@[simp] theorem ifc_113 : isIfcT Try.prog 113 = some false := by kernel_rfl
@[simp] theorem map_113 : Try.prog.isMap 113 = false := by kernel_rfl
@[simp] theorem ptr_113 : Try.prog.ptrT 113 = some none := by kernel_rfl
@[simp] theorem ztup_113 : zeroTup Try.prog 113 = some (.tup [(false, [.d (.v (.int .i64 0))]), (false, [.d (.v (.bool false))])]) := by kernel_rfl
@[simp] theorem app_113 : Try.prog.appOk 113 = true := by kernel_rfl
@[simp] theorem und_113 : Try.prog.underlying 113 = some (.int .i64) := by kernel_rfl
@[simp] theorem fld_116_0 : Try.prog.fld 116 0 = some (0, 1, false) := by kernel_rfl
@[simp] theorem fld_116_1 : Try.prog.fld 116 1 = some (1, 1, false) := by kernel_rfl
@[simp] theorem fld_116_2 : Try.prog.fld 116 2 = some (2, 1, false) := by kernel_rfl
@[simp] theorem fld_116_3 : Try.prog.fld 116 3 = some (3, 1, false) := by kernel_rfl
@[simp] theorem fld_117_0 : Try.prog.fld 117 0 = some (0, 1, false) := by kernel_rfl
@[simp] theorem fld_117_1 : Try.prog.fld 117 1 = some (1, 1, false) := by kernel_rfl
@[simp] theorem fld_117_2 : Try.prog.fld 117 2 = some (2, 1, false) := by kernel_rfl
@[simp] theorem fld_117_3 : Try.prog.fld 117 3 = some (3, 1, false) := by kernel_rfl
@[simp] theorem lay_121 : Try.prog.lay 121 = some (1, false) := by kernel_rfl
@[simp] theorem cells_121 : Try.prog.cellsOf 121 = 1 := by kernel_rfl
@[simp] theorem info_121 : (Try.prog.info? 121).isSome = true := by kernel_rfl
@[simp] theorem bytes_121 : Try.prog.bytesOf 121 = 4 := by kernel_rfl
@[simp] theorem ctys_121 : ctys Try.prog 121 = [none] := by kernel_rfl
@[simp] theorem conc_121 : Try.prog.concrete 121 = true := by kernel_rfl
@[simp] theorem zero_121 : zeroCs Try.prog 121 = some [.d (.v (.int .u32 0))] := by kernel_rfl
@[simp] theorem ifc_121 : isIfcT Try.prog 121 = some false := by kernel_rfl
@[simp] theorem map_121 : Try.prog.isMap 121 = false := by kernel_rfl
@[simp] theorem ptr_121 : Try.prog.ptrT 121 = some none := by kernel_rfl
@[simp] theorem ztup_121 : zeroTup Try.prog 121 = some (.tup [(false, [.d (.v (.int .u32 0))]), (false, [.d (.v (.bool false))])]) := by kernel_rfl
@[simp] theorem app_121 : Try.prog.appOk 121 = true := by kernel_rfl
@[simp] theorem und_121 : Try.prog.underlying 121 = some (.int .u32) := by kernel_rfl
@[simp] theorem fld_128_0 : Try.prog.fld 128 0 = some (0, 1, false) := by kernel_rfl
@[simp] theorem fld_128_1 : Try.prog.fld 128 1 = some (1, 1, false) := by kernel_rfl
@[simp] theorem fld_128_2 : Try.prog.fld 128 2 = some (2, 1, false) := by kernel_rfl
@[simp] theorem fld_128_3 : Try.prog.fld 128 3 = some (3, 1, false) := by kernel_rfl
@[simp] theorem fld_128_4 : Try.prog.fld 128 4 = some (4, 1, false) := by kernel_rfl
@[simp] theorem fld_128_5 : Try.prog.fld 128 5 = some (5, 1, false) := by kernel_rfl
@[simp] theorem fld_128_9 : Try.prog.fld 128 9 = some (9, 1, false) := by kernel_rfl
@[simp] theorem fld_129_0 : Try.prog.fld 129 0 = some (0, 1, false) := by kernel_rfl
@[simp] theorem fld_129_1 : Try.prog.fld 129 1 = some (1, 1, false) := by kernel_rfl
@[simp] theorem fld_129_2 : Try.prog.fld 129 2 = some (2, 1, false) := by kernel_rfl
@[simp] theorem fld_129_3 : Try.prog.fld 129 3 = some (3, 1, false) := by kernel_rfl
@[simp] theorem fld_129_4 : Try.prog.fld 129 4 = some (4, 1, false) := by kernel_rfl
@[simp] theorem fld_129_5 : Try.prog.fld 129 5 = some (5, 1, false) := by kernel_rfl
@[simp] theorem fld_129_9 : Try.prog.fld 129 9 = some (9, 1, false) := by kernel_rfl
@[simp] theorem lay_145 : Try.prog.lay 145 = some (1, false) := by kernel_rfl
@[simp] theorem cells_145 : Try.prog.cellsOf 145 = 1 := by kernel_rfl
@[simp] theorem info_145 : (Try.prog.info? 145).isSome = true := by kernel_rfl
@[simp] theorem bytes_145 : Try.prog.bytesOf 145 = 4 := by kernel_rfl
@[simp] theorem ctys_145 : ctys Try.prog 145 = [none] := by kernel_rfl
@[simp] theorem conc_145 : Try.prog.concrete 145 = true := by kernel_rfl
@[simp] theorem zero_145 : zeroCs Try.prog 145 = some [.d (.v (.float .f32 0))] := by kernel_rfl
@[simp] theorem ifc_145 : isIfcT Try.prog 145 = some false := by kernel_rfl
@[simp] theorem map_145 : Try.prog.isMap 145 = false := by kernel_rfl
@[simp] theorem ptr_145 : Try.prog.ptrT 145 = some none := by kernel_rfl
@[simp] theorem ztup_145 : zeroTup Try.prog 145 = some (.tup [(false, [.d (.v (.float .f32 0))]), (false, [.d (.v (.bool false))])]) := by kernel_rfl
@[simp] theorem app_145 : Try.prog.appOk 145 = true := by kernel_rfl
@[simp] theorem und_145 : Try.prog.underlying 145 = some (.float .f32) := by kernel_rfl
@[simp] theorem lay_147 : Try.prog.lay 147 = some (1, false) := by kernel_rfl
@[simp] theorem cells_147 : Try.prog.cellsOf 147 = 1 := by kernel_rfl
@[simp] theorem info_147 : (Try.prog.info? 147).isSome = true := by kernel_rfl
@[simp] theorem bytes_147 : Try.prog.bytesOf 147 = 1 := by kernel_rfl
@[simp] theorem ctys_147 : ctys Try.prog 147 = [none] := by kernel_rfl
@[simp] theorem conc_147 : Try.prog.concrete 147 = true := by kernel_rfl
@[simp] theorem zero_147 : zeroCs Try.prog 147 = some [.d (.v (.int .i8 0))] := by kernel_rfl
@[simp] theorem ifc_147 : isIfcT Try.prog 147 = some false := by kernel_rfl
@[simp] theorem map_147 : Try.prog.isMap 147 = false := by kernel_rfl
@[simp] theorem ptr_147 : Try.prog.ptrT 147 = some none := by kernel_rfl
@[simp] theorem ztup_147 : zeroTup Try.prog 147 = some (.tup [(false, [.d (.v (.int .i8 0))]), (false, [.d (.v (.bool false))])]) := by kernel_rfl
@[simp] theorem app_147 : Try.prog.appOk 147 = true := by kernel_rfl
@[simp] theorem und_147 : Try.prog.underlying 147 = some (.int .i8) := by kernel_rfl
@[simp] theorem lay_149 : Try.prog.lay 149 = some (1, false) := by kernel_rfl
@[simp] theorem cells_149 : Try.prog.cellsOf 149 = 1 := by kernel_rfl
@[simp] theorem info_149 : (Try.prog.info? 149).isSome = true := by kernel_rfl
@[simp] theorem bytes_149 : Try.prog.bytesOf 149 = 2 := by kernel_rfl
@[simp] theorem ctys_149 : ctys Try.prog 149 = [none] := by kernel_rfl
@[simp] theorem conc_149 : Try.prog.concrete 149 = true := by kernel_rfl
@[simp] theorem zero_149 : zeroCs Try.prog 149 = some [.d (.v (.int .i16 0))] := by kernel_rfl
@[simp] theorem ifc_149 : isIfcT Try.prog 149 = some false := by kernel_rfl
@[simp] theorem map_149 : Try.prog.isMap 149 = false := by kernel_rfl
@[simp] theorem ptr_149 : Try.prog.ptrT 149 = some none := by kernel_rfl
@[simp] theorem ztup_149 : zeroTup Try.prog 149 = some (.tup [(false, [.d (.v (.int .i16 0))]), (false, [.d (.v (.bool false))])]) := by kernel_rfl
@[simp] theorem app_149 : Try.prog.appOk 149 = true := by kernel_rfl
@[simp] theorem und_149 : Try.prog.underlying 149 = some (.int .i16) := by kernel_rfl
@[simp] theorem lay_152 : Try.prog.lay 152 = some (1, false) := by kernel_rfl
@[simp] theorem cells_152 : Try.prog.cellsOf 152 = 1 := by kernel_rfl
@[simp] theorem info_152 : (Try.prog.info? 152).isSome = true := by kernel_rfl
@[simp] theorem bytes_152 : Try.prog.bytesOf 152 = 8 := by kernel_rfl
@[simp] theorem ctys_152 : ctys Try.prog 152 = [none] := by kernel_rfl
@[simp] theorem conc_152 : Try.prog.concrete 152 = true := by kernel_rfl
@[simp] theorem zero_152 : zeroCs Try.prog 152 = some [.d (.v (.int .u64 0))] := by kernel_rfl
@[simp] theorem ifc_152 : isIfcT Try.prog 152 = some false := by kernel_rfl
@[simp] theorem map_152 : Try.prog.isMap 152 = false := by kernel_rfl
@[simp] theorem ptr_152 : Try.prog.ptrT 152 = some none := by kernel_rfl
@[simp] theorem ztup_152 : zeroTup Try.prog 152 = some (.tup [(false, [.d (.v (.int .u64 0))]), (false, [.d (.v (.bool false))])]) := by kernel_rfl
@[simp] theorem app_152 : Try.prog.appOk 152 = true := by kernel_rfl
@[simp] theorem und_152 : Try.prog.underlying 152 = some (.int .u64) := by kernel_rfl
@[simp] theorem lay_155 : Try.prog.lay 155 = some (1, false) := by kernel_rfl
@[simp] theorem cells_155 : Try.prog.cellsOf 155 = 1 := by kernel_rfl
@[simp] theorem info_155 : (Try.prog.info? 155).isSome = true := by kernel_rfl
@[simp] theorem bytes_155 : Try.prog.bytesOf 155 = 2 := by kernel_rfl
@[simp] theorem ctys_155 : ctys Try.prog 155 = [none] := by kernel_rfl
@[simp] theorem conc_155 : Try.prog.concrete 155 = true := by kernel_rfl
@[simp] theorem zero_155 : zeroCs Try.prog 155 = some [.d (.v (.int .u16 0))] := by kernel_rfl
@[simp] theorem ifc_155 : isIfcT Try.prog 155 = some false := by kernel_rfl
@[simp] theorem map_155 : Try.prog.isMap 155 = false := by kernel_rfl
@[simp] theorem ptr_155 : Try.prog.ptrT 155 = some none := by kernel_rfl
@[simp] theorem ztup_155 : zeroTup Try.prog 155 = some (.tup [(false, [.d (.v (.int .u16 0))]), (false, [.d (.v (.bool false))])]) := by kernel_rfl
@[simp] theorem app_155 : Try.prog.appOk 155 = true := by kernel_rfl
@[simp] theorem und_155 : Try.prog.underlying 155 = some (.int .u16) := by kernel_rfl
@[simp] theorem lay_158 : Try.prog.lay 158 = some (1, false) := by kernel_rfl
@[simp] theorem cells_158 : Try.prog.cellsOf 158 = 1 := by kernel_rfl
@[simp] theorem info_158 : (Try.prog.info? 158).isSome = true := by kernel_rfl
@[simp] theorem bytes_158 : Try.prog.bytesOf 158 = 24 := by kernel_rfl
@[simp] theorem ctys_158 : ctys Try.prog 158 = [some 20] := by kernel_rfl
@[simp] theorem conc_158 : Try.prog.concrete 158 = true := by kernel_rfl
@[simp] theorem zero_158 : zeroCs Try.prog 158 = some [.d (.v (.slice none 0 0))] := by kernel_rfl
@[simp] theorem ifc_158 : isIfcT Try.prog 158 = some false := by kernel_rfl
@[simp] theorem map_158 : Try.prog.isMap 158 = false := by kernel_rfl
@[simp] theorem ptr_158 : Try.prog.ptrT 158 = some none := by kernel_rfl
@[simp] theorem ztup_158 : zeroTup Try.prog 158 = some (.tup [(false, [.d (.v (.slice none 0 0))]), (false, [.d (.v (.bool false))])]) := by kernel_rfl
@[simp] theorem app_158 : Try.prog.appOk 158 = true := by kernel_rfl
@[simp] theorem elem_158 : Try.prog.elemT 158 = some 20 := by kernel_rfl
@[simp] theorem und_158 : Try.prog.underlying 158 = some (.slice 20) := by kernel_rfl
@[simp] theorem lay_159 : Try.prog.lay 159 = some (1, false) := by kernel_rfl
@[simp] theorem cells_159 : Try.prog.cellsOf 159 = 1 := by kernel_rfl
@[simp] theorem info_159 : (Try.prog.info? 159).isSome = true := by kernel_rfl
@[simp] theorem bytes_159 : Try.prog.bytesOf 159 = 8 := by kernel_rfl
@[simp] theorem ctys_159 : ctys Try.prog 159 = [none] := by kernel_rfl
@[simp] theorem conc_159 : Try.prog.concrete 159 = true := by kernel_rfl
@[simp] theorem zero_159 : zeroCs Try.prog 159 = some [.d (.v (.map none))] := by kernel_rfl
@[simp] theorem ifc_159 : isIfcT Try.prog 159 = some false := by kernel_rfl
@[simp] theorem map_159 : Try.prog.isMap 159 = true := by kernel_rfl
@[simp] theorem ptr_159 : Try.prog.ptrT 159 = some none := by kernel_rfl
@[simp] theorem ztup_159 : zeroTup Try.prog 159 = some (.tup [(false, [.d (.v (.map none))]), (false, [.d (.v (.bool false))])]) := by kernel_rfl
@[simp] theorem app_159 : Try.prog.appOk 159 = true := by kernel_rfl
@[simp] theorem lay_167 : Try.prog.lay 167 = some (1, false) := by kernel_rfl
@[simp] theorem cells_167 : Try.prog.cellsOf 167 = 1 := by kernel_rfl
@[simp] theorem info_167 : (Try.prog.info? 167).isSome = true := by kernel_rfl
@[simp] theorem bytes_167 : Try.prog.bytesOf 167 = 8 := by kernel_rfl
@[simp] theorem ctys_167 : ctys Try.prog 167 = [none] := by kernel_rfl
@[simp] theorem conc_167 : Try.prog.concrete 167 = true := by kernel_rfl
@[simp] theorem zero_167 : zeroCs Try.prog 167 = some [.d (.v (.pointer none))] := by kernel_rfl
@[simp] theorem ifc_167 : isIfcT Try.prog 167 = some false := by kernel_rfl
@[simp] theorem map_167 : Try.prog.isMap 167 = false := by kernel_rfl
@[simp] theorem ptr_167 : Try.prog.ptrT 167 = some (some 173) := by kernel_rfl
@[simp] theorem ztup_167 : zeroTup Try.prog 167 = some (.tup [(false, [.d (.v (.pointer none))]), (false, [.d (.v (.bool false))])]) := by kernel_rfl
@[simp] theorem app_167 : Try.prog.appOk 167 = true := by kernel_rfl
@[simp] theorem und_167 : Try.prog.underlying 167 = some (.pointer 173) := by kernel_rfl
@[simp] theorem lay_169 : Try.prog.lay 169 = some (1, false) := by kernel_rfl
@[simp] theorem cells_169 : Try.prog.cellsOf 169 = 1 := by kernel_rfl
@[simp] theorem info_169 : (Try.prog.info? 169).isSome = true := by kernel_rfl
@[simp] theorem bytes_169 : Try.prog.bytesOf 169 = 8 := by kernel_rfl
@[simp] theorem ctys_169 : ctys Try.prog 169 = [none] := by kernel_rfl
@[simp] theorem conc_169 : Try.prog.concrete 169 = true := by kernel_rfl
@[simp] theorem zero_169 : zeroCs Try.prog 169 = some [.d (.v (.pointer none))] := by kernel_rfl
@[simp] theorem ifc_169 : isIfcT Try.prog 169 = some false := by kernel_rfl
@[simp] theorem map_169 : Try.prog.isMap 169 = false := by kernel_rfl
@[simp] theorem ptr_169 : Try.prog.ptrT 169 = some (some 158) := by kernel_rfl
@[simp] theorem ztup_169 : zeroTup Try.prog 169 = some (.tup [(false, [.d (.v (.pointer none))]), (false, [.d (.v (.bool false))])]) := by kernel_rfl
@[simp] theorem app_169 : Try.prog.appOk 169 = true := by kernel_rfl
@[simp] theorem und_169 : Try.prog.underlying 169 = some (.pointer 158) := by kernel_rfl
@[simp] theorem lay_170 : Try.prog.lay 170 = some (1, false) := by kernel_rfl
@[simp] theorem cells_170 : Try.prog.cellsOf 170 = 1 := by kernel_rfl
@[simp] theorem info_170 : (Try.prog.info? 170).isSome = true := by kernel_rfl
@[simp] theorem bytes_170 : Try.prog.bytesOf 170 = 8 := by kernel_rfl
@[simp] theorem ctys_170 : ctys Try.prog 170 = [none] := by kernel_rfl
@[simp] theorem conc_170 : Try.prog.concrete 170 = true := by kernel_rfl
@[simp] theorem zero_170 : zeroCs Try.prog 170 = some [.d (.v (.pointer none))] := by kernel_rfl
@[simp] theorem ifc_170 : isIfcT Try.prog 170 = some false := by kernel_rfl
@[simp] theorem map_170 : Try.prog.isMap 170 = false := by kernel_rfl
@[simp] theorem ptr_170 : Try.prog.ptrT 170 = some (some 171) := by kernel_rfl
@[simp] theorem ztup_170 : zeroTup Try.prog 170 = some (.tup [(false, [.d (.v (.pointer none))]), (false, [.d (.v (.bool false))])]) := by kernel_rfl
@[simp] theorem app_170 : Try.prog.appOk 170 = true := by kernel_rfl
@[simp] theorem und_170 : Try.prog.underlying 170 = some (.pointer 171) := by kernel_rfl
@[simp] theorem lay_171 : Try.prog.lay 171 = some (0, true) := by kernel_rfl
@[simp] theorem cells_171 : Try.prog.cellsOf 171 = 0 := by kernel_rfl
@[simp] theorem info_171 : (Try.prog.info? 171).isSome = true := by kernel_rfl
@[simp] theorem bytes_171 : Try.prog.bytesOf 171 = 0 := by kernel_rfl
@[simp] theorem ctys_171 : ctys Try.prog 171 = [] := by kernel_rfl
@[simp] theorem conc_171 : Try.prog.concrete 171 = true := by kernel_rfl
@[simp] theorem zero_171 : zeroCs Try.prog 171 = some [] := by kernel_rfl
@[simp] theorem str_171 : Try.prog.strOk 171 = true := by kernel_rfl
@[simp] theorem ifc_171 : isIfcT Try.prog 171 = some false := by kernel_rfl
@[simp] theorem map_171 : Try.prog.isMap 171 = false := by kernel_rfl
@[simp] theorem ptr_171 : Try.prog.ptrT 171 = some none := by kernel_rfl
@[simp] theorem ztup_171 : zeroTup Try.prog 171 = some (.tup [(true, []), (false, [.d (.v (.bool false))])]) := by kernel_rfl
@[simp] theorem fld_172_0 : Try.prog.fld 172 0 = some (0, 1, false) := by kernel_rfl
@[simp] theorem fld_172_1 : Try.prog.fld 172 1 = some (1, 1, false) := by kernel_rfl
@[simp] theorem fld_172_2 : Try.prog.fld 172 2 = some (2, 1, false) := by kernel_rfl
@[simp] theorem lay_173 : Try.prog.lay 173 = some (3, true) := by kernel_rfl
@[simp] theorem cells_173 : Try.prog.cellsOf 173 = 3 := by kernel_rfl
@[simp] theorem info_173 : (Try.prog.info? 173).isSome = true := by kernel_rfl
@[simp] theorem bytes_173 : Try.prog.bytesOf 173 = 40 := by kernel_rfl
@[simp] theorem ctys_173 : ctys Try.prog 173 = [some 20, none, none] := by kernel_rfl
@[simp] theorem conc_173 : Try.prog.concrete 173 = true := by kernel_rfl
@[simp] theorem zero_173 : zeroCs Try.prog 173 = some [.d (.v (.slice none 0 0)), .d (.v (.pointer none)), .d (.v (.int .i64 0))] := by kernel_rfl
@[simp] theorem fld_173_0 : Try.prog.fld 173 0 = some (0, 1, false) := by kernel_rfl
@[simp] theorem fld_173_1 : Try.prog.fld 173 1 = some (1, 1, false) := by kernel_rfl
@[simp] theorem fld_173_2 : Try.prog.fld 173 2 = some (2, 1, false) := by kernel_rfl
@[simp] theorem str_173 : Try.prog.strOk 173 = true := by kernel_rfl
@[simp] theorem ifc_173 : isIfcT Try.prog 173 = some false := by kernel_rfl
@[simp] theorem map_173 : Try.prog.isMap 173 = false := by kernel_rfl
@[simp] theorem ptr_173 : Try.prog.ptrT 173 = some none := by kernel_rfl
@[simp] theorem ztup_173 : zeroTup Try.prog 173 = some (.tup [(true, [.d (.v (.slice none 0 0)), .d (.v (.pointer none)), .d (.v (.int .i64 0))]), (false, [.d (.v (.bool false))])]) := by kernel_rfl
@[simp] theorem app_173 : Try.prog.appOk 173 = true := by kernel_rfl
end Go.Smd
end
section
set_option linter.unusedSimpArgs false
namespace Go.Smd
open Go.RowKit Go.Proofs
theorem follows_any : Try.prog.follows .mixedOrders = true := by kernel_rfl
abbrev dI (n : Int) : D := .v (.int .i64 n)
abbrev dS (s : ByteArray) : D := .v (.string s)
abbrev dF (n : Nat) : D := .v (.float .f64 n)
def rowS (l : List ByteArray) : List (List D) := l.map fun s => [dS s]
abbrev dStrs (l : List ByteArray) : D := .sl 9 (rowS l)
mutual
def gvD : GV → List D
  | .mk kind n f s keys l => [dI kind, dI n, dF f, dS s, dStrs keys, .sl 29 (gvDs l)]
def gvDs : List GV → List (List D)
  | [] => []
  | x :: l => gvD x :: gvDs l
end
theorem gvDs_eq : ∀ l, gvDs l = l.map gvD
  | [] => by simp [gvDs]
  | x :: l => by simp [gvDs, gvDs_eq l]
def cls (xs : List D) : List Cl := xs.map .d
abbrev gvA (g : GV) : Av := .agg (cls (gvD g))
abbrev dGVs (l : List GV) : D := .sl 29 (l.map gvD)
theorem gvD_mk (kind n : Int) (f : Nat) (s : ByteArray) (keys : List ByteArray) (l : List GV) : gvD (.mk kind n f s keys l) = [dI kind, dI n, dF f, dS s, dStrs keys, dGVs l] := by
  rw [gvD, gvDs_eq]
@[simp] theorem gvD_length (g : GV) : (gvD g).length = 6 := by cases g; rw [gvD_mk]; rfl
@[simp] theorem gvD_take (g : GV) : (gvD g).take 6 = gvD g := List.take_of_length_le (by simp)
@[simp] theorem cls_cons (x : D) (xs : List D) : cls (x :: xs) = .d x :: cls xs := rfl
@[simp] theorem cls_nil : cls [] = [] := rfl
@[simp] theorem cls_length (xs : List D) : (cls xs).length = xs.length := by simp [cls]
@[simp] theorem cls_take (g : GV) : (cls (gvD g)).take 6 = cls (gvD g) := List.take_of_length_le (by simp)
theorem cls_fold (xs : List D) : List.map Cl.d xs = cls xs := rfl
@[simp] theorem cls_all (xs : List D) : (cls xs).all Cl.isD = true := by simp [cls, Cl.isD]
@[simp] theorem toDs_cls : ∀ xs : List D, toDs (cls xs) = some xs
  | [] => rfl
  | x :: xs => by
    have := toDs_cls xs
    show (toDs (cls xs)).map (x :: ·) = _
    rw [this]; rfl
@[simp] theorem splice_all {α : Type} (xs ys : List α) (h : ys.length = xs.length) : splice xs 0 ys = ys := by simp [splice, h]
@[simp] theorem splice_c0 {α : Type} (x y : α) (xs ys : List α) : splice (x :: xs) 0 (y :: ys) = y :: splice xs 0 ys := by simp [splice]
@[simp] theorem splice_n0 {α : Type} (xs : List α) : splice xs 0 [] = xs := by simp [splice]
@[simp] theorem splice_cs {α : Type} (x : α) (xs ys : List α) (n : Nat) : splice (x :: xs) (n + 1) ys = x :: splice xs n ys := by
  simp only [splice, List.take_succ_cons, List.cons_append]
  rw [show n + 1 + ys.length = (n + ys.length) + 1 by omega, List.drop_succ_cons]
@[simp] theorem ids_cls (xs : List D) : (cls xs).flatMap Cl.ids = [] := by
  induction xs with
  | nil => rfl
  | cons x xs ih => simp only [cls_cons, List.flatMap_cons, ih, Cl.ids, List.append_nil]
@[simp] theorem rowS_at' (l : List ByteArray) (i : Nat) (h : i < (rowS l).length) : (rowS l)[i] = [dS (l[i]'(by simpa [rowS] using h))] := by simp [rowS]
@[simp] theorem rowS_length (l : List ByteArray) : (rowS l).length = l.length := by simp [rowS]
@[simp] theorem frz_cls (F : List Nat) (h : Nat → Option Ow) (xs : List D) : (cls xs).map (frzC Try.prog F h) = cls xs := by
  induction xs with
  | nil => rfl
  | cons x xs ih => simp only [cls_cons, List.map_cons, ih, frzC, frzN, frzG]
@[simp] theorem deep_cls (h : Nat → Option Ow) (xs : List D) : (cls xs).flatMap (Cl.deep h) = [] := by
  induction xs with
  | nil => rfl
  | cons x xs ih => simp only [cls_cons, List.flatMap_cons, ih, Cl.deep, Cl.deepN, List.append_nil]
@[simp] theorem coL_gv (g : GV) : coL [none, none, none, none, some 9, some 29] (cls (gvD g)) = cls (gvD g) := by cases g; rw [gvD_mk]; rfl
structure GVk (kind n : Int) (f : Nat) (s : ByteArray) (keys : List ByteArray) (l : List GV) : Prop where
  hkind : -9223372036854775808 ≤ kind ∧ kind ≤ 9223372036854775807
  hn : -9223372036854775808 ≤ n ∧ n ≤ 9223372036854775807
  hf : f < 18446744073709551616
  hs : s.size ≤ 140737488351232
  hkeys : keys.length * 16 ≤ 140737488351232
  hkey : ∀ k ∈ keys, k.size ≤ 140737488351232
  hl : l.length * 88 ≤ 140737488351232
  hitem : ∀ x ∈ l, okA Try.prog (gvA x)
theorem okA_of {xs : List D} (h : ∀ d ∈ xs, okD Try.prog d) (w : World) (S : Nat → Prop) (k : ∃ us, All2 (RepD Try.prog w S) xs us) : okA Try.prog (.agg (cls xs)) := by
  obtain ⟨us, ha⟩ := k
  refine ⟨w, S, .agg us.toArray, us, rfl, ?_⟩
  clear h
  induction ha with
  | nil => exact .nil
  | cons h t ih => exact .cons h ih
theorem okA_pt {xs : List D} (h : okD Try.prog (.pt xs)) : okA Try.prog (.agg (cls xs)) := by
  obtain ⟨w, S, v, h⟩ := h
  obtain ⟨ad, rfl, hr⟩ := RepD.pt_iff.1 h
  refine okA_of (fun d hd => okD_pt ⟨w, S, _, h⟩ d hd) w S ⟨(List.range xs.length).map fun i => (w.cell? (ad.add i)).getD undef, All2.of (by simp) fun i d u hi hu => ?_⟩
  obtain ⟨u', _, hc, hr⟩ := hr i d hi
  rw [List.getElem?_map] at hu
  obtain ⟨i', hi', rfl⟩ := Option.map_eq_some_iff.1 hu
  obtain ⟨hlt, rfl⟩ := List.getElem?_eq_some_iff.1 hi'
  simp only [List.getElem_range, hc, Option.getD_some]; exact hr
theorem okD_row {E : TypeId} {xs : List (List D)} (h : okD Try.prog (.sl E xs)) {r : List D} (hr : r ∈ xs) : okA Try.prog (.agg (cls r)) := by
  obtain ⟨w, S, v, h⟩ := h
  obtain ⟨A, c, rfl, _, hb, hrow⟩ := RepD.sl_iff.1 h
  obtain ⟨j, hj⟩ := List.getElem?_of_mem hr
  by_cases h0 : 0 < Try.prog.cellsOf E
  · obtain ⟨ad, _, hq⟩ := (hrow j r hj).2 h0
    exact okA_pt ⟨w, S, _, RepD.pt_iff.2 ⟨_, rfl, hq⟩⟩
  · have h1 := (hrow j r hj).1
    have : r = [] := List.eq_nil_of_length_eq_zero (by omega)
    subst this
    exact ⟨w, S, .agg #[], [], rfl, .nil⟩
theorem strs_ok {l : List ByteArray} (h : okD Try.prog (dStrs l)) : l.length * 16 ≤ 140737488351232 ∧ ∀ k ∈ l, k.size ≤ 140737488351232 := by
  obtain ⟨h1, h2⟩ := okD_sl h
  simp at h1
  exact ⟨h1, fun k hk => okD_str ((h2 [dS k] (List.mem_map.2 ⟨k, hk, rfl⟩)).2 _ (List.mem_singleton_self _))⟩
theorem gvs_ok {l : List GV} (h : okD Try.prog (dGVs l)) : l.length * 88 ≤ 140737488351232 ∧ ∀ x ∈ l, okA Try.prog (gvA x) := by
  obtain ⟨h1, h2⟩ := okD_sl h
  simp at h1
  exact ⟨h1, fun x hx => okD_row h (List.mem_map.2 ⟨x, hx, rfl⟩)⟩
theorem gv_ok {kind n : Int} {f : Nat} {s : ByteArray} {keys : List ByteArray} {l : List GV} (h : okA Try.prog (gvA (.mk kind n f s keys l))) : GVk kind n f s keys l := by
  have h1 := okA_agg h
  rw [gvD_mk] at h1
  have h2 : ∀ d ∈ [dI kind, dI n, dF f, dS s, dStrs keys, dGVs l], okD Try.prog d := fun d hd => h1 (.d d) (List.mem_map.2 ⟨d, hd, rfl⟩) d rfl
  have a1 := strs_ok (h2 (dStrs keys) (by simp))
  have a2 := gvs_ok (h2 (dGVs l) (by simp))
  refine ⟨okD_i64 (h2 _ (by simp)), okD_i64 (h2 (dI n) (by simp)), ?_, okD_str (h2 (dS s) (by simp)), a1.1, a1.2, a2.1, a2.2⟩
  have := okD_v (h2 (dF f) (by simp))
  simpa [okVb] using this
end Go.Smd
end
section
set_option linter.unusedSimpArgs false
namespace Go.Smd
open Go.RowKit
section
variable {P : Program} {N : Nat} {tl : List (Nat × Av)} {hl : List (Nat × Ow)} {σ : St}
theorem dst_mk {d : Option Tmp} {op : Op} {ty : TypeId} {pos : String} {af : Array Edge} {g : Option (Nat × Bool)} : Oper.dst ⟨d, op, ty, pos, af, g⟩ = d := _root_.id rfl
theorem op_mk {d : Option Tmp} {op : Op} {ty : TypeId} {pos : String} {af : Array Edge} {g : Option (Nat × Bool)} : Oper.op ⟨d, op, ty, pos, af, g⟩ = op := _root_.id rfl
theorem guard_mk {d : Option Tmp} {op : Op} {ty : TypeId} {pos : String} {af : Array Edge} {g : Option (Nat × Bool)} : Oper.guard ⟨d, op, ty, pos, af, g⟩ = g := _root_.id rfl
theorem give_nil : σ.give P [] = σ := _root_.id rfl
theorem give_cons {i : Nat} {F : List Nat} : (St.mk tl hl).give P (i :: F) = ⟨mapV (frzA P (i :: F) (look hl)) tl, mapV (frzO P (i :: F) (look hl)) (filK (fun j => !(i :: F).contains j) hl)⟩ := _root_.id rfl
theorem BkR_of {d : Option Tmp} {K : St → Prop} {t : Tg (σ, d, K)} {r : Av} {own' : List (Nat × Ow)} : BkR σ d K t r own' = Must (backOk σ (inR σ.own) (d.getD 0) own') (K ((σ.back (inR σ.own) (d.getD 0) own').put d ((r.ren (renI (inR σ.own) (d.getD 0))).fix (look (backH σ (inR σ.own) (d.getD 0) own'))))) () := _root_.id rfl
theorem own_mk : St.own ⟨tl, hl⟩ = hl := _root_.id rfl
theorem tmps_mk : St.tmps ⟨tl, hl⟩ = tl := _root_.id rfl
theorem back_mk {ρ : List (Nat × Nat)} {t : Nat} {own' : List (Nat × Ow)} : (St.mk tl hl).back ρ t own' = ⟨mapV (Av.fix (look (mapKV (renI ρ t) (Ow.ren (renI ρ t)) own' ++ filK (fun i => !(ρ.map (·.2)).contains i) hl))) (dedupK tl), mapV (Ow.fix (look (mapKV (renI ρ t) (Ow.ren (renI ρ t)) own' ++ filK (fun i => !(ρ.map (·.2)).contains i) hl))) (mapKV (renI ρ t) (Ow.ren (renI ρ t)) own' ++ filK (fun i => !(ρ.map (·.2)).contains i) hl)⟩ := _root_.id rfl
theorem backH_mk {ρ : List (Nat × Nat)} {t : Nat} {own' : List (Nat × Ow)} : backH (St.mk tl hl) ρ t own' = mapKV (renI ρ t) (Ow.ren (renI ρ t)) own' ++ filK (fun i => !(ρ.map (·.2)).contains i) hl := _root_.id rfl
theorem backOk_mk {ρ : List (Nat × Nat)} {t : Nat} {own' : List (Nat × Ow)} : backOk (St.mk tl hl) ρ t own' = keysO own' fun k _ => hasKey ρ k || (!hasKey hl (renI ρ t k) && decide (renI ρ t k < zed) && decide (k < zed)) := _root_.id rfl
end
attribute [simp] zed litA newArr makeA app1 appA appCall baseA rowA minA intsA reps chunk capArgs invokeA isIfc nilIfc nilIs isNilT isConst binA_nil binA_trn binA_ifn binA_ion mapLen lookA assertA assertD okTup newClo funcV funcA capsA trD loadA fieldAddrA partA storeA newCells cellsA indexAddrA indexA lenA extractA sliceA boundA buildA fillA placeS makeIfcA binA_lss binA_gtr binA_leq binA_geq binA_eql binA_neq binA_add binA_sub binA_beq binA_bne binA_seq binA_sne binA_slt binA_sgt binA_feq binA_flt binA_fgt unop_not okVb okInt startL
attribute [simp ↓] tmpL_nil tmpL_eq tmpL_ne tmp_tmpL look_nil look_eq look_ne h_mk put_some put_none new_mk ev_tmp ev_func ev_bool ev_nilIface ev_nilPtr ev_nilFunc ev_nilSlice ev_nilMap dst_mk op_mk guard_mk own_mk tmps_mk
attribute [simp] ev_const
attribute [simp ↓] vv_move vv_assign vv_pick vv_unOp vv_binOp vv_convert vv_fieldAddr vv_load vv_indexAddr vv_index vv_extract vv_nilCheck vv_typeAssert vv_makeFunc vv_lookup vv_makeInterface vv_build vv_slice vv_call len_value len_invoke len_len len_min len_append vv_alloc vv_box vv_store vv_buildSlice vv_makeSlice vv_range vv_next vv_entry vv_defer
attribute [simp] pick_b un_v conv_v chk_own chk_pt chk_io chk_ifc
attribute [simp] resW_some resW_none callF_some callF_none argsC_nil0 argsC_none argsC_cons
attribute [simp ↓] ws_of ws_alloc ws_box ws_store ws_buildSlice ws_makeSlice ws_append ws_callv ws_calli ws_makeFunc ws_range ws_next ws_entry ws_defer clo_call clo_range clo_next clo_entry clo_defer clo_make co_of ce_func ce_tmp ce_invoke ce_range ce_next ce_entry ce_defer
attribute [simp] gd_b gd_tup gdD_some
attribute [simp ↓] gd_none gd_some nth_zero nth_succ dst_ok dst_none ex_nil ex_lp ex_blk ex_ops_nil ex_ops ex_drw_nil ex_drw ex_seq ex_skip ex_label ex_block ex_ret ex_cond ex_region ex_drawn ex_exit unw_blk unw_ne unw_code unw_ops unw_lp FinX_n FinX_r FinPX_n FinPX_r BkX_n BkX_r
attribute [simp] cls_fold fix1_mk Fx_of eqS_some asX exD_some BkR_of
attribute [simp ↓] gs_nil gs_none gs_some
attribute [simp] Sel_true Sel_false Kv_true Kv_false
attribute [simp 900] Kv_b
attribute [simp 800] Kv_any
attribute [simp] Br_true Br_false Ob_some Ov_some Ov_none Tst_b Must_true
attribute [simp] frzA frzC frzN frzG frzO toDs Av.deep Cl.deep Cl.deepN argC coL coC noT Av.isD Cl.isD resAll resOne toParts toPart resA dedupK gaOk gaFree isApp isW isA plainCall give_nil give_cons mapV mapKV filK
attribute [simp] inOk inK inR mapR keysO hasKey Av.ren Ow.ren Cl.ren Av.ids Ow.ids Cl.ids Av.fix Ow.fix Cl.fix renI backOk_mk backH_mk back_mk handOk nodupB handed Cl.plain Av.plain
end Go.Smd
end
