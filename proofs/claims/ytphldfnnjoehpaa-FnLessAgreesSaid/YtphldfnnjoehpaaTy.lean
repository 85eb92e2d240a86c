/- The types of the program: sizes, fields, zero values. -/
import Derived.Test.YtphldfnnjoehpaaAf
set_option linter.unusedSimpArgs false
namespace Go.Smd
open Go.RowKit Go.Proofs
@[simp] theorem lay_2 : Try.prog.lay 2 = some (1, false) := by kernel_rfl
@[simp] theorem cells_2 : Try.prog.cellsOf 2 = 1 := by kernel_rfl
@[simp] theorem info_2 : (Try.prog.info? 2).isSome = true := by kernel_rfl
@[simp] theorem bytes_2 : Try.prog.bytesOf 2 = 8 := by kernel_rfl
@[simp] theorem ctys_2 : ctys Try.prog 2 = [none] := by kernel_rfl
@[simp] theorem conc_2 : Try.prog.concrete 2 = true := by kernel_rfl
@[simp] theorem zero_2 : zeroCs Try.prog 2 = some [.d (.v (.int .i64 0))] := by kernel_rfl
@[simp] theorem ifc_2 : isIfcT Try.prog 2 = some false := by kernel_rfl
@[simp] theorem map_2 : Try.prog.isMap 2 = false := by kernel_rfl
@[simp] theorem ptr_2 : Try.prog.ptrT 2 = some none := by kernel_rfl
@[simp] theorem ztup_2 : zeroTup Try.prog 2 = some (.tup [(false, [.d (.v (.int .i64 0))]), (false, [.d (.v (.bool false))])]) := by kernel_rfl
@[simp] theorem app_2 : Try.prog.appOk 2 = true := by kernel_rfl
@[simp] theorem und_2 : Try.prog.underlying 2 = some (.int .i64) := by kernel_rfl
@[simp] theorem lay_3 : Try.prog.lay 3 = some (1, false) := by kernel_rfl
@[simp] theorem cells_3 : Try.prog.cellsOf 3 = 1 := by kernel_rfl
@[simp] theorem info_3 : (Try.prog.info? 3).isSome = true := by kernel_rfl
@[simp] theorem bytes_3 : Try.prog.bytesOf 3 = 8 := by kernel_rfl
@[simp] theorem ctys_3 : ctys Try.prog 3 = [none] := by kernel_rfl
@[simp] theorem conc_3 : Try.prog.concrete 3 = true := by kernel_rfl
@[simp] theorem zero_3 : zeroCs Try.prog 3 = some [.d (.v (.int .i64 0))] := by kernel_rfl
@[simp] theorem ifc_3 : isIfcT Try.prog 3 = some false := by kernel_rfl
@[simp] theorem map_3 : Try.prog.isMap 3 = false := by kernel_rfl
@[simp] theorem ptr_3 : Try.prog.ptrT 3 = some none := by kernel_rfl
@[simp] theorem ztup_3 : zeroTup Try.prog 3 = some (.tup [(false, [.d (.v (.int .i64 0))]), (false, [.d (.v (.bool false))])]) := by kernel_rfl
@[simp] theorem app_3 : Try.prog.appOk 3 = true := by kernel_rfl
@[simp] theorem und_3 : Try.prog.underlying 3 = some (.int .i64) := by kernel_rfl
@[simp] theorem lay_4 : Try.prog.lay 4 = some (1, false) := by kernel_rfl
@[simp] theorem cells_4 : Try.prog.cellsOf 4 = 1 := by kernel_rfl
@[simp] theorem info_4 : (Try.prog.info? 4).isSome = true := by kernel_rfl
@[simp] theorem bytes_4 : Try.prog.bytesOf 4 = 1 := by kernel_rfl
@[simp] theorem ctys_4 : ctys Try.prog 4 = [none] := by kernel_rfl
@[simp] theorem conc_4 : Try.prog.concrete 4 = true := by kernel_rfl
@[simp] theorem zero_4 : zeroCs Try.prog 4 = some [.d (.v (.bool false))] := by kernel_rfl
@[simp] theorem ifc_4 : isIfcT Try.prog 4 = some false := by kernel_rfl
@[simp] theorem map_4 : Try.prog.isMap 4 = false := by kernel_rfl
@[simp] theorem ptr_4 : Try.prog.ptrT 4 = some none := by kernel_rfl
@[simp] theorem ztup_4 : zeroTup Try.prog 4 = some (.tup [(false, [.d (.v (.bool false))]), (false, [.d (.v (.bool false))])]) := by kernel_rfl
@[simp] theorem app_4 : Try.prog.appOk 4 = true := by kernel_rfl
@[simp] theorem und_4 : Try.prog.underlying 4 = some .bool := by kernel_rfl
@[simp] theorem lay_5 : Try.prog.lay 5 = some (1, false) := by kernel_rfl
@[simp] theorem cells_5 : Try.prog.cellsOf 5 = 1 := by kernel_rfl
@[simp] theorem info_5 : (Try.prog.info? 5).isSome = true := by kernel_rfl
@[simp] theorem bytes_5 : Try.prog.bytesOf 5 = 1 := by kernel_rfl
@[simp] theorem ctys_5 : ctys Try.prog 5 = [none] := by kernel_rfl
@[simp] theorem conc_5 : Try.prog.concrete 5 = true := by kernel_rfl
@[simp] theorem zero_5 : zeroCs Try.prog 5 = some [.d (.v (.int .u8 0))] := by kernel_rfl
@[simp] theorem ifc_5 : isIfcT Try.prog 5 = some false := by kernel_rfl
@[simp] theorem map_5 : Try.prog.isMap 5 = false := by kernel_rfl
@[simp] theorem ptr_5 : Try.prog.ptrT 5 = some none := by kernel_rfl
@[simp] theorem ztup_5 : zeroTup Try.prog 5 = some (.tup [(false, [.d (.v (.int .u8 0))]), (false, [.d (.v (.bool false))])]) := by kernel_rfl
@[simp] theorem app_5 : Try.prog.appOk 5 = true := by kernel_rfl
@[simp] theorem und_5 : Try.prog.underlying 5 = some (.int .u8) := by kernel_rfl
@[simp] theorem lay_6 : Try.prog.lay 6 = some (1, false) := by kernel_rfl
@[simp] theorem cells_6 : Try.prog.cellsOf 6 = 1 := by kernel_rfl
@[simp] theorem info_6 : (Try.prog.info? 6).isSome = true := by kernel_rfl
@[simp] theorem bytes_6 : Try.prog.bytesOf 6 = 1 := by kernel_rfl
@[simp] theorem ctys_6 : ctys Try.prog 6 = [none] := by kernel_rfl
@[simp] theorem conc_6 : Try.prog.concrete 6 = true := by kernel_rfl
@[simp] theorem zero_6 : zeroCs Try.prog 6 = some [.d (.v (.int .u8 0))] := by kernel_rfl
@[simp] theorem ifc_6 : isIfcT Try.prog 6 = some false := by kernel_rfl
@[simp] theorem map_6 : Try.prog.isMap 6 = false := by kernel_rfl
@[simp] theorem ptr_6 : Try.prog.ptrT 6 = some none := by kernel_rfl
@[simp] theorem ztup_6 : zeroTup Try.prog 6 = some (.tup [(false, [.d (.v (.int .u8 0))]), (false, [.d (.v (.bool false))])]) := by kernel_rfl
@[simp] theorem app_6 : Try.prog.appOk 6 = true := by kernel_rfl
@[simp] theorem und_6 : Try.prog.underlying 6 = some (.int .u8) := by kernel_rfl
@[simp] theorem lay_7 : Try.prog.lay 7 = some (4, true) := by kernel_rfl
@[simp] theorem cells_7 : Try.prog.cellsOf 7 = 4 := by kernel_rfl
@[simp] theorem info_7 : (Try.prog.info? 7).isSome = true := by kernel_rfl
@[simp] theorem bytes_7 : Try.prog.bytesOf 7 = 24 := by kernel_rfl
@[simp] theorem ctys_7 : ctys Try.prog 7 = [none, none, none, none] := by kernel_rfl
@[simp] theorem conc_7 : Try.prog.concrete 7 = true := by kernel_rfl
@[simp] theorem zero_7 : zeroCs Try.prog 7 = some [.d (.v (.int .i64 0)), .d (.v (.int .i64 0)), .d (.v (.bool false)), .d (.v (.int .u8 0))] := by kernel_rfl
@[simp] theorem fld_7_0 : Try.prog.fld 7 0 = some (0, 1, false) := by kernel_rfl
@[simp] theorem fld_7_1 : Try.prog.fld 7 1 = some (1, 1, false) := by kernel_rfl
@[simp] theorem fld_7_2 : Try.prog.fld 7 2 = some (2, 1, false) := by kernel_rfl
@[simp] theorem fld_7_3 : Try.prog.fld 7 3 = some (3, 1, false) := by kernel_rfl
@[simp] theorem str_7 : Try.prog.strOk 7 = true := by kernel_rfl
@[simp] theorem ifc_7 : isIfcT Try.prog 7 = some false := by kernel_rfl
@[simp] theorem map_7 : Try.prog.isMap 7 = false := by kernel_rfl
@[simp] theorem ptr_7 : Try.prog.ptrT 7 = some none := by kernel_rfl
@[simp] theorem ztup_7 : zeroTup Try.prog 7 = some (.tup [(true, [.d (.v (.int .i64 0)), .d (.v (.int .i64 0)), .d (.v (.bool false)), .d (.v (.int .u8 0))]), (false, [.d (.v (.bool false))])]) := by kernel_rfl
@[simp] theorem app_7 : Try.prog.appOk 7 = true := by kernel_rfl
@[simp] theorem lay_8 : Try.prog.lay 8 = some (4, true) := by kernel_rfl
@[simp] theorem cells_8 : Try.prog.cellsOf 8 = 4 := by kernel_rfl
@[simp] theorem info_8 : (Try.prog.info? 8).isSome = true := by kernel_rfl
@[simp] theorem bytes_8 : Try.prog.bytesOf 8 = 24 := by kernel_rfl
@[simp] theorem ctys_8 : ctys Try.prog 8 = [none, none, none, none] := by kernel_rfl
@[simp] theorem conc_8 : Try.prog.concrete 8 = true := by kernel_rfl
@[simp] theorem zero_8 : zeroCs Try.prog 8 = some [.d (.v (.int .i64 0)), .d (.v (.int .i64 0)), .d (.v (.bool false)), .d (.v (.int .u8 0))] := by kernel_rfl
@[simp] theorem fld_8_0 : Try.prog.fld 8 0 = some (0, 1, false) := by kernel_rfl
@[simp] theorem fld_8_1 : Try.prog.fld 8 1 = some (1, 1, false) := by kernel_rfl
@[simp] theorem fld_8_2 : Try.prog.fld 8 2 = some (2, 1, false) := by kernel_rfl
@[simp] theorem fld_8_3 : Try.prog.fld 8 3 = some (3, 1, false) := by kernel_rfl
@[simp] theorem str_8 : Try.prog.strOk 8 = true := by kernel_rfl
@[simp] theorem ifc_8 : isIfcT Try.prog 8 = some false := by kernel_rfl
@[simp] theorem map_8 : Try.prog.isMap 8 = false := by kernel_rfl
@[simp] theorem ptr_8 : Try.prog.ptrT 8 = some none := by kernel_rfl
@[simp] theorem ztup_8 : zeroTup Try.prog 8 = some (.tup [(true, [.d (.v (.int .i64 0)), .d (.v (.int .i64 0)), .d (.v (.bool false)), .d (.v (.int .u8 0))]), (false, [.d (.v (.bool false))])]) := by kernel_rfl
@[simp] theorem app_8 : Try.prog.appOk 8 = true := by kernel_rfl
@[simp] theorem lay_9 : Try.prog.lay 9 = some (1, false) := by kernel_rfl
@[simp] theorem cells_9 : Try.prog.cellsOf 9 = 1 := by kernel_rfl
@[simp] theorem info_9 : (Try.prog.info? 9).isSome = true := by kernel_rfl
@[simp] theorem bytes_9 : Try.prog.bytesOf 9 = 16 := by kernel_rfl
@[simp] theorem ctys_9 : ctys Try.prog 9 = [none] := by kernel_rfl
@[simp] theorem conc_9 : Try.prog.concrete 9 = true := by kernel_rfl
@[simp] theorem zero_9 : zeroCs Try.prog 9 = some [.d (.v (.string ⟨#[]⟩))] := by kernel_rfl
@[simp] theorem ifc_9 : isIfcT Try.prog 9 = some false := by kernel_rfl
@[simp] theorem map_9 : Try.prog.isMap 9 = false := by kernel_rfl
@[simp] theorem ptr_9 : Try.prog.ptrT 9 = some none := by kernel_rfl
@[simp] theorem ztup_9 : zeroTup Try.prog 9 = some (.tup [(false, [.d (.v (.string ⟨#[]⟩))]), (false, [.d (.v (.bool false))])]) := by kernel_rfl
@[simp] theorem app_9 : Try.prog.appOk 9 = true := by kernel_rfl
@[simp] theorem und_9 : Try.prog.underlying 9 = some .string := by kernel_rfl
@[simp] theorem lay_10 : Try.prog.lay 10 = some (1, false) := by kernel_rfl
@[simp] theorem cells_10 : Try.prog.cellsOf 10 = 1 := by kernel_rfl
@[simp] theorem info_10 : (Try.prog.info? 10).isSome = true := by kernel_rfl
@[simp] theorem bytes_10 : Try.prog.bytesOf 10 = 16 := by kernel_rfl
@[simp] theorem ctys_10 : ctys Try.prog 10 = [none] := by kernel_rfl
@[simp] theorem conc_10 : Try.prog.concrete 10 = true := by kernel_rfl
@[simp] theorem zero_10 : zeroCs Try.prog 10 = some [.d (.v (.string ⟨#[]⟩))] := by kernel_rfl
@[simp] theorem ifc_10 : isIfcT Try.prog 10 = some false := by kernel_rfl
@[simp] theorem map_10 : Try.prog.isMap 10 = false := by kernel_rfl
@[simp] theorem ptr_10 : Try.prog.ptrT 10 = some none := by kernel_rfl
@[simp] theorem ztup_10 : zeroTup Try.prog 10 = some (.tup [(false, [.d (.v (.string ⟨#[]⟩))]), (false, [.d (.v (.bool false))])]) := by kernel_rfl
@[simp] theorem app_10 : Try.prog.appOk 10 = true := by kernel_rfl
@[simp] theorem und_10 : Try.prog.underlying 10 = some .string := by kernel_rfl
@[simp] theorem lay_11 : Try.prog.lay 11 = some (1, false) := by kernel_rfl
@[simp] theorem cells_11 : Try.prog.cellsOf 11 = 1 := by kernel_rfl
@[simp] theorem info_11 : (Try.prog.info? 11).isSome = true := by kernel_rfl
@[simp] theorem bytes_11 : Try.prog.bytesOf 11 = 16 := by kernel_rfl
@[simp] theorem ctys_11 : ctys Try.prog 11 = [none] := by kernel_rfl
@[simp] theorem conc_11 : Try.prog.concrete 11 = true := by kernel_rfl
@[simp] theorem zero_11 : zeroCs Try.prog 11 = some [.d (.v (.string ⟨#[]⟩))] := by kernel_rfl
@[simp] theorem ifc_11 : isIfcT Try.prog 11 = some false := by kernel_rfl
@[simp] theorem map_11 : Try.prog.isMap 11 = false := by kernel_rfl
@[simp] theorem ptr_11 : Try.prog.ptrT 11 = some none := by kernel_rfl
@[simp] theorem ztup_11 : zeroTup Try.prog 11 = some (.tup [(false, [.d (.v (.string ⟨#[]⟩))]), (false, [.d (.v (.bool false))])]) := by kernel_rfl
@[simp] theorem app_11 : Try.prog.appOk 11 = true := by kernel_rfl
@[simp] theorem und_11 : Try.prog.underlying 11 = some .string := by kernel_rfl
@[simp] theorem lay_12 : Try.prog.lay 12 = some (1, false) := by kernel_rfl
@[simp] theorem cells_12 : Try.prog.cellsOf 12 = 1 := by kernel_rfl
@[simp] theorem info_12 : (Try.prog.info? 12).isSome = true := by kernel_rfl
@[simp] theorem bytes_12 : Try.prog.bytesOf 12 = 8 := by kernel_rfl
@[simp] theorem ctys_12 : ctys Try.prog 12 = [none] := by kernel_rfl
@[simp] theorem conc_12 : Try.prog.concrete 12 = true := by kernel_rfl
@[simp] theorem zero_12 : zeroCs Try.prog 12 = some [.d (.v (.int .u64 0))] := by kernel_rfl
@[simp] theorem ifc_12 : isIfcT Try.prog 12 = some false := by kernel_rfl
@[simp] theorem map_12 : Try.prog.isMap 12 = false := by kernel_rfl
@[simp] theorem ptr_12 : Try.prog.ptrT 12 = some none := by kernel_rfl
@[simp] theorem ztup_12 : zeroTup Try.prog 12 = some (.tup [(false, [.d (.v (.int .u64 0))]), (false, [.d (.v (.bool false))])]) := by kernel_rfl
@[simp] theorem app_12 : Try.prog.appOk 12 = true := by kernel_rfl
@[simp] theorem und_12 : Try.prog.underlying 12 = some (.int .u64) := by kernel_rfl
@[simp] theorem lay_13 : Try.prog.lay 13 = some (2, true) := by kernel_rfl
@[simp] theorem cells_13 : Try.prog.cellsOf 13 = 2 := by kernel_rfl
@[simp] theorem info_13 : (Try.prog.info? 13).isSome = true := by kernel_rfl
@[simp] theorem bytes_13 : Try.prog.bytesOf 13 = 24 := by kernel_rfl
@[simp] theorem ctys_13 : ctys Try.prog 13 = [none, none] := by kernel_rfl
@[simp] theorem conc_13 : Try.prog.concrete 13 = true := by kernel_rfl
@[simp] theorem zero_13 : zeroCs Try.prog 13 = some [.d (.v (.string ⟨#[]⟩)), .d (.v (.int .u64 0))] := by kernel_rfl
@[simp] theorem fld_13_0 : Try.prog.fld 13 0 = some (0, 1, false) := by kernel_rfl
@[simp] theorem fld_13_1 : Try.prog.fld 13 1 = some (1, 1, false) := by kernel_rfl
@[simp] theorem str_13 : Try.prog.strOk 13 = true := by kernel_rfl
@[simp] theorem ifc_13 : isIfcT Try.prog 13 = some false := by kernel_rfl
@[simp] theorem map_13 : Try.prog.isMap 13 = false := by kernel_rfl
@[simp] theorem ptr_13 : Try.prog.ptrT 13 = some none := by kernel_rfl
@[simp] theorem ztup_13 : zeroTup Try.prog 13 = some (.tup [(true, [.d (.v (.string ⟨#[]⟩)), .d (.v (.int .u64 0))]), (false, [.d (.v (.bool false))])]) := by kernel_rfl
@[simp] theorem app_13 : Try.prog.appOk 13 = true := by kernel_rfl
@[simp] theorem lay_14 : Try.prog.lay 14 = some (2, true) := by kernel_rfl
@[simp] theorem cells_14 : Try.prog.cellsOf 14 = 2 := by kernel_rfl
@[simp] theorem info_14 : (Try.prog.info? 14).isSome = true := by kernel_rfl
@[simp] theorem bytes_14 : Try.prog.bytesOf 14 = 24 := by kernel_rfl
@[simp] theorem ctys_14 : ctys Try.prog 14 = [none, none] := by kernel_rfl
@[simp] theorem conc_14 : Try.prog.concrete 14 = true := by kernel_rfl
@[simp] theorem zero_14 : zeroCs Try.prog 14 = some [.d (.v (.string ⟨#[]⟩)), .d (.v (.int .u64 0))] := by kernel_rfl
@[simp] theorem fld_14_0 : Try.prog.fld 14 0 = some (0, 1, false) := by kernel_rfl
@[simp] theorem fld_14_1 : Try.prog.fld 14 1 = some (1, 1, false) := by kernel_rfl
@[simp] theorem str_14 : Try.prog.strOk 14 = true := by kernel_rfl
@[simp] theorem ifc_14 : isIfcT Try.prog 14 = some false := by kernel_rfl
@[simp] theorem map_14 : Try.prog.isMap 14 = false := by kernel_rfl
@[simp] theorem ptr_14 : Try.prog.ptrT 14 = some none := by kernel_rfl
@[simp] theorem ztup_14 : zeroTup Try.prog 14 = some (.tup [(true, [.d (.v (.string ⟨#[]⟩)), .d (.v (.int .u64 0))]), (false, [.d (.v (.bool false))])]) := by kernel_rfl
@[simp] theorem app_14 : Try.prog.appOk 14 = true := by kernel_rfl
@[simp] theorem lay_15 : Try.prog.lay 15 = some (1, false) := by kernel_rfl
@[simp] theorem cells_15 : Try.prog.cellsOf 15 = 1 := by kernel_rfl
@[simp] theorem info_15 : (Try.prog.info? 15).isSome = true := by kernel_rfl
@[simp] theorem bytes_15 : Try.prog.bytesOf 15 = 8 := by kernel_rfl
@[simp] theorem ctys_15 : ctys Try.prog 15 = [none] := by kernel_rfl
@[simp] theorem conc_15 : Try.prog.concrete 15 = true := by kernel_rfl
@[simp] theorem zero_15 : zeroCs Try.prog 15 = some [.d (.v (.pointer none))] := by kernel_rfl
@[simp] theorem ifc_15 : isIfcT Try.prog 15 = some false := by kernel_rfl
@[simp] theorem map_15 : Try.prog.isMap 15 = false := by kernel_rfl
@[simp] theorem ptr_15 : Try.prog.ptrT 15 = some (some 256) := by kernel_rfl
@[simp] theorem ztup_15 : zeroTup Try.prog 15 = some (.tup [(false, [.d (.v (.pointer none))]), (false, [.d (.v (.bool false))])]) := by kernel_rfl
@[simp] theorem app_15 : Try.prog.appOk 15 = true := by kernel_rfl
@[simp] theorem und_15 : Try.prog.underlying 15 = some (.pointer 256) := by kernel_rfl
@[simp] theorem lay_16 : Try.prog.lay 16 = some (1, false) := by kernel_rfl
@[simp] theorem cells_16 : Try.prog.cellsOf 16 = 1 := by kernel_rfl
@[simp] theorem info_16 : (Try.prog.info? 16).isSome = true := by kernel_rfl
@[simp] theorem bytes_16 : Try.prog.bytesOf 16 = 8 := by kernel_rfl
@[simp] theorem ctys_16 : ctys Try.prog 16 = [none] := by kernel_rfl
@[simp] theorem conc_16 : Try.prog.concrete 16 = true := by kernel_rfl
@[simp] theorem zero_16 : zeroCs Try.prog 16 = some [.d (.v (.pointer none))] := by kernel_rfl
@[simp] theorem ifc_16 : isIfcT Try.prog 16 = some false := by kernel_rfl
@[simp] theorem map_16 : Try.prog.isMap 16 = false := by kernel_rfl
@[simp] theorem ptr_16 : Try.prog.ptrT 16 = some (some 259) := by kernel_rfl
@[simp] theorem ztup_16 : zeroTup Try.prog 16 = some (.tup [(false, [.d (.v (.pointer none))]), (false, [.d (.v (.bool false))])]) := by kernel_rfl
@[simp] theorem app_16 : Try.prog.appOk 16 = true := by kernel_rfl
@[simp] theorem und_16 : Try.prog.underlying 16 = some (.pointer 259) := by kernel_rfl
@[simp] theorem lay_17 : Try.prog.lay 17 = some (1, false) := by kernel_rfl
@[simp] theorem cells_17 : Try.prog.cellsOf 17 = 1 := by kernel_rfl
@[simp] theorem info_17 : (Try.prog.info? 17).isSome = true := by kernel_rfl
@[simp] theorem bytes_17 : Try.prog.bytesOf 17 = 8 := by kernel_rfl
@[simp] theorem ctys_17 : ctys Try.prog 17 = [none] := by kernel_rfl
@[simp] theorem conc_17 : Try.prog.concrete 17 = true := by kernel_rfl
@[simp] theorem zero_17 : zeroCs Try.prog 17 = some [.d (.v (.pointer none))] := by kernel_rfl
@[simp] theorem ifc_17 : isIfcT Try.prog 17 = some false := by kernel_rfl
@[simp] theorem map_17 : Try.prog.isMap 17 = false := by kernel_rfl
@[simp] theorem ptr_17 : Try.prog.ptrT 17 = some (some 268) := by kernel_rfl
@[simp] theorem ztup_17 : zeroTup Try.prog 17 = some (.tup [(false, [.d (.v (.pointer none))]), (false, [.d (.v (.bool false))])]) := by kernel_rfl
@[simp] theorem app_17 : Try.prog.appOk 17 = true := by kernel_rfl
@[simp] theorem und_17 : Try.prog.underlying 17 = some (.pointer 268) := by kernel_rfl
@[simp] theorem lay_18 : Try.prog.lay 18 = some (1, true) := by kernel_rfl
@[simp] theorem cells_18 : Try.prog.cellsOf 18 = 1 := by kernel_rfl
@[simp] theorem info_18 : (Try.prog.info? 18).isSome = true := by kernel_rfl
@[simp] theorem bytes_18 : Try.prog.bytesOf 18 = 8 := by kernel_rfl
@[simp] theorem ctys_18 : ctys Try.prog 18 = [none] := by kernel_rfl
@[simp] theorem conc_18 : Try.prog.concrete 18 = true := by kernel_rfl
@[simp] theorem zero_18 : zeroCs Try.prog 18 = some [.d (.v (.pointer none))] := by kernel_rfl
@[simp] theorem fld_18_0 : Try.prog.fld 18 0 = some (0, 1, false) := by kernel_rfl
@[simp] theorem str_18 : Try.prog.strOk 18 = true := by kernel_rfl
@[simp] theorem ifc_18 : isIfcT Try.prog 18 = some false := by kernel_rfl
@[simp] theorem map_18 : Try.prog.isMap 18 = false := by kernel_rfl
@[simp] theorem ptr_18 : Try.prog.ptrT 18 = some none := by kernel_rfl
@[simp] theorem ztup_18 : zeroTup Try.prog 18 = some (.tup [(true, [.d (.v (.pointer none))]), (false, [.d (.v (.bool false))])]) := by kernel_rfl
@[simp] theorem app_18 : Try.prog.appOk 18 = true := by kernel_rfl
@[simp] theorem lay_19 : Try.prog.lay 19 = some (1, true) := by kernel_rfl
@[simp] theorem cells_19 : Try.prog.cellsOf 19 = 1 := by kernel_rfl
@[simp] theorem info_19 : (Try.prog.info? 19).isSome = true := by kernel_rfl
@[simp] theorem bytes_19 : Try.prog.bytesOf 19 = 8 := by kernel_rfl
@[simp] theorem ctys_19 : ctys Try.prog 19 = [none] := by kernel_rfl
@[simp] theorem conc_19 : Try.prog.concrete 19 = true := by kernel_rfl
@[simp] theorem zero_19 : zeroCs Try.prog 19 = some [.d (.v (.pointer none))] := by kernel_rfl
@[simp] theorem fld_19_0 : Try.prog.fld 19 0 = some (0, 1, false) := by kernel_rfl
@[simp] theorem str_19 : Try.prog.strOk 19 = true := by kernel_rfl
@[simp] theorem ifc_19 : isIfcT Try.prog 19 = some false := by kernel_rfl
@[simp] theorem map_19 : Try.prog.isMap 19 = false := by kernel_rfl
@[simp] theorem ptr_19 : Try.prog.ptrT 19 = some none := by kernel_rfl
@[simp] theorem ztup_19 : zeroTup Try.prog 19 = some (.tup [(true, [.d (.v (.pointer none))]), (false, [.d (.v (.bool false))])]) := by kernel_rfl
@[simp] theorem app_19 : Try.prog.appOk 19 = true := by kernel_rfl
@[simp] theorem lay_20 : Try.prog.lay 20 = some (1, false) := by kernel_rfl
@[simp] theorem cells_20 : Try.prog.cellsOf 20 = 1 := by kernel_rfl
@[simp] theorem info_20 : (Try.prog.info? 20).isSome = true := by kernel_rfl
@[simp] theorem bytes_20 : Try.prog.bytesOf 20 = 16 := by kernel_rfl
@[simp] theorem ctys_20 : ctys Try.prog 20 = [none] := by kernel_rfl
@[simp] theorem zero_20 : zeroCs Try.prog 20 = some [.d (.v (.nilIface))] := by kernel_rfl
@[simp] theorem ifc_20 : isIfcT Try.prog 20 = some true := by kernel_rfl
@[simp] theorem map_20 : Try.prog.isMap 20 = false := by kernel_rfl
@[simp] theorem app_20 : Try.prog.appOk 20 = true := by kernel_rfl
@[simp] theorem lay_21 : Try.prog.lay 21 = some (1, false) := by kernel_rfl
@[simp] theorem cells_21 : Try.prog.cellsOf 21 = 1 := by kernel_rfl
@[simp] theorem info_21 : (Try.prog.info? 21).isSome = true := by kernel_rfl
@[simp] theorem bytes_21 : Try.prog.bytesOf 21 = 4 := by kernel_rfl
@[simp] theorem ctys_21 : ctys Try.prog 21 = [none] := by kernel_rfl
@[simp] theorem conc_21 : Try.prog.concrete 21 = true := by kernel_rfl
@[simp] theorem zero_21 : zeroCs Try.prog 21 = some [.d (.v (.int .i32 0))] := by kernel_rfl
@[simp] theorem ifc_21 : isIfcT Try.prog 21 = some false := by kernel_rfl
@[simp] theorem map_21 : Try.prog.isMap 21 = false := by kernel_rfl
@[simp] theorem ptr_21 : Try.prog.ptrT 21 = some none := by kernel_rfl
@[simp] theorem ztup_21 : zeroTup Try.prog 21 = some (.tup [(false, [.d (.v (.int .i32 0))]), (false, [.d (.v (.bool false))])]) := by kernel_rfl
@[simp] theorem app_21 : Try.prog.appOk 21 = true := by kernel_rfl
@[simp] theorem und_21 : Try.prog.underlying 21 = some (.int .i32) := by kernel_rfl
@[simp] theorem lay_22 : Try.prog.lay 22 = some (1, false) := by kernel_rfl
@[simp] theorem cells_22 : Try.prog.cellsOf 22 = 1 := by kernel_rfl
@[simp] theorem info_22 : (Try.prog.info? 22).isSome = true := by kernel_rfl
@[simp] theorem bytes_22 : Try.prog.bytesOf 22 = 8 := by kernel_rfl
@[simp] theorem ctys_22 : ctys Try.prog 22 = [none] := by kernel_rfl
@[simp] theorem conc_22 : Try.prog.concrete 22 = true := by kernel_rfl
@[simp] theorem zero_22 : zeroCs Try.prog 22 = some [.d (.v (.float .f64 0))] := by kernel_rfl
@[simp] theorem ifc_22 : isIfcT Try.prog 22 = some false := by kernel_rfl
@[simp] theorem map_22 : Try.prog.isMap 22 = false := by kernel_rfl
@[simp] theorem ptr_22 : Try.prog.ptrT 22 = some none := by kernel_rfl
@[simp] theorem ztup_22 : zeroTup Try.prog 22 = some (.tup [(false, [.d (.v (.float .f64 0))]), (false, [.d (.v (.bool false))])]) := by kernel_rfl
@[simp] theorem app_22 : Try.prog.appOk 22 = true := by kernel_rfl
@[simp] theorem und_22 : Try.prog.underlying 22 = some (.float .f64) := by kernel_rfl
@[simp] theorem lay_23 : Try.prog.lay 23 = some (1, false) := by kernel_rfl
@[simp] theorem cells_23 : Try.prog.cellsOf 23 = 1 := by kernel_rfl
@[simp] theorem info_23 : (Try.prog.info? 23).isSome = true := by kernel_rfl
@[simp] theorem bytes_23 : Try.prog.bytesOf 23 = 24 := by kernel_rfl
@[simp] theorem ctys_23 : ctys Try.prog 23 = [some 9] := by kernel_rfl
@[simp] theorem conc_23 : Try.prog.concrete 23 = true := by kernel_rfl
@[simp] theorem zero_23 : zeroCs Try.prog 23 = some [.d (.v (.slice none 0 0))] := by kernel_rfl
@[simp] theorem ifc_23 : isIfcT Try.prog 23 = some false := by kernel_rfl
@[simp] theorem map_23 : Try.prog.isMap 23 = false := by kernel_rfl
@[simp] theorem ptr_23 : Try.prog.ptrT 23 = some none := by kernel_rfl
@[simp] theorem ztup_23 : zeroTup Try.prog 23 = some (.tup [(false, [.d (.v (.slice none 0 0))]), (false, [.d (.v (.bool false))])]) := by kernel_rfl
@[simp] theorem app_23 : Try.prog.appOk 23 = true := by kernel_rfl
@[simp] theorem elem_23 : Try.prog.elemT 23 = some 9 := by kernel_rfl
@[simp] theorem und_23 : Try.prog.underlying 23 = some (.slice 9) := by kernel_rfl
@[simp] theorem lay_24 : Try.prog.lay 24 = some (1, false) := by kernel_rfl
@[simp] theorem cells_24 : Try.prog.cellsOf 24 = 1 := by kernel_rfl
@[simp] theorem info_24 : (Try.prog.info? 24).isSome = true := by kernel_rfl
@[simp] theorem bytes_24 : Try.prog.bytesOf 24 = 24 := by kernel_rfl
@[simp] theorem ctys_24 : ctys Try.prog 24 = [some 26] := by kernel_rfl
@[simp] theorem conc_24 : Try.prog.concrete 24 = true := by kernel_rfl
@[simp] theorem zero_24 : zeroCs Try.prog 24 = some [.d (.v (.slice none 0 0))] := by kernel_rfl
@[simp] theorem ifc_24 : isIfcT Try.prog 24 = some false := by kernel_rfl
@[simp] theorem map_24 : Try.prog.isMap 24 = false := by kernel_rfl
@[simp] theorem ptr_24 : Try.prog.ptrT 24 = some none := by kernel_rfl
@[simp] theorem ztup_24 : zeroTup Try.prog 24 = some (.tup [(false, [.d (.v (.slice none 0 0))]), (false, [.d (.v (.bool false))])]) := by kernel_rfl
@[simp] theorem app_24 : Try.prog.appOk 24 = true := by kernel_rfl
@[simp] theorem elem_24 : Try.prog.elemT 24 = some 26 := by kernel_rfl
@[simp] theorem und_24 : Try.prog.underlying 24 = some (.slice 26) := by kernel_rfl
@[simp] theorem lay_25 : Try.prog.lay 25 = some (6, true) := by kernel_rfl
@[simp] theorem cells_25 : Try.prog.cellsOf 25 = 6 := by kernel_rfl
@[simp] theorem info_25 : (Try.prog.info? 25).isSome = true := by kernel_rfl
@[simp] theorem bytes_25 : Try.prog.bytesOf 25 = 88 := by kernel_rfl
@[simp] theorem ctys_25 : ctys Try.prog 25 = [none, none, none, none, some 9, some 26] := by kernel_rfl
@[simp] theorem conc_25 : Try.prog.concrete 25 = true := by kernel_rfl
@[simp] theorem zero_25 : zeroCs Try.prog 25 = some [.d (.v (.int .i64 0)), .d (.v (.int .i64 0)), .d (.v (.float .f64 0)), .d (.v (.string ⟨#[]⟩)), .d (.v (.slice none 0 0)), .d (.v (.slice none 0 0))] := by kernel_rfl
@[simp] theorem fld_25_0 : Try.prog.fld 25 0 = some (0, 1, false) := by kernel_rfl
@[simp] theorem fld_25_1 : Try.prog.fld 25 1 = some (1, 1, false) := by kernel_rfl
@[simp] theorem fld_25_2 : Try.prog.fld 25 2 = some (2, 1, false) := by kernel_rfl
@[simp] theorem fld_25_3 : Try.prog.fld 25 3 = some (3, 1, false) := by kernel_rfl
@[simp] theorem fld_25_4 : Try.prog.fld 25 4 = some (4, 1, false) := by kernel_rfl
@[simp] theorem fld_25_5 : Try.prog.fld 25 5 = some (5, 1, false) := by kernel_rfl
@[simp] theorem str_25 : Try.prog.strOk 25 = true := by kernel_rfl
@[simp] theorem ifc_25 : isIfcT Try.prog 25 = some false := by kernel_rfl
@[simp] theorem map_25 : Try.prog.isMap 25 = false := by kernel_rfl
@[simp] theorem ptr_25 : Try.prog.ptrT 25 = some none := by kernel_rfl
@[simp] theorem ztup_25 : zeroTup Try.prog 25 = some (.tup [(true, [.d (.v (.int .i64 0)), .d (.v (.int .i64 0)), .d (.v (.float .f64 0)), .d (.v (.string ⟨#[]⟩)), .d (.v (.slice none 0 0)), .d (.v (.slice none 0 0))]), (false, [.d (.v (.bool false))])]) := by kernel_rfl
@[simp] theorem app_25 : Try.prog.appOk 25 = true := by kernel_rfl
@[simp] theorem lay_26 : Try.prog.lay 26 = some (6, true) := by kernel_rfl
@[simp] theorem cells_26 : Try.prog.cellsOf 26 = 6 := by kernel_rfl
@[simp] theorem info_26 : (Try.prog.info? 26).isSome = true := by kernel_rfl
@[simp] theorem bytes_26 : Try.prog.bytesOf 26 = 88 := by kernel_rfl
@[simp] theorem ctys_26 : ctys Try.prog 26 = [none, none, none, none, some 9, some 26] := by kernel_rfl
@[simp] theorem conc_26 : Try.prog.concrete 26 = true := by kernel_rfl
@[simp] theorem zero_26 : zeroCs Try.prog 26 = some [.d (.v (.int .i64 0)), .d (.v (.int .i64 0)), .d (.v (.float .f64 0)), .d (.v (.string ⟨#[]⟩)), .d (.v (.slice none 0 0)), .d (.v (.slice none 0 0))] := by kernel_rfl
@[simp] theorem fld_26_0 : Try.prog.fld 26 0 = some (0, 1, false) := by kernel_rfl
@[simp] theorem fld_26_1 : Try.prog.fld 26 1 = some (1, 1, false) := by kernel_rfl
@[simp] theorem fld_26_2 : Try.prog.fld 26 2 = some (2, 1, false) := by kernel_rfl
@[simp] theorem fld_26_3 : Try.prog.fld 26 3 = some (3, 1, false) := by kernel_rfl
@[simp] theorem fld_26_4 : Try.prog.fld 26 4 = some (4, 1, false) := by kernel_rfl
@[simp] theorem fld_26_5 : Try.prog.fld 26 5 = some (5, 1, false) := by kernel_rfl
@[simp] theorem str_26 : Try.prog.strOk 26 = true := by kernel_rfl
@[simp] theorem ifc_26 : isIfcT Try.prog 26 = some false := by kernel_rfl
@[simp] theorem map_26 : Try.prog.isMap 26 = false := by kernel_rfl
@[simp] theorem ptr_26 : Try.prog.ptrT 26 = some none := by kernel_rfl
@[simp] theorem ztup_26 : zeroTup Try.prog 26 = some (.tup [(true, [.d (.v (.int .i64 0)), .d (.v (.int .i64 0)), .d (.v (.float .f64 0)), .d (.v (.string ⟨#[]⟩)), .d (.v (.slice none 0 0)), .d (.v (.slice none 0 0))]), (false, [.d (.v (.bool false))])]) := by kernel_rfl
@[simp] theorem app_26 : Try.prog.appOk 26 = true := by kernel_rfl
@[simp] theorem lay_32 : Try.prog.lay 32 = some (1, false) := by kernel_rfl
@[simp] theorem cells_32 : Try.prog.cellsOf 32 = 1 := by kernel_rfl
@[simp] theorem info_32 : (Try.prog.info? 32).isSome = true := by kernel_rfl
@[simp] theorem bytes_32 : Try.prog.bytesOf 32 = 24 := by kernel_rfl
@[simp] theorem ctys_32 : ctys Try.prog 32 = [some 44] := by kernel_rfl
@[simp] theorem conc_32 : Try.prog.concrete 32 = true := by kernel_rfl
@[simp] theorem zero_32 : zeroCs Try.prog 32 = some [.d (.v (.slice none 0 0))] := by kernel_rfl
@[simp] theorem ifc_32 : isIfcT Try.prog 32 = some false := by kernel_rfl
@[simp] theorem map_32 : Try.prog.isMap 32 = false := by kernel_rfl
@[simp] theorem ptr_32 : Try.prog.ptrT 32 = some none := by kernel_rfl
@[simp] theorem ztup_32 : zeroTup Try.prog 32 = some (.tup [(false, [.d (.v (.slice none 0 0))]), (false, [.d (.v (.bool false))])]) := by kernel_rfl
@[simp] theorem app_32 : Try.prog.appOk 32 = true := by kernel_rfl
@[simp] theorem elem_32 : Try.prog.elemT 32 = some 44 := by kernel_rfl
@[simp] theorem und_32 : Try.prog.underlying 32 = some (.slice 44) := by kernel_rfl
@[simp] theorem lay_33 : Try.prog.lay 33 = some (1, false) := by kernel_rfl
@[simp] theorem cells_33 : Try.prog.cellsOf 33 = 1 := by kernel_rfl
@[simp] theorem info_33 : (Try.prog.info? 33).isSome = true := by kernel_rfl
@[simp] theorem bytes_33 : Try.prog.bytesOf 33 = 24 := by kernel_rfl
@[simp] theorem ctys_33 : ctys Try.prog 33 = [some 99] := by kernel_rfl
@[simp] theorem conc_33 : Try.prog.concrete 33 = true := by kernel_rfl
@[simp] theorem zero_33 : zeroCs Try.prog 33 = some [.d (.v (.slice none 0 0))] := by kernel_rfl
@[simp] theorem ifc_33 : isIfcT Try.prog 33 = some false := by kernel_rfl
@[simp] theorem map_33 : Try.prog.isMap 33 = false := by kernel_rfl
@[simp] theorem ptr_33 : Try.prog.ptrT 33 = some none := by kernel_rfl
@[simp] theorem ztup_33 : zeroTup Try.prog 33 = some (.tup [(false, [.d (.v (.slice none 0 0))]), (false, [.d (.v (.bool false))])]) := by kernel_rfl
@[simp] theorem app_33 : Try.prog.appOk 33 = true := by kernel_rfl
@[simp] theorem elem_33 : Try.prog.elemT 33 = some 99 := by kernel_rfl
@[simp] theorem und_33 : Try.prog.underlying 33 = some (.slice 99) := by kernel_rfl
@[simp] theorem lay_34 : Try.prog.lay 34 = some (1, false) := by kernel_rfl
@[simp] theorem cells_34 : Try.prog.cellsOf 34 = 1 := by kernel_rfl
@[simp] theorem info_34 : (Try.prog.info? 34).isSome = true := by kernel_rfl
@[simp] theorem bytes_34 : Try.prog.bytesOf 34 = 24 := by kernel_rfl
@[simp] theorem ctys_34 : ctys Try.prog 34 = [some 40] := by kernel_rfl
@[simp] theorem conc_34 : Try.prog.concrete 34 = true := by kernel_rfl
@[simp] theorem zero_34 : zeroCs Try.prog 34 = some [.d (.v (.slice none 0 0))] := by kernel_rfl
@[simp] theorem ifc_34 : isIfcT Try.prog 34 = some false := by kernel_rfl
@[simp] theorem map_34 : Try.prog.isMap 34 = false := by kernel_rfl
@[simp] theorem ptr_34 : Try.prog.ptrT 34 = some none := by kernel_rfl
@[simp] theorem ztup_34 : zeroTup Try.prog 34 = some (.tup [(false, [.d (.v (.slice none 0 0))]), (false, [.d (.v (.bool false))])]) := by kernel_rfl
@[simp] theorem app_34 : Try.prog.appOk 34 = true := by kernel_rfl
@[simp] theorem elem_34 : Try.prog.elemT 34 = some 40 := by kernel_rfl
@[simp] theorem und_34 : Try.prog.underlying 34 = some (.slice 40) := by kernel_rfl
@[simp] theorem lay_35 : Try.prog.lay 35 = some (3, true) := by kernel_rfl
@[simp] theorem cells_35 : Try.prog.cellsOf 35 = 3 := by kernel_rfl
@[simp] theorem info_35 : (Try.prog.info? 35).isSome = true := by kernel_rfl
@[simp] theorem bytes_35 : Try.prog.bytesOf 35 = 64 := by kernel_rfl
@[simp] theorem ctys_35 : ctys Try.prog 35 = [none, some 99, some 40] := by kernel_rfl
@[simp] theorem conc_35 : Try.prog.concrete 35 = true := by kernel_rfl
@[simp] theorem zero_35 : zeroCs Try.prog 35 = some [.d (.v (.string ⟨#[]⟩)), .d (.v (.slice none 0 0)), .d (.v (.slice none 0 0))] := by kernel_rfl
@[simp] theorem fld_35_0 : Try.prog.fld 35 0 = some (0, 1, false) := by kernel_rfl
@[simp] theorem fld_35_1 : Try.prog.fld 35 1 = some (1, 1, false) := by kernel_rfl
@[simp] theorem fld_35_2 : Try.prog.fld 35 2 = some (2, 1, false) := by kernel_rfl
@[simp] theorem str_35 : Try.prog.strOk 35 = true := by kernel_rfl
@[simp] theorem ifc_35 : isIfcT Try.prog 35 = some false := by kernel_rfl
@[simp] theorem map_35 : Try.prog.isMap 35 = false := by kernel_rfl
@[simp] theorem ptr_35 : Try.prog.ptrT 35 = some none := by kernel_rfl
@[simp] theorem ztup_35 : zeroTup Try.prog 35 = some (.tup [(true, [.d (.v (.string ⟨#[]⟩)), .d (.v (.slice none 0 0)), .d (.v (.slice none 0 0))]), (false, [.d (.v (.bool false))])]) := by kernel_rfl
@[simp] theorem app_35 : Try.prog.appOk 35 = true := by kernel_rfl
@[simp] theorem lay_36 : Try.prog.lay 36 = some (3, true) := by kernel_rfl
@[simp] theorem cells_36 : Try.prog.cellsOf 36 = 3 := by kernel_rfl
@[simp] theorem info_36 : (Try.prog.info? 36).isSome = true := by kernel_rfl
@[simp] theorem bytes_36 : Try.prog.bytesOf 36 = 64 := by kernel_rfl
@[simp] theorem ctys_36 : ctys Try.prog 36 = [none, some 99, some 40] := by kernel_rfl
@[simp] theorem conc_36 : Try.prog.concrete 36 = true := by kernel_rfl
@[simp] theorem zero_36 : zeroCs Try.prog 36 = some [.d (.v (.string ⟨#[]⟩)), .d (.v (.slice none 0 0)), .d (.v (.slice none 0 0))] := by kernel_rfl
@[simp] theorem fld_36_0 : Try.prog.fld 36 0 = some (0, 1, false) := by kernel_rfl
@[simp] theorem fld_36_1 : Try.prog.fld 36 1 = some (1, 1, false) := by kernel_rfl
@[simp] theorem fld_36_2 : Try.prog.fld 36 2 = some (2, 1, false) := by kernel_rfl
@[simp] theorem str_36 : Try.prog.strOk 36 = true := by kernel_rfl
@[simp] theorem ifc_36 : isIfcT Try.prog 36 = some false := by kernel_rfl
@[simp] theorem map_36 : Try.prog.isMap 36 = false := by kernel_rfl
@[simp] theorem ptr_36 : Try.prog.ptrT 36 = some none := by kernel_rfl
@[simp] theorem ztup_36 : zeroTup Try.prog 36 = some (.tup [(true, [.d (.v (.string ⟨#[]⟩)), .d (.v (.slice none 0 0)), .d (.v (.slice none 0 0))]), (false, [.d (.v (.bool false))])]) := by kernel_rfl
@[simp] theorem app_36 : Try.prog.appOk 36 = true := by kernel_rfl
@[simp] theorem lay_37 : Try.prog.lay 37 = some (6, true) := by kernel_rfl
@[simp] theorem cells_37 : Try.prog.cellsOf 37 = 6 := by kernel_rfl
@[simp] theorem info_37 : (Try.prog.info? 37).isSome = true := by kernel_rfl
@[simp] theorem bytes_37 : Try.prog.bytesOf 37 = 104 := by kernel_rfl
@[simp] theorem ctys_37 : ctys Try.prog 37 = [none, none, none, some 99, some 40, none] := by kernel_rfl
@[simp] theorem conc_37 : Try.prog.concrete 37 = true := by kernel_rfl
@[simp] theorem zero_37 : zeroCs Try.prog 37 = some [.d (.v (.bool false)), .d (.v (.string ⟨#[]⟩)), .d (.v (.string ⟨#[]⟩)), .d (.v (.slice none 0 0)), .d (.v (.slice none 0 0)), .d (.v (.string ⟨#[]⟩))] := by kernel_rfl
@[simp] theorem fld_37_0 : Try.prog.fld 37 0 = some (0, 1, false) := by kernel_rfl
@[simp] theorem fld_37_1 : Try.prog.fld 37 1 = some (1, 1, false) := by kernel_rfl
@[simp] theorem fld_37_2 : Try.prog.fld 37 2 = some (2, 3, true) := by kernel_rfl
@[simp] theorem fld_37_3 : Try.prog.fld 37 3 = some (5, 1, false) := by kernel_rfl
@[simp] theorem str_37 : Try.prog.strOk 37 = true := by kernel_rfl
@[simp] theorem ifc_37 : isIfcT Try.prog 37 = some false := by kernel_rfl
@[simp] theorem map_37 : Try.prog.isMap 37 = false := by kernel_rfl
@[simp] theorem ptr_37 : Try.prog.ptrT 37 = some none := by kernel_rfl
@[simp] theorem ztup_37 : zeroTup Try.prog 37 = some (.tup [(true, [.d (.v (.bool false)), .d (.v (.string ⟨#[]⟩)), .d (.v (.string ⟨#[]⟩)), .d (.v (.slice none 0 0)), .d (.v (.slice none 0 0)), .d (.v (.string ⟨#[]⟩))]), (false, [.d (.v (.bool false))])]) := by kernel_rfl
@[simp] theorem app_37 : Try.prog.appOk 37 = true := by kernel_rfl
@[simp] theorem lay_38 : Try.prog.lay 38 = some (6, true) := by kernel_rfl
@[simp] theorem cells_38 : Try.prog.cellsOf 38 = 6 := by kernel_rfl
@[simp] theorem info_38 : (Try.prog.info? 38).isSome = true := by kernel_rfl
@[simp] theorem bytes_38 : Try.prog.bytesOf 38 = 104 := by kernel_rfl
@[simp] theorem ctys_38 : ctys Try.prog 38 = [none, none, none, some 99, some 40, none] := by kernel_rfl
@[simp] theorem conc_38 : Try.prog.concrete 38 = true := by kernel_rfl
@[simp] theorem zero_38 : zeroCs Try.prog 38 = some [.d (.v (.bool false)), .d (.v (.string ⟨#[]⟩)), .d (.v (.string ⟨#[]⟩)), .d (.v (.slice none 0 0)), .d (.v (.slice none 0 0)), .d (.v (.string ⟨#[]⟩))] := by kernel_rfl
@[simp] theorem fld_38_0 : Try.prog.fld 38 0 = some (0, 1, false) := by kernel_rfl
@[simp] theorem fld_38_1 : Try.prog.fld 38 1 = some (1, 1, false) := by kernel_rfl
@[simp] theorem fld_38_2 : Try.prog.fld 38 2 = some (2, 3, true) := by kernel_rfl
@[simp] theorem fld_38_3 : Try.prog.fld 38 3 = some (5, 1, false) := by kernel_rfl
@[simp] theorem str_38 : Try.prog.strOk 38 = true := by kernel_rfl
@[simp] theorem ifc_38 : isIfcT Try.prog 38 = some false := by kernel_rfl
@[simp] theorem map_38 : Try.prog.isMap 38 = false := by kernel_rfl
@[simp] theorem ptr_38 : Try.prog.ptrT 38 = some none := by kernel_rfl
@[simp] theorem ztup_38 : zeroTup Try.prog 38 = some (.tup [(true, [.d (.v (.bool false)), .d (.v (.string ⟨#[]⟩)), .d (.v (.string ⟨#[]⟩)), .d (.v (.slice none 0 0)), .d (.v (.slice none 0 0)), .d (.v (.string ⟨#[]⟩))]), (false, [.d (.v (.bool false))])]) := by kernel_rfl
@[simp] theorem app_38 : Try.prog.appOk 38 = true := by kernel_rfl
@[simp] theorem lay_39 : Try.prog.lay 39 = some (8, true) := by kernel_rfl
@[simp] theorem cells_39 : Try.prog.cellsOf 39 = 8 := by kernel_rfl
@[simp] theorem info_39 : (Try.prog.info? 39).isSome = true := by kernel_rfl
@[simp] theorem bytes_39 : Try.prog.bytesOf 39 = 144 := by kernel_rfl
@[simp] theorem ctys_39 : ctys Try.prog 39 = [some 44, none, none, none, some 99, some 40, none, none] := by kernel_rfl
@[simp] theorem conc_39 : Try.prog.concrete 39 = true := by kernel_rfl
@[simp] theorem zero_39 : zeroCs Try.prog 39 = some [.d (.v (.slice none 0 0)), .d (.v (.bool false)), .d (.v (.string ⟨#[]⟩)), .d (.v (.string ⟨#[]⟩)), .d (.v (.slice none 0 0)), .d (.v (.slice none 0 0)), .d (.v (.string ⟨#[]⟩)), .d (.v (.string ⟨#[]⟩))] := by kernel_rfl
@[simp] theorem fld_39_0 : Try.prog.fld 39 0 = some (0, 1, false) := by kernel_rfl
@[simp] theorem fld_39_1 : Try.prog.fld 39 1 = some (1, 6, true) := by kernel_rfl
@[simp] theorem fld_39_2 : Try.prog.fld 39 2 = some (7, 1, false) := by kernel_rfl
@[simp] theorem str_39 : Try.prog.strOk 39 = true := by kernel_rfl
@[simp] theorem ifc_39 : isIfcT Try.prog 39 = some false := by kernel_rfl
@[simp] theorem map_39 : Try.prog.isMap 39 = false := by kernel_rfl
@[simp] theorem ptr_39 : Try.prog.ptrT 39 = some none := by kernel_rfl
@[simp] theorem ztup_39 : zeroTup Try.prog 39 = some (.tup [(true, [.d (.v (.slice none 0 0)), .d (.v (.bool false)), .d (.v (.string ⟨#[]⟩)), .d (.v (.string ⟨#[]⟩)), .d (.v (.slice none 0 0)), .d (.v (.slice none 0 0)), .d (.v (.string ⟨#[]⟩)), .d (.v (.string ⟨#[]⟩))]), (false, [.d (.v (.bool false))])]) := by kernel_rfl
@[simp] theorem app_39 : Try.prog.appOk 39 = true := by kernel_rfl
@[simp] theorem lay_40 : Try.prog.lay 40 = some (8, true) := by kernel_rfl
@[simp] theorem cells_40 : Try.prog.cellsOf 40 = 8 := by kernel_rfl
@[simp] theorem info_40 : (Try.prog.info? 40).isSome = true := by kernel_rfl
@[simp] theorem bytes_40 : Try.prog.bytesOf 40 = 144 := by kernel_rfl
@[simp] theorem ctys_40 : ctys Try.prog 40 = [some 44, none, none, none, some 99, some 40, none, none] := by kernel_rfl
@[simp] theorem conc_40 : Try.prog.concrete 40 = true := by kernel_rfl
@[simp] theorem zero_40 : zeroCs Try.prog 40 = some [.d (.v (.slice none 0 0)), .d (.v (.bool false)), .d (.v (.string ⟨#[]⟩)), .d (.v (.string ⟨#[]⟩)), .d (.v (.slice none 0 0)), .d (.v (.slice none 0 0)), .d (.v (.string ⟨#[]⟩)), .d (.v (.string ⟨#[]⟩))] := by kernel_rfl
@[simp] theorem fld_40_0 : Try.prog.fld 40 0 = some (0, 1, false) := by kernel_rfl
@[simp] theorem fld_40_1 : Try.prog.fld 40 1 = some (1, 6, true) := by kernel_rfl
@[simp] theorem fld_40_2 : Try.prog.fld 40 2 = some (7, 1, false) := by kernel_rfl
@[simp] theorem str_40 : Try.prog.strOk 40 = true := by kernel_rfl
@[simp] theorem ifc_40 : isIfcT Try.prog 40 = some false := by kernel_rfl
@[simp] theorem map_40 : Try.prog.isMap 40 = false := by kernel_rfl
@[simp] theorem ptr_40 : Try.prog.ptrT 40 = some none := by kernel_rfl
@[simp] theorem ztup_40 : zeroTup Try.prog 40 = some (.tup [(true, [.d (.v (.slice none 0 0)), .d (.v (.bool false)), .d (.v (.string ⟨#[]⟩)), .d (.v (.string ⟨#[]⟩)), .d (.v (.slice none 0 0)), .d (.v (.slice none 0 0)), .d (.v (.string ⟨#[]⟩)), .d (.v (.string ⟨#[]⟩))]), (false, [.d (.v (.bool false))])]) := by kernel_rfl
@[simp] theorem app_40 : Try.prog.appOk 40 = true := by kernel_rfl
@[simp] theorem lay_43 : Try.prog.lay 43 = some (8, true) := by kernel_rfl
@[simp] theorem cells_43 : Try.prog.cellsOf 43 = 8 := by kernel_rfl
@[simp] theorem info_43 : (Try.prog.info? 43).isSome = true := by kernel_rfl
@[simp] theorem bytes_43 : Try.prog.bytesOf 43 = 144 := by kernel_rfl
@[simp] theorem ctys_43 : ctys Try.prog 43 = [none, none, none, none, some 99, some 40, none, some 26] := by kernel_rfl
@[simp] theorem conc_43 : Try.prog.concrete 43 = true := by kernel_rfl
@[simp] theorem zero_43 : zeroCs Try.prog 43 = some [.d (.v (.string ⟨#[]⟩)), .d (.v (.bool false)), .d (.v (.string ⟨#[]⟩)), .d (.v (.string ⟨#[]⟩)), .d (.v (.slice none 0 0)), .d (.v (.slice none 0 0)), .d (.v (.string ⟨#[]⟩)), .d (.v (.slice none 0 0))] := by kernel_rfl
@[simp] theorem fld_43_0 : Try.prog.fld 43 0 = some (0, 1, false) := by kernel_rfl
@[simp] theorem fld_43_1 : Try.prog.fld 43 1 = some (1, 6, true) := by kernel_rfl
@[simp] theorem fld_43_2 : Try.prog.fld 43 2 = some (7, 1, false) := by kernel_rfl
@[simp] theorem str_43 : Try.prog.strOk 43 = true := by kernel_rfl
@[simp] theorem ifc_43 : isIfcT Try.prog 43 = some false := by kernel_rfl
@[simp] theorem map_43 : Try.prog.isMap 43 = false := by kernel_rfl
@[simp] theorem ptr_43 : Try.prog.ptrT 43 = some none := by kernel_rfl
@[simp] theorem ztup_43 : zeroTup Try.prog 43 = some (.tup [(true, [.d (.v (.string ⟨#[]⟩)), .d (.v (.bool false)), .d (.v (.string ⟨#[]⟩)), .d (.v (.string ⟨#[]⟩)), .d (.v (.slice none 0 0)), .d (.v (.slice none 0 0)), .d (.v (.string ⟨#[]⟩)), .d (.v (.slice none 0 0))]), (false, [.d (.v (.bool false))])]) := by kernel_rfl
@[simp] theorem app_43 : Try.prog.appOk 43 = true := by kernel_rfl
@[simp] theorem lay_44 : Try.prog.lay 44 = some (8, true) := by kernel_rfl
@[simp] theorem cells_44 : Try.prog.cellsOf 44 = 8 := by kernel_rfl
@[simp] theorem info_44 : (Try.prog.info? 44).isSome = true := by kernel_rfl
@[simp] theorem bytes_44 : Try.prog.bytesOf 44 = 144 := by kernel_rfl
@[simp] theorem ctys_44 : ctys Try.prog 44 = [none, none, none, none, some 99, some 40, none, some 26] := by kernel_rfl
@[simp] theorem conc_44 : Try.prog.concrete 44 = true := by kernel_rfl
@[simp] theorem zero_44 : zeroCs Try.prog 44 = some [.d (.v (.string ⟨#[]⟩)), .d (.v (.bool false)), .d (.v (.string ⟨#[]⟩)), .d (.v (.string ⟨#[]⟩)), .d (.v (.slice none 0 0)), .d (.v (.slice none 0 0)), .d (.v (.string ⟨#[]⟩)), .d (.v (.slice none 0 0))] := by kernel_rfl
@[simp] theorem fld_44_0 : Try.prog.fld 44 0 = some (0, 1, false) := by kernel_rfl
@[simp] theorem fld_44_1 : Try.prog.fld 44 1 = some (1, 6, true) := by kernel_rfl
@[simp] theorem fld_44_2 : Try.prog.fld 44 2 = some (7, 1, false) := by kernel_rfl
@[simp] theorem str_44 : Try.prog.strOk 44 = true := by kernel_rfl
@[simp] theorem ifc_44 : isIfcT Try.prog 44 = some false := by kernel_rfl
@[simp] theorem map_44 : Try.prog.isMap 44 = false := by kernel_rfl
@[simp] theorem ptr_44 : Try.prog.ptrT 44 = some none := by kernel_rfl
@[simp] theorem ztup_44 : zeroTup Try.prog 44 = some (.tup [(true, [.d (.v (.string ⟨#[]⟩)), .d (.v (.bool false)), .d (.v (.string ⟨#[]⟩)), .d (.v (.string ⟨#[]⟩)), .d (.v (.slice none 0 0)), .d (.v (.slice none 0 0)), .d (.v (.string ⟨#[]⟩)), .d (.v (.slice none 0 0))]), (false, [.d (.v (.bool false))])]) := by kernel_rfl
@[simp] theorem app_44 : Try.prog.appOk 44 = true := by kernel_rfl
@[simp] theorem lay_49 : Try.prog.lay 49 = some (1, false) := by kernel_rfl
@[simp] theorem cells_49 : Try.prog.cellsOf 49 = 1 := by kernel_rfl
@[simp] theorem info_49 : (Try.prog.info? 49).isSome = true := by kernel_rfl
@[simp] theorem bytes_49 : Try.prog.bytesOf 49 = 24 := by kernel_rfl
@[simp] theorem ctys_49 : ctys Try.prog 49 = [some 55] := by kernel_rfl
@[simp] theorem conc_49 : Try.prog.concrete 49 = true := by kernel_rfl
@[simp] theorem zero_49 : zeroCs Try.prog 49 = some [.d (.v (.slice none 0 0))] := by kernel_rfl
@[simp] theorem ifc_49 : isIfcT Try.prog 49 = some false := by kernel_rfl
@[simp] theorem map_49 : Try.prog.isMap 49 = false := by kernel_rfl
@[simp] theorem ptr_49 : Try.prog.ptrT 49 = some none := by kernel_rfl
@[simp] theorem ztup_49 : zeroTup Try.prog 49 = some (.tup [(false, [.d (.v (.slice none 0 0))]), (false, [.d (.v (.bool false))])]) := by kernel_rfl
@[simp] theorem app_49 : Try.prog.appOk 49 = true := by kernel_rfl
@[simp] theorem elem_49 : Try.prog.elemT 49 = some 55 := by kernel_rfl
@[simp] theorem und_49 : Try.prog.underlying 49 = some (.slice 55) := by kernel_rfl
@[simp] theorem lay_50 : Try.prog.lay 50 = some (1, true) := by kernel_rfl
@[simp] theorem cells_50 : Try.prog.cellsOf 50 = 1 := by kernel_rfl
@[simp] theorem info_50 : (Try.prog.info? 50).isSome = true := by kernel_rfl
@[simp] theorem bytes_50 : Try.prog.bytesOf 50 = 24 := by kernel_rfl
@[simp] theorem ctys_50 : ctys Try.prog 50 = [some 55] := by kernel_rfl
@[simp] theorem conc_50 : Try.prog.concrete 50 = true := by kernel_rfl
@[simp] theorem zero_50 : zeroCs Try.prog 50 = some [.d (.v (.slice none 0 0))] := by kernel_rfl
@[simp] theorem fld_50_0 : Try.prog.fld 50 0 = some (0, 1, false) := by kernel_rfl
@[simp] theorem str_50 : Try.prog.strOk 50 = true := by kernel_rfl
@[simp] theorem ifc_50 : isIfcT Try.prog 50 = some false := by kernel_rfl
@[simp] theorem map_50 : Try.prog.isMap 50 = false := by kernel_rfl
@[simp] theorem ptr_50 : Try.prog.ptrT 50 = some none := by kernel_rfl
@[simp] theorem ztup_50 : zeroTup Try.prog 50 = some (.tup [(true, [.d (.v (.slice none 0 0))]), (false, [.d (.v (.bool false))])]) := by kernel_rfl
@[simp] theorem app_50 : Try.prog.appOk 50 = true := by kernel_rfl
@[simp] theorem lay_51 : Try.prog.lay 51 = some (1, true) := by kernel_rfl
@[simp] theorem cells_51 : Try.prog.cellsOf 51 = 1 := by kernel_rfl
@[simp] theorem info_51 : (Try.prog.info? 51).isSome = true := by kernel_rfl
@[simp] theorem bytes_51 : Try.prog.bytesOf 51 = 24 := by kernel_rfl
@[simp] theorem ctys_51 : ctys Try.prog 51 = [some 55] := by kernel_rfl
@[simp] theorem conc_51 : Try.prog.concrete 51 = true := by kernel_rfl
@[simp] theorem zero_51 : zeroCs Try.prog 51 = some [.d (.v (.slice none 0 0))] := by kernel_rfl
@[simp] theorem fld_51_0 : Try.prog.fld 51 0 = some (0, 1, false) := by kernel_rfl
@[simp] theorem str_51 : Try.prog.strOk 51 = true := by kernel_rfl
@[simp] theorem ifc_51 : isIfcT Try.prog 51 = some false := by kernel_rfl
@[simp] theorem map_51 : Try.prog.isMap 51 = false := by kernel_rfl
@[simp] theorem ptr_51 : Try.prog.ptrT 51 = some none := by kernel_rfl
@[simp] theorem ztup_51 : zeroTup Try.prog 51 = some (.tup [(true, [.d (.v (.slice none 0 0))]), (false, [.d (.v (.bool false))])]) := by kernel_rfl
@[simp] theorem app_51 : Try.prog.appOk 51 = true := by kernel_rfl
@[simp] theorem lay_54 : Try.prog.lay 54 = some (4, true) := by kernel_rfl
@[simp] theorem cells_54 : Try.prog.cellsOf 54 = 4 := by kernel_rfl
@[simp] theorem info_54 : (Try.prog.info? 54).isSome = true := by kernel_rfl
@[simp] theorem bytes_54 : Try.prog.bytesOf 54 = 80 := by kernel_rfl
@[simp] theorem ctys_54 : ctys Try.prog 54 = [none, none, some 99, some 40] := by kernel_rfl
@[simp] theorem conc_54 : Try.prog.concrete 54 = true := by kernel_rfl
@[simp] theorem zero_54 : zeroCs Try.prog 54 = some [.d (.v (.string ⟨#[]⟩)), .d (.v (.string ⟨#[]⟩)), .d (.v (.slice none 0 0)), .d (.v (.slice none 0 0))] := by kernel_rfl
@[simp] theorem fld_54_0 : Try.prog.fld 54 0 = some (0, 1, false) := by kernel_rfl
@[simp] theorem fld_54_1 : Try.prog.fld 54 1 = some (1, 3, true) := by kernel_rfl
@[simp] theorem str_54 : Try.prog.strOk 54 = true := by kernel_rfl
@[simp] theorem ifc_54 : isIfcT Try.prog 54 = some false := by kernel_rfl
@[simp] theorem map_54 : Try.prog.isMap 54 = false := by kernel_rfl
@[simp] theorem ptr_54 : Try.prog.ptrT 54 = some none := by kernel_rfl
@[simp] theorem ztup_54 : zeroTup Try.prog 54 = some (.tup [(true, [.d (.v (.string ⟨#[]⟩)), .d (.v (.string ⟨#[]⟩)), .d (.v (.slice none 0 0)), .d (.v (.slice none 0 0))]), (false, [.d (.v (.bool false))])]) := by kernel_rfl
@[simp] theorem app_54 : Try.prog.appOk 54 = true := by kernel_rfl
@[simp] theorem lay_55 : Try.prog.lay 55 = some (4, true) := by kernel_rfl
@[simp] theorem cells_55 : Try.prog.cellsOf 55 = 4 := by kernel_rfl
@[simp] theorem info_55 : (Try.prog.info? 55).isSome = true := by kernel_rfl
@[simp] theorem bytes_55 : Try.prog.bytesOf 55 = 80 := by kernel_rfl
@[simp] theorem ctys_55 : ctys Try.prog 55 = [none, none, some 99, some 40] := by kernel_rfl
@[simp] theorem conc_55 : Try.prog.concrete 55 = true := by kernel_rfl
@[simp] theorem zero_55 : zeroCs Try.prog 55 = some [.d (.v (.string ⟨#[]⟩)), .d (.v (.string ⟨#[]⟩)), .d (.v (.slice none 0 0)), .d (.v (.slice none 0 0))] := by kernel_rfl
@[simp] theorem fld_55_0 : Try.prog.fld 55 0 = some (0, 1, false) := by kernel_rfl
@[simp] theorem fld_55_1 : Try.prog.fld 55 1 = some (1, 3, true) := by kernel_rfl
@[simp] theorem str_55 : Try.prog.strOk 55 = true := by kernel_rfl
@[simp] theorem ifc_55 : isIfcT Try.prog 55 = some false := by kernel_rfl
@[simp] theorem map_55 : Try.prog.isMap 55 = false := by kernel_rfl
@[simp] theorem ptr_55 : Try.prog.ptrT 55 = some none := by kernel_rfl
@[simp] theorem ztup_55 : zeroTup Try.prog 55 = some (.tup [(true, [.d (.v (.string ⟨#[]⟩)), .d (.v (.string ⟨#[]⟩)), .d (.v (.slice none 0 0)), .d (.v (.slice none 0 0))]), (false, [.d (.v (.bool false))])]) := by kernel_rfl
@[simp] theorem app_55 : Try.prog.appOk 55 = true := by kernel_rfl
@[simp] theorem lay_58 : Try.prog.lay 58 = some (1, false) := by kernel_rfl
@[simp] theorem cells_58 : Try.prog.cellsOf 58 = 1 := by kernel_rfl
@[simp] theorem info_58 : (Try.prog.info? 58).isSome = true := by kernel_rfl
@[simp] theorem bytes_58 : Try.prog.bytesOf 58 = 24 := by kernel_rfl
@[simp] theorem ctys_58 : ctys Try.prog 58 = [some 60] := by kernel_rfl
@[simp] theorem conc_58 : Try.prog.concrete 58 = true := by kernel_rfl
@[simp] theorem zero_58 : zeroCs Try.prog 58 = some [.d (.v (.slice none 0 0))] := by kernel_rfl
@[simp] theorem ifc_58 : isIfcT Try.prog 58 = some false := by kernel_rfl
@[simp] theorem map_58 : Try.prog.isMap 58 = false := by kernel_rfl
@[simp] theorem ptr_58 : Try.prog.ptrT 58 = some none := by kernel_rfl
@[simp] theorem ztup_58 : zeroTup Try.prog 58 = some (.tup [(false, [.d (.v (.slice none 0 0))]), (false, [.d (.v (.bool false))])]) := by kernel_rfl
@[simp] theorem app_58 : Try.prog.appOk 58 = true := by kernel_rfl
@[simp] theorem elem_58 : Try.prog.elemT 58 = some 60 := by kernel_rfl
@[simp] theorem und_58 : Try.prog.underlying 58 = some (.slice 60) := by kernel_rfl
@[simp] theorem lay_59 : Try.prog.lay 59 = some (11, true) := by kernel_rfl
@[simp] theorem cells_59 : Try.prog.cellsOf 59 = 11 := by kernel_rfl
@[simp] theorem info_59 : (Try.prog.info? 59).isSome = true := by kernel_rfl
@[simp] theorem bytes_59 : Try.prog.bytesOf 59 = 168 := by kernel_rfl
@[simp] theorem ctys_59 : ctys Try.prog 59 = [none, none, some 9, some 26, none, none, none, none, some 9, some 26, none] := by kernel_rfl
@[simp] theorem conc_59 : Try.prog.concrete 59 = true := by kernel_rfl
@[simp] theorem zero_59 : zeroCs Try.prog 59 = some [.d (.v (.int .i64 0)), .d (.v (.string ⟨#[]⟩)), .d (.v (.slice none 0 0)), .d (.v (.slice none 0 0)), .d (.v (.int .i64 0)), .d (.v (.int .i64 0)), .d (.v (.float .f64 0)), .d (.v (.string ⟨#[]⟩)), .d (.v (.slice none 0 0)), .d (.v (.slice none 0 0)), .d (.v (.int .i64 0))] := by kernel_rfl
@[simp] theorem fld_59_0 : Try.prog.fld 59 0 = some (0, 1, false) := by kernel_rfl
@[simp] theorem fld_59_1 : Try.prog.fld 59 1 = some (1, 1, false) := by kernel_rfl
@[simp] theorem fld_59_2 : Try.prog.fld 59 2 = some (2, 1, false) := by kernel_rfl
@[simp] theorem fld_59_3 : Try.prog.fld 59 3 = some (3, 1, false) := by kernel_rfl
@[simp] theorem fld_59_4 : Try.prog.fld 59 4 = some (4, 6, true) := by kernel_rfl
@[simp] theorem fld_59_5 : Try.prog.fld 59 5 = some (10, 1, false) := by kernel_rfl
@[simp] theorem str_59 : Try.prog.strOk 59 = true := by kernel_rfl
@[simp] theorem ifc_59 : isIfcT Try.prog 59 = some false := by kernel_rfl
@[simp] theorem map_59 : Try.prog.isMap 59 = false := by kernel_rfl
@[simp] theorem ptr_59 : Try.prog.ptrT 59 = some none := by kernel_rfl
@[simp] theorem ztup_59 : zeroTup Try.prog 59 = some (.tup [(true, [.d (.v (.int .i64 0)), .d (.v (.string ⟨#[]⟩)), .d (.v (.slice none 0 0)), .d (.v (.slice none 0 0)), .d (.v (.int .i64 0)), .d (.v (.int .i64 0)), .d (.v (.float .f64 0)), .d (.v (.string ⟨#[]⟩)), .d (.v (.slice none 0 0)), .d (.v (.slice none 0 0)), .d (.v (.int .i64 0))]), (false, [.d (.v (.bool false))])]) := by kernel_rfl
@[simp] theorem app_59 : Try.prog.appOk 59 = true := by kernel_rfl
@[simp] theorem lay_60 : Try.prog.lay 60 = some (11, true) := by kernel_rfl
@[simp] theorem cells_60 : Try.prog.cellsOf 60 = 11 := by kernel_rfl
@[simp] theorem info_60 : (Try.prog.info? 60).isSome = true := by kernel_rfl
@[simp] theorem bytes_60 : Try.prog.bytesOf 60 = 168 := by kernel_rfl
@[simp] theorem ctys_60 : ctys Try.prog 60 = [none, none, some 9, some 26, none, none, none, none, some 9, some 26, none] := by kernel_rfl
@[simp] theorem conc_60 : Try.prog.concrete 60 = true := by kernel_rfl
@[simp] theorem zero_60 : zeroCs Try.prog 60 = some [.d (.v (.int .i64 0)), .d (.v (.string ⟨#[]⟩)), .d (.v (.slice none 0 0)), .d (.v (.slice none 0 0)), .d (.v (.int .i64 0)), .d (.v (.int .i64 0)), .d (.v (.float .f64 0)), .d (.v (.string ⟨#[]⟩)), .d (.v (.slice none 0 0)), .d (.v (.slice none 0 0)), .d (.v (.int .i64 0))] := by kernel_rfl
@[simp] theorem fld_60_0 : Try.prog.fld 60 0 = some (0, 1, false) := by kernel_rfl
@[simp] theorem fld_60_1 : Try.prog.fld 60 1 = some (1, 1, false) := by kernel_rfl
@[simp] theorem fld_60_2 : Try.prog.fld 60 2 = some (2, 1, false) := by kernel_rfl
@[simp] theorem fld_60_3 : Try.prog.fld 60 3 = some (3, 1, false) := by kernel_rfl
@[simp] theorem fld_60_4 : Try.prog.fld 60 4 = some (4, 6, true) := by kernel_rfl
@[simp] theorem fld_60_5 : Try.prog.fld 60 5 = some (10, 1, false) := by kernel_rfl
@[simp] theorem str_60 : Try.prog.strOk 60 = true := by kernel_rfl
@[simp] theorem ifc_60 : isIfcT Try.prog 60 = some false := by kernel_rfl
@[simp] theorem map_60 : Try.prog.isMap 60 = false := by kernel_rfl
@[simp] theorem ptr_60 : Try.prog.ptrT 60 = some none := by kernel_rfl
@[simp] theorem ztup_60 : zeroTup Try.prog 60 = some (.tup [(true, [.d (.v (.int .i64 0)), .d (.v (.string ⟨#[]⟩)), .d (.v (.slice none 0 0)), .d (.v (.slice none 0 0)), .d (.v (.int .i64 0)), .d (.v (.int .i64 0)), .d (.v (.float .f64 0)), .d (.v (.string ⟨#[]⟩)), .d (.v (.slice none 0 0)), .d (.v (.slice none 0 0)), .d (.v (.int .i64 0))]), (false, [.d (.v (.bool false))])]) := by kernel_rfl
@[simp] theorem app_60 : Try.prog.appOk 60 = true := by kernel_rfl
@[simp] theorem lay_72 : Try.prog.lay 72 = some (1, false) := by kernel_rfl
@[simp] theorem cells_72 : Try.prog.cellsOf 72 = 1 := by kernel_rfl
@[simp] theorem info_72 : (Try.prog.info? 72).isSome = true := by kernel_rfl
@[simp] theorem bytes_72 : Try.prog.bytesOf 72 = 24 := by kernel_rfl
@[simp] theorem ctys_72 : ctys Try.prog 72 = [some 75] := by kernel_rfl
@[simp] theorem conc_72 : Try.prog.concrete 72 = true := by kernel_rfl
@[simp] theorem zero_72 : zeroCs Try.prog 72 = some [.d (.v (.slice none 0 0))] := by kernel_rfl
@[simp] theorem ifc_72 : isIfcT Try.prog 72 = some false := by kernel_rfl
@[simp] theorem map_72 : Try.prog.isMap 72 = false := by kernel_rfl
@[simp] theorem ptr_72 : Try.prog.ptrT 72 = some none := by kernel_rfl
@[simp] theorem ztup_72 : zeroTup Try.prog 72 = some (.tup [(false, [.d (.v (.slice none 0 0))]), (false, [.d (.v (.bool false))])]) := by kernel_rfl
@[simp] theorem app_72 : Try.prog.appOk 72 = true := by kernel_rfl
@[simp] theorem elem_72 : Try.prog.elemT 72 = some 75 := by kernel_rfl
@[simp] theorem und_72 : Try.prog.underlying 72 = some (.slice 75) := by kernel_rfl
@[simp] theorem lay_74 : Try.prog.lay 74 = some (3, true) := by kernel_rfl
@[simp] theorem cells_74 : Try.prog.cellsOf 74 = 3 := by kernel_rfl
@[simp] theorem info_74 : (Try.prog.info? 74).isSome = true := by kernel_rfl
@[simp] theorem bytes_74 : Try.prog.bytesOf 74 = 64 := by kernel_rfl
@[simp] theorem ctys_74 : ctys Try.prog 74 = [none, some 26, some 26] := by kernel_rfl
@[simp] theorem conc_74 : Try.prog.concrete 74 = true := by kernel_rfl
@[simp] theorem zero_74 : zeroCs Try.prog 74 = some [.d (.v (.string ⟨#[]⟩)), .d (.v (.slice none 0 0)), .d (.v (.slice none 0 0))] := by kernel_rfl
@[simp] theorem fld_74_0 : Try.prog.fld 74 0 = some (0, 1, false) := by kernel_rfl
@[simp] theorem fld_74_1 : Try.prog.fld 74 1 = some (1, 1, false) := by kernel_rfl
@[simp] theorem fld_74_2 : Try.prog.fld 74 2 = some (2, 1, false) := by kernel_rfl
@[simp] theorem str_74 : Try.prog.strOk 74 = true := by kernel_rfl
@[simp] theorem ifc_74 : isIfcT Try.prog 74 = some false := by kernel_rfl
@[simp] theorem map_74 : Try.prog.isMap 74 = false := by kernel_rfl
@[simp] theorem ptr_74 : Try.prog.ptrT 74 = some none := by kernel_rfl
@[simp] theorem ztup_74 : zeroTup Try.prog 74 = some (.tup [(true, [.d (.v (.string ⟨#[]⟩)), .d (.v (.slice none 0 0)), .d (.v (.slice none 0 0))]), (false, [.d (.v (.bool false))])]) := by kernel_rfl
@[simp] theorem app_74 : Try.prog.appOk 74 = true := by kernel_rfl
@[simp] theorem lay_75 : Try.prog.lay 75 = some (3, true) := by kernel_rfl
@[simp] theorem cells_75 : Try.prog.cellsOf 75 = 3 := by kernel_rfl
@[simp] theorem info_75 : (Try.prog.info? 75).isSome = true := by kernel_rfl
@[simp] theorem bytes_75 : Try.prog.bytesOf 75 = 64 := by kernel_rfl
@[simp] theorem ctys_75 : ctys Try.prog 75 = [none, some 26, some 26] := by kernel_rfl
@[simp] theorem conc_75 : Try.prog.concrete 75 = true := by kernel_rfl
@[simp] theorem zero_75 : zeroCs Try.prog 75 = some [.d (.v (.string ⟨#[]⟩)), .d (.v (.slice none 0 0)), .d (.v (.slice none 0 0))] := by kernel_rfl
@[simp] theorem fld_75_0 : Try.prog.fld 75 0 = some (0, 1, false) := by kernel_rfl
@[simp] theorem fld_75_1 : Try.prog.fld 75 1 = some (1, 1, false) := by kernel_rfl
@[simp] theorem fld_75_2 : Try.prog.fld 75 2 = some (2, 1, false) := by kernel_rfl
@[simp] theorem str_75 : Try.prog.strOk 75 = true := by kernel_rfl
@[simp] theorem ifc_75 : isIfcT Try.prog 75 = some false := by kernel_rfl
@[simp] theorem map_75 : Try.prog.isMap 75 = false := by kernel_rfl
@[simp] theorem ptr_75 : Try.prog.ptrT 75 = some none := by kernel_rfl
@[simp] theorem ztup_75 : zeroTup Try.prog 75 = some (.tup [(true, [.d (.v (.string ⟨#[]⟩)), .d (.v (.slice none 0 0)), .d (.v (.slice none 0 0))]), (false, [.d (.v (.bool false))])]) := by kernel_rfl
@[simp] theorem app_75 : Try.prog.appOk 75 = true := by kernel_rfl
@[simp] theorem lay_78 : Try.prog.lay 78 = some (1, false) := by kernel_rfl
@[simp] theorem cells_78 : Try.prog.cellsOf 78 = 1 := by kernel_rfl
@[simp] theorem info_78 : (Try.prog.info? 78).isSome = true := by kernel_rfl
@[simp] theorem bytes_78 : Try.prog.bytesOf 78 = 24 := by kernel_rfl
@[simp] theorem ctys_78 : ctys Try.prog 78 = [some 4] := by kernel_rfl
@[simp] theorem conc_78 : Try.prog.concrete 78 = true := by kernel_rfl
@[simp] theorem zero_78 : zeroCs Try.prog 78 = some [.d (.v (.slice none 0 0))] := by kernel_rfl
@[simp] theorem ifc_78 : isIfcT Try.prog 78 = some false := by kernel_rfl
@[simp] theorem map_78 : Try.prog.isMap 78 = false := by kernel_rfl
@[simp] theorem ptr_78 : Try.prog.ptrT 78 = some none := by kernel_rfl
@[simp] theorem ztup_78 : zeroTup Try.prog 78 = some (.tup [(false, [.d (.v (.slice none 0 0))]), (false, [.d (.v (.bool false))])]) := by kernel_rfl
@[simp] theorem app_78 : Try.prog.appOk 78 = true := by kernel_rfl
@[simp] theorem elem_78 : Try.prog.elemT 78 = some 4 := by kernel_rfl
@[simp] theorem und_78 : Try.prog.underlying 78 = some (.slice 4) := by kernel_rfl
@[simp] theorem lay_87 : Try.prog.lay 87 = some (1, false) := by kernel_rfl
@[simp] theorem cells_87 : Try.prog.cellsOf 87 = 1 := by kernel_rfl
@[simp] theorem info_87 : (Try.prog.info? 87).isSome = true := by kernel_rfl
@[simp] theorem bytes_87 : Try.prog.bytesOf 87 = 16 := by kernel_rfl
@[simp] theorem ctys_87 : ctys Try.prog 87 = [none] := by kernel_rfl
@[simp] theorem zero_87 : zeroCs Try.prog 87 = some [.d (.v (.nilIface))] := by kernel_rfl
@[simp] theorem ifc_87 : isIfcT Try.prog 87 = some true := by kernel_rfl
@[simp] theorem map_87 : Try.prog.isMap 87 = false := by kernel_rfl
@[simp] theorem app_87 : Try.prog.appOk 87 = true := by kernel_rfl
@[simp] theorem lay_88 : Try.prog.lay 88 = some (1, false) := by kernel_rfl
@[simp] theorem cells_88 : Try.prog.cellsOf 88 = 1 := by kernel_rfl
@[simp] theorem info_88 : (Try.prog.info? 88).isSome = true := by kernel_rfl
@[simp] theorem bytes_88 : Try.prog.bytesOf 88 = 16 := by kernel_rfl
@[simp] theorem ctys_88 : ctys Try.prog 88 = [none] := by kernel_rfl
@[simp] theorem zero_88 : zeroCs Try.prog 88 = some [.d (.v (.nilIface))] := by kernel_rfl
@[simp] theorem ifc_88 : isIfcT Try.prog 88 = some true := by kernel_rfl
@[simp] theorem map_88 : Try.prog.isMap 88 = false := by kernel_rfl
@[simp] theorem app_88 : Try.prog.appOk 88 = true := by kernel_rfl
@[simp] theorem lay_93 : Try.prog.lay 93 = some (1, false) := by kernel_rfl
@[simp] theorem cells_93 : Try.prog.cellsOf 93 = 1 := by kernel_rfl
@[simp] theorem info_93 : (Try.prog.info? 93).isSome = true := by kernel_rfl
@[simp] theorem bytes_93 : Try.prog.bytesOf 93 = 16 := by kernel_rfl
@[simp] theorem ctys_93 : ctys Try.prog 93 = [none] := by kernel_rfl
@[simp] theorem zero_93 : zeroCs Try.prog 93 = some [.d (.v (.nilIface))] := by kernel_rfl
@[simp] theorem ifc_93 : isIfcT Try.prog 93 = some true := by kernel_rfl
@[simp] theorem map_93 : Try.prog.isMap 93 = false := by kernel_rfl
@[simp] theorem app_93 : Try.prog.appOk 93 = true := by kernel_rfl
@[simp] theorem lay_94 : Try.prog.lay 94 = some (1, false) := by kernel_rfl
@[simp] theorem cells_94 : Try.prog.cellsOf 94 = 1 := by kernel_rfl
@[simp] theorem info_94 : (Try.prog.info? 94).isSome = true := by kernel_rfl
@[simp] theorem bytes_94 : Try.prog.bytesOf 94 = 16 := by kernel_rfl
@[simp] theorem ctys_94 : ctys Try.prog 94 = [none] := by kernel_rfl
@[simp] theorem zero_94 : zeroCs Try.prog 94 = some [.d (.v (.nilIface))] := by kernel_rfl
@[simp] theorem ifc_94 : isIfcT Try.prog 94 = some true := by kernel_rfl
@[simp] theorem map_94 : Try.prog.isMap 94 = false := by kernel_rfl
@[simp] theorem app_94 : Try.prog.appOk 94 = true := by kernel_rfl
@[simp] theorem lay_98 : Try.prog.lay 98 = some (8, true) := by kernel_rfl
@[simp] theorem cells_98 : Try.prog.cellsOf 98 = 8 := by kernel_rfl
@[simp] theorem info_98 : (Try.prog.info? 98).isSome = true := by kernel_rfl
@[simp] theorem bytes_98 : Try.prog.bytesOf 98 = 144 := by kernel_rfl
@[simp] theorem ctys_98 : ctys Try.prog 98 = [none, none, none, some 99, some 40, none, none, some 9] := by kernel_rfl
@[simp] theorem conc_98 : Try.prog.concrete 98 = true := by kernel_rfl
@[simp] theorem zero_98 : zeroCs Try.prog 98 = some [.d (.v (.bool false)), .d (.v (.string ⟨#[]⟩)), .d (.v (.string ⟨#[]⟩)), .d (.v (.slice none 0 0)), .d (.v (.slice none 0 0)), .d (.v (.string ⟨#[]⟩)), .d (.v (.string ⟨#[]⟩)), .d (.v (.slice none 0 0))] := by kernel_rfl
@[simp] theorem fld_98_0 : Try.prog.fld 98 0 = some (0, 6, true) := by kernel_rfl
@[simp] theorem fld_98_1 : Try.prog.fld 98 1 = some (6, 1, false) := by kernel_rfl
@[simp] theorem fld_98_2 : Try.prog.fld 98 2 = some (7, 1, false) := by kernel_rfl
@[simp] theorem str_98 : Try.prog.strOk 98 = true := by kernel_rfl
@[simp] theorem ifc_98 : isIfcT Try.prog 98 = some false := by kernel_rfl
@[simp] theorem map_98 : Try.prog.isMap 98 = false := by kernel_rfl
@[simp] theorem ptr_98 : Try.prog.ptrT 98 = some none := by kernel_rfl
@[simp] theorem ztup_98 : zeroTup Try.prog 98 = some (.tup [(true, [.d (.v (.bool false)), .d (.v (.string ⟨#[]⟩)), .d (.v (.string ⟨#[]⟩)), .d (.v (.slice none 0 0)), .d (.v (.slice none 0 0)), .d (.v (.string ⟨#[]⟩)), .d (.v (.string ⟨#[]⟩)), .d (.v (.slice none 0 0))]), (false, [.d (.v (.bool false))])]) := by kernel_rfl
@[simp] theorem app_98 : Try.prog.appOk 98 = true := by kernel_rfl
@[simp] theorem lay_99 : Try.prog.lay 99 = some (8, true) := by kernel_rfl
@[simp] theorem cells_99 : Try.prog.cellsOf 99 = 8 := by kernel_rfl
@[simp] theorem info_99 : (Try.prog.info? 99).isSome = true := by kernel_rfl
@[simp] theorem bytes_99 : Try.prog.bytesOf 99 = 144 := by kernel_rfl
@[simp] theorem ctys_99 : ctys Try.prog 99 = [none, none, none, some 99, some 40, none, none, some 9] := by kernel_rfl
@[simp] theorem conc_99 : Try.prog.concrete 99 = true := by kernel_rfl
@[simp] theorem zero_99 : zeroCs Try.prog 99 = some [.d (.v (.bool false)), .d (.v (.string ⟨#[]⟩)), .d (.v (.string ⟨#[]⟩)), .d (.v (.slice none 0 0)), .d (.v (.slice none 0 0)), .d (.v (.string ⟨#[]⟩)), .d (.v (.string ⟨#[]⟩)), .d (.v (.slice none 0 0))] := by kernel_rfl
@[simp] theorem fld_99_0 : Try.prog.fld 99 0 = some (0, 6, true) := by kernel_rfl
@[simp] theorem fld_99_1 : Try.prog.fld 99 1 = some (6, 1, false) := by kernel_rfl
@[simp] theorem fld_99_2 : Try.prog.fld 99 2 = some (7, 1, false) := by kernel_rfl
@[simp] theorem str_99 : Try.prog.strOk 99 = true := by kernel_rfl
@[simp] theorem ifc_99 : isIfcT Try.prog 99 = some false := by kernel_rfl
@[simp] theorem map_99 : Try.prog.isMap 99 = false := by kernel_rfl
@[simp] theorem ptr_99 : Try.prog.ptrT 99 = some none := by kernel_rfl
@[simp] theorem ztup_99 : zeroTup Try.prog 99 = some (.tup [(true, [.d (.v (.bool false)), .d (.v (.string ⟨#[]⟩)), .d (.v (.string ⟨#[]⟩)), .d (.v (.slice none 0 0)), .d (.v (.slice none 0 0)), .d (.v (.string ⟨#[]⟩)), .d (.v (.string ⟨#[]⟩)), .d (.v (.slice none 0 0))]), (false, [.d (.v (.bool false))])]) := by kernel_rfl
@[simp] theorem app_99 : Try.prog.appOk 99 = true := by kernel_rfl
@[simp] theorem lay_102 : Try.prog.lay 102 = some (1, false) := by kernel_rfl
@[simp] theorem cells_102 : Try.prog.cellsOf 102 = 1 := by kernel_rfl
@[simp] theorem info_102 : (Try.prog.info? 102).isSome = true := by kernel_rfl
@[simp] theorem bytes_102 : Try.prog.bytesOf 102 = 24 := by kernel_rfl
@[simp] theorem ctys_102 : ctys Try.prog 102 = [some 118] := by kernel_rfl
@[simp] theorem conc_102 : Try.prog.concrete 102 = true := by kernel_rfl
@[simp] theorem zero_102 : zeroCs Try.prog 102 = some [.d (.v (.slice none 0 0))] := by kernel_rfl
@[simp] theorem ifc_102 : isIfcT Try.prog 102 = some false := by kernel_rfl
@[simp] theorem map_102 : Try.prog.isMap 102 = false := by kernel_rfl
@[simp] theorem ptr_102 : Try.prog.ptrT 102 = some none := by kernel_rfl
@[simp] theorem ztup_102 : zeroTup Try.prog 102 = some (.tup [(false, [.d (.v (.slice none 0 0))]), (false, [.d (.v (.bool false))])]) := by kernel_rfl
@[simp] theorem app_102 : Try.prog.appOk 102 = true := by kernel_rfl
@[simp] theorem elem_102 : Try.prog.elemT 102 = some 118 := by kernel_rfl
@[simp] theorem und_102 : Try.prog.underlying 102 = some (.slice 118) := by kernel_rfl
@[simp] theorem lay_103 : Try.prog.lay 103 = some (1, false) := by kernel_rfl
@[simp] theorem cells_103 : Try.prog.cellsOf 103 = 1 := by kernel_rfl
@[simp] theorem info_103 : (Try.prog.info? 103).isSome = true := by kernel_rfl
@[simp] theorem bytes_103 : Try.prog.bytesOf 103 = 24 := by kernel_rfl
@[simp] theorem ctys_103 : ctys Try.prog 103 = [some 235] := by kernel_rfl
@[simp] theorem conc_103 : Try.prog.concrete 103 = true := by kernel_rfl
@[simp] theorem zero_103 : zeroCs Try.prog 103 = some [.d (.v (.slice none 0 0))] := by kernel_rfl
@[simp] theorem ifc_103 : isIfcT Try.prog 103 = some false := by kernel_rfl
@[simp] theorem map_103 : Try.prog.isMap 103 = false := by kernel_rfl
@[simp] theorem ptr_103 : Try.prog.ptrT 103 = some none := by kernel_rfl
@[simp] theorem ztup_103 : zeroTup Try.prog 103 = some (.tup [(false, [.d (.v (.slice none 0 0))]), (false, [.d (.v (.bool false))])]) := by kernel_rfl
@[simp] theorem app_103 : Try.prog.appOk 103 = true := by kernel_rfl
@[simp] theorem elem_103 : Try.prog.elemT 103 = some 235 := by kernel_rfl
@[simp] theorem und_103 : Try.prog.underlying 103 = some (.slice 235) := by kernel_rfl
@[simp] theorem lay_104 : Try.prog.lay 104 = some (1, false) := by kernel_rfl
@[simp] theorem cells_104 : Try.prog.cellsOf 104 = 1 := by kernel_rfl
@[simp] theorem info_104 : (Try.prog.info? 104).isSome = true := by kernel_rfl
@[simp] theorem bytes_104 : Try.prog.bytesOf 104 = 8 := by kernel_rfl
@[simp] theorem ctys_104 : ctys Try.prog 104 = [none] := by kernel_rfl
@[simp] theorem conc_104 : Try.prog.concrete 104 = true := by kernel_rfl
@[simp] theorem zero_104 : zeroCs Try.prog 104 = some [.d (.v (.pointer none))] := by kernel_rfl
@[simp] theorem ifc_104 : isIfcT Try.prog 104 = some false := by kernel_rfl
@[simp] theorem map_104 : Try.prog.isMap 104 = false := by kernel_rfl
@[simp] theorem ptr_104 : Try.prog.ptrT 104 = some (some 9) := by kernel_rfl
@[simp] theorem ztup_104 : zeroTup Try.prog 104 = some (.tup [(false, [.d (.v (.pointer none))]), (false, [.d (.v (.bool false))])]) := by kernel_rfl
@[simp] theorem app_104 : Try.prog.appOk 104 = true := by kernel_rfl
@[simp] theorem und_104 : Try.prog.underlying 104 = some (.pointer 9) := by kernel_rfl
@[simp] theorem lay_105 : Try.prog.lay 105 = some (1, false) := by kernel_rfl
@[simp] theorem cells_105 : Try.prog.cellsOf 105 = 1 := by kernel_rfl
@[simp] theorem info_105 : (Try.prog.info? 105).isSome = true := by kernel_rfl
@[simp] theorem bytes_105 : Try.prog.bytesOf 105 = 8 := by kernel_rfl
@[simp] theorem ctys_105 : ctys Try.prog 105 = [none] := by kernel_rfl
@[simp] theorem conc_105 : Try.prog.concrete 105 = true := by kernel_rfl
@[simp] theorem zero_105 : zeroCs Try.prog 105 = some [.d (.v (.pointer none))] := by kernel_rfl
@[simp] theorem ifc_105 : isIfcT Try.prog 105 = some false := by kernel_rfl
@[simp] theorem map_105 : Try.prog.isMap 105 = false := by kernel_rfl
@[simp] theorem ptr_105 : Try.prog.ptrT 105 = some (some 198) := by kernel_rfl
@[simp] theorem ztup_105 : zeroTup Try.prog 105 = some (.tup [(false, [.d (.v (.pointer none))]), (false, [.d (.v (.bool false))])]) := by kernel_rfl
@[simp] theorem app_105 : Try.prog.appOk 105 = true := by kernel_rfl
@[simp] theorem und_105 : Try.prog.underlying 105 = some (.pointer 198) := by kernel_rfl
@[simp] theorem lay_106 : Try.prog.lay 106 = some (1, false) := by kernel_rfl
@[simp] theorem cells_106 : Try.prog.cellsOf 106 = 1 := by kernel_rfl
@[simp] theorem info_106 : (Try.prog.info? 106).isSome = true := by kernel_rfl
@[simp] theorem bytes_106 : Try.prog.bytesOf 106 = 8 := by kernel_rfl
@[simp] theorem ctys_106 : ctys Try.prog 106 = [none] := by kernel_rfl
@[simp] theorem conc_106 : Try.prog.concrete 106 = true := by kernel_rfl
@[simp] theorem zero_106 : zeroCs Try.prog 106 = some [.d (.v (.pointer none))] := by kernel_rfl
@[simp] theorem ifc_106 : isIfcT Try.prog 106 = some false := by kernel_rfl
@[simp] theorem map_106 : Try.prog.isMap 106 = false := by kernel_rfl
@[simp] theorem ptr_106 : Try.prog.ptrT 106 = some (some 200) := by kernel_rfl
@[simp] theorem ztup_106 : zeroTup Try.prog 106 = some (.tup [(false, [.d (.v (.pointer none))]), (false, [.d (.v (.bool false))])]) := by kernel_rfl
@[simp] theorem app_106 : Try.prog.appOk 106 = true := by kernel_rfl
@[simp] theorem und_106 : Try.prog.underlying 106 = some (.pointer 200) := by kernel_rfl
@[simp] theorem lay_107 : Try.prog.lay 107 = some (1, false) := by kernel_rfl
@[simp] theorem cells_107 : Try.prog.cellsOf 107 = 1 := by kernel_rfl
@[simp] theorem info_107 : (Try.prog.info? 107).isSome = true := by kernel_rfl
@[simp] theorem bytes_107 : Try.prog.bytesOf 107 = 8 := by kernel_rfl
@[simp] theorem ctys_107 : ctys Try.prog 107 = [none] := by kernel_rfl
@[simp] theorem conc_107 : Try.prog.concrete 107 = true := by kernel_rfl
@[simp] theorem zero_107 : zeroCs Try.prog 107 = some [.d (.v (.pointer none))] := by kernel_rfl
@[simp] theorem ifc_107 : isIfcT Try.prog 107 = some false := by kernel_rfl
@[simp] theorem map_107 : Try.prog.isMap 107 = false := by kernel_rfl
@[simp] theorem ptr_107 : Try.prog.ptrT 107 = some (some 115) := by kernel_rfl
@[simp] theorem ztup_107 : zeroTup Try.prog 107 = some (.tup [(false, [.d (.v (.pointer none))]), (false, [.d (.v (.bool false))])]) := by kernel_rfl
@[simp] theorem app_107 : Try.prog.appOk 107 = true := by kernel_rfl
@[simp] theorem und_107 : Try.prog.underlying 107 = some (.pointer 115) := by kernel_rfl
@[simp] theorem lay_108 : Try.prog.lay 108 = some (3, true) := by kernel_rfl
@[simp] theorem cells_108 : Try.prog.cellsOf 108 = 3 := by kernel_rfl
@[simp] theorem info_108 : (Try.prog.info? 108).isSome = true := by kernel_rfl
@[simp] theorem bytes_108 : Try.prog.bytesOf 108 = 24 := by kernel_rfl
@[simp] theorem ctys_108 : ctys Try.prog 108 = [none, none, none] := by kernel_rfl
@[simp] theorem conc_108 : Try.prog.concrete 108 = true := by kernel_rfl
@[simp] theorem zero_108 : zeroCs Try.prog 108 = some [.d (.v (.pointer none)), .d (.v (.pointer none)), .d (.v (.pointer none))] := by kernel_rfl
@[simp] theorem fld_108_0 : Try.prog.fld 108 0 = some (0, 1, false) := by kernel_rfl
@[simp] theorem fld_108_1 : Try.prog.fld 108 1 = some (1, 1, false) := by kernel_rfl
@[simp] theorem fld_108_2 : Try.prog.fld 108 2 = some (2, 1, false) := by kernel_rfl
@[simp] theorem str_108 : Try.prog.strOk 108 = true := by kernel_rfl
@[simp] theorem ifc_108 : isIfcT Try.prog 108 = some false := by kernel_rfl
@[simp] theorem map_108 : Try.prog.isMap 108 = false := by kernel_rfl
@[simp] theorem ptr_108 : Try.prog.ptrT 108 = some none := by kernel_rfl
@[simp] theorem ztup_108 : zeroTup Try.prog 108 = some (.tup [(true, [.d (.v (.pointer none)), .d (.v (.pointer none)), .d (.v (.pointer none))]), (false, [.d (.v (.bool false))])]) := by kernel_rfl
@[simp] theorem app_108 : Try.prog.appOk 108 = true := by kernel_rfl
@[simp] theorem lay_109 : Try.prog.lay 109 = some (3, true) := by kernel_rfl
@[simp] theorem cells_109 : Try.prog.cellsOf 109 = 3 := by kernel_rfl
@[simp] theorem info_109 : (Try.prog.info? 109).isSome = true := by kernel_rfl
@[simp] theorem bytes_109 : Try.prog.bytesOf 109 = 24 := by kernel_rfl
@[simp] theorem ctys_109 : ctys Try.prog 109 = [none, none, none] := by kernel_rfl
@[simp] theorem conc_109 : Try.prog.concrete 109 = true := by kernel_rfl
@[simp] theorem zero_109 : zeroCs Try.prog 109 = some [.d (.v (.pointer none)), .d (.v (.pointer none)), .d (.v (.pointer none))] := by kernel_rfl
@[simp] theorem fld_109_0 : Try.prog.fld 109 0 = some (0, 1, false) := by kernel_rfl
@[simp] theorem fld_109_1 : Try.prog.fld 109 1 = some (1, 1, false) := by kernel_rfl
@[simp] theorem fld_109_2 : Try.prog.fld 109 2 = some (2, 1, false) := by kernel_rfl
@[simp] theorem str_109 : Try.prog.strOk 109 = true := by kernel_rfl
@[simp] theorem ifc_109 : isIfcT Try.prog 109 = some false := by kernel_rfl
@[simp] theorem map_109 : Try.prog.isMap 109 = false := by kernel_rfl
@[simp] theorem ptr_109 : Try.prog.ptrT 109 = some none := by kernel_rfl
@[simp] theorem ztup_109 : zeroTup Try.prog 109 = some (.tup [(true, [.d (.v (.pointer none)), .d (.v (.pointer none)), .d (.v (.pointer none))]), (false, [.d (.v (.bool false))])]) := by kernel_rfl
@[simp] theorem app_109 : Try.prog.appOk 109 = true := by kernel_rfl
@[simp] theorem lay_110 : Try.prog.lay 110 = some (1, false) := by kernel_rfl
@[simp] theorem cells_110 : Try.prog.cellsOf 110 = 1 := by kernel_rfl
@[simp] theorem info_110 : (Try.prog.info? 110).isSome = true := by kernel_rfl
@[simp] theorem bytes_110 : Try.prog.bytesOf 110 = 8 := by kernel_rfl
@[simp] theorem ctys_110 : ctys Try.prog 110 = [none] := by kernel_rfl
@[simp] theorem conc_110 : Try.prog.concrete 110 = true := by kernel_rfl
@[simp] theorem zero_110 : zeroCs Try.prog 110 = some [.d (.v (.pointer none))] := by kernel_rfl
@[simp] theorem ifc_110 : isIfcT Try.prog 110 = some false := by kernel_rfl
@[simp] theorem map_110 : Try.prog.isMap 110 = false := by kernel_rfl
@[simp] theorem ptr_110 : Try.prog.ptrT 110 = some (some 113) := by kernel_rfl
@[simp] theorem ztup_110 : zeroTup Try.prog 110 = some (.tup [(false, [.d (.v (.pointer none))]), (false, [.d (.v (.bool false))])]) := by kernel_rfl
@[simp] theorem app_110 : Try.prog.appOk 110 = true := by kernel_rfl
@[simp] theorem und_110 : Try.prog.underlying 110 = some (.pointer 113) := by kernel_rfl
@[simp] theorem lay_111 : Try.prog.lay 111 = some (6, true) := by kernel_rfl
@[simp] theorem cells_111 : Try.prog.cellsOf 111 = 6 := by kernel_rfl
@[simp] theorem info_111 : (Try.prog.info? 111).isSome = true := by kernel_rfl
@[simp] theorem bytes_111 : Try.prog.bytesOf 111 = 48 := by kernel_rfl
@[simp] theorem ctys_111 : ctys Try.prog 111 = [none, none, none, none, none, none] := by kernel_rfl
@[simp] theorem conc_111 : Try.prog.concrete 111 = true := by kernel_rfl
@[simp] theorem zero_111 : zeroCs Try.prog 111 = some [.d (.v (.pointer none)), .d (.v (.pointer none)), .d (.v (.pointer none)), .d (.v (.pointer none)), .d (.v (.pointer none)), .d (.v (.bool false))] := by kernel_rfl
@[simp] theorem fld_111_0 : Try.prog.fld 111 0 = some (0, 1, false) := by kernel_rfl
@[simp] theorem fld_111_1 : Try.prog.fld 111 1 = some (1, 3, true) := by kernel_rfl
@[simp] theorem fld_111_2 : Try.prog.fld 111 2 = some (4, 1, false) := by kernel_rfl
@[simp] theorem fld_111_3 : Try.prog.fld 111 3 = some (5, 1, false) := by kernel_rfl
@[simp] theorem str_111 : Try.prog.strOk 111 = true := by kernel_rfl
@[simp] theorem ifc_111 : isIfcT Try.prog 111 = some false := by kernel_rfl
@[simp] theorem map_111 : Try.prog.isMap 111 = false := by kernel_rfl
@[simp] theorem ptr_111 : Try.prog.ptrT 111 = some none := by kernel_rfl
@[simp] theorem ztup_111 : zeroTup Try.prog 111 = some (.tup [(true, [.d (.v (.pointer none)), .d (.v (.pointer none)), .d (.v (.pointer none)), .d (.v (.pointer none)), .d (.v (.pointer none)), .d (.v (.bool false))]), (false, [.d (.v (.bool false))])]) := by kernel_rfl
@[simp] theorem app_111 : Try.prog.appOk 111 = true := by kernel_rfl
@[simp] theorem lay_112 : Try.prog.lay 112 = some (6, true) := by kernel_rfl
@[simp] theorem cells_112 : Try.prog.cellsOf 112 = 6 := by kernel_rfl
@[simp] theorem info_112 : (Try.prog.info? 112).isSome = true := by kernel_rfl
@[simp] theorem bytes_112 : Try.prog.bytesOf 112 = 48 := by kernel_rfl
@[simp] theorem ctys_112 : ctys Try.prog 112 = [none, none, none, none, none, none] := by kernel_rfl
@[simp] theorem conc_112 : Try.prog.concrete 112 = true := by kernel_rfl
@[simp] theorem zero_112 : zeroCs Try.prog 112 = some [.d (.v (.pointer none)), .d (.v (.pointer none)), .d (.v (.pointer none)), .d (.v (.pointer none)), .d (.v (.pointer none)), .d (.v (.bool false))] := by kernel_rfl
@[simp] theorem fld_112_0 : Try.prog.fld 112 0 = some (0, 1, false) := by kernel_rfl
@[simp] theorem fld_112_1 : Try.prog.fld 112 1 = some (1, 3, true) := by kernel_rfl
@[simp] theorem fld_112_2 : Try.prog.fld 112 2 = some (4, 1, false) := by kernel_rfl
@[simp] theorem fld_112_3 : Try.prog.fld 112 3 = some (5, 1, false) := by kernel_rfl
@[simp] theorem str_112 : Try.prog.strOk 112 = true := by kernel_rfl
@[simp] theorem ifc_112 : isIfcT Try.prog 112 = some false := by kernel_rfl
@[simp] theorem map_112 : Try.prog.isMap 112 = false := by kernel_rfl
@[simp] theorem ptr_112 : Try.prog.ptrT 112 = some none := by kernel_rfl
@[simp] theorem ztup_112 : zeroTup Try.prog 112 = some (.tup [(true, [.d (.v (.pointer none)), .d (.v (.pointer none)), .d (.v (.pointer none)), .d (.v (.pointer none)), .d (.v (.pointer none)), .d (.v (.bool false))]), (false, [.d (.v (.bool false))])]) := by kernel_rfl
@[simp] theorem app_112 : Try.prog.appOk 112 = true := by kernel_rfl
@[simp] theorem lay_113 : Try.prog.lay 113 = some (1, false) := by kernel_rfl
@[simp] theorem cells_113 : Try.prog.cellsOf 113 = 1 := by kernel_rfl
@[simp] theorem info_113 : (Try.prog.info? 113).isSome = true := by kernel_rfl
@[simp] theorem bytes_113 : Try.prog.bytesOf 113 = 16 := by kernel_rfl
@[simp] theorem ctys_113 : ctys Try.prog 113 = [none] := by kernel_rfl
@[simp] theorem conc_113 : Try.prog.concrete 113 = true := by kernel_rfl
@[simp] theorem zero_113 : zeroCs Try.prog 113 = some [.d (.v (.string ⟨#[]⟩))] := by kernel_rfl
@[simp] theorem ifc_113 : isIfcT Try.prog 113 = some false := by kernel_rfl
@[simp] theorem map_113 : Try.prog.isMap 113 = false := by kernel_rfl
@[simp] theorem ptr_113 : Try.prog.ptrT 113 = some none := by kernel_rfl
@[simp] theorem ztup_113 : zeroTup Try.prog 113 = some (.tup [(false, [.d (.v (.string ⟨#[]⟩))]), (false, [.d (.v (.bool false))])]) := by kernel_rfl
@[simp] theorem app_113 : Try.prog.appOk 113 = true := by kernel_rfl
@[simp] theorem und_113 : Try.prog.underlying 113 = some .string := by kernel_rfl
@[simp] theorem lay_114 : Try.prog.lay 114 = some (9, true) := by kernel_rfl
@[simp] theorem cells_114 : Try.prog.cellsOf 114 = 9 := by kernel_rfl
@[simp] theorem info_114 : (Try.prog.info? 114).isSome = true := by kernel_rfl
@[simp] theorem bytes_114 : Try.prog.bytesOf 114 = 112 := by kernel_rfl
@[simp] theorem ctys_114 : ctys Try.prog 114 = [some 118, some 235, none, none, none, none, none, none, none] := by kernel_rfl
@[simp] theorem conc_114 : Try.prog.concrete 114 = true := by kernel_rfl
@[simp] theorem zero_114 : zeroCs Try.prog 114 = some [.d (.v (.slice none 0 0)), .d (.v (.slice none 0 0)), .d (.v (.pointer none)), .d (.v (.pointer none)), .d (.v (.pointer none)), .d (.v (.pointer none)), .d (.v (.pointer none)), .d (.v (.bool false)), .d (.v (.string ⟨#[]⟩))] := by kernel_rfl
@[simp] theorem fld_114_0 : Try.prog.fld 114 0 = some (0, 1, false) := by kernel_rfl
@[simp] theorem fld_114_1 : Try.prog.fld 114 1 = some (1, 1, false) := by kernel_rfl
@[simp] theorem fld_114_2 : Try.prog.fld 114 2 = some (2, 6, true) := by kernel_rfl
@[simp] theorem fld_114_3 : Try.prog.fld 114 3 = some (8, 1, false) := by kernel_rfl
@[simp] theorem str_114 : Try.prog.strOk 114 = true := by kernel_rfl
@[simp] theorem ifc_114 : isIfcT Try.prog 114 = some false := by kernel_rfl
@[simp] theorem map_114 : Try.prog.isMap 114 = false := by kernel_rfl
@[simp] theorem ptr_114 : Try.prog.ptrT 114 = some none := by kernel_rfl
@[simp] theorem ztup_114 : zeroTup Try.prog 114 = some (.tup [(true, [.d (.v (.slice none 0 0)), .d (.v (.slice none 0 0)), .d (.v (.pointer none)), .d (.v (.pointer none)), .d (.v (.pointer none)), .d (.v (.pointer none)), .d (.v (.pointer none)), .d (.v (.bool false)), .d (.v (.string ⟨#[]⟩))]), (false, [.d (.v (.bool false))])]) := by kernel_rfl
@[simp] theorem app_114 : Try.prog.appOk 114 = true := by kernel_rfl
@[simp] theorem lay_115 : Try.prog.lay 115 = some (9, true) := by kernel_rfl
@[simp] theorem cells_115 : Try.prog.cellsOf 115 = 9 := by kernel_rfl
@[simp] theorem info_115 : (Try.prog.info? 115).isSome = true := by kernel_rfl
@[simp] theorem bytes_115 : Try.prog.bytesOf 115 = 112 := by kernel_rfl
@[simp] theorem ctys_115 : ctys Try.prog 115 = [some 118, some 235, none, none, none, none, none, none, none] := by kernel_rfl
@[simp] theorem conc_115 : Try.prog.concrete 115 = true := by kernel_rfl
@[simp] theorem zero_115 : zeroCs Try.prog 115 = some [.d (.v (.slice none 0 0)), .d (.v (.slice none 0 0)), .d (.v (.pointer none)), .d (.v (.pointer none)), .d (.v (.pointer none)), .d (.v (.pointer none)), .d (.v (.pointer none)), .d (.v (.bool false)), .d (.v (.string ⟨#[]⟩))] := by kernel_rfl
@[simp] theorem fld_115_0 : Try.prog.fld 115 0 = some (0, 1, false) := by kernel_rfl
@[simp] theorem fld_115_1 : Try.prog.fld 115 1 = some (1, 1, false) := by kernel_rfl
@[simp] theorem fld_115_2 : Try.prog.fld 115 2 = some (2, 6, true) := by kernel_rfl
@[simp] theorem fld_115_3 : Try.prog.fld 115 3 = some (8, 1, false) := by kernel_rfl
@[simp] theorem str_115 : Try.prog.strOk 115 = true := by kernel_rfl
@[simp] theorem ifc_115 : isIfcT Try.prog 115 = some false := by kernel_rfl
@[simp] theorem map_115 : Try.prog.isMap 115 = false := by kernel_rfl
@[simp] theorem ptr_115 : Try.prog.ptrT 115 = some none := by kernel_rfl
@[simp] theorem ztup_115 : zeroTup Try.prog 115 = some (.tup [(true, [.d (.v (.slice none 0 0)), .d (.v (.slice none 0 0)), .d (.v (.pointer none)), .d (.v (.pointer none)), .d (.v (.pointer none)), .d (.v (.pointer none)), .d (.v (.pointer none)), .d (.v (.bool false)), .d (.v (.string ⟨#[]⟩))]), (false, [.d (.v (.bool false))])]) := by kernel_rfl
@[simp] theorem app_115 : Try.prog.appOk 115 = true := by kernel_rfl
@[simp] theorem lay_117 : Try.prog.lay 117 = some (8, true) := by kernel_rfl
@[simp] theorem cells_117 : Try.prog.cellsOf 117 = 8 := by kernel_rfl
@[simp] theorem info_117 : (Try.prog.info? 117).isSome = true := by kernel_rfl
@[simp] theorem bytes_117 : Try.prog.bytesOf 117 = 80 := by kernel_rfl
@[simp] theorem ctys_117 : ctys Try.prog 117 = [none, none, none, none, none, none, none, none] := by kernel_rfl
@[simp] theorem conc_117 : Try.prog.concrete 117 = true := by kernel_rfl
@[simp] theorem zero_117 : zeroCs Try.prog 117 = some [.d (.v (.string ⟨#[]⟩)), .d (.v (.pointer none)), .d (.v (.pointer none)), .d (.v (.pointer none)), .d (.v (.pointer none)), .d (.v (.pointer none)), .d (.v (.bool false)), .d (.v (.nilIface))] := by kernel_rfl
@[simp] theorem fld_117_0 : Try.prog.fld 117 0 = some (0, 1, false) := by kernel_rfl
@[simp] theorem fld_117_1 : Try.prog.fld 117 1 = some (1, 6, true) := by kernel_rfl
@[simp] theorem fld_117_2 : Try.prog.fld 117 2 = some (7, 1, false) := by kernel_rfl
@[simp] theorem str_117 : Try.prog.strOk 117 = true := by kernel_rfl
@[simp] theorem ifc_117 : isIfcT Try.prog 117 = some false := by kernel_rfl
@[simp] theorem map_117 : Try.prog.isMap 117 = false := by kernel_rfl
@[simp] theorem ptr_117 : Try.prog.ptrT 117 = some none := by kernel_rfl
@[simp] theorem ztup_117 : zeroTup Try.prog 117 = some (.tup [(true, [.d (.v (.string ⟨#[]⟩)), .d (.v (.pointer none)), .d (.v (.pointer none)), .d (.v (.pointer none)), .d (.v (.pointer none)), .d (.v (.pointer none)), .d (.v (.bool false)), .d (.v (.nilIface))]), (false, [.d (.v (.bool false))])]) := by kernel_rfl
@[simp] theorem app_117 : Try.prog.appOk 117 = true := by kernel_rfl
@[simp] theorem lay_118 : Try.prog.lay 118 = some (8, true) := by kernel_rfl
@[simp] theorem cells_118 : Try.prog.cellsOf 118 = 8 := by kernel_rfl
@[simp] theorem info_118 : (Try.prog.info? 118).isSome = true := by kernel_rfl
@[simp] theorem bytes_118 : Try.prog.bytesOf 118 = 80 := by kernel_rfl
@[simp] theorem ctys_118 : ctys Try.prog 118 = [none, none, none, none, none, none, none, none] := by kernel_rfl
@[simp] theorem conc_118 : Try.prog.concrete 118 = true := by kernel_rfl
@[simp] theorem zero_118 : zeroCs Try.prog 118 = some [.d (.v (.string ⟨#[]⟩)), .d (.v (.pointer none)), .d (.v (.pointer none)), .d (.v (.pointer none)), .d (.v (.pointer none)), .d (.v (.pointer none)), .d (.v (.bool false)), .d (.v (.nilIface))] := by kernel_rfl
@[simp] theorem fld_118_0 : Try.prog.fld 118 0 = some (0, 1, false) := by kernel_rfl
@[simp] theorem fld_118_1 : Try.prog.fld 118 1 = some (1, 6, true) := by kernel_rfl
@[simp] theorem fld_118_2 : Try.prog.fld 118 2 = some (7, 1, false) := by kernel_rfl
@[simp] theorem str_118 : Try.prog.strOk 118 = true := by kernel_rfl
@[simp] theorem ifc_118 : isIfcT Try.prog 118 = some false := by kernel_rfl
@[simp] theorem map_118 : Try.prog.isMap 118 = false := by kernel_rfl
@[simp] theorem ptr_118 : Try.prog.ptrT 118 = some none := by kernel_rfl
@[simp] theorem ztup_118 : zeroTup Try.prog 118 = some (.tup [(true, [.d (.v (.string ⟨#[]⟩)), .d (.v (.pointer none)), .d (.v (.pointer none)), .d (.v (.pointer none)), .d (.v (.pointer none)), .d (.v (.pointer none)), .d (.v (.bool false)), .d (.v (.nilIface))]), (false, [.d (.v (.bool false))])]) := by kernel_rfl
@[simp] theorem app_118 : Try.prog.appOk 118 = true := by kernel_rfl
@[simp] theorem lay_123 : Try.prog.lay 123 = some (1, false) := by kernel_rfl
@[simp] theorem cells_123 : Try.prog.cellsOf 123 = 1 := by kernel_rfl
@[simp] theorem info_123 : (Try.prog.info? 123).isSome = true := by kernel_rfl
@[simp] theorem bytes_123 : Try.prog.bytesOf 123 = 8 := by kernel_rfl
@[simp] theorem ctys_123 : ctys Try.prog 123 = [none] := by kernel_rfl
@[simp] theorem conc_123 : Try.prog.concrete 123 = true := by kernel_rfl
@[simp] theorem zero_123 : zeroCs Try.prog 123 = some [.d (.v (.pointer none))] := by kernel_rfl
@[simp] theorem ifc_123 : isIfcT Try.prog 123 = some false := by kernel_rfl
@[simp] theorem map_123 : Try.prog.isMap 123 = false := by kernel_rfl
@[simp] theorem ptr_123 : Try.prog.ptrT 123 = some (some 174) := by kernel_rfl
@[simp] theorem ztup_123 : zeroTup Try.prog 123 = some (.tup [(false, [.d (.v (.pointer none))]), (false, [.d (.v (.bool false))])]) := by kernel_rfl
@[simp] theorem app_123 : Try.prog.appOk 123 = true := by kernel_rfl
@[simp] theorem und_123 : Try.prog.underlying 123 = some (.pointer 174) := by kernel_rfl
@[simp] theorem lay_128 : Try.prog.lay 128 = some (1, false) := by kernel_rfl
@[simp] theorem cells_128 : Try.prog.cellsOf 128 = 1 := by kernel_rfl
@[simp] theorem info_128 : (Try.prog.info? 128).isSome = true := by kernel_rfl
@[simp] theorem bytes_128 : Try.prog.bytesOf 128 = 24 := by kernel_rfl
@[simp] theorem ctys_128 : ctys Try.prog 128 = [some 20] := by kernel_rfl
@[simp] theorem conc_128 : Try.prog.concrete 128 = true := by kernel_rfl
@[simp] theorem zero_128 : zeroCs Try.prog 128 = some [.d (.v (.slice none 0 0))] := by kernel_rfl
@[simp] theorem ifc_128 : isIfcT Try.prog 128 = some false := by kernel_rfl
@[simp] theorem map_128 : Try.prog.isMap 128 = false := by kernel_rfl
@[simp] theorem ptr_128 : Try.prog.ptrT 128 = some none := by kernel_rfl
@[simp] theorem ztup_128 : zeroTup Try.prog 128 = some (.tup [(false, [.d (.v (.slice none 0 0))]), (false, [.d (.v (.bool false))])]) := by kernel_rfl
@[simp] theorem app_128 : Try.prog.appOk 128 = true := by kernel_rfl
@[simp] theorem elem_128 : Try.prog.elemT 128 = some 20 := by kernel_rfl
@[simp] theorem und_128 : Try.prog.underlying 128 = some (.slice 20) := by kernel_rfl
@[simp] theorem lay_129 : Try.prog.lay 129 = some (1, false) := by kernel_rfl
@[simp] theorem cells_129 : Try.prog.cellsOf 129 = 1 := by kernel_rfl
@[simp] theorem info_129 : (Try.prog.info? 129).isSome = true := by kernel_rfl
@[simp] theorem bytes_129 : Try.prog.bytesOf 129 = 8 := by kernel_rfl
@[simp] theorem ctys_129 : ctys Try.prog 129 = [none] := by kernel_rfl
@[simp] theorem conc_129 : Try.prog.concrete 129 = true := by kernel_rfl
@[simp] theorem zero_129 : zeroCs Try.prog 129 = some [.d (.v (.pointer none))] := by kernel_rfl
@[simp] theorem ifc_129 : isIfcT Try.prog 129 = some false := by kernel_rfl
@[simp] theorem map_129 : Try.prog.isMap 129 = false := by kernel_rfl
@[simp] theorem ptr_129 : Try.prog.ptrT 129 = some (some 180) := by kernel_rfl
@[simp] theorem ztup_129 : zeroTup Try.prog 129 = some (.tup [(false, [.d (.v (.pointer none))]), (false, [.d (.v (.bool false))])]) := by kernel_rfl
@[simp] theorem app_129 : Try.prog.appOk 129 = true := by kernel_rfl
@[simp] theorem und_129 : Try.prog.underlying 129 = some (.pointer 180) := by kernel_rfl
@[simp] theorem lay_130 : Try.prog.lay 130 = some (1, false) := by kernel_rfl
@[simp] theorem cells_130 : Try.prog.cellsOf 130 = 1 := by kernel_rfl
@[simp] theorem info_130 : (Try.prog.info? 130).isSome = true := by kernel_rfl
@[simp] theorem bytes_130 : Try.prog.bytesOf 130 = 8 := by kernel_rfl
@[simp] theorem ctys_130 : ctys Try.prog 130 = [none] := by kernel_rfl
@[simp] theorem conc_130 : Try.prog.concrete 130 = true := by kernel_rfl
@[simp] theorem zero_130 : zeroCs Try.prog 130 = some [.d (.v (.pointer none))] := by kernel_rfl
@[simp] theorem ifc_130 : isIfcT Try.prog 130 = some false := by kernel_rfl
@[simp] theorem map_130 : Try.prog.isMap 130 = false := by kernel_rfl
@[simp] theorem ptr_130 : Try.prog.ptrT 130 = some (some 94) := by kernel_rfl
@[simp] theorem ztup_130 : zeroTup Try.prog 130 = some (.tup [(false, [.d (.v (.pointer none))]), (false, [.d (.v (.bool false))])]) := by kernel_rfl
@[simp] theorem app_130 : Try.prog.appOk 130 = true := by kernel_rfl
@[simp] theorem und_130 : Try.prog.underlying 130 = some (.pointer 94) := by kernel_rfl
@[simp] theorem lay_131 : Try.prog.lay 131 = some (1, false) := by kernel_rfl
@[simp] theorem cells_131 : Try.prog.cellsOf 131 = 1 := by kernel_rfl
@[simp] theorem info_131 : (Try.prog.info? 131).isSome = true := by kernel_rfl
@[simp] theorem bytes_131 : Try.prog.bytesOf 131 = 8 := by kernel_rfl
@[simp] theorem ctys_131 : ctys Try.prog 131 = [none] := by kernel_rfl
@[simp] theorem conc_131 : Try.prog.concrete 131 = true := by kernel_rfl
@[simp] theorem zero_131 : zeroCs Try.prog 131 = some [.d (.v (.pointer none))] := by kernel_rfl
@[simp] theorem ifc_131 : isIfcT Try.prog 131 = some false := by kernel_rfl
@[simp] theorem map_131 : Try.prog.isMap 131 = false := by kernel_rfl
@[simp] theorem ptr_131 : Try.prog.ptrT 131 = some (some 3) := by kernel_rfl
@[simp] theorem ztup_131 : zeroTup Try.prog 131 = some (.tup [(false, [.d (.v (.pointer none))]), (false, [.d (.v (.bool false))])]) := by kernel_rfl
@[simp] theorem app_131 : Try.prog.appOk 131 = true := by kernel_rfl
@[simp] theorem und_131 : Try.prog.underlying 131 = some (.pointer 3) := by kernel_rfl
@[simp] theorem lay_132 : Try.prog.lay 132 = some (4, true) := by kernel_rfl
@[simp] theorem cells_132 : Try.prog.cellsOf 132 = 4 := by kernel_rfl
@[simp] theorem info_132 : (Try.prog.info? 132).isSome = true := by kernel_rfl
@[simp] theorem bytes_132 : Try.prog.bytesOf 132 = 32 := by kernel_rfl
@[simp] theorem ctys_132 : ctys Try.prog 132 = [none, none, none, none] := by kernel_rfl
@[simp] theorem conc_132 : Try.prog.concrete 132 = true := by kernel_rfl
@[simp] theorem zero_132 : zeroCs Try.prog 132 = some [.d (.v (.pointer none)), .d (.v (.pointer none)), .d (.v (.pointer none)), .d (.v (.pointer none))] := by kernel_rfl
@[simp] theorem fld_132_0 : Try.prog.fld 132 0 = some (0, 1, false) := by kernel_rfl
@[simp] theorem fld_132_1 : Try.prog.fld 132 1 = some (1, 1, false) := by kernel_rfl
@[simp] theorem fld_132_2 : Try.prog.fld 132 2 = some (2, 1, false) := by kernel_rfl
@[simp] theorem fld_132_3 : Try.prog.fld 132 3 = some (3, 1, false) := by kernel_rfl
@[simp] theorem str_132 : Try.prog.strOk 132 = true := by kernel_rfl
@[simp] theorem ifc_132 : isIfcT Try.prog 132 = some false := by kernel_rfl
@[simp] theorem map_132 : Try.prog.isMap 132 = false := by kernel_rfl
@[simp] theorem ptr_132 : Try.prog.ptrT 132 = some none := by kernel_rfl
@[simp] theorem ztup_132 : zeroTup Try.prog 132 = some (.tup [(true, [.d (.v (.pointer none)), .d (.v (.pointer none)), .d (.v (.pointer none)), .d (.v (.pointer none))]), (false, [.d (.v (.bool false))])]) := by kernel_rfl
@[simp] theorem app_132 : Try.prog.appOk 132 = true := by kernel_rfl
@[simp] theorem lay_133 : Try.prog.lay 133 = some (4, true) := by kernel_rfl
@[simp] theorem cells_133 : Try.prog.cellsOf 133 = 4 := by kernel_rfl
@[simp] theorem info_133 : (Try.prog.info? 133).isSome = true := by kernel_rfl
@[simp] theorem bytes_133 : Try.prog.bytesOf 133 = 32 := by kernel_rfl
@[simp] theorem ctys_133 : ctys Try.prog 133 = [none, none, none, none] := by kernel_rfl
@[simp] theorem conc_133 : Try.prog.concrete 133 = true := by kernel_rfl
@[simp] theorem zero_133 : zeroCs Try.prog 133 = some [.d (.v (.pointer none)), .d (.v (.pointer none)), .d (.v (.pointer none)), .d (.v (.pointer none))] := by kernel_rfl
@[simp] theorem fld_133_0 : Try.prog.fld 133 0 = some (0, 1, false) := by kernel_rfl
@[simp] theorem fld_133_1 : Try.prog.fld 133 1 = some (1, 1, false) := by kernel_rfl
@[simp] theorem fld_133_2 : Try.prog.fld 133 2 = some (2, 1, false) := by kernel_rfl
@[simp] theorem fld_133_3 : Try.prog.fld 133 3 = some (3, 1, false) := by kernel_rfl
@[simp] theorem str_133 : Try.prog.strOk 133 = true := by kernel_rfl
@[simp] theorem ifc_133 : isIfcT Try.prog 133 = some false := by kernel_rfl
@[simp] theorem map_133 : Try.prog.isMap 133 = false := by kernel_rfl
@[simp] theorem ptr_133 : Try.prog.ptrT 133 = some none := by kernel_rfl
@[simp] theorem ztup_133 : zeroTup Try.prog 133 = some (.tup [(true, [.d (.v (.pointer none)), .d (.v (.pointer none)), .d (.v (.pointer none)), .d (.v (.pointer none))]), (false, [.d (.v (.bool false))])]) := by kernel_rfl
@[simp] theorem app_133 : Try.prog.appOk 133 = true := by kernel_rfl
@[simp] theorem lay_135 : Try.prog.lay 135 = some (1, false) := by kernel_rfl
@[simp] theorem cells_135 : Try.prog.cellsOf 135 = 1 := by kernel_rfl
@[simp] theorem info_135 : (Try.prog.info? 135).isSome = true := by kernel_rfl
@[simp] theorem bytes_135 : Try.prog.bytesOf 135 = 24 := by kernel_rfl
@[simp] theorem ctys_135 : ctys Try.prog 135 = [some 133] := by kernel_rfl
@[simp] theorem conc_135 : Try.prog.concrete 135 = true := by kernel_rfl
@[simp] theorem zero_135 : zeroCs Try.prog 135 = some [.d (.v (.slice none 0 0))] := by kernel_rfl
@[simp] theorem ifc_135 : isIfcT Try.prog 135 = some false := by kernel_rfl
@[simp] theorem map_135 : Try.prog.isMap 135 = false := by kernel_rfl
@[simp] theorem ptr_135 : Try.prog.ptrT 135 = some none := by kernel_rfl
@[simp] theorem ztup_135 : zeroTup Try.prog 135 = some (.tup [(false, [.d (.v (.slice none 0 0))]), (false, [.d (.v (.bool false))])]) := by kernel_rfl
@[simp] theorem app_135 : Try.prog.appOk 135 = true := by kernel_rfl
@[simp] theorem elem_135 : Try.prog.elemT 135 = some 133 := by kernel_rfl
@[simp] theorem und_135 : Try.prog.underlying 135 = some (.slice 133) := by kernel_rfl
@[simp] theorem lay_136 : Try.prog.lay 136 = some (1, false) := by kernel_rfl
@[simp] theorem cells_136 : Try.prog.cellsOf 136 = 1 := by kernel_rfl
@[simp] theorem info_136 : (Try.prog.info? 136).isSome = true := by kernel_rfl
@[simp] theorem bytes_136 : Try.prog.bytesOf 136 = 24 := by kernel_rfl
@[simp] theorem ctys_136 : ctys Try.prog 136 = [some 133] := by kernel_rfl
@[simp] theorem conc_136 : Try.prog.concrete 136 = true := by kernel_rfl
@[simp] theorem zero_136 : zeroCs Try.prog 136 = some [.d (.v (.slice none 0 0))] := by kernel_rfl
@[simp] theorem ifc_136 : isIfcT Try.prog 136 = some false := by kernel_rfl
@[simp] theorem map_136 : Try.prog.isMap 136 = false := by kernel_rfl
@[simp] theorem ptr_136 : Try.prog.ptrT 136 = some none := by kernel_rfl
@[simp] theorem ztup_136 : zeroTup Try.prog 136 = some (.tup [(false, [.d (.v (.slice none 0 0))]), (false, [.d (.v (.bool false))])]) := by kernel_rfl
@[simp] theorem app_136 : Try.prog.appOk 136 = true := by kernel_rfl
@[simp] theorem elem_136 : Try.prog.elemT 136 = some 133 := by kernel_rfl
@[simp] theorem und_136 : Try.prog.underlying 136 = some (.slice 133) := by kernel_rfl
@[simp] theorem lay_137 : Try.prog.lay 137 = some (1, false) := by kernel_rfl
@[simp] theorem cells_137 : Try.prog.cellsOf 137 = 1 := by kernel_rfl
@[simp] theorem info_137 : (Try.prog.info? 137).isSome = true := by kernel_rfl
@[simp] theorem bytes_137 : Try.prog.bytesOf 137 = 16 := by kernel_rfl
@[simp] theorem ctys_137 : ctys Try.prog 137 = [none] := by kernel_rfl
@[simp] theorem zero_137 : zeroCs Try.prog 137 = some [.d (.v (.nilIface))] := by kernel_rfl
@[simp] theorem ifc_137 : isIfcT Try.prog 137 = some true := by kernel_rfl
@[simp] theorem map_137 : Try.prog.isMap 137 = false := by kernel_rfl
@[simp] theorem app_137 : Try.prog.appOk 137 = true := by kernel_rfl
@[simp] theorem lay_138 : Try.prog.lay 138 = some (1, false) := by kernel_rfl
@[simp] theorem cells_138 : Try.prog.cellsOf 138 = 1 := by kernel_rfl
@[simp] theorem info_138 : (Try.prog.info? 138).isSome = true := by kernel_rfl
@[simp] theorem bytes_138 : Try.prog.bytesOf 138 = 16 := by kernel_rfl
@[simp] theorem ctys_138 : ctys Try.prog 138 = [none] := by kernel_rfl
@[simp] theorem zero_138 : zeroCs Try.prog 138 = some [.d (.v (.nilIface))] := by kernel_rfl
@[simp] theorem ifc_138 : isIfcT Try.prog 138 = some true := by kernel_rfl
@[simp] theorem map_138 : Try.prog.isMap 138 = false := by kernel_rfl
@[simp] theorem app_138 : Try.prog.appOk 138 = true := by kernel_rfl
@[simp] theorem lay_144 : Try.prog.lay 144 = some (1, false) := by kernel_rfl
@[simp] theorem cells_144 : Try.prog.cellsOf 144 = 1 := by kernel_rfl
@[simp] theorem info_144 : (Try.prog.info? 144).isSome = true := by kernel_rfl
@[simp] theorem bytes_144 : Try.prog.bytesOf 144 = 8 := by kernel_rfl
@[simp] theorem ctys_144 : ctys Try.prog 144 = [none] := by kernel_rfl
@[simp] theorem conc_144 : Try.prog.concrete 144 = true := by kernel_rfl
@[simp] theorem zero_144 : zeroCs Try.prog 144 = some [.d (.v (.pointer none))] := by kernel_rfl
@[simp] theorem ifc_144 : isIfcT Try.prog 144 = some false := by kernel_rfl
@[simp] theorem map_144 : Try.prog.isMap 144 = false := by kernel_rfl
@[simp] theorem ptr_144 : Try.prog.ptrT 144 = some (some 112) := by kernel_rfl
@[simp] theorem ztup_144 : zeroTup Try.prog 144 = some (.tup [(false, [.d (.v (.pointer none))]), (false, [.d (.v (.bool false))])]) := by kernel_rfl
@[simp] theorem app_144 : Try.prog.appOk 144 = true := by kernel_rfl
@[simp] theorem und_144 : Try.prog.underlying 144 = some (.pointer 112) := by kernel_rfl
@[simp] theorem lay_149 : Try.prog.lay 149 = some (1, false) := by kernel_rfl
@[simp] theorem cells_149 : Try.prog.cellsOf 149 = 1 := by kernel_rfl
@[simp] theorem info_149 : (Try.prog.info? 149).isSome = true := by kernel_rfl
@[simp] theorem bytes_149 : Try.prog.bytesOf 149 = 8 := by kernel_rfl
@[simp] theorem ctys_149 : ctys Try.prog 149 = [none] := by kernel_rfl
@[simp] theorem conc_149 : Try.prog.concrete 149 = true := by kernel_rfl
@[simp] theorem zero_149 : zeroCs Try.prog 149 = some [.d (.v (.int .i64 0))] := by kernel_rfl
@[simp] theorem ifc_149 : isIfcT Try.prog 149 = some false := by kernel_rfl
@[simp] theorem map_149 : Try.prog.isMap 149 = false := by kernel_rfl
@[simp] theorem ptr_149 : Try.prog.ptrT 149 = some none := by kernel_rfl
@[simp] theorem ztup_149 : zeroTup Try.prog 149 = some (.tup [(false, [.d (.v (.int .i64 0))]), (false, [.d (.v (.bool false))])]) := by kernel_rfl
@[simp] theorem app_149 : Try.prog.appOk 149 = true := by kernel_rfl
@[simp] theorem und_149 : Try.prog.underlying 149 = some (.int .i64) := by kernel_rfl
@[simp] theorem lay_154 : Try.prog.lay 154 = some (1, false) := by kernel_rfl
@[simp] theorem cells_154 : Try.prog.cellsOf 154 = 1 := by kernel_rfl
@[simp] theorem info_154 : (Try.prog.info? 154).isSome = true := by kernel_rfl
@[simp] theorem bytes_154 : Try.prog.bytesOf 154 = 8 := by kernel_rfl
@[simp] theorem ctys_154 : ctys Try.prog 154 = [none] := by kernel_rfl
@[simp] theorem conc_154 : Try.prog.concrete 154 = true := by kernel_rfl
@[simp] theorem zero_154 : zeroCs Try.prog 154 = some [.d (.v (.map none))] := by kernel_rfl
@[simp] theorem ifc_154 : isIfcT Try.prog 154 = some false := by kernel_rfl
@[simp] theorem map_154 : Try.prog.isMap 154 = true := by kernel_rfl
@[simp] theorem ptr_154 : Try.prog.ptrT 154 = some none := by kernel_rfl
@[simp] theorem ztup_154 : zeroTup Try.prog 154 = some (.tup [(false, [.d (.v (.map none))]), (false, [.d (.v (.bool false))])]) := by kernel_rfl
@[simp] theorem app_154 : Try.prog.appOk 154 = true := by kernel_rfl
@[simp] theorem lay_165 : Try.prog.lay 165 = some (1, false) := by kernel_rfl
@[simp] theorem cells_165 : Try.prog.cellsOf 165 = 1 := by kernel_rfl
@[simp] theorem info_165 : (Try.prog.info? 165).isSome = true := by kernel_rfl
@[simp] theorem bytes_165 : Try.prog.bytesOf 165 = 8 := by kernel_rfl
@[simp] theorem ctys_165 : ctys Try.prog 165 = [none] := by kernel_rfl
@[simp] theorem conc_165 : Try.prog.concrete 165 = true := by kernel_rfl
@[simp] theorem zero_165 : zeroCs Try.prog 165 = some [.d (.v (.int .u64 0))] := by kernel_rfl
@[simp] theorem ifc_165 : isIfcT Try.prog 165 = some false := by kernel_rfl
@[simp] theorem map_165 : Try.prog.isMap 165 = false := by kernel_rfl
@[simp] theorem ptr_165 : Try.prog.ptrT 165 = some none := by kernel_rfl
@[simp] theorem ztup_165 : zeroTup Try.prog 165 = some (.tup [(false, [.d (.v (.int .u64 0))]), (false, [.d (.v (.bool false))])]) := by kernel_rfl
@[simp] theorem app_165 : Try.prog.appOk 165 = true := by kernel_rfl
@[simp] theorem und_165 : Try.prog.underlying 165 = some (.int .u64) := by kernel_rfl
@[simp] theorem lay_172 : Try.prog.lay 172 = some (1, false) := by kernel_rfl
@[simp] theorem cells_172 : Try.prog.cellsOf 172 = 1 := by kernel_rfl
@[simp] theorem info_172 : (Try.prog.info? 172).isSome = true := by kernel_rfl
@[simp] theorem bytes_172 : Try.prog.bytesOf 172 = 24 := by kernel_rfl
@[simp] theorem ctys_172 : ctys Try.prog 172 = [some 177] := by kernel_rfl
@[simp] theorem conc_172 : Try.prog.concrete 172 = true := by kernel_rfl
@[simp] theorem zero_172 : zeroCs Try.prog 172 = some [.d (.v (.slice none 0 0))] := by kernel_rfl
@[simp] theorem ifc_172 : isIfcT Try.prog 172 = some false := by kernel_rfl
@[simp] theorem map_172 : Try.prog.isMap 172 = false := by kernel_rfl
@[simp] theorem ptr_172 : Try.prog.ptrT 172 = some none := by kernel_rfl
@[simp] theorem ztup_172 : zeroTup Try.prog 172 = some (.tup [(false, [.d (.v (.slice none 0 0))]), (false, [.d (.v (.bool false))])]) := by kernel_rfl
@[simp] theorem app_172 : Try.prog.appOk 172 = true := by kernel_rfl
@[simp] theorem elem_172 : Try.prog.elemT 172 = some 177 := by kernel_rfl
@[simp] theorem und_172 : Try.prog.underlying 172 = some (.slice 177) := by kernel_rfl
@[simp] theorem lay_173 : Try.prog.lay 173 = some (1, true) := by kernel_rfl
@[simp] theorem cells_173 : Try.prog.cellsOf 173 = 1 := by kernel_rfl
@[simp] theorem info_173 : (Try.prog.info? 173).isSome = true := by kernel_rfl
@[simp] theorem bytes_173 : Try.prog.bytesOf 173 = 24 := by kernel_rfl
@[simp] theorem ctys_173 : ctys Try.prog 173 = [some 177] := by kernel_rfl
@[simp] theorem conc_173 : Try.prog.concrete 173 = true := by kernel_rfl
@[simp] theorem zero_173 : zeroCs Try.prog 173 = some [.d (.v (.slice none 0 0))] := by kernel_rfl
@[simp] theorem fld_173_0 : Try.prog.fld 173 0 = some (0, 1, false) := by kernel_rfl
@[simp] theorem str_173 : Try.prog.strOk 173 = true := by kernel_rfl
@[simp] theorem ifc_173 : isIfcT Try.prog 173 = some false := by kernel_rfl
@[simp] theorem map_173 : Try.prog.isMap 173 = false := by kernel_rfl
@[simp] theorem ptr_173 : Try.prog.ptrT 173 = some none := by kernel_rfl
@[simp] theorem ztup_173 : zeroTup Try.prog 173 = some (.tup [(true, [.d (.v (.slice none 0 0))]), (false, [.d (.v (.bool false))])]) := by kernel_rfl
@[simp] theorem app_173 : Try.prog.appOk 173 = true := by kernel_rfl
@[simp] theorem lay_174 : Try.prog.lay 174 = some (1, true) := by kernel_rfl
@[simp] theorem cells_174 : Try.prog.cellsOf 174 = 1 := by kernel_rfl
@[simp] theorem info_174 : (Try.prog.info? 174).isSome = true := by kernel_rfl
@[simp] theorem bytes_174 : Try.prog.bytesOf 174 = 24 := by kernel_rfl
@[simp] theorem ctys_174 : ctys Try.prog 174 = [some 177] := by kernel_rfl
@[simp] theorem conc_174 : Try.prog.concrete 174 = true := by kernel_rfl
@[simp] theorem zero_174 : zeroCs Try.prog 174 = some [.d (.v (.slice none 0 0))] := by kernel_rfl
@[simp] theorem fld_174_0 : Try.prog.fld 174 0 = some (0, 1, false) := by kernel_rfl
@[simp] theorem str_174 : Try.prog.strOk 174 = true := by kernel_rfl
@[simp] theorem ifc_174 : isIfcT Try.prog 174 = some false := by kernel_rfl
@[simp] theorem map_174 : Try.prog.isMap 174 = false := by kernel_rfl
@[simp] theorem ptr_174 : Try.prog.ptrT 174 = some none := by kernel_rfl
@[simp] theorem ztup_174 : zeroTup Try.prog 174 = some (.tup [(true, [.d (.v (.slice none 0 0))]), (false, [.d (.v (.bool false))])]) := by kernel_rfl
@[simp] theorem app_174 : Try.prog.appOk 174 = true := by kernel_rfl
@[simp] theorem lay_176 : Try.prog.lay 176 = some (4, true) := by kernel_rfl
@[simp] theorem cells_176 : Try.prog.cellsOf 176 = 4 := by kernel_rfl
@[simp] theorem info_176 : (Try.prog.info? 176).isSome = true := by kernel_rfl
@[simp] theorem bytes_176 : Try.prog.bytesOf 176 = 40 := by kernel_rfl
@[simp] theorem ctys_176 : ctys Try.prog 176 = [none, none, none, none] := by kernel_rfl
@[simp] theorem conc_176 : Try.prog.concrete 176 = true := by kernel_rfl
@[simp] theorem zero_176 : zeroCs Try.prog 176 = some [.d (.v (.string ⟨#[]⟩)), .d (.v (.pointer none)), .d (.v (.pointer none)), .d (.v (.pointer none))] := by kernel_rfl
@[simp] theorem fld_176_0 : Try.prog.fld 176 0 = some (0, 1, false) := by kernel_rfl
@[simp] theorem fld_176_1 : Try.prog.fld 176 1 = some (1, 3, true) := by kernel_rfl
@[simp] theorem str_176 : Try.prog.strOk 176 = true := by kernel_rfl
@[simp] theorem ifc_176 : isIfcT Try.prog 176 = some false := by kernel_rfl
@[simp] theorem map_176 : Try.prog.isMap 176 = false := by kernel_rfl
@[simp] theorem ptr_176 : Try.prog.ptrT 176 = some none := by kernel_rfl
@[simp] theorem ztup_176 : zeroTup Try.prog 176 = some (.tup [(true, [.d (.v (.string ⟨#[]⟩)), .d (.v (.pointer none)), .d (.v (.pointer none)), .d (.v (.pointer none))]), (false, [.d (.v (.bool false))])]) := by kernel_rfl
@[simp] theorem app_176 : Try.prog.appOk 176 = true := by kernel_rfl
@[simp] theorem lay_177 : Try.prog.lay 177 = some (4, true) := by kernel_rfl
@[simp] theorem cells_177 : Try.prog.cellsOf 177 = 4 := by kernel_rfl
@[simp] theorem info_177 : (Try.prog.info? 177).isSome = true := by kernel_rfl
@[simp] theorem bytes_177 : Try.prog.bytesOf 177 = 40 := by kernel_rfl
@[simp] theorem ctys_177 : ctys Try.prog 177 = [none, none, none, none] := by kernel_rfl
@[simp] theorem conc_177 : Try.prog.concrete 177 = true := by kernel_rfl
@[simp] theorem zero_177 : zeroCs Try.prog 177 = some [.d (.v (.string ⟨#[]⟩)), .d (.v (.pointer none)), .d (.v (.pointer none)), .d (.v (.pointer none))] := by kernel_rfl
@[simp] theorem fld_177_0 : Try.prog.fld 177 0 = some (0, 1, false) := by kernel_rfl
@[simp] theorem fld_177_1 : Try.prog.fld 177 1 = some (1, 3, true) := by kernel_rfl
@[simp] theorem str_177 : Try.prog.strOk 177 = true := by kernel_rfl
@[simp] theorem ifc_177 : isIfcT Try.prog 177 = some false := by kernel_rfl
@[simp] theorem map_177 : Try.prog.isMap 177 = false := by kernel_rfl
@[simp] theorem ptr_177 : Try.prog.ptrT 177 = some none := by kernel_rfl
@[simp] theorem ztup_177 : zeroTup Try.prog 177 = some (.tup [(true, [.d (.v (.string ⟨#[]⟩)), .d (.v (.pointer none)), .d (.v (.pointer none)), .d (.v (.pointer none))]), (false, [.d (.v (.bool false))])]) := by kernel_rfl
@[simp] theorem app_177 : Try.prog.appOk 177 = true := by kernel_rfl
@[simp] theorem lay_179 : Try.prog.lay 179 = some (1, false) := by kernel_rfl
@[simp] theorem cells_179 : Try.prog.cellsOf 179 = 1 := by kernel_rfl
@[simp] theorem info_179 : (Try.prog.info? 179).isSome = true := by kernel_rfl
@[simp] theorem bytes_179 : Try.prog.bytesOf 179 = 24 := by kernel_rfl
@[simp] theorem ctys_179 : ctys Try.prog 179 = [some 204] := by kernel_rfl
@[simp] theorem conc_179 : Try.prog.concrete 179 = true := by kernel_rfl
@[simp] theorem zero_179 : zeroCs Try.prog 179 = some [.d (.v (.slice none 0 0))] := by kernel_rfl
@[simp] theorem ifc_179 : isIfcT Try.prog 179 = some false := by kernel_rfl
@[simp] theorem map_179 : Try.prog.isMap 179 = false := by kernel_rfl
@[simp] theorem ptr_179 : Try.prog.ptrT 179 = some none := by kernel_rfl
@[simp] theorem ztup_179 : zeroTup Try.prog 179 = some (.tup [(false, [.d (.v (.slice none 0 0))]), (false, [.d (.v (.bool false))])]) := by kernel_rfl
@[simp] theorem app_179 : Try.prog.appOk 179 = true := by kernel_rfl
@[simp] theorem elem_179 : Try.prog.elemT 179 = some 204 := by kernel_rfl
@[simp] theorem und_179 : Try.prog.underlying 179 = some (.slice 204) := by kernel_rfl
@[simp] theorem lay_180 : Try.prog.lay 180 = some (1, false) := by kernel_rfl
@[simp] theorem cells_180 : Try.prog.cellsOf 180 = 1 := by kernel_rfl
@[simp] theorem info_180 : (Try.prog.info? 180).isSome = true := by kernel_rfl
@[simp] theorem bytes_180 : Try.prog.bytesOf 180 = 24 := by kernel_rfl
@[simp] theorem ctys_180 : ctys Try.prog 180 = [some 204] := by kernel_rfl
@[simp] theorem conc_180 : Try.prog.concrete 180 = true := by kernel_rfl
@[simp] theorem zero_180 : zeroCs Try.prog 180 = some [.d (.v (.slice none 0 0))] := by kernel_rfl
@[simp] theorem ifc_180 : isIfcT Try.prog 180 = some false := by kernel_rfl
@[simp] theorem map_180 : Try.prog.isMap 180 = false := by kernel_rfl
@[simp] theorem ptr_180 : Try.prog.ptrT 180 = some none := by kernel_rfl
@[simp] theorem ztup_180 : zeroTup Try.prog 180 = some (.tup [(false, [.d (.v (.slice none 0 0))]), (false, [.d (.v (.bool false))])]) := by kernel_rfl
@[simp] theorem app_180 : Try.prog.appOk 180 = true := by kernel_rfl
@[simp] theorem elem_180 : Try.prog.elemT 180 = some 204 := by kernel_rfl
@[simp] theorem und_180 : Try.prog.underlying 180 = some (.slice 204) := by kernel_rfl
@[simp] theorem lay_186 : Try.prog.lay 186 = some (1, false) := by kernel_rfl
@[simp] theorem cells_186 : Try.prog.cellsOf 186 = 1 := by kernel_rfl
@[simp] theorem info_186 : (Try.prog.info? 186).isSome = true := by kernel_rfl
@[simp] theorem bytes_186 : Try.prog.bytesOf 186 = 8 := by kernel_rfl
@[simp] theorem ctys_186 : ctys Try.prog 186 = [none] := by kernel_rfl
@[simp] theorem conc_186 : Try.prog.concrete 186 = true := by kernel_rfl
@[simp] theorem zero_186 : zeroCs Try.prog 186 = some [.d (.v (.pointer none))] := by kernel_rfl
@[simp] theorem ifc_186 : isIfcT Try.prog 186 = some false := by kernel_rfl
@[simp] theorem map_186 : Try.prog.isMap 186 = false := by kernel_rfl
@[simp] theorem ptr_186 : Try.prog.ptrT 186 = some (some 109) := by kernel_rfl
@[simp] theorem ztup_186 : zeroTup Try.prog 186 = some (.tup [(false, [.d (.v (.pointer none))]), (false, [.d (.v (.bool false))])]) := by kernel_rfl
@[simp] theorem app_186 : Try.prog.appOk 186 = true := by kernel_rfl
@[simp] theorem und_186 : Try.prog.underlying 186 = some (.pointer 109) := by kernel_rfl
@[simp] theorem lay_190 : Try.prog.lay 190 = some (1, false) := by kernel_rfl
@[simp] theorem cells_190 : Try.prog.cellsOf 190 = 1 := by kernel_rfl
@[simp] theorem info_190 : (Try.prog.info? 190).isSome = true := by kernel_rfl
@[simp] theorem bytes_190 : Try.prog.bytesOf 190 = 8 := by kernel_rfl
@[simp] theorem ctys_190 : ctys Try.prog 190 = [none] := by kernel_rfl
@[simp] theorem conc_190 : Try.prog.concrete 190 = true := by kernel_rfl
@[simp] theorem zero_190 : zeroCs Try.prog 190 = some [.d (.v (.pointer none))] := by kernel_rfl
@[simp] theorem ifc_190 : isIfcT Try.prog 190 = some false := by kernel_rfl
@[simp] theorem map_190 : Try.prog.isMap 190 = false := by kernel_rfl
@[simp] theorem ptr_190 : Try.prog.ptrT 190 = some (some 192) := by kernel_rfl
@[simp] theorem ztup_190 : zeroTup Try.prog 190 = some (.tup [(false, [.d (.v (.pointer none))]), (false, [.d (.v (.bool false))])]) := by kernel_rfl
@[simp] theorem app_190 : Try.prog.appOk 190 = true := by kernel_rfl
@[simp] theorem und_190 : Try.prog.underlying 190 = some (.pointer 192) := by kernel_rfl
@[simp] theorem lay_191 : Try.prog.lay 191 = some (0, true) := by kernel_rfl
@[simp] theorem cells_191 : Try.prog.cellsOf 191 = 0 := by kernel_rfl
@[simp] theorem info_191 : (Try.prog.info? 191).isSome = true := by kernel_rfl
@[simp] theorem bytes_191 : Try.prog.bytesOf 191 = 0 := by kernel_rfl
@[simp] theorem ctys_191 : ctys Try.prog 191 = [] := by kernel_rfl
@[simp] theorem conc_191 : Try.prog.concrete 191 = true := by kernel_rfl
@[simp] theorem zero_191 : zeroCs Try.prog 191 = some [] := by kernel_rfl
@[simp] theorem str_191 : Try.prog.strOk 191 = true := by kernel_rfl
@[simp] theorem ifc_191 : isIfcT Try.prog 191 = some false := by kernel_rfl
@[simp] theorem map_191 : Try.prog.isMap 191 = false := by kernel_rfl
@[simp] theorem ptr_191 : Try.prog.ptrT 191 = some none := by kernel_rfl
@[simp] theorem ztup_191 : zeroTup Try.prog 191 = some (.tup [(true, []), (false, [.d (.v (.bool false))])]) := by kernel_rfl
@[simp] theorem lay_192 : Try.prog.lay 192 = some (0, true) := by kernel_rfl
@[simp] theorem cells_192 : Try.prog.cellsOf 192 = 0 := by kernel_rfl
@[simp] theorem info_192 : (Try.prog.info? 192).isSome = true := by kernel_rfl
@[simp] theorem bytes_192 : Try.prog.bytesOf 192 = 0 := by kernel_rfl
@[simp] theorem ctys_192 : ctys Try.prog 192 = [] := by kernel_rfl
@[simp] theorem conc_192 : Try.prog.concrete 192 = true := by kernel_rfl
@[simp] theorem zero_192 : zeroCs Try.prog 192 = some [] := by kernel_rfl
@[simp] theorem str_192 : Try.prog.strOk 192 = true := by kernel_rfl
@[simp] theorem ifc_192 : isIfcT Try.prog 192 = some false := by kernel_rfl
@[simp] theorem map_192 : Try.prog.isMap 192 = false := by kernel_rfl
@[simp] theorem ptr_192 : Try.prog.ptrT 192 = some none := by kernel_rfl
@[simp] theorem ztup_192 : zeroTup Try.prog 192 = some (.tup [(true, []), (false, [.d (.v (.bool false))])]) := by kernel_rfl
@[simp] theorem lay_193 : Try.prog.lay 193 = some (1, false) := by kernel_rfl
@[simp] theorem cells_193 : Try.prog.cellsOf 193 = 1 := by kernel_rfl
@[simp] theorem info_193 : (Try.prog.info? 193).isSome = true := by kernel_rfl
@[simp] theorem bytes_193 : Try.prog.bytesOf 193 = 8 := by kernel_rfl
@[simp] theorem ctys_193 : ctys Try.prog 193 = [none] := by kernel_rfl
@[simp] theorem conc_193 : Try.prog.concrete 193 = true := by kernel_rfl
@[simp] theorem zero_193 : zeroCs Try.prog 193 = some [.d (.v (.pointer none))] := by kernel_rfl
@[simp] theorem ifc_193 : isIfcT Try.prog 193 = some false := by kernel_rfl
@[simp] theorem map_193 : Try.prog.isMap 193 = false := by kernel_rfl
@[simp] theorem ptr_193 : Try.prog.ptrT 193 = some (some 216) := by kernel_rfl
@[simp] theorem ztup_193 : zeroTup Try.prog 193 = some (.tup [(false, [.d (.v (.pointer none))]), (false, [.d (.v (.bool false))])]) := by kernel_rfl
@[simp] theorem app_193 : Try.prog.appOk 193 = true := by kernel_rfl
@[simp] theorem und_193 : Try.prog.underlying 193 = some (.pointer 216) := by kernel_rfl
@[simp] theorem lay_198 : Try.prog.lay 198 = some (1, false) := by kernel_rfl
@[simp] theorem cells_198 : Try.prog.cellsOf 198 = 1 := by kernel_rfl
@[simp] theorem info_198 : (Try.prog.info? 198).isSome = true := by kernel_rfl
@[simp] theorem bytes_198 : Try.prog.bytesOf 198 = 16 := by kernel_rfl
@[simp] theorem ctys_198 : ctys Try.prog 198 = [none] := by kernel_rfl
@[simp] theorem conc_198 : Try.prog.concrete 198 = true := by kernel_rfl
@[simp] theorem zero_198 : zeroCs Try.prog 198 = some [.d (.v (.string ⟨#[]⟩))] := by kernel_rfl
@[simp] theorem ifc_198 : isIfcT Try.prog 198 = some false := by kernel_rfl
@[simp] theorem map_198 : Try.prog.isMap 198 = false := by kernel_rfl
@[simp] theorem ptr_198 : Try.prog.ptrT 198 = some none := by kernel_rfl
@[simp] theorem ztup_198 : zeroTup Try.prog 198 = some (.tup [(false, [.d (.v (.string ⟨#[]⟩))]), (false, [.d (.v (.bool false))])]) := by kernel_rfl
@[simp] theorem app_198 : Try.prog.appOk 198 = true := by kernel_rfl
@[simp] theorem und_198 : Try.prog.underlying 198 = some .string := by kernel_rfl
@[simp] theorem lay_199 : Try.prog.lay 199 = some (8, true) := by kernel_rfl
@[simp] theorem cells_199 : Try.prog.cellsOf 199 = 8 := by kernel_rfl
@[simp] theorem info_199 : (Try.prog.info? 199).isSome = true := by kernel_rfl
@[simp] theorem bytes_199 : Try.prog.bytesOf 199 = 88 := by kernel_rfl
@[simp] theorem ctys_199 : ctys Try.prog 199 = [none, none, none, none, none, none, none, some 9] := by kernel_rfl
@[simp] theorem conc_199 : Try.prog.concrete 199 = true := by kernel_rfl
@[simp] theorem zero_199 : zeroCs Try.prog 199 = some [.d (.v (.pointer none)), .d (.v (.pointer none)), .d (.v (.pointer none)), .d (.v (.pointer none)), .d (.v (.pointer none)), .d (.v (.bool false)), .d (.v (.string ⟨#[]⟩)), .d (.v (.slice none 0 0))] := by kernel_rfl
@[simp] theorem fld_199_0 : Try.prog.fld 199 0 = some (0, 6, true) := by kernel_rfl
@[simp] theorem fld_199_1 : Try.prog.fld 199 1 = some (6, 1, false) := by kernel_rfl
@[simp] theorem fld_199_2 : Try.prog.fld 199 2 = some (7, 1, false) := by kernel_rfl
@[simp] theorem str_199 : Try.prog.strOk 199 = true := by kernel_rfl
@[simp] theorem ifc_199 : isIfcT Try.prog 199 = some false := by kernel_rfl
@[simp] theorem map_199 : Try.prog.isMap 199 = false := by kernel_rfl
@[simp] theorem ptr_199 : Try.prog.ptrT 199 = some none := by kernel_rfl
@[simp] theorem ztup_199 : zeroTup Try.prog 199 = some (.tup [(true, [.d (.v (.pointer none)), .d (.v (.pointer none)), .d (.v (.pointer none)), .d (.v (.pointer none)), .d (.v (.pointer none)), .d (.v (.bool false)), .d (.v (.string ⟨#[]⟩)), .d (.v (.slice none 0 0))]), (false, [.d (.v (.bool false))])]) := by kernel_rfl
@[simp] theorem app_199 : Try.prog.appOk 199 = true := by kernel_rfl
@[simp] theorem lay_200 : Try.prog.lay 200 = some (8, true) := by kernel_rfl
@[simp] theorem cells_200 : Try.prog.cellsOf 200 = 8 := by kernel_rfl
@[simp] theorem info_200 : (Try.prog.info? 200).isSome = true := by kernel_rfl
@[simp] theorem bytes_200 : Try.prog.bytesOf 200 = 88 := by kernel_rfl
@[simp] theorem ctys_200 : ctys Try.prog 200 = [none, none, none, none, none, none, none, some 9] := by kernel_rfl
@[simp] theorem conc_200 : Try.prog.concrete 200 = true := by kernel_rfl
@[simp] theorem zero_200 : zeroCs Try.prog 200 = some [.d (.v (.pointer none)), .d (.v (.pointer none)), .d (.v (.pointer none)), .d (.v (.pointer none)), .d (.v (.pointer none)), .d (.v (.bool false)), .d (.v (.string ⟨#[]⟩)), .d (.v (.slice none 0 0))] := by kernel_rfl
@[simp] theorem fld_200_0 : Try.prog.fld 200 0 = some (0, 6, true) := by kernel_rfl
@[simp] theorem fld_200_1 : Try.prog.fld 200 1 = some (6, 1, false) := by kernel_rfl
@[simp] theorem fld_200_2 : Try.prog.fld 200 2 = some (7, 1, false) := by kernel_rfl
@[simp] theorem str_200 : Try.prog.strOk 200 = true := by kernel_rfl
@[simp] theorem ifc_200 : isIfcT Try.prog 200 = some false := by kernel_rfl
@[simp] theorem map_200 : Try.prog.isMap 200 = false := by kernel_rfl
@[simp] theorem ptr_200 : Try.prog.ptrT 200 = some none := by kernel_rfl
@[simp] theorem ztup_200 : zeroTup Try.prog 200 = some (.tup [(true, [.d (.v (.pointer none)), .d (.v (.pointer none)), .d (.v (.pointer none)), .d (.v (.pointer none)), .d (.v (.pointer none)), .d (.v (.bool false)), .d (.v (.string ⟨#[]⟩)), .d (.v (.slice none 0 0))]), (false, [.d (.v (.bool false))])]) := by kernel_rfl
@[simp] theorem app_200 : Try.prog.appOk 200 = true := by kernel_rfl
@[simp] theorem lay_203 : Try.prog.lay 203 = some (2, true) := by kernel_rfl
@[simp] theorem cells_203 : Try.prog.cellsOf 203 = 2 := by kernel_rfl
@[simp] theorem info_203 : (Try.prog.info? 203).isSome = true := by kernel_rfl
@[simp] theorem bytes_203 : Try.prog.bytesOf 203 = 32 := by kernel_rfl
@[simp] theorem ctys_203 : ctys Try.prog 203 = [none, none] := by kernel_rfl
@[simp] theorem conc_203 : Try.prog.concrete 203 = true := by kernel_rfl
@[simp] theorem zero_203 : zeroCs Try.prog 203 = some [.d (.v (.string ⟨#[]⟩)), .d (.v (.nilIface))] := by kernel_rfl
@[simp] theorem fld_203_0 : Try.prog.fld 203 0 = some (0, 1, false) := by kernel_rfl
@[simp] theorem fld_203_1 : Try.prog.fld 203 1 = some (1, 1, false) := by kernel_rfl
@[simp] theorem str_203 : Try.prog.strOk 203 = true := by kernel_rfl
@[simp] theorem ifc_203 : isIfcT Try.prog 203 = some false := by kernel_rfl
@[simp] theorem map_203 : Try.prog.isMap 203 = false := by kernel_rfl
@[simp] theorem ptr_203 : Try.prog.ptrT 203 = some none := by kernel_rfl
@[simp] theorem ztup_203 : zeroTup Try.prog 203 = some (.tup [(true, [.d (.v (.string ⟨#[]⟩)), .d (.v (.nilIface))]), (false, [.d (.v (.bool false))])]) := by kernel_rfl
@[simp] theorem app_203 : Try.prog.appOk 203 = true := by kernel_rfl
@[simp] theorem lay_204 : Try.prog.lay 204 = some (2, true) := by kernel_rfl
@[simp] theorem cells_204 : Try.prog.cellsOf 204 = 2 := by kernel_rfl
@[simp] theorem info_204 : (Try.prog.info? 204).isSome = true := by kernel_rfl
@[simp] theorem bytes_204 : Try.prog.bytesOf 204 = 32 := by kernel_rfl
@[simp] theorem ctys_204 : ctys Try.prog 204 = [none, none] := by kernel_rfl
@[simp] theorem conc_204 : Try.prog.concrete 204 = true := by kernel_rfl
@[simp] theorem zero_204 : zeroCs Try.prog 204 = some [.d (.v (.string ⟨#[]⟩)), .d (.v (.nilIface))] := by kernel_rfl
@[simp] theorem fld_204_0 : Try.prog.fld 204 0 = some (0, 1, false) := by kernel_rfl
@[simp] theorem fld_204_1 : Try.prog.fld 204 1 = some (1, 1, false) := by kernel_rfl
@[simp] theorem str_204 : Try.prog.strOk 204 = true := by kernel_rfl
@[simp] theorem ifc_204 : isIfcT Try.prog 204 = some false := by kernel_rfl
@[simp] theorem map_204 : Try.prog.isMap 204 = false := by kernel_rfl
@[simp] theorem ptr_204 : Try.prog.ptrT 204 = some none := by kernel_rfl
@[simp] theorem ztup_204 : zeroTup Try.prog 204 = some (.tup [(true, [.d (.v (.string ⟨#[]⟩)), .d (.v (.nilIface))]), (false, [.d (.v (.bool false))])]) := by kernel_rfl
@[simp] theorem app_204 : Try.prog.appOk 204 = true := by kernel_rfl
@[simp] theorem lay_205 : Try.prog.lay 205 = some (1, false) := by kernel_rfl
@[simp] theorem cells_205 : Try.prog.cellsOf 205 = 1 := by kernel_rfl
@[simp] theorem info_205 : (Try.prog.info? 205).isSome = true := by kernel_rfl
@[simp] theorem bytes_205 : Try.prog.bytesOf 205 = 8 := by kernel_rfl
@[simp] theorem ctys_205 : ctys Try.prog 205 = [none] := by kernel_rfl
@[simp] theorem conc_205 : Try.prog.concrete 205 = true := by kernel_rfl
@[simp] theorem zero_205 : zeroCs Try.prog 205 = some [.d (.v (.pointer none))] := by kernel_rfl
@[simp] theorem ifc_205 : isIfcT Try.prog 205 = some false := by kernel_rfl
@[simp] theorem map_205 : Try.prog.isMap 205 = false := by kernel_rfl
@[simp] theorem ptr_205 : Try.prog.ptrT 205 = some (some 207) := by kernel_rfl
@[simp] theorem ztup_205 : zeroTup Try.prog 205 = some (.tup [(false, [.d (.v (.pointer none))]), (false, [.d (.v (.bool false))])]) := by kernel_rfl
@[simp] theorem app_205 : Try.prog.appOk 205 = true := by kernel_rfl
@[simp] theorem und_205 : Try.prog.underlying 205 = some (.pointer 207) := by kernel_rfl
@[simp] theorem lay_206 : Try.prog.lay 206 = some (1, true) := by kernel_rfl
@[simp] theorem cells_206 : Try.prog.cellsOf 206 = 1 := by kernel_rfl
@[simp] theorem info_206 : (Try.prog.info? 206).isSome = true := by kernel_rfl
@[simp] theorem bytes_206 : Try.prog.bytesOf 206 = 16 := by kernel_rfl
@[simp] theorem ctys_206 : ctys Try.prog 206 = [none] := by kernel_rfl
@[simp] theorem conc_206 : Try.prog.concrete 206 = true := by kernel_rfl
@[simp] theorem zero_206 : zeroCs Try.prog 206 = some [.d (.v (.string ⟨#[]⟩))] := by kernel_rfl
@[simp] theorem fld_206_0 : Try.prog.fld 206 0 = some (0, 1, false) := by kernel_rfl
@[simp] theorem str_206 : Try.prog.strOk 206 = true := by kernel_rfl
@[simp] theorem ifc_206 : isIfcT Try.prog 206 = some false := by kernel_rfl
@[simp] theorem map_206 : Try.prog.isMap 206 = false := by kernel_rfl
@[simp] theorem ptr_206 : Try.prog.ptrT 206 = some none := by kernel_rfl
@[simp] theorem ztup_206 : zeroTup Try.prog 206 = some (.tup [(true, [.d (.v (.string ⟨#[]⟩))]), (false, [.d (.v (.bool false))])]) := by kernel_rfl
@[simp] theorem app_206 : Try.prog.appOk 206 = true := by kernel_rfl
@[simp] theorem lay_207 : Try.prog.lay 207 = some (1, true) := by kernel_rfl
@[simp] theorem cells_207 : Try.prog.cellsOf 207 = 1 := by kernel_rfl
@[simp] theorem info_207 : (Try.prog.info? 207).isSome = true := by kernel_rfl
@[simp] theorem bytes_207 : Try.prog.bytesOf 207 = 16 := by kernel_rfl
@[simp] theorem ctys_207 : ctys Try.prog 207 = [none] := by kernel_rfl
@[simp] theorem conc_207 : Try.prog.concrete 207 = true := by kernel_rfl
@[simp] theorem zero_207 : zeroCs Try.prog 207 = some [.d (.v (.string ⟨#[]⟩))] := by kernel_rfl
@[simp] theorem fld_207_0 : Try.prog.fld 207 0 = some (0, 1, false) := by kernel_rfl
@[simp] theorem str_207 : Try.prog.strOk 207 = true := by kernel_rfl
@[simp] theorem ifc_207 : isIfcT Try.prog 207 = some false := by kernel_rfl
@[simp] theorem map_207 : Try.prog.isMap 207 = false := by kernel_rfl
@[simp] theorem ptr_207 : Try.prog.ptrT 207 = some none := by kernel_rfl
@[simp] theorem ztup_207 : zeroTup Try.prog 207 = some (.tup [(true, [.d (.v (.string ⟨#[]⟩))]), (false, [.d (.v (.bool false))])]) := by kernel_rfl
@[simp] theorem app_207 : Try.prog.appOk 207 = true := by kernel_rfl
@[simp] theorem lay_212 : Try.prog.lay 212 = some (1, false) := by kernel_rfl
@[simp] theorem cells_212 : Try.prog.cellsOf 212 = 1 := by kernel_rfl
@[simp] theorem info_212 : (Try.prog.info? 212).isSome = true := by kernel_rfl
@[simp] theorem bytes_212 : Try.prog.bytesOf 212 = 16 := by kernel_rfl
@[simp] theorem ctys_212 : ctys Try.prog 212 = [none] := by kernel_rfl
@[simp] theorem zero_212 : zeroCs Try.prog 212 = some [.d (.v (.nilIface))] := by kernel_rfl
@[simp] theorem ifc_212 : isIfcT Try.prog 212 = some true := by kernel_rfl
@[simp] theorem map_212 : Try.prog.isMap 212 = false := by kernel_rfl
@[simp] theorem app_212 : Try.prog.appOk 212 = true := by kernel_rfl
@[simp] theorem lay_213 : Try.prog.lay 213 = some (1, false) := by kernel_rfl
@[simp] theorem cells_213 : Try.prog.cellsOf 213 = 1 := by kernel_rfl
@[simp] theorem info_213 : (Try.prog.info? 213).isSome = true := by kernel_rfl
@[simp] theorem bytes_213 : Try.prog.bytesOf 213 = 16 := by kernel_rfl
@[simp] theorem ctys_213 : ctys Try.prog 213 = [none] := by kernel_rfl
@[simp] theorem zero_213 : zeroCs Try.prog 213 = some [.d (.v (.nilIface))] := by kernel_rfl
@[simp] theorem ifc_213 : isIfcT Try.prog 213 = some true := by kernel_rfl
@[simp] theorem map_213 : Try.prog.isMap 213 = false := by kernel_rfl
@[simp] theorem app_213 : Try.prog.appOk 213 = true := by kernel_rfl
@[simp] theorem lay_215 : Try.prog.lay 215 = some (1, true) := by kernel_rfl
@[simp] theorem cells_215 : Try.prog.cellsOf 215 = 1 := by kernel_rfl
@[simp] theorem info_215 : (Try.prog.info? 215).isSome = true := by kernel_rfl
@[simp] theorem bytes_215 : Try.prog.bytesOf 215 = 16 := by kernel_rfl
@[simp] theorem ctys_215 : ctys Try.prog 215 = [none] := by kernel_rfl
@[simp] theorem conc_215 : Try.prog.concrete 215 = true := by kernel_rfl
@[simp] theorem zero_215 : zeroCs Try.prog 215 = some [.d (.v (.nilIface))] := by kernel_rfl
@[simp] theorem fld_215_0 : Try.prog.fld 215 0 = some (0, 1, false) := by kernel_rfl
@[simp] theorem str_215 : Try.prog.strOk 215 = true := by kernel_rfl
@[simp] theorem ifc_215 : isIfcT Try.prog 215 = some false := by kernel_rfl
@[simp] theorem map_215 : Try.prog.isMap 215 = false := by kernel_rfl
@[simp] theorem ptr_215 : Try.prog.ptrT 215 = some none := by kernel_rfl
@[simp] theorem ztup_215 : zeroTup Try.prog 215 = some (.tup [(true, [.d (.v (.nilIface))]), (false, [.d (.v (.bool false))])]) := by kernel_rfl
@[simp] theorem app_215 : Try.prog.appOk 215 = true := by kernel_rfl
@[simp] theorem lay_216 : Try.prog.lay 216 = some (1, true) := by kernel_rfl
@[simp] theorem cells_216 : Try.prog.cellsOf 216 = 1 := by kernel_rfl
@[simp] theorem info_216 : (Try.prog.info? 216).isSome = true := by kernel_rfl
@[simp] theorem bytes_216 : Try.prog.bytesOf 216 = 16 := by kernel_rfl
@[simp] theorem ctys_216 : ctys Try.prog 216 = [none] := by kernel_rfl
@[simp] theorem conc_216 : Try.prog.concrete 216 = true := by kernel_rfl
@[simp] theorem zero_216 : zeroCs Try.prog 216 = some [.d (.v (.nilIface))] := by kernel_rfl
@[simp] theorem fld_216_0 : Try.prog.fld 216 0 = some (0, 1, false) := by kernel_rfl
@[simp] theorem str_216 : Try.prog.strOk 216 = true := by kernel_rfl
@[simp] theorem ifc_216 : isIfcT Try.prog 216 = some false := by kernel_rfl
@[simp] theorem map_216 : Try.prog.isMap 216 = false := by kernel_rfl
@[simp] theorem ptr_216 : Try.prog.ptrT 216 = some none := by kernel_rfl
@[simp] theorem ztup_216 : zeroTup Try.prog 216 = some (.tup [(true, [.d (.v (.nilIface))]), (false, [.d (.v (.bool false))])]) := by kernel_rfl
@[simp] theorem app_216 : Try.prog.appOk 216 = true := by kernel_rfl
@[simp] theorem lay_222 : Try.prog.lay 222 = some (1, false) := by kernel_rfl
@[simp] theorem cells_222 : Try.prog.cellsOf 222 = 1 := by kernel_rfl
@[simp] theorem info_222 : (Try.prog.info? 222).isSome = true := by kernel_rfl
@[simp] theorem bytes_222 : Try.prog.bytesOf 222 = 16 := by kernel_rfl
@[simp] theorem ctys_222 : ctys Try.prog 222 = [none] := by kernel_rfl
@[simp] theorem zero_222 : zeroCs Try.prog 222 = some [.d (.v (.nilIface))] := by kernel_rfl
@[simp] theorem ifc_222 : isIfcT Try.prog 222 = some true := by kernel_rfl
@[simp] theorem map_222 : Try.prog.isMap 222 = false := by kernel_rfl
@[simp] theorem app_222 : Try.prog.appOk 222 = true := by kernel_rfl
@[simp] theorem lay_223 : Try.prog.lay 223 = some (1, false) := by kernel_rfl
@[simp] theorem cells_223 : Try.prog.cellsOf 223 = 1 := by kernel_rfl
@[simp] theorem info_223 : (Try.prog.info? 223).isSome = true := by kernel_rfl
@[simp] theorem bytes_223 : Try.prog.bytesOf 223 = 16 := by kernel_rfl
@[simp] theorem ctys_223 : ctys Try.prog 223 = [none] := by kernel_rfl
@[simp] theorem zero_223 : zeroCs Try.prog 223 = some [.d (.v (.nilIface))] := by kernel_rfl
@[simp] theorem ifc_223 : isIfcT Try.prog 223 = some true := by kernel_rfl
@[simp] theorem map_223 : Try.prog.isMap 223 = false := by kernel_rfl
@[simp] theorem app_223 : Try.prog.appOk 223 = true := by kernel_rfl
@[simp] theorem lay_232 : Try.prog.lay 232 = some (1, false) := by kernel_rfl
@[simp] theorem cells_232 : Try.prog.cellsOf 232 = 1 := by kernel_rfl
@[simp] theorem info_232 : (Try.prog.info? 232).isSome = true := by kernel_rfl
@[simp] theorem bytes_232 : Try.prog.bytesOf 232 = 8 := by kernel_rfl
@[simp] theorem ctys_232 : ctys Try.prog 232 = [none] := by kernel_rfl
@[simp] theorem conc_232 : Try.prog.concrete 232 = true := by kernel_rfl
@[simp] theorem zero_232 : zeroCs Try.prog 232 = some [.d (.v (.pointer none))] := by kernel_rfl
@[simp] theorem ifc_232 : isIfcT Try.prog 232 = some false := by kernel_rfl
@[simp] theorem map_232 : Try.prog.isMap 232 = false := by kernel_rfl
@[simp] theorem ptr_232 : Try.prog.ptrT 232 = some (some 118) := by kernel_rfl
@[simp] theorem ztup_232 : zeroTup Try.prog 232 = some (.tup [(false, [.d (.v (.pointer none))]), (false, [.d (.v (.bool false))])]) := by kernel_rfl
@[simp] theorem app_232 : Try.prog.appOk 232 = true := by kernel_rfl
@[simp] theorem und_232 : Try.prog.underlying 232 = some (.pointer 118) := by kernel_rfl
@[simp] theorem lay_233 : Try.prog.lay 233 = some (1, false) := by kernel_rfl
@[simp] theorem cells_233 : Try.prog.cellsOf 233 = 1 := by kernel_rfl
@[simp] theorem info_233 : (Try.prog.info? 233).isSome = true := by kernel_rfl
@[simp] theorem bytes_233 : Try.prog.bytesOf 233 = 24 := by kernel_rfl
@[simp] theorem ctys_233 : ctys Try.prog 233 = [some 245] := by kernel_rfl
@[simp] theorem conc_233 : Try.prog.concrete 233 = true := by kernel_rfl
@[simp] theorem zero_233 : zeroCs Try.prog 233 = some [.d (.v (.slice none 0 0))] := by kernel_rfl
@[simp] theorem ifc_233 : isIfcT Try.prog 233 = some false := by kernel_rfl
@[simp] theorem map_233 : Try.prog.isMap 233 = false := by kernel_rfl
@[simp] theorem ptr_233 : Try.prog.ptrT 233 = some none := by kernel_rfl
@[simp] theorem ztup_233 : zeroTup Try.prog 233 = some (.tup [(false, [.d (.v (.slice none 0 0))]), (false, [.d (.v (.bool false))])]) := by kernel_rfl
@[simp] theorem app_233 : Try.prog.appOk 233 = true := by kernel_rfl
@[simp] theorem elem_233 : Try.prog.elemT 233 = some 245 := by kernel_rfl
@[simp] theorem und_233 : Try.prog.underlying 233 = some (.slice 245) := by kernel_rfl
@[simp] theorem lay_234 : Try.prog.lay 234 = some (3, true) := by kernel_rfl
@[simp] theorem cells_234 : Try.prog.cellsOf 234 = 3 := by kernel_rfl
@[simp] theorem info_234 : (Try.prog.info? 234).isSome = true := by kernel_rfl
@[simp] theorem bytes_234 : Try.prog.bytesOf 234 = 40 := by kernel_rfl
@[simp] theorem ctys_234 : ctys Try.prog 234 = [none, none, some 245] := by kernel_rfl
@[simp] theorem conc_234 : Try.prog.concrete 234 = true := by kernel_rfl
@[simp] theorem zero_234 : zeroCs Try.prog 234 = some [.d (.v (.pointer none)), .d (.v (.bool false)), .d (.v (.slice none 0 0))] := by kernel_rfl
@[simp] theorem fld_234_0 : Try.prog.fld 234 0 = some (0, 1, false) := by kernel_rfl
@[simp] theorem fld_234_1 : Try.prog.fld 234 1 = some (1, 1, false) := by kernel_rfl
@[simp] theorem fld_234_2 : Try.prog.fld 234 2 = some (2, 1, false) := by kernel_rfl
@[simp] theorem str_234 : Try.prog.strOk 234 = true := by kernel_rfl
@[simp] theorem ifc_234 : isIfcT Try.prog 234 = some false := by kernel_rfl
@[simp] theorem map_234 : Try.prog.isMap 234 = false := by kernel_rfl
@[simp] theorem ptr_234 : Try.prog.ptrT 234 = some none := by kernel_rfl
@[simp] theorem ztup_234 : zeroTup Try.prog 234 = some (.tup [(true, [.d (.v (.pointer none)), .d (.v (.bool false)), .d (.v (.slice none 0 0))]), (false, [.d (.v (.bool false))])]) := by kernel_rfl
@[simp] theorem app_234 : Try.prog.appOk 234 = true := by kernel_rfl
@[simp] theorem lay_235 : Try.prog.lay 235 = some (3, true) := by kernel_rfl
@[simp] theorem cells_235 : Try.prog.cellsOf 235 = 3 := by kernel_rfl
@[simp] theorem info_235 : (Try.prog.info? 235).isSome = true := by kernel_rfl
@[simp] theorem bytes_235 : Try.prog.bytesOf 235 = 40 := by kernel_rfl
@[simp] theorem ctys_235 : ctys Try.prog 235 = [none, none, some 245] := by kernel_rfl
@[simp] theorem conc_235 : Try.prog.concrete 235 = true := by kernel_rfl
@[simp] theorem zero_235 : zeroCs Try.prog 235 = some [.d (.v (.pointer none)), .d (.v (.bool false)), .d (.v (.slice none 0 0))] := by kernel_rfl
@[simp] theorem fld_235_0 : Try.prog.fld 235 0 = some (0, 1, false) := by kernel_rfl
@[simp] theorem fld_235_1 : Try.prog.fld 235 1 = some (1, 1, false) := by kernel_rfl
@[simp] theorem fld_235_2 : Try.prog.fld 235 2 = some (2, 1, false) := by kernel_rfl
@[simp] theorem str_235 : Try.prog.strOk 235 = true := by kernel_rfl
@[simp] theorem ifc_235 : isIfcT Try.prog 235 = some false := by kernel_rfl
@[simp] theorem map_235 : Try.prog.isMap 235 = false := by kernel_rfl
@[simp] theorem ptr_235 : Try.prog.ptrT 235 = some none := by kernel_rfl
@[simp] theorem ztup_235 : zeroTup Try.prog 235 = some (.tup [(true, [.d (.v (.pointer none)), .d (.v (.bool false)), .d (.v (.slice none 0 0))]), (false, [.d (.v (.bool false))])]) := by kernel_rfl
@[simp] theorem app_235 : Try.prog.appOk 235 = true := by kernel_rfl
@[simp] theorem lay_237 : Try.prog.lay 237 = some (1, false) := by kernel_rfl
@[simp] theorem cells_237 : Try.prog.cellsOf 237 = 1 := by kernel_rfl
@[simp] theorem info_237 : (Try.prog.info? 237).isSome = true := by kernel_rfl
@[simp] theorem bytes_237 : Try.prog.bytesOf 237 = 8 := by kernel_rfl
@[simp] theorem ctys_237 : ctys Try.prog 237 = [none] := by kernel_rfl
@[simp] theorem conc_237 : Try.prog.concrete 237 = true := by kernel_rfl
@[simp] theorem zero_237 : zeroCs Try.prog 237 = some [.d (.v (.pointer none))] := by kernel_rfl
@[simp] theorem ifc_237 : isIfcT Try.prog 237 = some false := by kernel_rfl
@[simp] theorem map_237 : Try.prog.isMap 237 = false := by kernel_rfl
@[simp] theorem ptr_237 : Try.prog.ptrT 237 = some (some 235) := by kernel_rfl
@[simp] theorem ztup_237 : zeroTup Try.prog 237 = some (.tup [(false, [.d (.v (.pointer none))]), (false, [.d (.v (.bool false))])]) := by kernel_rfl
@[simp] theorem app_237 : Try.prog.appOk 237 = true := by kernel_rfl
@[simp] theorem und_237 : Try.prog.underlying 237 = some (.pointer 235) := by kernel_rfl
@[simp] theorem lay_238 : Try.prog.lay 238 = some (1, false) := by kernel_rfl
@[simp] theorem cells_238 : Try.prog.cellsOf 238 = 1 := by kernel_rfl
@[simp] theorem info_238 : (Try.prog.info? 238).isSome = true := by kernel_rfl
@[simp] theorem bytes_238 : Try.prog.bytesOf 238 = 16 := by kernel_rfl
@[simp] theorem ctys_238 : ctys Try.prog 238 = [none] := by kernel_rfl
@[simp] theorem zero_238 : zeroCs Try.prog 238 = some [.d (.v (.nilIface))] := by kernel_rfl
@[simp] theorem ifc_238 : isIfcT Try.prog 238 = some true := by kernel_rfl
@[simp] theorem map_238 : Try.prog.isMap 238 = false := by kernel_rfl
@[simp] theorem app_238 : Try.prog.appOk 238 = true := by kernel_rfl
@[simp] theorem lay_239 : Try.prog.lay 239 = some (1, false) := by kernel_rfl
@[simp] theorem cells_239 : Try.prog.cellsOf 239 = 1 := by kernel_rfl
@[simp] theorem info_239 : (Try.prog.info? 239).isSome = true := by kernel_rfl
@[simp] theorem bytes_239 : Try.prog.bytesOf 239 = 16 := by kernel_rfl
@[simp] theorem ctys_239 : ctys Try.prog 239 = [none] := by kernel_rfl
@[simp] theorem zero_239 : zeroCs Try.prog 239 = some [.d (.v (.nilIface))] := by kernel_rfl
@[simp] theorem ifc_239 : isIfcT Try.prog 239 = some true := by kernel_rfl
@[simp] theorem map_239 : Try.prog.isMap 239 = false := by kernel_rfl
@[simp] theorem app_239 : Try.prog.appOk 239 = true := by kernel_rfl
@[simp] theorem lay_244 : Try.prog.lay 244 = some (2, true) := by kernel_rfl
@[simp] theorem cells_244 : Try.prog.cellsOf 244 = 2 := by kernel_rfl
@[simp] theorem info_244 : (Try.prog.info? 244).isSome = true := by kernel_rfl
@[simp] theorem bytes_244 : Try.prog.bytesOf 244 = 32 := by kernel_rfl
@[simp] theorem ctys_244 : ctys Try.prog 244 = [none, none] := by kernel_rfl
@[simp] theorem conc_244 : Try.prog.concrete 244 = true := by kernel_rfl
@[simp] theorem zero_244 : zeroCs Try.prog 244 = some [.d (.v (.string ⟨#[]⟩)), .d (.v (.string ⟨#[]⟩))] := by kernel_rfl
@[simp] theorem fld_244_0 : Try.prog.fld 244 0 = some (0, 1, false) := by kernel_rfl
@[simp] theorem fld_244_1 : Try.prog.fld 244 1 = some (1, 1, false) := by kernel_rfl
@[simp] theorem str_244 : Try.prog.strOk 244 = true := by kernel_rfl
@[simp] theorem ifc_244 : isIfcT Try.prog 244 = some false := by kernel_rfl
@[simp] theorem map_244 : Try.prog.isMap 244 = false := by kernel_rfl
@[simp] theorem ptr_244 : Try.prog.ptrT 244 = some none := by kernel_rfl
@[simp] theorem ztup_244 : zeroTup Try.prog 244 = some (.tup [(true, [.d (.v (.string ⟨#[]⟩)), .d (.v (.string ⟨#[]⟩))]), (false, [.d (.v (.bool false))])]) := by kernel_rfl
@[simp] theorem app_244 : Try.prog.appOk 244 = true := by kernel_rfl
@[simp] theorem lay_245 : Try.prog.lay 245 = some (2, true) := by kernel_rfl
@[simp] theorem cells_245 : Try.prog.cellsOf 245 = 2 := by kernel_rfl
@[simp] theorem info_245 : (Try.prog.info? 245).isSome = true := by kernel_rfl
@[simp] theorem bytes_245 : Try.prog.bytesOf 245 = 32 := by kernel_rfl
@[simp] theorem ctys_245 : ctys Try.prog 245 = [none, none] := by kernel_rfl
@[simp] theorem conc_245 : Try.prog.concrete 245 = true := by kernel_rfl
@[simp] theorem zero_245 : zeroCs Try.prog 245 = some [.d (.v (.string ⟨#[]⟩)), .d (.v (.string ⟨#[]⟩))] := by kernel_rfl
@[simp] theorem fld_245_0 : Try.prog.fld 245 0 = some (0, 1, false) := by kernel_rfl
@[simp] theorem fld_245_1 : Try.prog.fld 245 1 = some (1, 1, false) := by kernel_rfl
@[simp] theorem str_245 : Try.prog.strOk 245 = true := by kernel_rfl
@[simp] theorem ifc_245 : isIfcT Try.prog 245 = some false := by kernel_rfl
@[simp] theorem map_245 : Try.prog.isMap 245 = false := by kernel_rfl
@[simp] theorem ptr_245 : Try.prog.ptrT 245 = some none := by kernel_rfl
@[simp] theorem ztup_245 : zeroTup Try.prog 245 = some (.tup [(true, [.d (.v (.string ⟨#[]⟩)), .d (.v (.string ⟨#[]⟩))]), (false, [.d (.v (.bool false))])]) := by kernel_rfl
@[simp] theorem app_245 : Try.prog.appOk 245 = true := by kernel_rfl
@[simp] theorem lay_247 : Try.prog.lay 247 = some (1, false) := by kernel_rfl
@[simp] theorem cells_247 : Try.prog.cellsOf 247 = 1 := by kernel_rfl
@[simp] theorem info_247 : (Try.prog.info? 247).isSome = true := by kernel_rfl
@[simp] theorem bytes_247 : Try.prog.bytesOf 247 = 8 := by kernel_rfl
@[simp] theorem ctys_247 : ctys Try.prog 247 = [none] := by kernel_rfl
@[simp] theorem conc_247 : Try.prog.concrete 247 = true := by kernel_rfl
@[simp] theorem zero_247 : zeroCs Try.prog 247 = some [.d (.v (.pointer none))] := by kernel_rfl
@[simp] theorem ifc_247 : isIfcT Try.prog 247 = some false := by kernel_rfl
@[simp] theorem map_247 : Try.prog.isMap 247 = false := by kernel_rfl
@[simp] theorem ptr_247 : Try.prog.ptrT 247 = some (some 245) := by kernel_rfl
@[simp] theorem ztup_247 : zeroTup Try.prog 247 = some (.tup [(false, [.d (.v (.pointer none))]), (false, [.d (.v (.bool false))])]) := by kernel_rfl
@[simp] theorem app_247 : Try.prog.appOk 247 = true := by kernel_rfl
@[simp] theorem und_247 : Try.prog.underlying 247 = some (.pointer 245) := by kernel_rfl
@[simp] theorem lay_255 : Try.prog.lay 255 = some (4, true) := by kernel_rfl
@[simp] theorem cells_255 : Try.prog.cellsOf 255 = 4 := by kernel_rfl
@[simp] theorem info_255 : (Try.prog.info? 255).isSome = true := by kernel_rfl
@[simp] theorem bytes_255 : Try.prog.bytesOf 255 = 40 := by kernel_rfl
@[simp] theorem ctys_255 : ctys Try.prog 255 = [none, none, none, none] := by kernel_rfl
@[simp] theorem conc_255 : Try.prog.concrete 255 = true := by kernel_rfl
@[simp] theorem zero_255 : zeroCs Try.prog 255 = some [.d (.v (.pointer none)), .d (.v (.pointer none)), .d (.v (.pointer none)), .d (.v (.string ⟨#[]⟩))] := by kernel_rfl
@[simp] theorem fld_255_0 : Try.prog.fld 255 0 = some (0, 1, false) := by kernel_rfl
@[simp] theorem fld_255_1 : Try.prog.fld 255 1 = some (1, 1, false) := by kernel_rfl
@[simp] theorem fld_255_2 : Try.prog.fld 255 2 = some (2, 1, false) := by kernel_rfl
@[simp] theorem fld_255_3 : Try.prog.fld 255 3 = some (3, 1, false) := by kernel_rfl
@[simp] theorem str_255 : Try.prog.strOk 255 = true := by kernel_rfl
@[simp] theorem ifc_255 : isIfcT Try.prog 255 = some false := by kernel_rfl
@[simp] theorem map_255 : Try.prog.isMap 255 = false := by kernel_rfl
@[simp] theorem ptr_255 : Try.prog.ptrT 255 = some none := by kernel_rfl
@[simp] theorem ztup_255 : zeroTup Try.prog 255 = some (.tup [(true, [.d (.v (.pointer none)), .d (.v (.pointer none)), .d (.v (.pointer none)), .d (.v (.string ⟨#[]⟩))]), (false, [.d (.v (.bool false))])]) := by kernel_rfl
@[simp] theorem app_255 : Try.prog.appOk 255 = true := by kernel_rfl
@[simp] theorem lay_256 : Try.prog.lay 256 = some (4, true) := by kernel_rfl
@[simp] theorem cells_256 : Try.prog.cellsOf 256 = 4 := by kernel_rfl
@[simp] theorem info_256 : (Try.prog.info? 256).isSome = true := by kernel_rfl
@[simp] theorem bytes_256 : Try.prog.bytesOf 256 = 40 := by kernel_rfl
@[simp] theorem ctys_256 : ctys Try.prog 256 = [none, none, none, none] := by kernel_rfl
@[simp] theorem conc_256 : Try.prog.concrete 256 = true := by kernel_rfl
@[simp] theorem zero_256 : zeroCs Try.prog 256 = some [.d (.v (.pointer none)), .d (.v (.pointer none)), .d (.v (.pointer none)), .d (.v (.string ⟨#[]⟩))] := by kernel_rfl
@[simp] theorem fld_256_0 : Try.prog.fld 256 0 = some (0, 1, false) := by kernel_rfl
@[simp] theorem fld_256_1 : Try.prog.fld 256 1 = some (1, 1, false) := by kernel_rfl
@[simp] theorem fld_256_2 : Try.prog.fld 256 2 = some (2, 1, false) := by kernel_rfl
@[simp] theorem fld_256_3 : Try.prog.fld 256 3 = some (3, 1, false) := by kernel_rfl
@[simp] theorem str_256 : Try.prog.strOk 256 = true := by kernel_rfl
@[simp] theorem ifc_256 : isIfcT Try.prog 256 = some false := by kernel_rfl
@[simp] theorem map_256 : Try.prog.isMap 256 = false := by kernel_rfl
@[simp] theorem ptr_256 : Try.prog.ptrT 256 = some none := by kernel_rfl
@[simp] theorem ztup_256 : zeroTup Try.prog 256 = some (.tup [(true, [.d (.v (.pointer none)), .d (.v (.pointer none)), .d (.v (.pointer none)), .d (.v (.string ⟨#[]⟩))]), (false, [.d (.v (.bool false))])]) := by kernel_rfl
@[simp] theorem app_256 : Try.prog.appOk 256 = true := by kernel_rfl
@[simp] theorem lay_258 : Try.prog.lay 258 = some (0, true) := by kernel_rfl
@[simp] theorem cells_258 : Try.prog.cellsOf 258 = 0 := by kernel_rfl
@[simp] theorem info_258 : (Try.prog.info? 258).isSome = true := by kernel_rfl
@[simp] theorem bytes_258 : Try.prog.bytesOf 258 = 0 := by kernel_rfl
@[simp] theorem ctys_258 : ctys Try.prog 258 = [] := by kernel_rfl
@[simp] theorem conc_258 : Try.prog.concrete 258 = true := by kernel_rfl
@[simp] theorem zero_258 : zeroCs Try.prog 258 = some [] := by kernel_rfl
@[simp] theorem ifc_258 : isIfcT Try.prog 258 = some false := by kernel_rfl
@[simp] theorem map_258 : Try.prog.isMap 258 = false := by kernel_rfl
@[simp] theorem ptr_258 : Try.prog.ptrT 258 = some none := by kernel_rfl
@[simp] theorem ztup_258 : zeroTup Try.prog 258 = some (.tup [(true, []), (false, [.d (.v (.bool false))])]) := by kernel_rfl
@[simp] theorem lay_259 : Try.prog.lay 259 = some (0, true) := by kernel_rfl
@[simp] theorem cells_259 : Try.prog.cellsOf 259 = 0 := by kernel_rfl
@[simp] theorem info_259 : (Try.prog.info? 259).isSome = true := by kernel_rfl
@[simp] theorem bytes_259 : Try.prog.bytesOf 259 = 0 := by kernel_rfl
@[simp] theorem ctys_259 : ctys Try.prog 259 = [] := by kernel_rfl
@[simp] theorem conc_259 : Try.prog.concrete 259 = true := by kernel_rfl
@[simp] theorem zero_259 : zeroCs Try.prog 259 = some [] := by kernel_rfl
@[simp] theorem ifc_259 : isIfcT Try.prog 259 = some false := by kernel_rfl
@[simp] theorem map_259 : Try.prog.isMap 259 = false := by kernel_rfl
@[simp] theorem ptr_259 : Try.prog.ptrT 259 = some none := by kernel_rfl
@[simp] theorem ztup_259 : zeroTup Try.prog 259 = some (.tup [(true, []), (false, [.d (.v (.bool false))])]) := by kernel_rfl
@[simp] theorem lay_260 : Try.prog.lay 260 = some (1, false) := by kernel_rfl
@[simp] theorem cells_260 : Try.prog.cellsOf 260 = 1 := by kernel_rfl
@[simp] theorem info_260 : (Try.prog.info? 260).isSome = true := by kernel_rfl
@[simp] theorem bytes_260 : Try.prog.bytesOf 260 = 4 := by kernel_rfl
@[simp] theorem ctys_260 : ctys Try.prog 260 = [none] := by kernel_rfl
@[simp] theorem conc_260 : Try.prog.concrete 260 = true := by kernel_rfl
@[simp] theorem zero_260 : zeroCs Try.prog 260 = some [.d (.v (.int .u32 0))] := by kernel_rfl
@[simp] theorem ifc_260 : isIfcT Try.prog 260 = some false := by kernel_rfl
@[simp] theorem map_260 : Try.prog.isMap 260 = false := by kernel_rfl
@[simp] theorem ptr_260 : Try.prog.ptrT 260 = some none := by kernel_rfl
@[simp] theorem ztup_260 : zeroTup Try.prog 260 = some (.tup [(false, [.d (.v (.int .u32 0))]), (false, [.d (.v (.bool false))])]) := by kernel_rfl
@[simp] theorem app_260 : Try.prog.appOk 260 = true := by kernel_rfl
@[simp] theorem und_260 : Try.prog.underlying 260 = some (.int .u32) := by kernel_rfl
@[simp] theorem lay_261 : Try.prog.lay 261 = some (1, false) := by kernel_rfl
@[simp] theorem cells_261 : Try.prog.cellsOf 261 = 1 := by kernel_rfl
@[simp] theorem info_261 : (Try.prog.info? 261).isSome = true := by kernel_rfl
@[simp] theorem bytes_261 : Try.prog.bytesOf 261 = 1 := by kernel_rfl
@[simp] theorem ctys_261 : ctys Try.prog 261 = [none] := by kernel_rfl
@[simp] theorem conc_261 : Try.prog.concrete 261 = true := by kernel_rfl
@[simp] theorem zero_261 : zeroCs Try.prog 261 = some [.d (.v (.int .u8 0))] := by kernel_rfl
@[simp] theorem ifc_261 : isIfcT Try.prog 261 = some false := by kernel_rfl
@[simp] theorem map_261 : Try.prog.isMap 261 = false := by kernel_rfl
@[simp] theorem ptr_261 : Try.prog.ptrT 261 = some none := by kernel_rfl
@[simp] theorem ztup_261 : zeroTup Try.prog 261 = some (.tup [(false, [.d (.v (.int .u8 0))]), (false, [.d (.v (.bool false))])]) := by kernel_rfl
@[simp] theorem app_261 : Try.prog.appOk 261 = true := by kernel_rfl
@[simp] theorem und_261 : Try.prog.underlying 261 = some (.int .u8) := by kernel_rfl
@[simp] theorem lay_262 : Try.prog.lay 262 = some (1, false) := by kernel_rfl
@[simp] theorem cells_262 : Try.prog.cellsOf 262 = 1 := by kernel_rfl
@[simp] theorem info_262 : (Try.prog.info? 262).isSome = true := by kernel_rfl
@[simp] theorem bytes_262 : Try.prog.bytesOf 262 = 1 := by kernel_rfl
@[simp] theorem ctys_262 : ctys Try.prog 262 = [none] := by kernel_rfl
@[simp] theorem conc_262 : Try.prog.concrete 262 = true := by kernel_rfl
@[simp] theorem zero_262 : zeroCs Try.prog 262 = some [.d (.v (.int .u8 0))] := by kernel_rfl
@[simp] theorem ifc_262 : isIfcT Try.prog 262 = some false := by kernel_rfl
@[simp] theorem map_262 : Try.prog.isMap 262 = false := by kernel_rfl
@[simp] theorem ptr_262 : Try.prog.ptrT 262 = some none := by kernel_rfl
@[simp] theorem ztup_262 : zeroTup Try.prog 262 = some (.tup [(false, [.d (.v (.int .u8 0))]), (false, [.d (.v (.bool false))])]) := by kernel_rfl
@[simp] theorem app_262 : Try.prog.appOk 262 = true := by kernel_rfl
@[simp] theorem und_262 : Try.prog.underlying 262 = some (.int .u8) := by kernel_rfl
@[simp] theorem lay_264 : Try.prog.lay 264 = some (1, false) := by kernel_rfl
@[simp] theorem cells_264 : Try.prog.cellsOf 264 = 1 := by kernel_rfl
@[simp] theorem info_264 : (Try.prog.info? 264).isSome = true := by kernel_rfl
@[simp] theorem bytes_264 : Try.prog.bytesOf 264 = 8 := by kernel_rfl
@[simp] theorem ctys_264 : ctys Try.prog 264 = [none] := by kernel_rfl
@[simp] theorem conc_264 : Try.prog.concrete 264 = true := by kernel_rfl
@[simp] theorem zero_264 : zeroCs Try.prog 264 = some [.d (.v (.pointer none))] := by kernel_rfl
@[simp] theorem ifc_264 : isIfcT Try.prog 264 = some false := by kernel_rfl
@[simp] theorem map_264 : Try.prog.isMap 264 = false := by kernel_rfl
@[simp] theorem ptr_264 : Try.prog.ptrT 264 = some (some 5) := by kernel_rfl
@[simp] theorem ztup_264 : zeroTup Try.prog 264 = some (.tup [(false, [.d (.v (.pointer none))]), (false, [.d (.v (.bool false))])]) := by kernel_rfl
@[simp] theorem app_264 : Try.prog.appOk 264 = true := by kernel_rfl
@[simp] theorem und_264 : Try.prog.underlying 264 = some (.pointer 5) := by kernel_rfl
@[simp] theorem lay_265 : Try.prog.lay 265 = some (1, false) := by kernel_rfl
@[simp] theorem cells_265 : Try.prog.cellsOf 265 = 1 := by kernel_rfl
@[simp] theorem info_265 : (Try.prog.info? 265).isSome = true := by kernel_rfl
@[simp] theorem bytes_265 : Try.prog.bytesOf 265 = 4 := by kernel_rfl
@[simp] theorem ctys_265 : ctys Try.prog 265 = [none] := by kernel_rfl
@[simp] theorem conc_265 : Try.prog.concrete 265 = true := by kernel_rfl
@[simp] theorem zero_265 : zeroCs Try.prog 265 = some [.d (.v (.int .i32 0))] := by kernel_rfl
@[simp] theorem ifc_265 : isIfcT Try.prog 265 = some false := by kernel_rfl
@[simp] theorem map_265 : Try.prog.isMap 265 = false := by kernel_rfl
@[simp] theorem ptr_265 : Try.prog.ptrT 265 = some none := by kernel_rfl
@[simp] theorem ztup_265 : zeroTup Try.prog 265 = some (.tup [(false, [.d (.v (.int .i32 0))]), (false, [.d (.v (.bool false))])]) := by kernel_rfl
@[simp] theorem app_265 : Try.prog.appOk 265 = true := by kernel_rfl
@[simp] theorem und_265 : Try.prog.underlying 265 = some (.int .i32) := by kernel_rfl
@[simp] theorem lay_266 : Try.prog.lay 266 = some (1, false) := by kernel_rfl
@[simp] theorem cells_266 : Try.prog.cellsOf 266 = 1 := by kernel_rfl
@[simp] theorem info_266 : (Try.prog.info? 266).isSome = true := by kernel_rfl
@[simp] theorem bytes_266 : Try.prog.bytesOf 266 = 4 := by kernel_rfl
@[simp] theorem ctys_266 : ctys Try.prog 266 = [none] := by kernel_rfl
@[simp] theorem conc_266 : Try.prog.concrete 266 = true := by kernel_rfl
@[simp] theorem zero_266 : zeroCs Try.prog 266 = some [.d (.v (.int .i32 0))] := by kernel_rfl
@[simp] theorem ifc_266 : isIfcT Try.prog 266 = some false := by kernel_rfl
@[simp] theorem map_266 : Try.prog.isMap 266 = false := by kernel_rfl
@[simp] theorem ptr_266 : Try.prog.ptrT 266 = some none := by kernel_rfl
@[simp] theorem ztup_266 : zeroTup Try.prog 266 = some (.tup [(false, [.d (.v (.int .i32 0))]), (false, [.d (.v (.bool false))])]) := by kernel_rfl
@[simp] theorem app_266 : Try.prog.appOk 266 = true := by kernel_rfl
@[simp] theorem und_266 : Try.prog.underlying 266 = some (.int .i32) := by kernel_rfl
@[simp] theorem lay_267 : Try.prog.lay 267 = some (11, true) := by kernel_rfl
@[simp] theorem cells_267 : Try.prog.cellsOf 267 = 11 := by kernel_rfl
@[simp] theorem info_267 : (Try.prog.info? 267).isSome = true := by kernel_rfl
@[simp] theorem bytes_267 : Try.prog.bytesOf 267 = 48 := by kernel_rfl
@[simp] theorem ctys_267 : ctys Try.prog 267 = [none, none, none, none, none, none, none, none, none, none, none] := by kernel_rfl
@[simp] theorem conc_267 : Try.prog.concrete 267 = true := by kernel_rfl
@[simp] theorem zero_267 : zeroCs Try.prog 267 = some [.d (.v (.int .u64 0)), .d (.v (.int .u64 0)), .d (.v (.int .u32 0)), .d (.v (.int .u8 0)), .d (.v (.int .u8 0)), .d (.v (.int .u8 0)), .d (.v (.int .u8 0)), .d (.v (.nilFunc)), .d (.v (.pointer none)), .d (.v (.int .i32 0)), .d (.v (.int .i32 0))] := by kernel_rfl
@[simp] theorem fld_267_0 : Try.prog.fld 267 0 = some (0, 1, false) := by kernel_rfl
@[simp] theorem fld_267_1 : Try.prog.fld 267 1 = some (1, 1, false) := by kernel_rfl
@[simp] theorem fld_267_2 : Try.prog.fld 267 2 = some (2, 1, false) := by kernel_rfl
@[simp] theorem fld_267_3 : Try.prog.fld 267 3 = some (3, 1, false) := by kernel_rfl
@[simp] theorem fld_267_4 : Try.prog.fld 267 4 = some (4, 1, false) := by kernel_rfl
@[simp] theorem fld_267_5 : Try.prog.fld 267 5 = some (5, 1, false) := by kernel_rfl
@[simp] theorem fld_267_6 : Try.prog.fld 267 6 = some (6, 1, false) := by kernel_rfl
@[simp] theorem fld_267_7 : Try.prog.fld 267 7 = some (7, 1, false) := by kernel_rfl
@[simp] theorem fld_267_8 : Try.prog.fld 267 8 = some (8, 1, false) := by kernel_rfl
@[simp] theorem fld_267_9 : Try.prog.fld 267 9 = some (9, 1, false) := by kernel_rfl
@[simp] theorem fld_267_10 : Try.prog.fld 267 10 = some (10, 1, false) := by kernel_rfl
@[simp] theorem str_267 : Try.prog.strOk 267 = true := by kernel_rfl
@[simp] theorem ifc_267 : isIfcT Try.prog 267 = some false := by kernel_rfl
@[simp] theorem map_267 : Try.prog.isMap 267 = false := by kernel_rfl
@[simp] theorem ptr_267 : Try.prog.ptrT 267 = some none := by kernel_rfl
@[simp] theorem ztup_267 : zeroTup Try.prog 267 = some (.tup [(true, [.d (.v (.int .u64 0)), .d (.v (.int .u64 0)), .d (.v (.int .u32 0)), .d (.v (.int .u8 0)), .d (.v (.int .u8 0)), .d (.v (.int .u8 0)), .d (.v (.int .u8 0)), .d (.v (.nilFunc)), .d (.v (.pointer none)), .d (.v (.int .i32 0)), .d (.v (.int .i32 0))]), (false, [.d (.v (.bool false))])]) := by kernel_rfl
@[simp] theorem app_267 : Try.prog.appOk 267 = true := by kernel_rfl
@[simp] theorem lay_268 : Try.prog.lay 268 = some (11, true) := by kernel_rfl
@[simp] theorem cells_268 : Try.prog.cellsOf 268 = 11 := by kernel_rfl
@[simp] theorem info_268 : (Try.prog.info? 268).isSome = true := by kernel_rfl
@[simp] theorem bytes_268 : Try.prog.bytesOf 268 = 48 := by kernel_rfl
@[simp] theorem ctys_268 : ctys Try.prog 268 = [none, none, none, none, none, none, none, none, none, none, none] := by kernel_rfl
@[simp] theorem conc_268 : Try.prog.concrete 268 = true := by kernel_rfl
@[simp] theorem zero_268 : zeroCs Try.prog 268 = some [.d (.v (.int .u64 0)), .d (.v (.int .u64 0)), .d (.v (.int .u32 0)), .d (.v (.int .u8 0)), .d (.v (.int .u8 0)), .d (.v (.int .u8 0)), .d (.v (.int .u8 0)), .d (.v (.nilFunc)), .d (.v (.pointer none)), .d (.v (.int .i32 0)), .d (.v (.int .i32 0))] := by kernel_rfl
@[simp] theorem fld_268_0 : Try.prog.fld 268 0 = some (0, 1, false) := by kernel_rfl
@[simp] theorem fld_268_1 : Try.prog.fld 268 1 = some (1, 1, false) := by kernel_rfl
@[simp] theorem fld_268_2 : Try.prog.fld 268 2 = some (2, 1, false) := by kernel_rfl
@[simp] theorem fld_268_3 : Try.prog.fld 268 3 = some (3, 1, false) := by kernel_rfl
@[simp] theorem fld_268_4 : Try.prog.fld 268 4 = some (4, 1, false) := by kernel_rfl
@[simp] theorem fld_268_5 : Try.prog.fld 268 5 = some (5, 1, false) := by kernel_rfl
@[simp] theorem fld_268_6 : Try.prog.fld 268 6 = some (6, 1, false) := by kernel_rfl
@[simp] theorem fld_268_7 : Try.prog.fld 268 7 = some (7, 1, false) := by kernel_rfl
@[simp] theorem fld_268_8 : Try.prog.fld 268 8 = some (8, 1, false) := by kernel_rfl
@[simp] theorem fld_268_9 : Try.prog.fld 268 9 = some (9, 1, false) := by kernel_rfl
@[simp] theorem fld_268_10 : Try.prog.fld 268 10 = some (10, 1, false) := by kernel_rfl
@[simp] theorem str_268 : Try.prog.strOk 268 = true := by kernel_rfl
@[simp] theorem ifc_268 : isIfcT Try.prog 268 = some false := by kernel_rfl
@[simp] theorem map_268 : Try.prog.isMap 268 = false := by kernel_rfl
@[simp] theorem ptr_268 : Try.prog.ptrT 268 = some none := by kernel_rfl
@[simp] theorem ztup_268 : zeroTup Try.prog 268 = some (.tup [(true, [.d (.v (.int .u64 0)), .d (.v (.int .u64 0)), .d (.v (.int .u32 0)), .d (.v (.int .u8 0)), .d (.v (.int .u8 0)), .d (.v (.int .u8 0)), .d (.v (.int .u8 0)), .d (.v (.nilFunc)), .d (.v (.pointer none)), .d (.v (.int .i32 0)), .d (.v (.int .i32 0))]), (false, [.d (.v (.bool false))])]) := by kernel_rfl
@[simp] theorem app_268 : Try.prog.appOk 268 = true := by kernel_rfl
@[simp] theorem lay_279 : Try.prog.lay 279 = some (1, false) := by kernel_rfl
@[simp] theorem cells_279 : Try.prog.cellsOf 279 = 1 := by kernel_rfl
@[simp] theorem info_279 : (Try.prog.info? 279).isSome = true := by kernel_rfl
@[simp] theorem bytes_279 : Try.prog.bytesOf 279 = 4 := by kernel_rfl
@[simp] theorem ctys_279 : ctys Try.prog 279 = [none] := by kernel_rfl
@[simp] theorem conc_279 : Try.prog.concrete 279 = true := by kernel_rfl
@[simp] theorem zero_279 : zeroCs Try.prog 279 = some [.d (.v (.float .f32 0))] := by kernel_rfl
@[simp] theorem ifc_279 : isIfcT Try.prog 279 = some false := by kernel_rfl
@[simp] theorem map_279 : Try.prog.isMap 279 = false := by kernel_rfl
@[simp] theorem ptr_279 : Try.prog.ptrT 279 = some none := by kernel_rfl
@[simp] theorem ztup_279 : zeroTup Try.prog 279 = some (.tup [(false, [.d (.v (.float .f32 0))]), (false, [.d (.v (.bool false))])]) := by kernel_rfl
@[simp] theorem app_279 : Try.prog.appOk 279 = true := by kernel_rfl
@[simp] theorem und_279 : Try.prog.underlying 279 = some (.float .f32) := by kernel_rfl
@[simp] theorem lay_281 : Try.prog.lay 281 = some (1, false) := by kernel_rfl
@[simp] theorem cells_281 : Try.prog.cellsOf 281 = 1 := by kernel_rfl
@[simp] theorem info_281 : (Try.prog.info? 281).isSome = true := by kernel_rfl
@[simp] theorem bytes_281 : Try.prog.bytesOf 281 = 1 := by kernel_rfl
@[simp] theorem ctys_281 : ctys Try.prog 281 = [none] := by kernel_rfl
@[simp] theorem conc_281 : Try.prog.concrete 281 = true := by kernel_rfl
@[simp] theorem zero_281 : zeroCs Try.prog 281 = some [.d (.v (.int .i8 0))] := by kernel_rfl
@[simp] theorem ifc_281 : isIfcT Try.prog 281 = some false := by kernel_rfl
@[simp] theorem map_281 : Try.prog.isMap 281 = false := by kernel_rfl
@[simp] theorem ptr_281 : Try.prog.ptrT 281 = some none := by kernel_rfl
@[simp] theorem ztup_281 : zeroTup Try.prog 281 = some (.tup [(false, [.d (.v (.int .i8 0))]), (false, [.d (.v (.bool false))])]) := by kernel_rfl
@[simp] theorem app_281 : Try.prog.appOk 281 = true := by kernel_rfl
@[simp] theorem und_281 : Try.prog.underlying 281 = some (.int .i8) := by kernel_rfl
@[simp] theorem lay_283 : Try.prog.lay 283 = some (1, false) := by kernel_rfl
@[simp] theorem cells_283 : Try.prog.cellsOf 283 = 1 := by kernel_rfl
@[simp] theorem info_283 : (Try.prog.info? 283).isSome = true := by kernel_rfl
@[simp] theorem bytes_283 : Try.prog.bytesOf 283 = 2 := by kernel_rfl
@[simp] theorem ctys_283 : ctys Try.prog 283 = [none] := by kernel_rfl
@[simp] theorem conc_283 : Try.prog.concrete 283 = true := by kernel_rfl
@[simp] theorem zero_283 : zeroCs Try.prog 283 = some [.d (.v (.int .i16 0))] := by kernel_rfl
@[simp] theorem ifc_283 : isIfcT Try.prog 283 = some false := by kernel_rfl
@[simp] theorem map_283 : Try.prog.isMap 283 = false := by kernel_rfl
@[simp] theorem ptr_283 : Try.prog.ptrT 283 = some none := by kernel_rfl
@[simp] theorem ztup_283 : zeroTup Try.prog 283 = some (.tup [(false, [.d (.v (.int .i16 0))]), (false, [.d (.v (.bool false))])]) := by kernel_rfl
@[simp] theorem app_283 : Try.prog.appOk 283 = true := by kernel_rfl
@[simp] theorem und_283 : Try.prog.underlying 283 = some (.int .i16) := by kernel_rfl
@[simp] theorem lay_286 : Try.prog.lay 286 = some (1, false) := by kernel_rfl
@[simp] theorem cells_286 : Try.prog.cellsOf 286 = 1 := by kernel_rfl
@[simp] theorem info_286 : (Try.prog.info? 286).isSome = true := by kernel_rfl
@[simp] theorem bytes_286 : Try.prog.bytesOf 286 = 8 := by kernel_rfl
@[simp] theorem ctys_286 : ctys Try.prog 286 = [none] := by kernel_rfl
@[simp] theorem conc_286 : Try.prog.concrete 286 = true := by kernel_rfl
@[simp] theorem zero_286 : zeroCs Try.prog 286 = some [.d (.v (.int .u64 0))] := by kernel_rfl
@[simp] theorem ifc_286 : isIfcT Try.prog 286 = some false := by kernel_rfl
@[simp] theorem map_286 : Try.prog.isMap 286 = false := by kernel_rfl
@[simp] theorem ptr_286 : Try.prog.ptrT 286 = some none := by kernel_rfl
@[simp] theorem ztup_286 : zeroTup Try.prog 286 = some (.tup [(false, [.d (.v (.int .u64 0))]), (false, [.d (.v (.bool false))])]) := by kernel_rfl
@[simp] theorem app_286 : Try.prog.appOk 286 = true := by kernel_rfl
@[simp] theorem und_286 : Try.prog.underlying 286 = some (.int .u64) := by kernel_rfl
@[simp] theorem lay_289 : Try.prog.lay 289 = some (1, false) := by kernel_rfl
@[simp] theorem cells_289 : Try.prog.cellsOf 289 = 1 := by kernel_rfl
@[simp] theorem info_289 : (Try.prog.info? 289).isSome = true := by kernel_rfl
@[simp] theorem bytes_289 : Try.prog.bytesOf 289 = 2 := by kernel_rfl
@[simp] theorem ctys_289 : ctys Try.prog 289 = [none] := by kernel_rfl
@[simp] theorem conc_289 : Try.prog.concrete 289 = true := by kernel_rfl
@[simp] theorem zero_289 : zeroCs Try.prog 289 = some [.d (.v (.int .u16 0))] := by kernel_rfl
@[simp] theorem ifc_289 : isIfcT Try.prog 289 = some false := by kernel_rfl
@[simp] theorem map_289 : Try.prog.isMap 289 = false := by kernel_rfl
@[simp] theorem ptr_289 : Try.prog.ptrT 289 = some none := by kernel_rfl
@[simp] theorem ztup_289 : zeroTup Try.prog 289 = some (.tup [(false, [.d (.v (.int .u16 0))]), (false, [.d (.v (.bool false))])]) := by kernel_rfl
@[simp] theorem app_289 : Try.prog.appOk 289 = true := by kernel_rfl
@[simp] theorem und_289 : Try.prog.underlying 289 = some (.int .u16) := by kernel_rfl
@[simp] theorem lay_292 : Try.prog.lay 292 = some (1, false) := by kernel_rfl
@[simp] theorem cells_292 : Try.prog.cellsOf 292 = 1 := by kernel_rfl
@[simp] theorem info_292 : (Try.prog.info? 292).isSome = true := by kernel_rfl
@[simp] theorem bytes_292 : Try.prog.bytesOf 292 = 24 := by kernel_rfl
@[simp] theorem ctys_292 : ctys Try.prog 292 = [some 20] := by kernel_rfl
@[simp] theorem conc_292 : Try.prog.concrete 292 = true := by kernel_rfl
@[simp] theorem zero_292 : zeroCs Try.prog 292 = some [.d (.v (.slice none 0 0))] := by kernel_rfl
@[simp] theorem ifc_292 : isIfcT Try.prog 292 = some false := by kernel_rfl
@[simp] theorem map_292 : Try.prog.isMap 292 = false := by kernel_rfl
@[simp] theorem ptr_292 : Try.prog.ptrT 292 = some none := by kernel_rfl
@[simp] theorem ztup_292 : zeroTup Try.prog 292 = some (.tup [(false, [.d (.v (.slice none 0 0))]), (false, [.d (.v (.bool false))])]) := by kernel_rfl
@[simp] theorem app_292 : Try.prog.appOk 292 = true := by kernel_rfl
@[simp] theorem elem_292 : Try.prog.elemT 292 = some 20 := by kernel_rfl
@[simp] theorem und_292 : Try.prog.underlying 292 = some (.slice 20) := by kernel_rfl
@[simp] theorem lay_293 : Try.prog.lay 293 = some (1, false) := by kernel_rfl
@[simp] theorem cells_293 : Try.prog.cellsOf 293 = 1 := by kernel_rfl
@[simp] theorem info_293 : (Try.prog.info? 293).isSome = true := by kernel_rfl
@[simp] theorem bytes_293 : Try.prog.bytesOf 293 = 8 := by kernel_rfl
@[simp] theorem ctys_293 : ctys Try.prog 293 = [none] := by kernel_rfl
@[simp] theorem conc_293 : Try.prog.concrete 293 = true := by kernel_rfl
@[simp] theorem zero_293 : zeroCs Try.prog 293 = some [.d (.v (.map none))] := by kernel_rfl
@[simp] theorem ifc_293 : isIfcT Try.prog 293 = some false := by kernel_rfl
@[simp] theorem map_293 : Try.prog.isMap 293 = true := by kernel_rfl
@[simp] theorem ptr_293 : Try.prog.ptrT 293 = some none := by kernel_rfl
@[simp] theorem ztup_293 : zeroTup Try.prog 293 = some (.tup [(false, [.d (.v (.map none))]), (false, [.d (.v (.bool false))])]) := by kernel_rfl
@[simp] theorem app_293 : Try.prog.appOk 293 = true := by kernel_rfl
@[simp] theorem lay_302 : Try.prog.lay 302 = some (1, false) := by kernel_rfl
@[simp] theorem cells_302 : Try.prog.cellsOf 302 = 1 := by kernel_rfl
@[simp] theorem info_302 : (Try.prog.info? 302).isSome = true := by kernel_rfl
@[simp] theorem bytes_302 : Try.prog.bytesOf 302 = 8 := by kernel_rfl
@[simp] theorem ctys_302 : ctys Try.prog 302 = [none] := by kernel_rfl
@[simp] theorem conc_302 : Try.prog.concrete 302 = true := by kernel_rfl
@[simp] theorem zero_302 : zeroCs Try.prog 302 = some [.d (.v (.pointer none))] := by kernel_rfl
@[simp] theorem ifc_302 : isIfcT Try.prog 302 = some false := by kernel_rfl
@[simp] theorem map_302 : Try.prog.isMap 302 = false := by kernel_rfl
@[simp] theorem ptr_302 : Try.prog.ptrT 302 = some (some 292) := by kernel_rfl
@[simp] theorem ztup_302 : zeroTup Try.prog 302 = some (.tup [(false, [.d (.v (.pointer none))]), (false, [.d (.v (.bool false))])]) := by kernel_rfl
@[simp] theorem app_302 : Try.prog.appOk 302 = true := by kernel_rfl
@[simp] theorem und_302 : Try.prog.underlying 302 = some (.pointer 292) := by kernel_rfl
@[simp] theorem lay_303 : Try.prog.lay 303 = some (1, false) := by kernel_rfl
@[simp] theorem cells_303 : Try.prog.cellsOf 303 = 1 := by kernel_rfl
@[simp] theorem info_303 : (Try.prog.info? 303).isSome = true := by kernel_rfl
@[simp] theorem bytes_303 : Try.prog.bytesOf 303 = 8 := by kernel_rfl
@[simp] theorem ctys_303 : ctys Try.prog 303 = [none] := by kernel_rfl
@[simp] theorem conc_303 : Try.prog.concrete 303 = true := by kernel_rfl
@[simp] theorem zero_303 : zeroCs Try.prog 303 = some [.d (.v (.pointer none))] := by kernel_rfl
@[simp] theorem ifc_303 : isIfcT Try.prog 303 = some false := by kernel_rfl
@[simp] theorem map_303 : Try.prog.isMap 303 = false := by kernel_rfl
@[simp] theorem ptr_303 : Try.prog.ptrT 303 = some (some 304) := by kernel_rfl
@[simp] theorem ztup_303 : zeroTup Try.prog 303 = some (.tup [(false, [.d (.v (.pointer none))]), (false, [.d (.v (.bool false))])]) := by kernel_rfl
@[simp] theorem app_303 : Try.prog.appOk 303 = true := by kernel_rfl
@[simp] theorem und_303 : Try.prog.underlying 303 = some (.pointer 304) := by kernel_rfl
@[simp] theorem lay_304 : Try.prog.lay 304 = some (0, true) := by kernel_rfl
@[simp] theorem cells_304 : Try.prog.cellsOf 304 = 0 := by kernel_rfl
@[simp] theorem info_304 : (Try.prog.info? 304).isSome = true := by kernel_rfl
@[simp] theorem bytes_304 : Try.prog.bytesOf 304 = 0 := by kernel_rfl
@[simp] theorem ctys_304 : ctys Try.prog 304 = [] := by kernel_rfl
@[simp] theorem conc_304 : Try.prog.concrete 304 = true := by kernel_rfl
@[simp] theorem zero_304 : zeroCs Try.prog 304 = some [] := by kernel_rfl
@[simp] theorem str_304 : Try.prog.strOk 304 = true := by kernel_rfl
@[simp] theorem ifc_304 : isIfcT Try.prog 304 = some false := by kernel_rfl
@[simp] theorem map_304 : Try.prog.isMap 304 = false := by kernel_rfl
@[simp] theorem ptr_304 : Try.prog.ptrT 304 = some none := by kernel_rfl
@[simp] theorem ztup_304 : zeroTup Try.prog 304 = some (.tup [(true, []), (false, [.d (.v (.bool false))])]) := by kernel_rfl
@[simp] theorem lay_305 : Try.prog.lay 305 = some (1, false) := by kernel_rfl
@[simp] theorem cells_305 : Try.prog.cellsOf 305 = 1 := by kernel_rfl
@[simp] theorem info_305 : (Try.prog.info? 305).isSome = true := by kernel_rfl
@[simp] theorem bytes_305 : Try.prog.bytesOf 305 = 8 := by kernel_rfl
@[simp] theorem ctys_305 : ctys Try.prog 305 = [none] := by kernel_rfl
@[simp] theorem conc_305 : Try.prog.concrete 305 = true := by kernel_rfl
@[simp] theorem zero_305 : zeroCs Try.prog 305 = some [.d (.v (.pointer none))] := by kernel_rfl
@[simp] theorem ifc_305 : isIfcT Try.prog 305 = some false := by kernel_rfl
@[simp] theorem map_305 : Try.prog.isMap 305 = false := by kernel_rfl
@[simp] theorem ptr_305 : Try.prog.ptrT 305 = some (some 307) := by kernel_rfl
@[simp] theorem ztup_305 : zeroTup Try.prog 305 = some (.tup [(false, [.d (.v (.pointer none))]), (false, [.d (.v (.bool false))])]) := by kernel_rfl
@[simp] theorem app_305 : Try.prog.appOk 305 = true := by kernel_rfl
@[simp] theorem und_305 : Try.prog.underlying 305 = some (.pointer 307) := by kernel_rfl
@[simp] theorem lay_306 : Try.prog.lay 306 = some (3, true) := by kernel_rfl
@[simp] theorem cells_306 : Try.prog.cellsOf 306 = 3 := by kernel_rfl
@[simp] theorem info_306 : (Try.prog.info? 306).isSome = true := by kernel_rfl
@[simp] theorem bytes_306 : Try.prog.bytesOf 306 = 40 := by kernel_rfl
@[simp] theorem ctys_306 : ctys Try.prog 306 = [some 20, none, none] := by kernel_rfl
@[simp] theorem conc_306 : Try.prog.concrete 306 = true := by kernel_rfl
@[simp] theorem zero_306 : zeroCs Try.prog 306 = some [.d (.v (.slice none 0 0)), .d (.v (.pointer none)), .d (.v (.int .i64 0))] := by kernel_rfl
@[simp] theorem fld_306_0 : Try.prog.fld 306 0 = some (0, 1, false) := by kernel_rfl
@[simp] theorem fld_306_1 : Try.prog.fld 306 1 = some (1, 1, false) := by kernel_rfl
@[simp] theorem fld_306_2 : Try.prog.fld 306 2 = some (2, 1, false) := by kernel_rfl
@[simp] theorem str_306 : Try.prog.strOk 306 = true := by kernel_rfl
@[simp] theorem ifc_306 : isIfcT Try.prog 306 = some false := by kernel_rfl
@[simp] theorem map_306 : Try.prog.isMap 306 = false := by kernel_rfl
@[simp] theorem ptr_306 : Try.prog.ptrT 306 = some none := by kernel_rfl
@[simp] theorem ztup_306 : zeroTup Try.prog 306 = some (.tup [(true, [.d (.v (.slice none 0 0)), .d (.v (.pointer none)), .d (.v (.int .i64 0))]), (false, [.d (.v (.bool false))])]) := by kernel_rfl
@[simp] theorem app_306 : Try.prog.appOk 306 = true := by kernel_rfl
@[simp] theorem lay_307 : Try.prog.lay 307 = some (3, true) := by kernel_rfl
@[simp] theorem cells_307 : Try.prog.cellsOf 307 = 3 := by kernel_rfl
@[simp] theorem info_307 : (Try.prog.info? 307).isSome = true := by kernel_rfl
@[simp] theorem bytes_307 : Try.prog.bytesOf 307 = 40 := by kernel_rfl
@[simp] theorem ctys_307 : ctys Try.prog 307 = [some 20, none, none] := by kernel_rfl
@[simp] theorem conc_307 : Try.prog.concrete 307 = true := by kernel_rfl
@[simp] theorem zero_307 : zeroCs Try.prog 307 = some [.d (.v (.slice none 0 0)), .d (.v (.pointer none)), .d (.v (.int .i64 0))] := by kernel_rfl
@[simp] theorem fld_307_0 : Try.prog.fld 307 0 = some (0, 1, false) := by kernel_rfl
@[simp] theorem fld_307_1 : Try.prog.fld 307 1 = some (1, 1, false) := by kernel_rfl
@[simp] theorem fld_307_2 : Try.prog.fld 307 2 = some (2, 1, false) := by kernel_rfl
@[simp] theorem str_307 : Try.prog.strOk 307 = true := by kernel_rfl
@[simp] theorem ifc_307 : isIfcT Try.prog 307 = some false := by kernel_rfl
@[simp] theorem map_307 : Try.prog.isMap 307 = false := by kernel_rfl
@[simp] theorem ptr_307 : Try.prog.ptrT 307 = some none := by kernel_rfl
@[simp] theorem ztup_307 : zeroTup Try.prog 307 = some (.tup [(true, [.d (.v (.slice none 0 0)), .d (.v (.pointer none)), .d (.v (.int .i64 0))]), (false, [.d (.v (.bool false))])]) := by kernel_rfl
@[simp] theorem app_307 : Try.prog.appOk 307 = true := by kernel_rfl
end Go.Smd
