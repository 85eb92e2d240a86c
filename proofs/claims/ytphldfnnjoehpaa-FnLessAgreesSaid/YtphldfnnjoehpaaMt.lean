/- The library's types: their methods. -/
import Derived.Test.YtphldfnnjoehpaaTy
import Derived.Test.YtphldfnnjoehpaaAi
import Derived.Test.YtphldfnnjoehpaaAh
import Derived.Test.YtphldfnnjoehpaaAj
set_option linter.unusedSimpArgs false
namespace Go.Smd
open Go.RowKit Go.Proofs

@[simp] theorem meth_0 : Try.prog.meth 193 "AsBool" = some (157, false) := by kernel_rfl
@[simp] theorem meth_1 : Try.prog.meth 193 "AsFloat" = some (158, false) := by kernel_rfl
@[simp] theorem meth_2 : Try.prog.meth 193 "AsInt" = some (159, false) := by kernel_rfl
@[simp] theorem meth_3 : Try.prog.meth 193 "AsList" = some (160, false) := by kernel_rfl
@[simp] theorem meth_4 : Try.prog.meth 193 "AsListUsing" = some (161, false) := by kernel_rfl
@[simp] theorem meth_5 : Try.prog.meth 193 "AsMap" = some (162, false) := by kernel_rfl
@[simp] theorem meth_6 : Try.prog.meth 193 "AsMapUsing" = some (163, false) := by kernel_rfl
@[simp] theorem meth_7 : Try.prog.meth 193 "AsString" = some (164, false) := by kernel_rfl
@[simp] theorem meth_8 : Try.prog.meth 193 "IsBool" = some (165, false) := by kernel_rfl
@[simp] theorem meth_9 : Try.prog.meth 193 "IsFloat" = some (166, false) := by kernel_rfl
@[simp] theorem meth_10 : Try.prog.meth 193 "IsInt" = some (167, false) := by kernel_rfl
@[simp] theorem meth_11 : Try.prog.meth 193 "IsList" = some (168, false) := by kernel_rfl
@[simp] theorem meth_12 : Try.prog.meth 193 "IsMap" = some (169, false) := by kernel_rfl
@[simp] theorem meth_13 : Try.prog.meth 193 "IsNull" = some (170, false) := by kernel_rfl
@[simp] theorem meth_14 : Try.prog.meth 193 "IsString" = some (171, false) := by kernel_rfl
@[simp] theorem meth_15 : Try.prog.meth 193 "Unstructured" = some (172, false) := by kernel_rfl
@[simp] theorem meth_16 : Try.prog.meth 292 "At" = some (175, false) := by kernel_rfl
@[simp] theorem meth_17 : Try.prog.meth 302 "At" = some (175, false) := by kernel_rfl
@[simp] theorem meth_18 : Try.prog.meth 292 "AtUsing" = some (176, false) := by kernel_rfl
@[simp] theorem meth_19 : Try.prog.meth 302 "AtUsing" = some (176, false) := by kernel_rfl
@[simp] theorem meth_20 : Try.prog.meth 292 "Equals" = some (177, false) := by kernel_rfl
@[simp] theorem meth_21 : Try.prog.meth 302 "Equals" = some (177, false) := by kernel_rfl
@[simp] theorem meth_22 : Try.prog.meth 292 "EqualsUsing" = some (178, false) := by kernel_rfl
@[simp] theorem meth_23 : Try.prog.meth 302 "EqualsUsing" = some (178, false) := by kernel_rfl
@[simp] theorem meth_24 : Try.prog.meth 292 "Length" = some (179, false) := by kernel_rfl
@[simp] theorem meth_25 : Try.prog.meth 302 "Length" = some (179, false) := by kernel_rfl
@[simp] theorem meth_26 : Try.prog.meth 292 "Range" = some (180, false) := by kernel_rfl
@[simp] theorem meth_27 : Try.prog.meth 302 "Range" = some (180, false) := by kernel_rfl
@[simp] theorem meth_28 : Try.prog.meth 292 "RangeUsing" = some (181, false) := by kernel_rfl
@[simp] theorem meth_29 : Try.prog.meth 302 "RangeUsing" = some (181, false) := by kernel_rfl
@[simp] theorem meth_30 : Try.prog.meth 293 "Delete" = some (183, false) := by kernel_rfl
@[simp] theorem meth_31 : Try.prog.meth 293 "Empty" = some (184, false) := by kernel_rfl
@[simp] theorem meth_32 : Try.prog.meth 293 "Equals" = some (185, false) := by kernel_rfl
@[simp] theorem meth_33 : Try.prog.meth 293 "EqualsUsing" = some (186, false) := by kernel_rfl
@[simp] theorem meth_34 : Try.prog.meth 293 "Get" = some (187, false) := by kernel_rfl
@[simp] theorem meth_35 : Try.prog.meth 293 "GetUsing" = some (188, false) := by kernel_rfl
@[simp] theorem meth_36 : Try.prog.meth 293 "Has" = some (189, false) := by kernel_rfl
@[simp] theorem meth_37 : Try.prog.meth 293 "Iterate" = some (190, false) := by kernel_rfl
@[simp] theorem meth_38 : Try.prog.meth 293 "IterateUsing" = some (191, false) := by kernel_rfl
@[simp] theorem meth_39 : Try.prog.meth 293 "Length" = some (192, false) := by kernel_rfl
@[simp] theorem meth_40 : Try.prog.meth 293 "Set" = some (193, false) := by kernel_rfl
@[simp] theorem meth_41 : Try.prog.meth 293 "Zip" = some (194, false) := by kernel_rfl
@[simp] theorem meth_42 : Try.prog.meth 293 "ZipUsing" = some (195, false) := by kernel_rfl
@[simp] theorem meth_43 : Try.prog.meth 303 "Next" = some (205, true) := by kernel_rfl
@[simp] theorem meth_44 : Try.prog.meth 305 "Next" = some (207, true) := by kernel_rfl
@[simp] theorem meth_45 : Try.prog.meth 303 "Item" = some (204, true) := by kernel_rfl
@[simp] theorem meth_46 : Try.prog.meth 305 "Item" = some (206, true) := by kernel_rfl
@[simp] theorem meth_47 : Try.prog.meth 190 "Free" = some (156, true) := by kernel_rfl
@[simp] theorem meth_48 : Try.prog.meth 190 "pub-coparcener/pub/structuredmerge/value.allocValueUnstructured" = some (111, true) := by kernel_rfl
@[simp] theorem meth_49 : Try.prog.meth 190 "pub-coparcener/pub/structuredmerge/value.allocListUnstructuredRange" = some (208, true) := by kernel_rfl
@[simp] theorem treeOk_p : treeOk Try.prog = true := by kernel_rfl
@[simp] theorem treeMap_a : Try.prog.treeMap 154 = true := by kernel_rfl
@[simp] theorem treeMap_b : Try.prog.treeMap 293 = true := by kernel_rfl
/-- An allocator; a library value that holds a tree; a map of it. -/
abbrev dAlloc : D := .ifc 190 (.pt [])
abbrev aAlloc : Av := .c (.d dAlloc)
abbrev dV (t : Tree) : D := .ifc 193 (.pt [.tr t])
abbrev aV' (t : Tree) : Av := .c (.d (dV t))
abbrev dM (m : List (ByteArray × Tree)) : D := .ifc 293 (.mp m)
abbrev dL (l : List Tree) : D := .ifc 292 (.sl 20 (l.map fun t => [.tr t]))
/-- Free does nothing. -/
theorem idle_free (y : Value) (us : Array Value) : Idle Try.prog { target := .fn (.method "Free") #[], args := #[.iface 190 y] ++ us } :=
  idle_of (E := 192) (f := 156) (by kernel_rfl) (by kernel_rfl) Try.func156 (by kernel_rfl) rfl Try.results156 y us
/-- .. whatever it is asked to free. -/
theorem free_any {xs : List D} : IdleAv Try.prog "Free" (.c (.d (.ifc 190 (.pt xs)))) := fun S β h w v us hv => by
  cases (show RepD Try.prog w S (.ifc 190 (.pt xs)) v from hv) with
  | ifc hv => exact idle_free _ us.toArray
end Go.Smd
