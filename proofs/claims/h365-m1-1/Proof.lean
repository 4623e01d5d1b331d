import JvmDerived
import JvmDerived.Pilot.@@N@@Statement
import JvmDerived.Pilot.@@N@@Code
set_option linter.unusedVariables false
set_option linter.unusedSimpArgs false
namespace Jvm.Pilot.@@N@@
open Jvm Jvm.ClassFile Sem Op Lib Jvm.Free Jvm.Stand Jvm.LawKit Jvm.RoadKit Bundle Jvm.Pilot.@@N@@.Jvm.D
theorem tw0 {Z : State} {a0 : Array Value} (hw : ∀ d ∈ tables_1, d.before a0 Z = true) : (Jvm.Cond.arrayClass Jvm.ClassFile.FieldType.long).before a0 Z = true := hw _ (List.mem_of_getElem? (i := 0) rfl)
theorem tw1 {Z : State} {a0 : Array Value} (hw : ∀ d ∈ tables_1, d.before a0 Z = true) : (Jvm.Cond.classLink "com/example/graphweft/graphweft/RangeMaxTreeFindPinLaw" (7 : Nat) "com/example/graphweft/graphweft/RangeMaxTree").before a0 Z = true := hw _ (List.mem_of_getElem? (i := 1) rfl)
theorem tw2 {Z : State} {a0 : Array Value} (hw : ∀ d ∈ tables_1, d.before a0 Z = true) : (Jvm.Cond.instantiable "com/example/graphweft/graphweft/RangeMaxTree" (19 : Nat)).before a0 Z = true := hw _ (List.mem_of_getElem? (i := 2) rfl)
theorem tw3 {Z : State} {a0 : Array Value} (hw : ∀ d ∈ tables_1, d.before a0 Z = true) : (Jvm.Cond.initialized "com/example/graphweft/graphweft/RangeMaxTree").before a0 Z = true := hw _ (List.mem_of_getElem? (i := 3) rfl)
theorem tw4 {Z : State} {a0 : Array Value} (hw : ∀ d ∈ tables_1, d.before a0 Z = true) : (Jvm.Cond.methodLink "com/example/graphweft/graphweft/RangeMaxTreeFindPinLaw" (9 : Nat) ({ cls := "com/example/graphweft/graphweft/RangeMaxTree", name := "<init>", desc := "()V" } : Jvm.MethodName)).before a0 Z = true := hw _ (List.mem_of_getElem? (i := 4) rfl)
theorem tw5 {Z : State} {a0 : Array Value} (hw : ∀ d ∈ tables_1, d.before a0 Z = true) : (Jvm.Cond.instanceMethod ({ cls := "com/example/graphweft/graphweft/RangeMaxTree", name := "<init>", desc := "()V" } : Jvm.MethodName)).before a0 Z = true := hw _ (List.mem_of_getElem? (i := 5) rfl)
theorem tw6 {Z : State} {a0 : Array Value} (hw : ∀ d ∈ tables_1, d.before a0 Z = true) : (Jvm.Cond.code ({ cls := "com/example/graphweft/graphweft/RangeMaxTree", name := "<init>", desc := "()V" } : Jvm.MethodName) prog_32_method_1_code (1 : Nat) (Option.none : Option Jvm.ClassFile.FieldType)).before a0 Z = true := hw _ (List.mem_of_getElem? (i := 6) rfl)
theorem tw7 {Z : State} {a0 : Array Value} (hw : ∀ d ∈ tables_1, d.before a0 Z = true) : (Jvm.Cond.methodLink "com/example/graphweft/graphweft/RangeMaxTree" (1 : Nat) ({ cls := "java/lang/Object", name := "<init>", desc := "()V" } : Jvm.MethodName)).before a0 Z = true := hw _ (List.mem_of_getElem? (i := 7) rfl)
theorem tw8 {Z : State} {a0 : Array Value} (hw : ∀ d ∈ tables_1, d.before a0 Z = true) : (Jvm.Cond.instanceMethod ({ cls := "java/lang/Object", name := "<init>", desc := "()V" } : Jvm.MethodName)).before a0 Z = true := hw _ (List.mem_of_getElem? (i := 8) rfl)
theorem tw9 {Z : State} {a0 : Array Value} (hw : ∀ d ∈ tables_1, d.before a0 Z = true) : (Jvm.Cond.code ({ cls := "java/lang/Object", name := "<init>", desc := "()V" } : Jvm.MethodName) object_method_1_code (1 : Nat) (Option.none : Option Jvm.ClassFile.FieldType)).before a0 Z = true := hw _ (List.mem_of_getElem? (i := 9) rfl)
theorem tw10 {Z : State} {a0 : Array Value} (hw : ∀ d ∈ tables_1, d.before a0 Z = true) : (Jvm.Cond.fieldLink "com/example/graphweft/graphweft/RangeMaxTree" (7 : Nat) "com/example/graphweft/graphweft/RangeMaxTree" "values" "[J").before a0 Z = true := hw _ (List.mem_of_getElem? (i := 10) rfl)
theorem tw11 {Z : State} {a0 : Array Value} (hw : ∀ d ∈ tables_1, d.before a0 Z = true) : (Jvm.Cond.lays "com/example/graphweft/graphweft/RangeMaxTree" "com/example/graphweft/graphweft/RangeMaxTree" "values" "[J").before a0 Z = true := hw _ (List.mem_of_getElem? (i := 11) rfl)
theorem tw12 {Z : State} {a0 : Array Value} (hw : ∀ d ∈ tables_1, d.before a0 Z = true) : (Jvm.Cond.fieldLink "com/example/graphweft/graphweft/RangeMaxTree" (13 : Nat) "com/example/graphweft/graphweft/RangeMaxTree" "maxima" "[J").before a0 Z = true := hw _ (List.mem_of_getElem? (i := 12) rfl)
theorem tw13 {Z : State} {a0 : Array Value} (hw : ∀ d ∈ tables_1, d.before a0 Z = true) : (Jvm.Cond.lays "com/example/graphweft/graphweft/RangeMaxTree" "com/example/graphweft/graphweft/RangeMaxTree" "maxima" "[J").before a0 Z = true := hw _ (List.mem_of_getElem? (i := 13) rfl)
theorem tw14 {Z : State} {a0 : Array Value} (hw : ∀ d ∈ tables_1, d.before a0 Z = true) : (Jvm.Cond.arrayClass Jvm.ClassFile.FieldType.int).before a0 Z = true := hw _ (List.mem_of_getElem? (i := 14) rfl)
theorem tw15 {Z : State} {a0 : Array Value} (hw : ∀ d ∈ tables_1, d.before a0 Z = true) : (Jvm.Cond.fieldLink "com/example/graphweft/graphweft/RangeMaxTree" (16 : Nat) "com/example/graphweft/graphweft/RangeMaxTree" "spanStarts" "[I").before a0 Z = true := hw _ (List.mem_of_getElem? (i := 15) rfl)
theorem tw16 {Z : State} {a0 : Array Value} (hw : ∀ d ∈ tables_1, d.before a0 Z = true) : (Jvm.Cond.lays "com/example/graphweft/graphweft/RangeMaxTree" "com/example/graphweft/graphweft/RangeMaxTree" "spanStarts" "[I").before a0 Z = true := hw _ (List.mem_of_getElem? (i := 16) rfl)
theorem tw17 {Z : State} {a0 : Array Value} (hw : ∀ d ∈ tables_1, d.before a0 Z = true) : (Jvm.Cond.fieldLink "com/example/graphweft/graphweft/RangeMaxTree" (20 : Nat) "com/example/graphweft/graphweft/RangeMaxTree" "spanEnds" "[I").before a0 Z = true := hw _ (List.mem_of_getElem? (i := 17) rfl)
theorem tw18 {Z : State} {a0 : Array Value} (hw : ∀ d ∈ tables_1, d.before a0 Z = true) : (Jvm.Cond.lays "com/example/graphweft/graphweft/RangeMaxTree" "com/example/graphweft/graphweft/RangeMaxTree" "spanEnds" "[I").before a0 Z = true := hw _ (List.mem_of_getElem? (i := 18) rfl)
theorem tw19 {Z : State} {a0 : Array Value} (hw : ∀ d ∈ tables_1, d.before a0 Z = true) : (Jvm.Cond.fieldLink "com/example/graphweft/graphweft/RangeMaxTree" (23 : Nat) "com/example/graphweft/graphweft/RangeMaxTree" "spanBases" "[I").before a0 Z = true := hw _ (List.mem_of_getElem? (i := 19) rfl)
theorem tw20 {Z : State} {a0 : Array Value} (hw : ∀ d ∈ tables_1, d.before a0 Z = true) : (Jvm.Cond.lays "com/example/graphweft/graphweft/RangeMaxTree" "com/example/graphweft/graphweft/RangeMaxTree" "spanBases" "[I").before a0 Z = true := hw _ (List.mem_of_getElem? (i := 20) rfl)
theorem tw21 {Z : State} {a0 : Array Value} (hw : ∀ d ∈ tables_1, d.before a0 Z = true) : (Jvm.Cond.fieldLink "com/example/graphweft/graphweft/RangeMaxTree" (26 : Nat) "com/example/graphweft/graphweft/RangeMaxTree" "pending" "[I").before a0 Z = true := hw _ (List.mem_of_getElem? (i := 21) rfl)
theorem tw22 {Z : State} {a0 : Array Value} (hw : ∀ d ∈ tables_1, d.before a0 Z = true) : (Jvm.Cond.laysFinal "com/example/graphweft/graphweft/RangeMaxTree" "com/example/graphweft/graphweft/RangeMaxTree" "pending" "[I").before a0 Z = true := hw _ (List.mem_of_getElem? (i := 22) rfl)
theorem tw23 {Z : State} {a0 : Array Value} (hw : ∀ d ∈ tables_1, d.before a0 Z = true) : (Jvm.Cond.fieldLink "com/example/graphweft/graphweft/RangeMaxTree" (29 : Nat) "com/example/graphweft/graphweft/RangeMaxTree" "lowNodes" "[I").before a0 Z = true := hw _ (List.mem_of_getElem? (i := 23) rfl)
theorem tw24 {Z : State} {a0 : Array Value} (hw : ∀ d ∈ tables_1, d.before a0 Z = true) : (Jvm.Cond.laysFinal "com/example/graphweft/graphweft/RangeMaxTree" "com/example/graphweft/graphweft/RangeMaxTree" "lowNodes" "[I").before a0 Z = true := hw _ (List.mem_of_getElem? (i := 24) rfl)
theorem tw25 {Z : State} {a0 : Array Value} (hw : ∀ d ∈ tables_1, d.before a0 Z = true) : (Jvm.Cond.methodLink "com/example/graphweft/graphweft/RangeMaxTreeFindPinLaw" (14 : Nat) ({ cls := "com/example/graphweft/graphweft/RangeMaxTree", name := "index", desc := "()I" } : Jvm.MethodName)).before a0 Z = true := hw _ (List.mem_of_getElem? (i := 25) rfl)
theorem tw26 {Z : State} {a0 : Array Value} (hw : ∀ d ∈ tables_1, d.before a0 Z = true) : (Jvm.Cond.declares ({ cls := "com/example/graphweft/graphweft/RangeMaxTree", name := "index", desc := "()I" } : Jvm.MethodName)).before a0 Z = true := hw _ (List.mem_of_getElem? (i := 26) rfl)
theorem tw27 {Z : State} {a0 : Array Value} (hw : ∀ d ∈ tables_1, d.before a0 Z = true) : (Jvm.Cond.instanceMethod ({ cls := "com/example/graphweft/graphweft/RangeMaxTree", name := "index", desc := "()I" } : Jvm.MethodName)).before a0 Z = true := hw _ (List.mem_of_getElem? (i := 27) rfl)
theorem tw28 {Z : State} {a0 : Array Value} (hw : ∀ d ∈ tables_1, d.before a0 Z = true) : (Jvm.Cond.selects "com/example/graphweft/graphweft/RangeMaxTree" ({ cls := "com/example/graphweft/graphweft/RangeMaxTree", name := "index", desc := "()I" } : Jvm.MethodName) ({ cls := "com/example/graphweft/graphweft/RangeMaxTree", name := "index", desc := "()I" } : Jvm.MethodName)).before a0 Z = true := hw _ (List.mem_of_getElem? (i := 28) rfl)
theorem tw29 {Z : State} {a0 : Array Value} (hw : ∀ d ∈ tables_1, d.before a0 Z = true) : (Jvm.Cond.code ({ cls := "com/example/graphweft/graphweft/RangeMaxTree", name := "index", desc := "()I" } : Jvm.MethodName) prog_32_method_5_code (5 : Nat) (Option.some Jvm.ClassFile.FieldType.int)).before a0 Z = true := hw _ (List.mem_of_getElem? (i := 29) rfl)
theorem tw30 {Z : State} {a0 : Array Value} (hw : ∀ d ∈ tables_1, d.before a0 Z = true) : (Jvm.Cond.fieldLink "com/example/graphweft/graphweft/RangeMaxTree" (39 : Nat) "com/example/graphweft/graphweft/RangeMaxTree" "spanCount" "I").before a0 Z = true := hw _ (List.mem_of_getElem? (i := 30) rfl)
theorem tw31 {Z : State} {a0 : Array Value} (hw : ∀ d ∈ tables_1, d.before a0 Z = true) : (Jvm.Cond.lays "com/example/graphweft/graphweft/RangeMaxTree" "com/example/graphweft/graphweft/RangeMaxTree" "spanCount" "I").before a0 Z = true := hw _ (List.mem_of_getElem? (i := 31) rfl)
theorem tw32 {Z : State} {a0 : Array Value} (hw : ∀ d ∈ tables_1, d.before a0 Z = true) : (Jvm.Cond.fieldLink "com/example/graphweft/graphweft/RangeMaxTree" (32 : Nat) "com/example/graphweft/graphweft/RangeMaxTree" "size" "I").before a0 Z = true := hw _ (List.mem_of_getElem? (i := 32) rfl)
theorem tw33 {Z : State} {a0 : Array Value} (hw : ∀ d ∈ tables_1, d.before a0 Z = true) : (Jvm.Cond.lays "com/example/graphweft/graphweft/RangeMaxTree" "com/example/graphweft/graphweft/RangeMaxTree" "size" "I").before a0 Z = true := hw _ (List.mem_of_getElem? (i := 33) rfl)
theorem tw34 {Z : State} {a0 : Array Value} (hw : ∀ d ∈ tables_1, d.before a0 Z = true) : (Jvm.Cond.fieldLink "com/example/graphweft/graphweft/RangeMaxTree" (36 : Nat) "com/example/graphweft/graphweft/RangeMaxTree" "nodeCount" "I").before a0 Z = true := hw _ (List.mem_of_getElem? (i := 34) rfl)
theorem tw35 {Z : State} {a0 : Array Value} (hw : ∀ d ∈ tables_1, d.before a0 Z = true) : (Jvm.Cond.lays "com/example/graphweft/graphweft/RangeMaxTree" "com/example/graphweft/graphweft/RangeMaxTree" "nodeCount" "I").before a0 Z = true := hw _ (List.mem_of_getElem? (i := 35) rfl)
theorem tw36 {Z : State} {a0 : Array Value} (hw : ∀ d ∈ tables_1, d.before a0 Z = true) : (Jvm.Cond.constantLong "com/example/graphweft/graphweft/RangeMaxTree" (74 : Nat) (-9223372036854775808 : Int64)).before a0 Z = true := hw _ (List.mem_of_getElem? (i := 36) rfl)
theorem tw37 {Z : State} {a0 : Array Value} (hw : ∀ d ∈ tables_1, d.before a0 Z = true) : (Jvm.Cond.methodLink "com/example/graphweft/graphweft/RangeMaxTree" (76 : Nat) ({ cls := "java/util/Arrays", name := "fill", desc := "([JIIJ)V" } : Jvm.MethodName)).before a0 Z = true := hw _ (List.mem_of_getElem? (i := 37) rfl)
theorem tw38 {Z : State} {a0 : Array Value} (hw : ∀ d ∈ tables_1, d.before a0 Z = true) : (Jvm.Cond.static ({ cls := "java/util/Arrays", name := "fill", desc := "([JIIJ)V" } : Jvm.MethodName)).before a0 Z = true := hw _ (List.mem_of_getElem? (i := 38) rfl)
theorem tw39 {Z : State} {a0 : Array Value} (hw : ∀ d ∈ tables_1, d.before a0 Z = true) : (Jvm.Cond.initialized "java/util/Arrays").before a0 Z = true := hw _ (List.mem_of_getElem? (i := 39) rfl)
theorem tw40 {Z : State} {a0 : Array Value} (hw : ∀ d ∈ tables_1, d.before a0 Z = true) : (Jvm.Cond.code ({ cls := "java/util/Arrays", name := "fill", desc := "([JIIJ)V" } : Jvm.MethodName) jdk_65_method_102_code (6 : Nat) (Option.none : Option Jvm.ClassFile.FieldType)).before a0 Z = true := hw _ (List.mem_of_getElem? (i := 40) rfl)
theorem tw41 {Z : State} {a0 : Array Value} (hw : ∀ d ∈ tables_1, d.before a0 Z = true) : (Jvm.Cond.methodLink "java/util/Arrays" (13 : Nat) ({ cls := "java/util/Arrays", name := "rangeCheck", desc := "(III)V" } : Jvm.MethodName)).before a0 Z = true := hw _ (List.mem_of_getElem? (i := 41) rfl)
theorem tw42 {Z : State} {a0 : Array Value} (hw : ∀ d ∈ tables_1, d.before a0 Z = true) : (Jvm.Cond.static ({ cls := "java/util/Arrays", name := "rangeCheck", desc := "(III)V" } : Jvm.MethodName)).before a0 Z = true := hw _ (List.mem_of_getElem? (i := 42) rfl)
theorem tw43 {Z : State} {a0 : Array Value} (hw : ∀ d ∈ tables_1, d.before a0 Z = true) : (Jvm.Cond.code ({ cls := "java/util/Arrays", name := "rangeCheck", desc := "(III)V" } : Jvm.MethodName) jdk_65_method_30_code (3 : Nat) (Option.none : Option Jvm.ClassFile.FieldType)).before a0 Z = true := hw _ (List.mem_of_getElem? (i := 43) rfl)
theorem tw44 {Z : State} {a0 : Array Value} (hw : ∀ d ∈ tables_1, d.before a0 Z = true) : (Jvm.Cond.methodLink "com/example/graphweft/graphweft/RangeMaxTreeFindPinLaw" (18 : Nat) ({ cls := "com/example/graphweft/graphweft/RangeMaxTree", name := "find", desc := "(IIJ)V" } : Jvm.MethodName)).before a0 Z = true := hw _ (List.mem_of_getElem? (i := 44) rfl)
theorem tw45 {Z : State} {a0 : Array Value} (hw : ∀ d ∈ tables_1, d.before a0 Z = true) : (Jvm.Cond.declares ({ cls := "com/example/graphweft/graphweft/RangeMaxTree", name := "find", desc := "(IIJ)V" } : Jvm.MethodName)).before a0 Z = true := hw _ (List.mem_of_getElem? (i := 45) rfl)
theorem tw46 {Z : State} {a0 : Array Value} (hw : ∀ d ∈ tables_1, d.before a0 Z = true) : (Jvm.Cond.instanceMethod ({ cls := "com/example/graphweft/graphweft/RangeMaxTree", name := "find", desc := "(IIJ)V" } : Jvm.MethodName)).before a0 Z = true := hw _ (List.mem_of_getElem? (i := 46) rfl)
theorem tw47 {Z : State} {a0 : Array Value} (hw : ∀ d ∈ tables_1, d.before a0 Z = true) : (Jvm.Cond.selects "com/example/graphweft/graphweft/RangeMaxTree" ({ cls := "com/example/graphweft/graphweft/RangeMaxTree", name := "find", desc := "(IIJ)V" } : Jvm.MethodName) ({ cls := "com/example/graphweft/graphweft/RangeMaxTree", name := "find", desc := "(IIJ)V" } : Jvm.MethodName)).before a0 Z = true := hw _ (List.mem_of_getElem? (i := 47) rfl)
theorem tw48 {Z : State} {a0 : Array Value} (hw : ∀ d ∈ tables_1, d.before a0 Z = true) : (Jvm.Cond.code ({ cls := "com/example/graphweft/graphweft/RangeMaxTree", name := "find", desc := "(IIJ)V" } : Jvm.MethodName) prog_32_method_8_code (10 : Nat) (Option.none : Option Jvm.ClassFile.FieldType)).before a0 Z = true := hw _ (List.mem_of_getElem? (i := 48) rfl)
theorem tw49 {Z : State} {a0 : Array Value} (hw : ∀ d ∈ tables_1, d.before a0 Z = true) : (Jvm.Cond.fieldLink "com/example/graphweft/graphweft/RangeMaxTree" (83 : Nat) "com/example/graphweft/graphweft/RangeMaxTree" "bound" "J").before a0 Z = true := hw _ (List.mem_of_getElem? (i := 49) rfl)
theorem tw50 {Z : State} {a0 : Array Value} (hw : ∀ d ∈ tables_1, d.before a0 Z = true) : (Jvm.Cond.lays "com/example/graphweft/graphweft/RangeMaxTree" "com/example/graphweft/graphweft/RangeMaxTree" "bound" "J").before a0 Z = true := hw _ (List.mem_of_getElem? (i := 50) rfl)
theorem tw51 {Z : State} {a0 : Array Value} (hw : ∀ d ∈ tables_1, d.before a0 Z = true) : (Jvm.Cond.fieldLink "com/example/graphweft/graphweft/RangeMaxTree" (87 : Nat) "com/example/graphweft/graphweft/RangeMaxTree" "spanStart" "I").before a0 Z = true := hw _ (List.mem_of_getElem? (i := 51) rfl)
theorem tw52 {Z : State} {a0 : Array Value} (hw : ∀ d ∈ tables_1, d.before a0 Z = true) : (Jvm.Cond.lays "com/example/graphweft/graphweft/RangeMaxTree" "com/example/graphweft/graphweft/RangeMaxTree" "spanStart" "I").before a0 Z = true := hw _ (List.mem_of_getElem? (i := 52) rfl)
theorem tw53 {Z : State} {a0 : Array Value} (hw : ∀ d ∈ tables_1, d.before a0 Z = true) : (Jvm.Cond.fieldLink "com/example/graphweft/graphweft/RangeMaxTree" (90 : Nat) "com/example/graphweft/graphweft/RangeMaxTree" "base" "I").before a0 Z = true := hw _ (List.mem_of_getElem? (i := 53) rfl)
theorem tw54 {Z : State} {a0 : Array Value} (hw : ∀ d ∈ tables_1, d.before a0 Z = true) : (Jvm.Cond.lays "com/example/graphweft/graphweft/RangeMaxTree" "com/example/graphweft/graphweft/RangeMaxTree" "base" "I").before a0 Z = true := hw _ (List.mem_of_getElem? (i := 54) rfl)
theorem tw55 {Z : State} {a0 : Array Value} (hw : ∀ d ∈ tables_1, d.before a0 Z = true) : (Jvm.Cond.fieldLink "com/example/graphweft/graphweft/RangeMaxTree" (93 : Nat) "com/example/graphweft/graphweft/RangeMaxTree" "blockCount" "I").before a0 Z = true := hw _ (List.mem_of_getElem? (i := 55) rfl)
theorem tw56 {Z : State} {a0 : Array Value} (hw : ∀ d ∈ tables_1, d.before a0 Z = true) : (Jvm.Cond.lays "com/example/graphweft/graphweft/RangeMaxTree" "com/example/graphweft/graphweft/RangeMaxTree" "blockCount" "I").before a0 Z = true := hw _ (List.mem_of_getElem? (i := 56) rfl)
theorem tw57 {Z : State} {a0 : Array Value} (hw : ∀ d ∈ tables_1, d.before a0 Z = true) : (Jvm.Cond.fieldLink "com/example/graphweft/graphweft/RangeMaxTree" (54 : Nat) "com/example/graphweft/graphweft/RangeMaxTree" "pendingCount" "I").before a0 Z = true := hw _ (List.mem_of_getElem? (i := 57) rfl)
theorem tw58 {Z : State} {a0 : Array Value} (hw : ∀ d ∈ tables_1, d.before a0 Z = true) : (Jvm.Cond.lays "com/example/graphweft/graphweft/RangeMaxTree" "com/example/graphweft/graphweft/RangeMaxTree" "pendingCount" "I").before a0 Z = true := hw _ (List.mem_of_getElem? (i := 58) rfl)
theorem tw59 {Z : State} {a0 : Array Value} (hw : ∀ d ∈ tables_1, d.before a0 Z = true) : (Jvm.Cond.fieldLink "com/example/graphweft/graphweft/RangeMaxTree" (48 : Nat) "com/example/graphweft/graphweft/RangeMaxTree" "scanEnd" "I").before a0 Z = true := hw _ (List.mem_of_getElem? (i := 59) rfl)
theorem tw60 {Z : State} {a0 : Array Value} (hw : ∀ d ∈ tables_1, d.before a0 Z = true) : (Jvm.Cond.lays "com/example/graphweft/graphweft/RangeMaxTree" "com/example/graphweft/graphweft/RangeMaxTree" "scanEnd" "I").before a0 Z = true := hw _ (List.mem_of_getElem? (i := 60) rfl)
theorem tw61 {Z : State} {a0 : Array Value} (hw : ∀ d ∈ tables_1, d.before a0 Z = true) : (Jvm.Cond.fieldLink "com/example/graphweft/graphweft/RangeMaxTree" (51 : Nat) "com/example/graphweft/graphweft/RangeMaxTree" "scanAt" "I").before a0 Z = true := hw _ (List.mem_of_getElem? (i := 61) rfl)
theorem tw62 {Z : State} {a0 : Array Value} (hw : ∀ d ∈ tables_1, d.before a0 Z = true) : (Jvm.Cond.lays "com/example/graphweft/graphweft/RangeMaxTree" "com/example/graphweft/graphweft/RangeMaxTree" "scanAt" "I").before a0 Z = true := hw _ (List.mem_of_getElem? (i := 62) rfl)
theorem tw63 {Z : State} {a0 : Array Value} (hw : ∀ d ∈ tables_1, d.before a0 Z = true) : (Jvm.Cond.fieldLink "com/example/graphweft/graphweft/RangeMaxTree" (45 : Nat) "com/example/graphweft/graphweft/RangeMaxTree" "tailAt" "I").before a0 Z = true := hw _ (List.mem_of_getElem? (i := 63) rfl)
theorem tw64 {Z : State} {a0 : Array Value} (hw : ∀ d ∈ tables_1, d.before a0 Z = true) : (Jvm.Cond.lays "com/example/graphweft/graphweft/RangeMaxTree" "com/example/graphweft/graphweft/RangeMaxTree" "tailAt" "I").before a0 Z = true := hw _ (List.mem_of_getElem? (i := 64) rfl)
theorem tw65 {Z : State} {a0 : Array Value} (hw : ∀ d ∈ tables_1, d.before a0 Z = true) : (Jvm.Cond.fieldLink "com/example/graphweft/graphweft/RangeMaxTree" (42 : Nat) "com/example/graphweft/graphweft/RangeMaxTree" "tailEnd" "I").before a0 Z = true := hw _ (List.mem_of_getElem? (i := 65) rfl)
theorem tw66 {Z : State} {a0 : Array Value} (hw : ∀ d ∈ tables_1, d.before a0 Z = true) : (Jvm.Cond.lays "com/example/graphweft/graphweft/RangeMaxTree" "com/example/graphweft/graphweft/RangeMaxTree" "tailEnd" "I").before a0 Z = true := hw _ (List.mem_of_getElem? (i := 66) rfl)
theorem tw67 {Z : State} {a0 : Array Value} (hw : ∀ d ∈ tables_1, d.before a0 Z = true) : (Jvm.Cond.methodLink "com/example/graphweft/graphweft/RangeMaxTreeFindPinLaw" (22 : Nat) ({ cls := "com/example/graphweft/graphweft/RangeMaxTree", name := "next", desc := "()I" } : Jvm.MethodName)).before a0 Z = true := hw _ (List.mem_of_getElem? (i := 67) rfl)
theorem tw68 {Z : State} {a0 : Array Value} (hw : ∀ d ∈ tables_1, d.before a0 Z = true) : (Jvm.Cond.declares ({ cls := "com/example/graphweft/graphweft/RangeMaxTree", name := "next", desc := "()I" } : Jvm.MethodName)).before a0 Z = true := hw _ (List.mem_of_getElem? (i := 68) rfl)
theorem tw69 {Z : State} {a0 : Array Value} (hw : ∀ d ∈ tables_1, d.before a0 Z = true) : (Jvm.Cond.instanceMethod ({ cls := "com/example/graphweft/graphweft/RangeMaxTree", name := "next", desc := "()I" } : Jvm.MethodName)).before a0 Z = true := hw _ (List.mem_of_getElem? (i := 69) rfl)
theorem tw70 {Z : State} {a0 : Array Value} (hw : ∀ d ∈ tables_1, d.before a0 Z = true) : (Jvm.Cond.selects "com/example/graphweft/graphweft/RangeMaxTree" ({ cls := "com/example/graphweft/graphweft/RangeMaxTree", name := "next", desc := "()I" } : Jvm.MethodName) ({ cls := "com/example/graphweft/graphweft/RangeMaxTree", name := "next", desc := "()I" } : Jvm.MethodName)).before a0 Z = true := hw _ (List.mem_of_getElem? (i := 70) rfl)
theorem tw71 {Z : State} {a0 : Array Value} (hw : ∀ d ∈ tables_1, d.before a0 Z = true) : (Jvm.Cond.code ({ cls := "com/example/graphweft/graphweft/RangeMaxTree", name := "next", desc := "()I" } : Jvm.MethodName) prog_32_method_9_code (2 : Nat) (Option.some Jvm.ClassFile.FieldType.int)).before a0 Z = true := hw _ (List.mem_of_getElem? (i := 71) rfl)
theorem tw72 {Z : State} {a0 : Array Value} (hw : ∀ d ∈ tables_1, d.before a0 Z = true) : (Jvm.Cond.methodLink "com/example/graphweft/graphweft/RangeMaxTreeFindPinLaw" (25 : Nat) ({ cls := "com/example/graphweft/graphweft/RangeMaxTreeFindPinLaw", name := "firstFrom", desc := "([JIIJ)I" } : Jvm.MethodName)).before a0 Z = true := hw _ (List.mem_of_getElem? (i := 72) rfl)
theorem tw73 {Z : State} {a0 : Array Value} (hw : ∀ d ∈ tables_1, d.before a0 Z = true) : (Jvm.Cond.static ({ cls := "com/example/graphweft/graphweft/RangeMaxTreeFindPinLaw", name := "firstFrom", desc := "([JIIJ)I" } : Jvm.MethodName)).before a0 Z = true := hw _ (List.mem_of_getElem? (i := 73) rfl)
theorem tw74 {Z : State} {a0 : Array Value} (hw : ∀ d ∈ tables_1, d.before a0 Z = true) : (Jvm.Cond.initialized "com/example/graphweft/graphweft/RangeMaxTreeFindPinLaw").before a0 Z = true := hw _ (List.mem_of_getElem? (i := 74) rfl)
theorem tw75 {Z : State} {a0 : Array Value} (hw : ∀ d ∈ tables_1, d.before a0 Z = true) : (Jvm.Cond.code ({ cls := "com/example/graphweft/graphweft/RangeMaxTreeFindPinLaw", name := "firstFrom", desc := "([JIIJ)I" } : Jvm.MethodName) method_2_code (5 : Nat) (Option.some Jvm.ClassFile.FieldType.int)).before a0 Z = true := hw _ (List.mem_of_getElem? (i := 75) rfl)
theorem tw76 {Z : State} {a0 : Array Value} (hw : ∀ d ∈ tables_1, d.before a0 Z = true) : (Jvm.Cond.methodLink "com/example/graphweft/graphweft/RangeMaxTreeFindPinLaw" (10 : Nat) ({ cls := "com/example/graphweft/graphweft/RangeMaxTree", name := "add", desc := "(J)V" } : Jvm.MethodName)).before a0 Z = true := hw _ (List.mem_of_getElem? (i := 76) rfl)
theorem tw77 {Z : State} {a0 : Array Value} (hw : ∀ d ∈ tables_1, d.before a0 Z = true) : (Jvm.Cond.declares ({ cls := "com/example/graphweft/graphweft/RangeMaxTree", name := "add", desc := "(J)V" } : Jvm.MethodName)).before a0 Z = true := hw _ (List.mem_of_getElem? (i := 77) rfl)
theorem tw78 {Z : State} {a0 : Array Value} (hw : ∀ d ∈ tables_1, d.before a0 Z = true) : (Jvm.Cond.instanceMethod ({ cls := "com/example/graphweft/graphweft/RangeMaxTree", name := "add", desc := "(J)V" } : Jvm.MethodName)).before a0 Z = true := hw _ (List.mem_of_getElem? (i := 78) rfl)
theorem tw79 {Z : State} {a0 : Array Value} (hw : ∀ d ∈ tables_1, d.before a0 Z = true) : (Jvm.Cond.selects "com/example/graphweft/graphweft/RangeMaxTree" ({ cls := "com/example/graphweft/graphweft/RangeMaxTree", name := "add", desc := "(J)V" } : Jvm.MethodName) ({ cls := "com/example/graphweft/graphweft/RangeMaxTree", name := "add", desc := "(J)V" } : Jvm.MethodName)).before a0 Z = true := hw _ (List.mem_of_getElem? (i := 79) rfl)
theorem tw80 {Z : State} {a0 : Array Value} (hw : ∀ d ∈ tables_1, d.before a0 Z = true) : (Jvm.Cond.code ({ cls := "com/example/graphweft/graphweft/RangeMaxTree", name := "add", desc := "(J)V" } : Jvm.MethodName) prog_32_method_4_code (3 : Nat) (Option.none : Option Jvm.ClassFile.FieldType)).before a0 Z = true := hw _ (List.mem_of_getElem? (i := 80) rfl)
theorem tw81 {Z : State} {a0 : Array Value} (hw : ∀ d ∈ tables_1, d.before a0 Z = true) : (Jvm.Cond.methodLink "com/example/graphweft/graphweft/RangeMaxTree" (80 : Nat) ({ cls := "java/lang/Math", name := "max", desc := "(JJ)J" } : Jvm.MethodName)).before a0 Z = true := hw _ (List.mem_of_getElem? (i := 81) rfl)
theorem tw82 {Z : State} {a0 : Array Value} (hw : ∀ d ∈ tables_1, d.before a0 Z = true) : (Jvm.Cond.static ({ cls := "java/lang/Math", name := "max", desc := "(JJ)J" } : Jvm.MethodName)).before a0 Z = true := hw _ (List.mem_of_getElem? (i := 82) rfl)
theorem tw83 {Z : State} {a0 : Array Value} (hw : ∀ d ∈ tables_1, d.before a0 Z = true) : (Jvm.Cond.initialized "java/lang/Math").before a0 Z = true := hw _ (List.mem_of_getElem? (i := 83) rfl)
theorem tw84 {Z : State} {a0 : Array Value} (hw : ∀ d ∈ tables_1, d.before a0 Z = true) : (Jvm.Cond.code ({ cls := "java/lang/Math", name := "max", desc := "(JJ)J" } : Jvm.MethodName) jdk_29_method_66_code (4 : Nat) (Option.some Jvm.ClassFile.FieldType.long)).before a0 Z = true := hw _ (List.mem_of_getElem? (i := 84) rfl)
theorem tw85 {Z : State} {a0 : Array Value} (hw : ∀ d ∈ tables_1, d.before a0 Z = true) : (Jvm.Cond.methodLink "com/example/graphweft/graphweft/RangeMaxTree" (96 : Nat) ({ cls := "com/example/graphweft/graphweft/RangeMaxTree", name := "lookInto", desc := "(I)V" } : Jvm.MethodName)).before a0 Z = true := hw _ (List.mem_of_getElem? (i := 85) rfl)
theorem tw86 {Z : State} {a0 : Array Value} (hw : ∀ d ∈ tables_1, d.before a0 Z = true) : (Jvm.Cond.instanceMethod ({ cls := "com/example/graphweft/graphweft/RangeMaxTree", name := "lookInto", desc := "(I)V" } : Jvm.MethodName)).before a0 Z = true := hw _ (List.mem_of_getElem? (i := 86) rfl)
theorem tw87 {Z : State} {a0 : Array Value} (hw : ∀ d ∈ tables_1, d.before a0 Z = true) : (Jvm.Cond.privateMethod ({ cls := "com/example/graphweft/graphweft/RangeMaxTree", name := "lookInto", desc := "(I)V" } : Jvm.MethodName)).before a0 Z = true := hw _ (List.mem_of_getElem? (i := 87) rfl)
theorem tw88 {Z : State} {a0 : Array Value} (hw : ∀ d ∈ tables_1, d.before a0 Z = true) : (Jvm.Cond.code ({ cls := "com/example/graphweft/graphweft/RangeMaxTree", name := "lookInto", desc := "(I)V" } : Jvm.MethodName) prog_32_method_10_code (2 : Nat) (Option.none : Option Jvm.ClassFile.FieldType)).before a0 Z = true := hw _ (List.mem_of_getElem? (i := 88) rfl)
abbrev mn0 : MethodName := ⟨"java/lang/Math", "max", "(JJ)J"⟩
abbrev mn1 : MethodName := ⟨"com/example/graphweft/graphweft/RangeMaxTree", "<init>", "()V"⟩
abbrev mn2 : MethodName := ⟨"com/example/graphweft/graphweft/RangeMaxTree", "add", "(J)V"⟩
abbrev mn3 : MethodName := ⟨"java/util/Arrays", "rangeCheck", "(III)V"⟩
abbrev mn4 : MethodName := ⟨"java/util/Arrays", "fill", "([JIIJ)V"⟩
abbrev mn5 : MethodName := ⟨"com/example/graphweft/graphweft/RangeMaxTree", "index", "()I"⟩
abbrev mn6 : MethodName := ⟨"com/example/graphweft/graphweft/RangeMaxTree", "find", "(IIJ)V"⟩
abbrev mn7 : MethodName := ⟨"com/example/graphweft/graphweft/RangeMaxTree", "lookInto", "(I)V"⟩
abbrev mn8 : MethodName := ⟨"com/example/graphweft/graphweft/RangeMaxTree", "next", "()I"⟩
abbrev mn9 : MethodName := ⟨"com/example/graphweft/graphweft/RangeMaxTreeFindPinLaw", "firstFrom", "([JIIJ)I"⟩
abbrev vi (x : Int32) : Slot := .val (.int x)
abbrev vj (x : Int64) : Slot := .val (.long x)
abbrev vr (x : Addr) : Slot := .val (.ref x)
abbrev sd : Slot := .second
abbrev un : Slot := .unset
section Own
variable {p : Program} {l : Launch} {e : Env} {R : Room} {s : State} {m : MethodId} {args : Array Value} {below : List Frame} {meth : Method} {c : Code} {T : State} {locs : List Loc} {cells slots : Nat} {Z : State} {a0 : Array Value} {h h' : Heap}
/-- from S the walk comes to the method's end, where Q holds of what is returned, the heap and the written places -/
def OEnds (p : Program) (e : Env) (below : List Frame) (s : State) (Q : Option Value → Heap → List Loc → Prop) (K N : Nat) (S : State) : Prop :=
  ∃ s₂ o, Steps p.tables e below S s₂ ∧ s₂.status = .running ∧ Ended s₂ below o ∧ ∃ v L, o = .returned v ∧ Q v s₂.heap L ∧ FrameEnd s o s₂ L K N
variable {Q Q' : Option Value → Heap → List Loc → Prop} {K N : Nat} {S S' : State}
theorem own_by (st : ∀ t, Steps p.tables e below S' t → Steps p.tables e below S t) (k : OEnds p e below s Q K N S') : OEnds p e below s Q K N S := by
  obtain ⟨a, o, h1, h2⟩ := k
  exact ⟨a, o, st _ h1, h2⟩
theorem own_tr (st : Steps p.tables e below S S') (k : OEnds p e below s Q K N S') : OEnds p e below s Q K N S := by
  obtain ⟨a, o, h1, h2⟩ := k
  exact ⟨a, o, st.trans h1, h2⟩
theorem own_mono (f : ∀ v h L, Q' v h L → Q v h L) (k : OEnds p e below s Q' K N S) : OEnds p e below s Q K N S := by
  obtain ⟨a, o, h1, h2, h3, v, L, h4, h5, h6⟩ := k
  exact ⟨a, o, h1, h2, h3, v, L, h4, f _ _ _ h5, h6⟩
theorem own_fin (X : Stand p l e R s m args below meth c T locs cells slots) (hlk : meth.locks = false) {v : Option Value} (hv : meth.sig.returnType = none → v = none) (hQ : Q v T.heap locs) (hK : cells ≤ K) (hN : slots ≤ N)
    (hst : ∀ fs, (∀ (f : JFrame) (acts : List Action), f.method = m → f.locked = none → f.entered = [] → (doReturn e (T.setTop f) acts v).1 = T.setFrames fs) → Steps p.tables e below S (T.setFrames fs)) : OEnds p e below s Q K N S := by
  obtain ⟨fs, hr, hrun, hended, hW, hsame⟩ := X.leave hv hlk
  exact ⟨_, _, hst fs hr, hrun, hended, _, _, rfl, hQ, ⟨_, rfl⟩, hW, hsame.mono hK hN⟩
theorem own_retI (X : Stand p l e R s m args below meth c T locs cells slots) (hx : p.tables.exec = Jvm.exec) (hlk : meth.locks = false) {pc : Nat} {Ls : Array Slot} {z : Int32} {rest : List Value} (hret : meth.sig.returnType = some .int) (hd : decode c.code pc = .ok (.ireturn, 1))
    (hQ : Q (some (.int z)) T.heap locs) (hK : cells ≤ K) (hN : slots ≤ N) : OEnds p e below s Q K N (T.setTop (mkF m pc Ls (.int z :: rest))) :=
  own_fin X hlk (fun q => by rw [hret] at q; cases q) hQ hK hN fun _ hr => retOut X hx hret rfl (Or.inl ⟨rfl, Or.inl rfl, _, rfl⟩) hd hr
theorem own_retN (X : Stand p l e R s m args below meth c T locs cells slots) (hx : p.tables.exec = Jvm.exec) (hlk : meth.locks = false) (t : FieldType) (ht : t = .boolean ∨ t = .byte ∨ t = .char ∨ t = .short) {pc : Nat} {Ls : Array Slot} {z : Int32} {rest : List Value} (hret : meth.sig.returnType = some t) (hd : decode c.code pc = .ok (.ireturn, 1))
    (hQ : Q (some (.int (nar t z))) T.heap locs) (hK : cells ≤ K) (hN : slots ≤ N) : OEnds p e below s Q K N (T.setTop (mkF m pc Ls (.int z :: rest))) :=
  own_fin X hlk (fun q => by rw [hret] at q; cases q) hQ hK hN fun _ hr => retN X hx hret ht hd hr
theorem own_retJ (X : Stand p l e R s m args below meth c T locs cells slots) (hx : p.tables.exec = Jvm.exec) (hlk : meth.locks = false) {pc : Nat} {Ls : Array Slot} {z : Int64} {rest : List Value} (hret : meth.sig.returnType = some .long) (hd : decode c.code pc = .ok (.lreturn, 1))
    (hQ : Q (some (.long z)) T.heap locs) (hK : cells ≤ K) (hN : slots ≤ N) : OEnds p e below s Q K N (T.setTop (mkF m pc Ls (.long z :: rest))) :=
  own_fin X hlk (fun q => by rw [hret] at q; cases q) hQ hK hN fun _ hr => retOut X hx hret rfl (Or.inr (Or.inl ⟨rfl, rfl, _, rfl⟩)) hd hr
theorem own_retA (X : Stand p l e R s m args below meth c T locs cells slots) (hx : p.tables.exec = Jvm.exec) (hlk : meth.locks = false) {t : FieldType} (ht : t.isReference = true) {pc : Nat} {Ls : Array Slot} {a : Addr} {rest : List Value} (hret : meth.sig.returnType = some t) (hn : narrow t (.ref a) = .ref a) (hd : decode c.code pc = .ok (.areturn, 1))
    (hQ : Q (some (.ref a)) T.heap locs) (hK : cells ≤ K) (hN : slots ≤ N) : OEnds p e below s Q K N (T.setTop (mkF m pc Ls (.ref a :: rest))) :=
  own_fin X hlk (fun q => by rw [hret] at q; cases q) hQ hK hN fun _ hr => retOut X hx hret hn (Or.inr (Or.inr (Or.inr (Or.inr ⟨rfl, ht, rfl⟩)))) hd hr
theorem own_retV (X : Stand p l e R s m args below meth c T locs cells slots) (hx : p.tables.exec = Jvm.exec) (hlk : meth.locks = false) {pc : Nat} {Ls : Array Slot} (hret : meth.sig.returnType = none) (hd : decode c.code pc = .ok (.return_, 1))
    (hQ : Q none T.heap locs) (hK : cells ≤ K) (hN : slots ≤ N) : OEnds p e below s Q K N (T.setTop (mkF m pc Ls [])) :=
  own_fin X hlk (fun _ => rfl) hQ hK hN fun _ hr => X.returnOut hx hret hd hr
theorem own_get (X : Stand p l e R s m args below meth c T locs cells slots) (hx : p.tables.exec = Jvm.exec) (hZ : Z.Warmed39 s.vm) {own R0 n d : String} {index : Nat} (hown : s.vm.findClass own = some m.cls) (w : (Cond.fieldLink own index R0 n d).before a0 Z = true) (eT : T.heap = h) {a : Addr} {v : Value} (F : Fld Z h a R0 n d v) {g : JFrame} (hg : g.method = m) {rest : List Value} (hs : g.stack = .ref a :: rest) (hd : decode c.code g.pc = .ok (.getfield index, 3))
    (k : ∀ T', Stand p l e R s m args below meth c T' locs cells slots → T'.heap = h → OEnds p e below s Q K N (T'.setTop { g with pc := g.pc + 3, stack := v :: rest })) : OEnds p e below s Q K N (T.setTop g) := by
  obtain ⟨T', X', e', st⟩ := getF X hx hZ hown (host := "") (Or.inl w) Via.refl eT F hg hs hd
  exact own_by st (k T' X' e')
/-- what a plain method leaves: its value, nothing written, the heap as it was -/
def QP (r : Value) (h0 : Heap) (v : Option Value) (h : Heap) (L : List Loc) : Prop := v = some r ∧ L = [] ∧ h = h0
theorem own_eq {r r' : Value} {h0 : Heap} (q : r = r') (k : OEnds p e below s (QP r' h0) K N S) : OEnds p e below s (QP r h0) K N S := by subst q; exact k
theorem own_lrem {g : JFrame} {target : State} (X : Stand p l e R s m args below meth c T locs cells slots) (hx : p.tables.exec = Jvm.exec) (hg : g.method = m) {x y : Int64} {rest : List Value} (hd : decode c.code g.pc = .ok (.lrem, 1)) (hs : g.stack = .long y :: .long x :: rest) (hy : y ≠ 0)
    (hr : Steps p.tables e below (T.setTop { g with pc := g.pc + 1, stack := .long (x % y) :: rest }) target) : Steps p.tables e below (T.setTop g) target := by
  have q : x - x / y * y = x % y := lrem_mod x y
  exact XS.lrem X.here hx hg hd hs hy (by rw [q]; exact hr)
/-- a call of a plain static method by its contract -/
theorem own_callP (X : Stand p l e R s m args below meth c T locs cells slots) (hx : p.tables.exec = Jvm.exec) (hZ : Z.Warmed39 s.vm) {own : String} {index : Nat} {y : MethodName} {bytes : ByteArray} {maxL : Nat} {ret : Option FieldType} {fr lo : Nat} {r : Value} {argsL rest : List Value} {g : JFrame}
    (hown : s.vm.findClass own = some m.cls) (w1 : (Cond.methodLink own index y).before a0 Z = true) (w2 : (Cond.static y).before a0 Z = true) (w3 : (Cond.initialized y.cls).before a0 Z = true) (w4 : (Cond.code y bytes maxL ret).before a0 Z = true)
    (hy : y.cls ≠ "java/lang/invoke/MethodHandle" ∧ y.cls ≠ "java/lang/invoke/VarHandle")
    (hM : MetFree l y (head1 [Cond.code y bytes maxL ret] ({ frames := fr, cells := 0, slots := 0, locals := lo } : Room)) (fun a U => a = argsL.toArray ∧ Z.Warmed39 U.vm ∧ U.heap = h) (fun _ _ _ _ _ => True) (fun _ U o U' => ∃ v L, o = .returned v ∧ QP r h v U'.heap L ∧ FrameEnd U o U' L 0 0))
    (eT : T.heap = h) (hg : g.method = m) (hsize : g.locals.size = c.maxLocals) (hlen : ∀ sig, parseMethodDescriptor y.desc = some sig → argsL.length = sig.parameters.length) (hstack : g.stack = argsL.reverse ++ rest) {W : Nat} (hW : 2 * g.monitorRoom + (rest.map fun v => v.category).sum ≤ W)
    (hd : decode c.code g.pc = .ok (.invokestatic index, 3)) (hf : fr + 1 ≤ R.frames) (hl : W + (maxL + 11) + lo ≤ R.locals) (hc : cells ≤ R.cells) (hs : slots ≤ R.slots) :
    ∃ T', Stand p l e R s m args below meth c T' locs cells slots ∧ T'.heap = h ∧ ∀ target, Steps p.tables e below (T'.setTop { g with pc := g.pc + 3, stack := r :: rest }) target → Steps p.tables e below (T.setTop g) target := by
  obtain ⟨_, _, ⟨T1, L1, k1, n1⟩, -, X1, ⟨Lc, hQ, l1, y1, z1⟩, st⟩ := Jvm.LawKit.callS X hx (y := y) hown (mvT hZ w1) (mvT hZ w2) (mvT hZ w3) (mvT hZ w4) hy (backOf (rm := ({ frames := fr, cells := 0, slots := 0, locals := lo } : Room)) (W := W) hM hZ w4 w3 hf hl) (g := g) hg hsize (argsL := argsL) (rest := rest) hlen hstack hW hd (fun _ _ => ⟨rfl, eT, hc, hs⟩)
  dsimp only [Pt.U, Pt.locs, Pt.cells, Pt.slots] at X1 l1 y1 z1 st hQ
  subst l1 y1 z1
  obtain ⟨rfl, rfl, e1⟩ := hQ
  rw [List.append_nil] at X1
  exact ⟨T1, X1, e1, st⟩
end Own
section Own2
variable {p : Program} {l : Launch} {e : Env} {R : Room} {s : State} {m : MethodId} {args : Array Value} {below : List Frame} {meth : Method} {c : Code} {T : State} {locs : List Loc} {cells slots : Nat} {Z : State} {a0 : Array Value} {h h' : Heap}
  {a b : Addr} {C : String} {sch : List (String × String)} {vs : List Value} {ws : List Addr} {sl : Nat} {v : Value}
/-- the object at a is exactly a C, and its fields (in the order of sch) hold vs -/
def Obj (Z : State) (h : Heap) (a : Addr) (C : String) (sch : List (String × String)) (vs : List Value) : Prop :=
  Exa Z h a C ∧ ∀ (i : Nat) (n d : String) (v : Value), sch[i]? = some (n, d) → vs[i]? = some v → Fld Z h a C n d v
def SchOk (Z : State) (a0 : Array Value) (C : String) (sch : List (String × String)) : Prop :=
  (∀ q ∈ sch, Laid Z a0 C C q.1 q.2) ∧ (∀ q ∈ sch, (parseFieldDescriptor q.2).isSome = true) ∧ (sch.map (·.1)).Nodup
theorem Obj.exa (O : Obj Z h a C sch vs) : Exa Z h a C := O.1
theorem Obj.lt (O : Obj Z h a C sch vs) : a < h.size := O.1.lt
theorem Obj.fld (O : Obj Z h a C sch vs) (i : Nat) {n d : String} {v : Value} (h1 : sch[i]? = some (n, d)) (h2 : vs[i]? = some v) : Fld Z h a C n d v := O.2 i n d v h1 h2
theorem Obj.ext (O : Obj Z h a C sch vs) (E : Ext h h') : Obj Z h' a C sch vs := ⟨O.1.ext E, fun i n d v h1 h2 => (O.2 i n d v h1 h2).ext E⟩
theorem Obj.other (O : Obj Z h b C sch vs) (W : Wr h h' a sl v) (q : b ≠ a) : Obj Z h' b C sch vs := ⟨O.1.wr W, fun i n d v h1 h2 => (O.2 i n d v h1 h2).other W (Or.inl q)⟩
theorem Obj.keep (O : Obj Z h a C sch vs) (K : Keep h h' ws) (q : a ∉ ws) : Obj Z h' a C sch vs := ⟨O.1.keep K, fun i n d v h1 h2 => (O.2 i n d v h1 h2).keep K q⟩
theorem sch_ne (S : SchOk Z a0 C sch) {i j : Nat} {n d n' d' : String} (hi : sch[i]? = some (n, d)) (hj : sch[j]? = some (n', d')) (ne : i ≠ j) : n ≠ n' := by
  intro q
  have h3 := S.2.2
  rw [List.nodup_iff_pairwise_ne, List.pairwise_iff_getElem] at h3
  have e1 : (sch.map (·.1))[i]? = some n := by rw [List.getElem?_map, hi]; rfl
  have e2 : (sch.map (·.1))[j]? = some n' := by rw [List.getElem?_map, hj]; rfl
  obtain ⟨l1, f1⟩ := List.getElem?_eq_some_iff.mp e1
  obtain ⟨l2, f2⟩ := List.getElem?_eq_some_iff.mp e2
  rcases Nat.lt_or_gt_of_ne ne with k | k
  · exact h3 i j l1 l2 k (by rw [f1, f2, q])
  · exact h3 j i l2 l1 k (by rw [f1, f2, q])
theorem sch_ty (S : SchOk Z a0 C sch) {i : Nat} {n d : String} (hi : sch[i]? = some (n, d)) : ∃ t, parseFieldDescriptor d = some t :=
  Option.isSome_iff_exists.mp (S.2.1 _ (List.mem_of_getElem? hi))
theorem Obj.set (O : Obj Z h a C sch vs) (S : SchOk Z a0 C sch) {n d : String} (W : Wr h h' a (Jvm.RoadKit.slotOf Z C n d) v) (i : Nat) (hi : sch[i]? = some (n, d)) (hl : i < vs.length) : Obj Z h' a C sch (vs.set i v) := by
  refine ⟨O.1.wr W, fun j n' d' w h1 h2 => ?_⟩
  by_cases q : j = i
  · subst q
    cases hi.symm.trans h1
    rw [List.getElem?_set_self hl] at h2
    cases h2
    exact Fld.same W (O.2 j n d _ hi (List.getElem?_eq_getElem hl))
  · rw [List.getElem?_set_ne (Ne.symm q)] at h2
    obtain ⟨t, ht⟩ := sch_ty S hi
    obtain ⟨t', ht'⟩ := sch_ty S h1
    have L1 : Laid Z a0 C C n' d' := S.1 (n', d') (List.mem_of_getElem? h1)
    have L2 : Laid Z a0 C C n d := S.1 (n, d) (List.mem_of_getElem? hi)
    exact Fld.other W (O.2 j n' d' w h1 h2) (Or.inr (slot_ne L1 L2 (sch_ne S h1 hi q) ht' ht))
theorem Obj.new (S : SchOk Z a0 C sch) (A : Exa Z h a C) (D : ∀ {O nm d : String} {ty : FieldType}, Laid Z a0 C O nm d → parseFieldDescriptor d = some ty → Fld Z h a O nm d (defaultValue ty)) (tys : List FieldType) (ht : sch.map (fun q => parseFieldDescriptor q.2) = tys.map some) : Obj Z h a C sch (tys.map defaultValue) := by
  refine ⟨A, fun i n d v h1 h2 => ?_⟩
  rw [List.getElem?_map] at h2
  have e1 : (sch.map (fun q => parseFieldDescriptor q.2))[i]? = some (parseFieldDescriptor d) := by rw [List.getElem?_map, h1]; rfl
  rw [ht, List.getElem?_map] at e1
  cases hq : tys[i]? with
  | none => rw [hq] at e1; cases e1
  | some t =>
    rw [hq] at e1 h2
    cases h2
    have e2 : some (some t) = some (parseFieldDescriptor d) := e1
    exact D (O := C) (nm := n) (d := d) (ty := t) (S.1 (n, d) (List.mem_of_getElem? h1)) (Option.some.inj e2).symm
/-- an array of n places whose i-th holds f i -/
def FA (Z : State) (h : Heap) (a : Addr) (ty : FieldType) (n : Nat) (f : Nat → Value) : Prop :=
  ∃ c : Cell, Arr Z h a c ty ∧ c.slots.size = n ∧ n < 2 ^ 31 ∧ ∀ i, i < n → c.slots[i]? = some (f i)
variable {ty ty' : FieldType} {n n' : Nat} {f f' : Nat → Value}
theorem FA.lt (F : FA Z h a ty n f) : a < h.size := by obtain ⟨c, A, -⟩ := F; exact A.lt
theorem FA.ext (F : FA Z h a ty n f) (E : Ext h h') : FA Z h' a ty n f := by obtain ⟨c, A, r⟩ := F; exact ⟨c, A.ext E, r⟩
theorem FA.other (F : FA Z h b ty n f) (W : Wr h h' a sl v) (q : b ≠ a) : FA Z h' b ty n f := by obtain ⟨c, A, r⟩ := F; exact ⟨c, A.other W q, r⟩
theorem FA.keep (F : FA Z h a ty n f) (K : Keep h h' ws) (q : a ∉ ws) : FA Z h' a ty n f := by obtain ⟨c, A, r⟩ := F; exact ⟨c, ⟨K.2.1 _ _ A.1 q, A.2⟩, r⟩
theorem FA.congr (F : FA Z h a ty n f) (q : ∀ i, i < n → f i = f' i) : FA Z h a ty n f' := by
  obtain ⟨c, A, r1, r2, r3⟩ := F
  exact ⟨c, A, r1, r2, fun i hi => by rw [r3 i hi, q i hi]⟩
theorem FA.new {k : ClassId} {z : Int32} (A : Arr Z h a (newA k ty z) ty) (q : ¬ z < 0) (hn : z.toNatClampNeg = n) {d : Value} (hd : defaultValue ty = d) : FA Z h a ty n (fun _ => d) := by
  subst hn hd
  refine ⟨_, A, sz_new _ _ _, (back32 q).2, fun i hi => ?_⟩
  show (Array.replicate z.toNatClampNeg (defaultValue ty))[i]? = _
  simp [hi]
theorem FA.set (F : FA Z h a ty n f) {k : Nat} (W : Wr h h' a k v) : FA Z h' a ty n (fun i => if i = k then v else f i) := by
  obtain ⟨c, A, r1, r2, r3⟩ := F
  refine ⟨c.setSlot k v, A.same W, by rw [sz_set]; exact r1, r2, fun i hi => ?_⟩
  show (c.slots.setIfInBounds k v)[i]? = _
  by_cases q : i = k
  · subst q; simp [r1, hi]
  · rw [Array.getElem?_setIfInBounds_ne (Ne.symm q), r3 i hi]; simp [q]
theorem FA.ne_ty (F : FA Z h a ty n f) (G : FA Z h b ty' n' f') (q : ty ≠ ty') : a ≠ b := fun e => by
  subst e
  obtain ⟨c, A, -⟩ := F
  obtain ⟨c', A', -⟩ := G
  cases A.1.symm.trans A'.1
  obtain ⟨-, k1, j1, comp, j2⟩ := A.2.1
  obtain ⟨-, k2, i1, comp', i2⟩ := A'.2.1
  cases j1.symm.trans i1
  rw [j2] at i2
  cases i2
  exact q rfl
theorem Obj.ne_fa {kk : Nat} (O : Obj Z h a C sch vs) (wi : (Cond.instantiable C kk).before a0 Z = true) (F : FA Z h b ty n f) : a ≠ b := by
  obtain ⟨c, A, -⟩ := F
  exact ne_arr O.1 wi A
theorem nat_at {j : Int32} {k : Nat} (hk : j.toInt = (k : Int)) : j.toNatClampNeg = k ∧ ¬ j < 0 := by
  refine ⟨by show j.toInt.toNat = k; rw [hk]; rfl, fun q => ?_⟩
  rw [Int32.lt_iff_toInt_lt, hk] at q
  have : (0 : Int32).toInt = 0 := by decide
  omega
theorem inb {j : Int32} {k : Nat} {c : Cell} (hk : j.toInt = (k : Int)) (hn : c.slots.size = n) (hl : k < n) : ¬ (j < 0 ∨ c.slots.size ≤ j.toNatClampNeg) := by
  obtain ⟨h1, h2⟩ := nat_at hk
  rw [h1, hn]
  rintro (q | q)
  · exact h2 q
  · omega
theorem own_laload (X : Stand p l e R s m args below meth c T locs cells slots) (hx : p.tables.exec = Jvm.exec) (hZ : Z.Warmed39 s.vm) (eT : T.heap = h) (F : FA Z h a .long n f) {j : Int32} (k : Nat) (hk : j.toInt = (k : Int)) (hl : k < n) (hv : f k = v)
    {g : JFrame} (hg : g.method = m) {rest : List Value} (hs : g.stack = .int j :: .ref a :: rest) (hd : decode c.code g.pc = .ok (.laload, 1)) : ∀ target, Steps p.tables e below (T.setTop { g with pc := g.pc + 1, stack := v :: rest }) target → Steps p.tables e below (T.setTop g) target := by
  obtain ⟨cl, A, r1, r2, r3⟩ := F
  exact fun t k' => X.laload hx (by rw [eT]; exact A.1) (State.isArrayOf_alike hZ.alike A.2.1) A.2.2 (inb hk r1 hl) (by rw [(nat_at hk).1, r3 k hl, hv]) hg hs hd t k'
theorem own_iaload (X : Stand p l e R s m args below meth c T locs cells slots) (hx : p.tables.exec = Jvm.exec) (hZ : Z.Warmed39 s.vm) (eT : T.heap = h) (F : FA Z h a .int n f) {j : Int32} (k : Nat) (hk : j.toInt = (k : Int)) (hl : k < n) (hv : f k = v)
    {g : JFrame} (hg : g.method = m) {rest : List Value} (hs : g.stack = .int j :: .ref a :: rest) (hd : decode c.code g.pc = .ok (.iaload, 1)) : ∀ target, Steps p.tables e below (T.setTop { g with pc := g.pc + 1, stack := v :: rest }) target → Steps p.tables e below (T.setTop g) target := by
  obtain ⟨cl, A, r1, r2, r3⟩ := F
  exact fun t k' => X.iaload hx (by rw [eT]; exact A.1) (State.isArrayOf_alike hZ.alike A.2.1) A.2.2 (inb hk r1 hl) (by rw [(nat_at hk).1, r3 k hl, hv]) hg hs hd t k'
theorem own_baload (X : Stand p l e R s m args below meth c T locs cells slots) (hx : p.tables.exec = Jvm.exec) (hZ : Z.Warmed39 s.vm) (eT : T.heap = h) (F : FA Z h a .byte n f) {j : Int32} (k : Nat) (hk : j.toInt = (k : Int)) (hl : k < n) (hv : f k = v)
    {g : JFrame} (hg : g.method = m) {rest : List Value} (hs : g.stack = .int j :: .ref a :: rest) (hd : decode c.code g.pc = .ok (.baload, 1)) : ∀ target, Steps p.tables e below (T.setTop { g with pc := g.pc + 1, stack := v :: rest }) target → Steps p.tables e below (T.setTop g) target := by
  obtain ⟨cl, A, r1, r2, r3⟩ := F
  exact fun t k' => X.baloadBytes hx (by rw [eT]; exact A.1) (State.isArrayOf_alike hZ.alike A.2.1) A.2.2 (inb hk r1 hl) (by rw [(nat_at hk).1, r3 k hl, hv]) hg hs hd t k'
theorem own_aaload (X : Stand p l e R s m args below meth c T locs cells slots) (hx : p.tables.exec = Jvm.exec) (hZ : Z.Warmed39 s.vm) (eT : T.heap = h) (F : FA Z h a ty n f) (hty : ty.isReference = true) {j : Int32} (k : Nat) (hk : j.toInt = (k : Int)) (hl : k < n) (hv : f k = v)
    {g : JFrame} (hg : g.method = m) {rest : List Value} (hs : g.stack = .int j :: .ref a :: rest) (hd : decode c.code g.pc = .ok (.aaload, 1)) : ∀ target, Steps p.tables e below (T.setTop { g with pc := g.pc + 1, stack := v :: rest }) target → Steps p.tables e below (T.setTop g) target := by
  obtain ⟨cl, A, r1, r2, r3⟩ := F
  exact fun t k' => X.aaload hx (by rw [eT]; exact A.1) (State.isArrayOf_alike hZ.alike A.2.1) hty A.2.2 (inb hk r1 hl) (by rw [(nat_at hk).1, r3 k hl, hv]) hg hs hd t k'
theorem own_len (X : Stand p l e R s m args below meth c T locs cells slots) (hx : p.tables.exec = Jvm.exec) (hZ : Z.Warmed39 s.vm) (eT : T.heap = h) (F : FA Z h a ty n f) {z : Int32} (hz : n.toInt32 = z)
    {g : JFrame} (hg : g.method = m) {rest : List Value} (hs : g.stack = .ref a :: rest) (hd : decode c.code g.pc = .ok (.arraylength, 1)) : ∀ target, Steps p.tables e below (T.setTop { g with pc := g.pc + 1, stack := .int z :: rest }) target → Steps p.tables e below (T.setTop g) target := by
  obtain ⟨cl, A, r1, r2, r3⟩ := F
  refine fun t k' => X.arraylength hx (by rw [eT]; exact A.1) (State.isArrayOf_alike hZ.alike A.2.1) hg hs hd t ?_
  rw [r1, hz]; exact k'
theorem own_iastore (X : Stand p l e R s m args below meth c T locs cells slots) (hx : p.tables.exec = Jvm.exec) (hZ : Z.Warmed39 s.vm) (eT : T.heap = h) (F : FA Z h a .int n f) {j x : Int32} (k : Nat) (hk : j.toInt = (k : Int)) (hl : k < n)
    {g : JFrame} (hg : g.method = m) {rest : List Value} (hs : g.stack = .int x :: .int j :: .ref a :: rest) (hd : decode c.code g.pc = .ok (.iastore, 1)) :
    ∃ T' h', Stand p l e R s m args below meth c T' (locs ++ [⟨a, k⟩]) cells slots ∧ T'.heap = h' ∧ Wr h h' a k (.int x) ∧ ∀ target, Steps p.tables e below (T'.setTop { g with pc := g.pc + 1, stack := rest }) target → Steps p.tables e below (T.setTop g) target := by
  obtain ⟨cl, A, r1, r2, r3⟩ := F
  have q := stI X hx hZ eT A (x := x) (inb hk r1 hl) hg hs hd
  rw [(nat_at hk).1] at q
  exact q
theorem own_lastore (X : Stand p l e R s m args below meth c T locs cells slots) (hx : p.tables.exec = Jvm.exec) (hZ : Z.Warmed39 s.vm) (eT : T.heap = h) (F : FA Z h a .long n f) {j : Int32} {x : Int64} (k : Nat) (hk : j.toInt = (k : Int)) (hl : k < n)
    {g : JFrame} (hg : g.method = m) {rest : List Value} (hs : g.stack = .long x :: .int j :: .ref a :: rest) (hd : decode c.code g.pc = .ok (.lastore, 1)) :
    ∃ T' h', Stand p l e R s m args below meth c T' (locs ++ [⟨a, k⟩]) cells slots ∧ T'.heap = h' ∧ Wr h h' a k (.long x) ∧ ∀ target, Steps p.tables e below (T'.setTop { g with pc := g.pc + 1, stack := rest }) target → Steps p.tables e below (T.setTop g) target := by
  obtain ⟨cl, A, r1, r2, r3⟩ := F
  have q := stJ X hx hZ eT A (x := x) (inb hk r1 hl) hg hs hd
  rw [(nat_at hk).1] at q
  exact q
theorem own_bastore (X : Stand p l e R s m args below meth c T locs cells slots) (hx : p.tables.exec = Jvm.exec) (hZ : Z.Warmed39 s.vm) (eT : T.heap = h) (F : FA Z h a .byte n f) {j x : Int32} (k : Nat) (hk : j.toInt = (k : Int)) (hl : k < n)
    {g : JFrame} (hg : g.method = m) {rest : List Value} (hs : g.stack = .int x :: .int j :: .ref a :: rest) (hd : decode c.code g.pc = .ok (.bastore, 1)) :
    ∃ T' h', Stand p l e R s m args below meth c T' (locs ++ [⟨a, k⟩]) cells slots ∧ T'.heap = h' ∧ Wr h h' a k (.int (nar .byte x)) ∧ ∀ target, Steps p.tables e below (T'.setTop { g with pc := g.pc + 1, stack := rest }) target → Steps p.tables e below (T.setTop g) target := by
  obtain ⟨cl, A, r1, r2, r3⟩ := F
  have q := stB X hx hZ eT A (x := x) (inb hk r1 hl) hg hs hd
  rw [(nat_at hk).1] at q
  exact q
/-- the typed updates -/
def updL (f : Nat → Int64) (k : Nat) (x : Int64) : Nat → Int64 := fun i => if i = k then x else f i
def updI (f : Nat → Int32) (k : Nat) (x : Int32) : Nat → Int32 := fun i => if i = k then x else f i
theorem FA.setL {f : Nat → Int64} {x : Int64} (F : FA Z h a ty n (fun i => .long (f i))) {k : Nat} (W : Wr h h' a k (.long x)) : FA Z h' a ty n (fun i => .long (updL f k x i)) :=
  (F.set W).congr fun i _ => by by_cases q : i = k <;> simp [updL, q]
theorem FA.setI {f : Nat → Int32} {x : Int32} (F : FA Z h a ty n (fun i => .int (f i))) {k : Nat} (W : Wr h h' a k (.int x)) : FA Z h' a ty n (fun i => .int (updI f k x i)) :=
  (F.set W).congr fun i _ => by by_cases q : i = k <;> simp [updI, q]
/-- a call by a contract, whatever it writes or makes: static, virtual, a constructor's -/
theorem own_callS (X : Stand p l e R s m args below meth c T locs cells slots) (hx : p.tables.exec = Jvm.exec) (hZ : Z.Warmed39 s.vm) {own : String} {index : Nat} {y : MethodName} {bytes : ByteArray} {maxL : Nat} {ret : Option FieldType} {rm : Room} {Q : Option Value → Heap → List Loc → Prop} {argsL rest : List Value} {g : JFrame}
    (hown : s.vm.findClass own = some m.cls) (w1 : (Cond.methodLink own index y).before a0 Z = true) (w2 : (Cond.static y).before a0 Z = true) (w3 : (Cond.initialized y.cls).before a0 Z = true) (w4 : (Cond.code y bytes maxL ret).before a0 Z = true)
    (hy : y.cls ≠ "java/lang/invoke/MethodHandle" ∧ y.cls ≠ "java/lang/invoke/VarHandle")
    (hM : MetFree l y (head1 [Cond.code y bytes maxL ret] rm) (fun a U => a = argsL.toArray ∧ Z.Warmed39 U.vm ∧ U.heap = h) (fun _ _ _ _ _ => True) (fun _ U o U' => ∃ v L, o = .returned v ∧ Q v U'.heap L ∧ FrameEnd U o U' L rm.cells rm.slots))
    (eT : T.heap = h) (hg : g.method = m) (hsize : g.locals.size = c.maxLocals) (hlen : ∀ sig, parseMethodDescriptor y.desc = some sig → argsL.length = sig.parameters.length) (hstack : g.stack = argsL.reverse ++ rest) {W : Nat} (hW : 2 * g.monitorRoom + (rest.map fun v => v.category).sum ≤ W)
    (hd : decode c.code g.pc = .ok (.invokestatic index, 3)) (hf : rm.frames + 1 ≤ R.frames) (hl : W + (maxL + 11) + rm.locals ≤ R.locals) (hc : cells + rm.cells ≤ R.cells) (hs : slots + rm.slots ≤ R.slots) :
    ∃ v T' L h', Stand p l e R s m args below meth c T' (locs ++ L) (cells + rm.cells) (slots + rm.slots) ∧ T'.heap = h' ∧ Q v h' L ∧ Steps p.tables e below (T.setTop g) (T'.setTop { g with pc := g.pc + 3, stack := v.toList ++ rest }) := by
  obtain ⟨v, _, ⟨T1, L1, k1, n1⟩, -, X1, ⟨Lc, hQ, l1, y1, z1⟩, st⟩ := Jvm.LawKit.callS X hx (y := y) hown (mvT hZ w1) (mvT hZ w2) (mvT hZ w3) (mvT hZ w4) hy (backOf (rm := rm) (W := W) hM hZ w4 w3 hf hl) (g := g) hg hsize (argsL := argsL) (rest := rest) hlen hstack hW hd (fun _ _ => ⟨rfl, eT, hc, hs⟩)
  dsimp only [Pt.U, Pt.locs, Pt.cells, Pt.slots] at X1 l1 y1 z1 st hQ
  subst l1 y1 z1
  exact ⟨v, T1, Lc, _, X1, rfl, hQ, st _ (Steps.refl _)⟩
theorem own_callV (X : Stand p l e R s m args below meth c T locs cells slots) (hx : p.tables.exec = Jvm.exec) (hZ : Z.Warmed39 s.vm) {own : String} {index : Nat} {y : MethodName} {bytes : ByteArray} {maxL : Nat} {ret : Option FieldType} {rm : Room} {Q : Option Value → Heap → List Loc → Prop} {argsL rest : List Value} {g : JFrame}
    (hown : s.vm.findClass own = some m.cls) (w1 : (Cond.methodLink own index y).before a0 Z = true) (w2 : (Cond.declares y).before a0 Z = true) (w3 : (Cond.selects C y y).before a0 Z = true) (w4 : (Cond.instanceMethod y).before a0 Z = true) (w5 : (Cond.code y bytes maxL ret).before a0 Z = true) (w6 : (Cond.initialized y.cls).before a0 Z = true)
    (hy : y.cls ≠ "java/lang/invoke/MethodHandle" ∧ y.cls ≠ "java/lang/invoke/VarHandle") (E : Exa Z h b C)
    (hM : MetFree l y (head1 [Cond.code y bytes maxL ret] rm) (fun a U => a = (.ref b :: argsL).toArray ∧ Z.Warmed39 U.vm ∧ U.heap = h) (fun _ _ _ _ _ => True) (fun _ U o U' => ∃ v L, o = .returned v ∧ Q v U'.heap L ∧ FrameEnd U o U' L rm.cells rm.slots))
    (eT : T.heap = h) (hg : g.method = m) (hsize : g.locals.size = c.maxLocals) (hlen : ∀ sig, parseMethodDescriptor y.desc = some sig → argsL.length = sig.parameters.length) (hstack : g.stack = argsL.reverse ++ .ref b :: rest) {W : Nat} (hW : 2 * g.monitorRoom + (rest.map fun v => v.category).sum ≤ W)
    (hd : decode c.code g.pc = .ok (.invokevirtual index, 3)) (hf : rm.frames + 1 ≤ R.frames) (hl : W + (maxL + 11) + rm.locals ≤ R.locals) (hc : cells + rm.cells ≤ R.cells) (hs : slots + rm.slots ≤ R.slots) :
    ∃ v T' L h', Stand p l e R s m args below meth c T' (locs ++ L) (cells + rm.cells) (slots + rm.slots) ∧ T'.heap = h' ∧ Q v h' L ∧ Steps p.tables e below (T.setTop g) (T'.setTop { g with pc := g.pc + 3, stack := v.toList ++ rest }) := by
  obtain ⟨cq, kq, qa, qb, qc⟩ := isOf hZ eT E
  obtain ⟨v, _, ⟨T1, L1, k1, n1⟩, -, X1, ⟨Lc, hQ, l1, y1, z1⟩, st⟩ := X.virtualBack hx (y := y) (z := y) hown (mvT hZ w1) (mvT hZ w2) (notFace_of_selects (args := #[]) (mvT hZ w3)) (mvT hZ w3) (mvT hZ w4) hy (backOf (rm := rm) (W := W) hM hZ w5 w6 hf hl) qa qc (g := g) hg hsize (Steps.refl _) (argsL := argsL) (rest := rest) hlen hstack hW hd (fun _ _ => ⟨rfl, eT, hc, hs⟩)
  dsimp only [Pt.U, Pt.locs, Pt.cells, Pt.slots] at X1 l1 y1 z1 st hQ
  subst l1 y1 z1
  exact ⟨v, T1, Lc, _, X1, rfl, hQ, st⟩
theorem own_callI (X : Stand p l e R s m args below meth c T locs cells slots) (hx : p.tables.exec = Jvm.exec) (hZ : Z.Warmed39 s.vm) {own : String} {index : Nat} {y : MethodName} {bytes : ByteArray} {maxL : Nat} {rm : Room} {Q : Option Value → Heap → List Loc → Prop} {argsL rest : List Value} {g : JFrame} (hy1 : y.name = "<init>")
    (hown : s.vm.findClass own = some m.cls) (w1 : (Cond.methodLink own index y).before a0 Z = true) (w2 : (Cond.instanceMethod y).before a0 Z = true) (w3 : (Cond.code y bytes maxL none).before a0 Z = true) (w4 : (Cond.initialized y.cls).before a0 Z = true)
    (hy : y.cls ≠ "java/lang/invoke/MethodHandle" ∧ y.cls ≠ "java/lang/invoke/VarHandle")
    (hM : MetFree l y (head1 [Cond.code y bytes maxL none] rm) (fun a U => a = (.ref b :: argsL).toArray ∧ Z.Warmed39 U.vm ∧ U.heap = h) (fun _ _ _ _ _ => True) (fun _ U o U' => ∃ v L, o = .returned v ∧ Q v U'.heap L ∧ FrameEnd U o U' L rm.cells rm.slots))
    (eT : T.heap = h) (hg : g.method = m) (hsize : g.locals.size = c.maxLocals) (hlen : ∀ sig, parseMethodDescriptor y.desc = some sig → argsL.length = sig.parameters.length) (hstack : g.stack = argsL.reverse ++ .ref b :: rest) {W : Nat} (hW : 2 * g.monitorRoom + (rest.map fun v => v.category).sum ≤ W)
    (hd : decode c.code g.pc = .ok (.invokespecial index, 3)) (hf : rm.frames + 1 ≤ R.frames) (hl : W + (maxL + 11) + rm.locals ≤ R.locals) (hc : cells + rm.cells ≤ R.cells) (hs : slots + rm.slots ≤ R.slots) :
    ∃ v T' L h', Stand p l e R s m args below meth c T' (locs ++ L) (cells + rm.cells) (slots + rm.slots) ∧ T'.heap = h' ∧ Q v h' L ∧ Steps p.tables e below (T.setTop g) (T'.setTop { g with pc := g.pc + 3, stack := v.toList ++ rest }) := by
  obtain ⟨v, _, ⟨T1, L1, k1, n1⟩, -, X1, ⟨Lc, hQ, l1, y1, z1⟩, st⟩ := X.specialBack hx (y := y) hy1 hown (mvT hZ w1) (mvT hZ w2) (mvT hZ w3) hy (backOf (rm := rm) (W := W) hM hZ w3 w4 hf hl) (g := g) hg hsize (Steps.refl _) (a := b) (argsL := argsL) (rest := rest) hlen hstack hW hd (fun _ _ => ⟨rfl, eT, hc, hs⟩)
  dsimp only [Pt.U, Pt.locs, Pt.cells, Pt.slots] at X1 l1 y1 z1 st hQ
  subst l1 y1 z1
  exact ⟨v, T1, Lc, _, X1, rfl, hQ, st⟩
end Own2
section Own3
variable {p : Program} {l : Launch} {e : Env} {R : Room} {s : State} {m : MethodId} {args : Array Value} {below : List Frame} {meth : Method} {c : Code} {T : State} {locs : List Loc} {cells slots : Nat} {Z : State} {a0 : Array Value} {h h' : Heap} {a b : Addr} {C : String}
/-- a call of an instance method that writes nothing -/
theorem own_callR (X : Stand p l e R s m args below meth c T locs cells slots) (hx : p.tables.exec = Jvm.exec) (hZ : Z.Warmed39 s.vm) {own : String} {index : Nat} {y : MethodName} {bytes : ByteArray} {maxL : Nat} {ret : Option FieldType} {fr lo : Nat} {r : Value} {argsL rest : List Value} {g : JFrame}
    (hown : s.vm.findClass own = some m.cls) (w1 : (Cond.methodLink own index y).before a0 Z = true) (w2 : (Cond.declares y).before a0 Z = true) (w3 : (Cond.selects C y y).before a0 Z = true) (w4 : (Cond.instanceMethod y).before a0 Z = true) (w5 : (Cond.code y bytes maxL ret).before a0 Z = true) (w6 : (Cond.initialized y.cls).before a0 Z = true)
    (hy : y.cls ≠ "java/lang/invoke/MethodHandle" ∧ y.cls ≠ "java/lang/invoke/VarHandle") (E : Exa Z h b C)
    (hM : MetFree l y (head1 [Cond.code y bytes maxL ret] ({ frames := fr, cells := 0, slots := 0, locals := lo } : Room)) (fun a U => a = (.ref b :: argsL).toArray ∧ Z.Warmed39 U.vm ∧ U.heap = h) (fun _ _ _ _ _ => True) (fun _ U o U' => ∃ v L, o = .returned v ∧ QP r h v U'.heap L ∧ FrameEnd U o U' L 0 0))
    (eT : T.heap = h) (hg : g.method = m) (hsize : g.locals.size = c.maxLocals) (hlen : ∀ sig, parseMethodDescriptor y.desc = some sig → argsL.length = sig.parameters.length) (hstack : g.stack = argsL.reverse ++ .ref b :: rest) {W : Nat} (hW : 2 * g.monitorRoom + (rest.map fun v => v.category).sum ≤ W)
    (hd : decode c.code g.pc = .ok (.invokevirtual index, 3)) (hf : fr + 1 ≤ R.frames) (hl : W + (maxL + 11) + lo ≤ R.locals) (hc : cells ≤ R.cells) (hs : slots ≤ R.slots) :
    ∃ T', Stand p l e R s m args below meth c T' locs cells slots ∧ T'.heap = h ∧ ∀ target, Steps p.tables e below (T'.setTop { g with pc := g.pc + 3, stack := r :: rest }) target → Steps p.tables e below (T.setTop g) target := by
  obtain ⟨v, T1, L1, h1, X1, e1, ⟨rfl, rfl, q⟩, st⟩ := own_callV X hx hZ hown w1 w2 w3 w4 w5 w6 hy E (rm := ({ frames := fr, cells := 0, slots := 0, locals := lo } : Room)) hM eT hg hsize hlen hstack hW hd hf hl hc hs
  rw [List.append_nil] at X1
  exact ⟨T1, X1, e1.trans q, fun t k => st.trans k⟩
/-- a call of a private instance method by its contract -/
theorem own_callX (X : Stand p l e R s m args below meth c T locs cells slots) (hx : p.tables.exec = Jvm.exec) (hZ : Z.Warmed39 s.vm) {own : String} {index : Nat} {y : MethodName} {bytes : ByteArray} {maxL kk : Nat} {ret : Option FieldType} {rm : Room} {Q : Option Value → Heap → List Loc → Prop} {argsL rest : List Value} {g : JFrame}
    (hown : s.vm.findClass own = some m.cls) (w1 : (Cond.methodLink own index y).before a0 Z = true) (w2 : (Cond.instanceMethod y).before a0 Z = true) (w3 : (Cond.privateMethod y).before a0 Z = true) (w4 : (Cond.code y bytes maxL ret).before a0 Z = true) (w5 : (Cond.initialized y.cls).before a0 Z = true) (w6 : (Cond.instantiable y.cls kk).before a0 Z = true)
    (hy : y.cls ≠ "java/lang/invoke/MethodHandle" ∧ y.cls ≠ "java/lang/invoke/VarHandle") (E : Exa Z h b C)
    (hM : MetFree l y (head1 [Cond.code y bytes maxL ret] rm) (fun a U => a = (.ref b :: argsL).toArray ∧ Z.Warmed39 U.vm ∧ U.heap = h) (fun _ _ _ _ _ => True) (fun _ U o U' => ∃ v L, o = .returned v ∧ Q v U'.heap L ∧ FrameEnd U o U' L rm.cells rm.slots))
    (eT : T.heap = h) (hg : g.method = m) (hsize : g.locals.size = c.maxLocals) (hlen : ∀ sig, parseMethodDescriptor y.desc = some sig → argsL.length = sig.parameters.length) (hstack : g.stack = argsL.reverse ++ .ref b :: rest) {W : Nat} (hW : 2 * g.monitorRoom + (rest.map fun v => v.category).sum ≤ W)
    (hd : decode c.code g.pc = .ok (.invokevirtual index, 3)) (hf : rm.frames + 1 ≤ R.frames) (hl : W + (maxL + 11) + rm.locals ≤ R.locals) (hc : cells + rm.cells ≤ R.cells) (hs : slots + rm.slots ≤ R.slots) :
    ∃ v T' L h', Stand p l e R s m args below meth c T' (locs ++ L) (cells + rm.cells) (slots + rm.slots) ∧ T'.heap = h' ∧ Q v h' L ∧ Steps p.tables e below (T.setTop g) (T'.setTop { g with pc := g.pc + 3, stack := v.toList ++ rest }) := by
  have v2 : (Cond.instanceMethod y).before args s = true := mvT hZ w2
  have v4 : (Cond.code y bytes maxL ret).before args s = true := mvT hZ w4
  have v6 : (Cond.instantiable y.cls kk).before args s = true := mv hZ w6
  obtain ⟨mk, me, n1, n2, n3, n4⟩ := Cond.instanceMethod_spec v2
  obtain ⟨me', cM, n5, -, -, -, -, -, -, n6⟩ := Cond.code_spec n1 v4
  cases n2.symm.trans n5
  obtain ⟨cI, kI, i1, i2, -, i4, -⟩ := Cond.instantiable_spec v6
  cases (findClass_of_methodNamed n1).symm.trans i1
  have ni : kI.isInterface = false := by simp only [Bool.or_eq_false_iff] at i4; exact i4.1
  obtain ⟨cell, c1, c2⟩ := E.cell
  have pr := Cond.privateMethod_at (mvP hZ w3 (args := args)) mk me n1 n2
  obtain ⟨vm₁, X₁, s₁⟩ := X.invokevirtual hx hown (mvT hZ w1) n1 n2 n3 i2 ni hy (a := b) (cell := cell) (by rw [eT]; exact c1) c2 (selectMethod_private n2 pr) n2 n4 i2 ni (g := g) hg (argsL := argsL) (rest := rest) (hlen _ n6) hstack hd
  obtain ⟨v, ⟨T1, L1, k1, n1'⟩, X1, ⟨Lc, hQ, l1, y1, z1⟩, st⟩ := backOf (rm := rm) (W := W) hM hZ w4 w5 hf hl m meth c ⟨T.setVm vm₁, locs, cells, slots⟩ { g with stack := rest } (.invokevirtual index) mk (.ref b :: argsL).toArray X₁ hg hsize hd hW (X₁.named n1) ⟨rfl, eT, hc, hs⟩
  dsimp only [Pt.U, Pt.locs, Pt.cells, Pt.slots] at X1 l1 y1 z1 st hQ
  subst l1 y1 z1
  exact ⟨v, T1, Lc, _, X1, rfl, hQ, (s₁ _ fun acts => by rw [doInvoke_state]; exact Steps.refl _).trans st⟩
theorem own_callXR (X : Stand p l e R s m args below meth c T locs cells slots) (hx : p.tables.exec = Jvm.exec) (hZ : Z.Warmed39 s.vm) {own : String} {index : Nat} {y : MethodName} {bytes : ByteArray} {maxL kk : Nat} {ret : Option FieldType} {fr lo : Nat} {r : Value} {argsL rest : List Value} {g : JFrame}
    (hown : s.vm.findClass own = some m.cls) (w1 : (Cond.methodLink own index y).before a0 Z = true) (w2 : (Cond.instanceMethod y).before a0 Z = true) (w3 : (Cond.privateMethod y).before a0 Z = true) (w4 : (Cond.code y bytes maxL ret).before a0 Z = true) (w5 : (Cond.initialized y.cls).before a0 Z = true) (w6 : (Cond.instantiable y.cls kk).before a0 Z = true)
    (hy : y.cls ≠ "java/lang/invoke/MethodHandle" ∧ y.cls ≠ "java/lang/invoke/VarHandle") (E : Exa Z h b C)
    (hM : MetFree l y (head1 [Cond.code y bytes maxL ret] ({ frames := fr, cells := 0, slots := 0, locals := lo } : Room)) (fun a U => a = (.ref b :: argsL).toArray ∧ Z.Warmed39 U.vm ∧ U.heap = h) (fun _ _ _ _ _ => True) (fun _ U o U' => ∃ v L, o = .returned v ∧ QP r h v U'.heap L ∧ FrameEnd U o U' L 0 0))
    (eT : T.heap = h) (hg : g.method = m) (hsize : g.locals.size = c.maxLocals) (hlen : ∀ sig, parseMethodDescriptor y.desc = some sig → argsL.length = sig.parameters.length) (hstack : g.stack = argsL.reverse ++ .ref b :: rest) {W : Nat} (hW : 2 * g.monitorRoom + (rest.map fun v => v.category).sum ≤ W)
    (hd : decode c.code g.pc = .ok (.invokevirtual index, 3)) (hf : fr + 1 ≤ R.frames) (hl : W + (maxL + 11) + lo ≤ R.locals) (hc : cells ≤ R.cells) (hs : slots ≤ R.slots) :
    ∃ T', Stand p l e R s m args below meth c T' locs cells slots ∧ T'.heap = h ∧ ∀ target, Steps p.tables e below (T'.setTop { g with pc := g.pc + 3, stack := r :: rest }) target → Steps p.tables e below (T.setTop g) target := by
  obtain ⟨v, T1, L1, h1, X1, e1, ⟨rfl, rfl, q⟩, st⟩ := own_callX X hx hZ hown w1 w2 w3 w4 w5 w6 hy E (rm := ({ frames := fr, cells := 0, slots := 0, locals := lo } : Room)) hM eT hg hsize hlen hstack hW hd hf hl hc hs
  rw [List.append_nil] at X1
  exact ⟨T1, X1, e1.trans q, fun t k => st.trans k⟩
end Own3
section Own6
variable {p : Program} {l : Launch} {e : Env} {R : Room} {s : State} {m : MethodId} {args : Array Value} {below : List Frame} {meth : Method} {c : Code} {T : State} {locs : List Loc} {cells slots : Nat} {Z : State} {a0 : Array Value} {h h' : Heap} {Q : Option Value → Heap → List Loc → Prop} {K N : Nat} {pc : Nat} {L : Array Slot} {S : List Value} {cd : ByteArray}
theorem qaN (pc' : Nat) (X : Stand p l e R s m args below meth c T locs cells slots) (hx : p.tables.exec = Jvm.exec) (hby : c.code = cd) {k : Fin 4} {a : Addr} (hd : decode cd pc = .ok (.aload_n k, 1)) (hp : pc + 1 = pc') (hl : L[k.val]? = some ((vr a))) (k' : OEnds p e below s Q K N (T.setTop (mkF m pc' L (.ref a :: S)))) : OEnds p e below s Q K N (T.setTop (mkF m pc L S)) := by
  subst hp; exact own_by (fun _ q => XS.aloadN X.here hx rfl (hb hby hd) hl rfl q) k'
theorem qa (pc' : Nat) (X : Stand p l e R s m args below meth c T locs cells slots) (hx : p.tables.exec = Jvm.exec) (hby : c.code = cd) {k : Nat} {a : Addr} (hd : decode cd pc = .ok (.aload k, 2)) (hp : pc + 2 = pc') (hl : L[k]? = some ((vr a))) (k' : OEnds p e below s Q K N (T.setTop (mkF m pc' L (.ref a :: S)))) : OEnds p e below s Q K N (T.setTop (mkF m pc L S)) := by
  subst hp; exact own_by (fun _ q => XS.aload X.here hx rfl (hb hby hd) hl rfl q) k'
theorem qsa (pc' : Nat) (L' : Array Slot) (X : Stand p l e R s m args below meth c T locs cells slots) (hx : p.tables.exec = Jvm.exec) (hby : c.code = cd) {k : Nat} {a : Addr} (hd : decode cd pc = .ok (.astore k, 2)) (hp : pc + 2 = pc') (hl : storeLocals L k (.ref a) = some L') (k' : OEnds p e below s Q K N (T.setTop (mkF m pc' L' S))) : OEnds p e below s Q K N (T.setTop (mkF m pc L (.ref a :: S))) := by
  subst hp; exact own_by (fun _ q => XS.astore X.here hx rfl (hb hby hd) rfl rfl (l' := L') hl q) k'
theorem qiN (pc' : Nat) (X : Stand p l e R s m args below meth c T locs cells slots) (hx : p.tables.exec = Jvm.exec) (hby : c.code = cd) {k : Fin 4} {a : Int32} (hd : decode cd pc = .ok (.iload_n k, 1)) (hp : pc + 1 = pc') (hl : L[k.val]? = some ((vi a))) (k' : OEnds p e below s Q K N (T.setTop (mkF m pc' L (.int a :: S)))) : OEnds p e below s Q K N (T.setTop (mkF m pc L S)) := by
  subst hp; exact own_by (fun _ q => XS.iloadN X.here hx rfl (hb hby hd) hl q) k'
theorem qi (pc' : Nat) (X : Stand p l e R s m args below meth c T locs cells slots) (hx : p.tables.exec = Jvm.exec) (hby : c.code = cd) {k : Nat} {a : Int32} (hd : decode cd pc = .ok (.iload k, 2)) (hp : pc + 2 = pc') (hl : L[k]? = some ((vi a))) (k' : OEnds p e below s Q K N (T.setTop (mkF m pc' L (.int a :: S)))) : OEnds p e below s Q K N (T.setTop (mkF m pc L S)) := by
  subst hp; exact own_by (fun _ q => XS.iload X.here hx rfl (hb hby hd) hl q) k'
theorem qsiN (pc' : Nat) (L' : Array Slot) (X : Stand p l e R s m args below meth c T locs cells slots) (hx : p.tables.exec = Jvm.exec) (hby : c.code = cd) {k : Fin 4} {a : Int32} (hd : decode cd pc = .ok (.istore_n k, 1)) (hp : pc + 1 = pc') (hl : storeLocals L k.val (.int a) = some L') (k' : OEnds p e below s Q K N (T.setTop (mkF m pc' L' S))) : OEnds p e below s Q K N (T.setTop (mkF m pc L (.int a :: S))) := by
  subst hp; exact own_by (fun _ q => XS.istoreN X.here hx rfl (hb hby hd) rfl (l' := L') hl q) k'
theorem qsi (pc' : Nat) (L' : Array Slot) (X : Stand p l e R s m args below meth c T locs cells slots) (hx : p.tables.exec = Jvm.exec) (hby : c.code = cd) {k : Nat} {a : Int32} (hd : decode cd pc = .ok (.istore k, 2)) (hp : pc + 2 = pc') (hl : storeLocals L k (.int a) = some L') (k' : OEnds p e below s Q K N (T.setTop (mkF m pc' L' S))) : OEnds p e below s Q K N (T.setTop (mkF m pc L (.int a :: S))) := by
  subst hp; exact own_by (fun _ q => XS.istore X.here hx rfl (hb hby hd) rfl (l' := L') hl q) k'
theorem qlN (pc' : Nat) (X : Stand p l e R s m args below meth c T locs cells slots) (hx : p.tables.exec = Jvm.exec) (hby : c.code = cd) {k : Fin 4} {a : Int64} (hd : decode cd pc = .ok (.lload_n k, 1)) (hp : pc + 1 = pc') (hl : L[k.val]? = some ((vj a))) (k' : OEnds p e below s Q K N (T.setTop (mkF m pc' L (.long a :: S)))) : OEnds p e below s Q K N (T.setTop (mkF m pc L S)) := by
  subst hp; exact own_by (fun _ q => XS.lloadN X.here hx rfl (hb hby hd) hl q) k'
theorem ql (pc' : Nat) (X : Stand p l e R s m args below meth c T locs cells slots) (hx : p.tables.exec = Jvm.exec) (hby : c.code = cd) {k : Nat} {a : Int64} (hd : decode cd pc = .ok (.lload k, 2)) (hp : pc + 2 = pc') (hl : L[k]? = some ((vj a))) (k' : OEnds p e below s Q K N (T.setTop (mkF m pc' L (.long a :: S)))) : OEnds p e below s Q K N (T.setTop (mkF m pc L S)) := by
  subst hp; exact own_by (fun _ q => XS.lload X.here hx rfl (hb hby hd) hl q) k'
theorem qsl (pc' : Nat) (L' : Array Slot) (X : Stand p l e R s m args below meth c T locs cells slots) (hx : p.tables.exec = Jvm.exec) (hby : c.code = cd) {k : Nat} {a : Int64} (hd : decode cd pc = .ok (.lstore k, 2)) (hp : pc + 2 = pc') (hl : storeLocals L k (.long a) = some L') (k' : OEnds p e below s Q K N (T.setTop (mkF m pc' L' S))) : OEnds p e below s Q K N (T.setTop (mkF m pc L (.long a :: S))) := by
  subst hp; exact own_by (fun _ q => XS.lstore X.here hx rfl (hb hby hd) rfl (l' := L') hl q) k'
theorem qc1 (pc' : Nat) (z : Int32) (X : Stand p l e R s m args below meth c T locs cells slots) (hx : p.tables.exec = Jvm.exec) (hby : c.code = cd) {i : Int} (hd : decode cd pc = .ok (.iconst i, 1)) (hp : pc + 1 = pc') (hz : Int32.ofInt i = z) (k' : OEnds p e below s Q K N (T.setTop (mkF m pc' L (.int z :: S)))) : OEnds p e below s Q K N (T.setTop (mkF m pc L S)) := by
  subst hp hz; exact own_by (fun _ q => XS.iconst X.here hx rfl (hb hby hd) q) k'
theorem qc2 (pc' : Nat) (z : Int32) (X : Stand p l e R s m args below meth c T locs cells slots) (hx : p.tables.exec = Jvm.exec) (hby : c.code = cd) {i : Int} (hd : decode cd pc = .ok (.bipush i, 2)) (hp : pc + 2 = pc') (hz : (Int8.ofInt i).toInt32 = z) (k' : OEnds p e below s Q K N (T.setTop (mkF m pc' L (.int z :: S)))) : OEnds p e below s Q K N (T.setTop (mkF m pc L S)) := by
  subst hp hz; exact own_by (fun _ q => XS.bipush X.here hx rfl (hb hby hd) q) k'
theorem q_iadd (pc' : Nat) (X : Stand p l e R s m args below meth c T locs cells slots) (hx : p.tables.exec = Jvm.exec) (hby : c.code = cd) {x y : Int32} (hd : decode cd pc = .ok (.iadd, 1)) (hp : pc + 1 = pc') (k' : OEnds p e below s Q K N (T.setTop (mkF m pc' L (.int (x + y) :: S)))) : OEnds p e below s Q K N (T.setTop (mkF m pc L (.int y :: .int x :: S))) := by
  subst hp; exact own_by (fun _ q => XS.iadd X.here hx rfl (hb hby hd) rfl q) k'
theorem q_isub (pc' : Nat) (X : Stand p l e R s m args below meth c T locs cells slots) (hx : p.tables.exec = Jvm.exec) (hby : c.code = cd) {x y : Int32} (hd : decode cd pc = .ok (.isub, 1)) (hp : pc + 1 = pc') (k' : OEnds p e below s Q K N (T.setTop (mkF m pc' L (.int (x - y) :: S)))) : OEnds p e below s Q K N (T.setTop (mkF m pc L (.int y :: .int x :: S))) := by
  subst hp; exact own_by (fun _ q => XS.isub X.here hx rfl (hb hby hd) rfl q) k'
theorem q_imul (pc' : Nat) (X : Stand p l e R s m args below meth c T locs cells slots) (hx : p.tables.exec = Jvm.exec) (hby : c.code = cd) {x y : Int32} (hd : decode cd pc = .ok (.imul, 1)) (hp : pc + 1 = pc') (k' : OEnds p e below s Q K N (T.setTop (mkF m pc' L (.int (x * y) :: S)))) : OEnds p e below s Q K N (T.setTop (mkF m pc L (.int y :: .int x :: S))) := by
  subst hp; exact own_by (fun _ q => XS.imul X.here hx rfl (hb hby hd) rfl q) k'
theorem q_iand (pc' : Nat) (X : Stand p l e R s m args below meth c T locs cells slots) (hx : p.tables.exec = Jvm.exec) (hby : c.code = cd) {x y : Int32} (hd : decode cd pc = .ok (.iand, 1)) (hp : pc + 1 = pc') (k' : OEnds p e below s Q K N (T.setTop (mkF m pc' L (.int (x &&& y) :: S)))) : OEnds p e below s Q K N (T.setTop (mkF m pc L (.int y :: .int x :: S))) := by
  subst hp; exact own_by (fun _ q => XS.iand X.here hx rfl (hb hby hd) rfl q) k'
theorem q_ladd (pc' : Nat) (X : Stand p l e R s m args below meth c T locs cells slots) (hx : p.tables.exec = Jvm.exec) (hby : c.code = cd) {x y : Int64} (hd : decode cd pc = .ok (.ladd, 1)) (hp : pc + 1 = pc') (k' : OEnds p e below s Q K N (T.setTop (mkF m pc' L (.long (x + y) :: S)))) : OEnds p e below s Q K N (T.setTop (mkF m pc L (.long y :: .long x :: S))) := by
  subst hp; exact own_by (fun _ q => XS.ladd X.here hx rfl (hb hby hd) rfl q) k'
theorem q_idiv (pc' : Nat) (X : Stand p l e R s m args below meth c T locs cells slots) (hx : p.tables.exec = Jvm.exec) (hby : c.code = cd) {x y : Int32} (hd : decode cd pc = .ok (.idiv, 1)) (hp : pc + 1 = pc') (hy : y ≠ 0) (k' : OEnds p e below s Q K N (T.setTop (mkF m pc' L (.int (x / y) :: S)))) : OEnds p e below s Q K N (T.setTop (mkF m pc L (.int y :: .int x :: S))) := by
  subst hp; exact own_by (fun _ q => XS.idiv X.here hx rfl (hb hby hd) rfl hy q) k'
theorem q_dup (pc' : Nat) (X : Stand p l e R s m args below meth c T locs cells slots) (hx : p.tables.exec = Jvm.exec) (hby : c.code = cd) {x : Value} (hd : decode cd pc = .ok (.dup, 1)) (hp : pc + 1 = pc') (hc : x.category = 1) (k' : OEnds p e below s Q K N (T.setTop (mkF m pc' L (x :: x :: S)))) : OEnds p e below s Q K N (T.setTop (mkF m pc L (x :: S))) := by
  subst hp; exact own_by (fun _ q => XS.dup X.here hx rfl (hb hby hd) rfl hc q) k'
theorem q_goto (pc' : Nat) (X : Stand p l e R s m args below meth c T locs cells slots) (hx : p.tables.exec = Jvm.exec) (hby : c.code = cd) {o : Int} (hd : decode cd pc = .ok (.goto o, 3)) (hp : (pc : Int) + o = (pc' : Int)) (k' : OEnds p e below s Q K N (T.setTop (mkF m pc' L S))) : OEnds p e below s Q K N (T.setTop (mkF m pc L S)) := by
  have ho : 0 ≤ (pc : Int) + o := by omega
  have hq : ((pc : Int) + o).toNat = pc' := by omega
  exact own_by (fun _ q => XS.goto X.here hx rfl (pc0 := pc) (pc' := pc') rfl (hb hby hd) ho hq q) k'
theorem q_ify (pc' : Nat) (X : Stand p l e R s m args below meth c T locs cells slots) (hx : p.tables.exec = Jvm.exec) (hby : c.code = cd) {w : ClassFile.Cond} {x : Int32} {o : Int} (hd : decode cd pc = .ok (.ifCond w o, 3)) (hp : (pc : Int) + o = (pc' : Int)) (hc : ifCond.holds w x = true) (k' : OEnds p e below s Q K N (T.setTop (mkF m pc' L S))) : OEnds p e below s Q K N (T.setTop (mkF m pc L (.int x :: S))) := by
  have ho : 0 ≤ (pc : Int) + o := by omega
  have hq : ((pc : Int) + o).toNat = pc' := by omega
  exact own_by (fun _ q => XS.ifYes X.here hx rfl (pc0 := pc) (pc' := pc') rfl (hb hby hd) rfl hc ho hq q) k'
theorem q_ifn (pc' : Nat) (X : Stand p l e R s m args below meth c T locs cells slots) (hx : p.tables.exec = Jvm.exec) (hby : c.code = cd) {w : ClassFile.Cond} {x : Int32} {o : Int} (hd : decode cd pc = .ok (.ifCond w o, 3)) (hp : pc + 3 = pc') (hc : ifCond.holds w x = false) (k' : OEnds p e below s Q K N (T.setTop (mkF m pc' L S))) : OEnds p e below s Q K N (T.setTop (mkF m pc L (.int x :: S))) := by
  subst hp; exact own_by (fun _ q => XS.ifNo X.here hx rfl (hb hby hd) rfl hc q) k'
theorem q_cmy (pc' : Nat) (X : Stand p l e R s m args below meth c T locs cells slots) (hx : p.tables.exec = Jvm.exec) (hby : c.code = cd) {w : ClassFile.Cond} {x y : Int32} {o : Int} (hd : decode cd pc = .ok (.if_icmp w o, 3)) (hp : (pc : Int) + o = (pc' : Int)) (hc : if_icmp.holds w x y = true) (k' : OEnds p e below s Q K N (T.setTop (mkF m pc' L S))) : OEnds p e below s Q K N (T.setTop (mkF m pc L (.int y :: .int x :: S))) := by
  have ho : 0 ≤ (pc : Int) + o := by omega
  have hq : ((pc : Int) + o).toNat = pc' := by omega
  exact own_by (fun _ q => XS.icmpYes X.here hx rfl (pc0 := pc) (pc' := pc') rfl (hb hby hd) rfl hc ho hq q) k'
theorem q_cmn (pc' : Nat) (X : Stand p l e R s m args below meth c T locs cells slots) (hx : p.tables.exec = Jvm.exec) (hby : c.code = cd) {w : ClassFile.Cond} {x y : Int32} {o : Int} (hd : decode cd pc = .ok (.if_icmp w o, 3)) (hp : pc + 3 = pc') (hc : if_icmp.holds w x y = false) (k' : OEnds p e below s Q K N (T.setTop (mkF m pc' L S))) : OEnds p e below s Q K N (T.setTop (mkF m pc L (.int y :: .int x :: S))) := by
  subst hp; exact own_by (fun _ q => XS.icmpNo X.here hx rfl (hb hby hd) rfl hc q) k'
theorem q_inc (pc' : Nat) (L' : Array Slot) (X : Stand p l e R s m args below meth c T locs cells slots) (hx : p.tables.exec = Jvm.exec) (hby : c.code = cd) {k : Nat} {z : Int} {x : Int32} (hd : decode cd pc = .ok (.iinc k z, 3)) (hp : pc + 3 = pc') (hl : L[k]? = some ((vi x))) (hm : storeLocals L k (.int (x + Int32.ofInt z)) = some L') (k' : OEnds p e below s Q K N (T.setTop (mkF m pc' L' S))) : OEnds p e below s Q K N (T.setTop (mkF m pc L S)) := by
  subst hp; exact own_by (fun _ q => XS.iinc X.here hx rfl (hb hby hd) hl (l' := L') hm q) k'
theorem qg (pc' : Nat) (X : Stand p l e R s m args below meth c T locs cells slots) (hx : p.tables.exec = Jvm.exec) (hZ : Z.Warmed39 s.vm) {own R0 n d : String} {index : Nat} (hown : s.vm.findClass own = some m.cls) (w : (Cond.fieldLink own index R0 n d).before a0 Z = true) (eT : T.heap = h) {a : Addr} {v : Value} (F : Fld Z h a R0 n d v) (hby : c.code = cd) (hd : decode cd pc = .ok (.getfield index, 3)) (hp : pc + 3 = pc')
    (k : ∀ T', Stand p l e R s m args below meth c T' locs cells slots → T'.heap = h → OEnds p e below s Q K N (T'.setTop (mkF m pc' L (v :: S)))) : OEnds p e below s Q K N (T.setTop (mkF m pc L (.ref a :: S))) := by
  subst hp
  obtain ⟨T', X', e', st⟩ := getF X hx hZ hown (host := "") (Or.inl w) Via.refl eT F (g := mkF m pc L (.ref a :: S)) rfl rfl (hb hby hd)
  exact own_by st (k T' X' e')
theorem qJ (pc' : Nat) (X : Stand p l e R s m args below meth c T locs cells slots) (hx : p.tables.exec = Jvm.exec) (hZ : Z.Warmed39 s.vm) (eT : T.heap = h) {a : Addr} {n : Nat} {f : Nat → Value} {v : Value} (F : FA Z h a .long n f) {j : Int32} (k : Nat) (hk : j.toInt = (k : Int)) (hl : k < n) (hv : f k = v) (hby : c.code = cd) (hd : decode cd pc = .ok (.laload, 1)) (hp : pc + 1 = pc')
    (k' : OEnds p e below s Q K N (T.setTop (mkF m pc' L (v :: S)))) : OEnds p e below s Q K N (T.setTop (mkF m pc L (.int j :: .ref a :: S))) := by
  subst hp; exact own_by (own_laload X hx hZ eT F k hk hl hv (g := mkF m pc L (.int j :: .ref a :: S)) rfl rfl (hb hby hd)) k'
theorem qI (pc' : Nat) (X : Stand p l e R s m args below meth c T locs cells slots) (hx : p.tables.exec = Jvm.exec) (hZ : Z.Warmed39 s.vm) (eT : T.heap = h) {a : Addr} {n : Nat} {f : Nat → Value} {v : Value} (F : FA Z h a .int n f) {j : Int32} (k : Nat) (hk : j.toInt = (k : Int)) (hl : k < n) (hv : f k = v) (hby : c.code = cd) (hd : decode cd pc = .ok (.iaload, 1)) (hp : pc + 1 = pc')
    (k' : OEnds p e below s Q K N (T.setTop (mkF m pc' L (v :: S)))) : OEnds p e below s Q K N (T.setTop (mkF m pc L (.int j :: .ref a :: S))) := by
  subst hp; exact own_by (own_iaload X hx hZ eT F k hk hl hv (g := mkF m pc L (.int j :: .ref a :: S)) rfl rfl (hb hby hd)) k'
theorem qn (pc' : Nat) (z : Int32) (X : Stand p l e R s m args below meth c T locs cells slots) (hx : p.tables.exec = Jvm.exec) (hZ : Z.Warmed39 s.vm) (eT : T.heap = h) {a : Addr} {n : Nat} {ty : FieldType} {f : Nat → Value} (F : FA Z h a ty n f) (hz : n.toInt32 = z) (hby : c.code = cd) (hd : decode cd pc = .ok (.arraylength, 1)) (hp : pc + 1 = pc')
    (k' : OEnds p e below s Q K N (T.setTop (mkF m pc' L (.int z :: S)))) : OEnds p e below s Q K N (T.setTop (mkF m pc L (.ref a :: S))) := by
  subst hp; exact own_by (own_len X hx hZ eT F hz (g := mkF m pc L (.ref a :: S)) rfl rfl (hb hby hd)) k'
/-- the frame behind a step, said in its short form -/
theorem qat {S0 T' : State} (pc' : Nat) (L' : Array Slot) (S' : List Value) (st : ∀ t, Steps p.tables e below (T'.setTop (mkF m pc' L' S')) t → Steps p.tables e below S0 t) (k : OEnds p e below s Q K N (T'.setTop (mkF m pc' L' S'))) : OEnds p e below s Q K N S0 := own_by st k
theorem qtr {S0 T' : State} (pc' : Nat) (L' : Array Slot) (S' : List Value) (st : Steps p.tables e below S0 (T'.setTop (mkF m pc' L' S'))) (k : OEnds p e below s Q K N (T'.setTop (mkF m pc' L' S'))) : OEnds p e below s Q K N S0 := own_tr st k
theorem wi {α : Type} {a : α} {ws : List α} {P : Prop} (i : Nat) (q : ws[i]? = some a) : a ∈ ws ∨ P := Or.inl (List.mem_of_getElem? q)
end Own6
theorem pd_prI : parseMethodDescriptor "()I" = some ⟨[], some .int⟩ := by decide +kernel
theorem pd_prV : parseMethodDescriptor "()V" = some ⟨[], none⟩ := by decide +kernel
theorem pd_pIrV : parseMethodDescriptor "(I)V" = some ⟨[.int], none⟩ := by decide +kernel
theorem pd_pIIIrV : parseMethodDescriptor "(III)V" = some ⟨[.int, .int, .int], none⟩ := by decide +kernel
theorem pd_pIIJrV : parseMethodDescriptor "(IIJ)V" = some ⟨[.int, .int, .long], none⟩ := by decide +kernel
theorem pd_pJrV : parseMethodDescriptor "(J)V" = some ⟨[.long], none⟩ := by decide +kernel
theorem pd_pJJrJ : parseMethodDescriptor "(JJ)J" = some ⟨[.long, .long], some .long⟩ := by decide +kernel
theorem pd_paJIIJrI : parseMethodDescriptor "([JIIJ)I" = some ⟨[(.array .long), .int, .int, .long], some .int⟩ := by decide +kernel
theorem pd_paJIIJrV : parseMethodDescriptor "([JIIJ)V" = some ⟨[(.array .long), .int, .int, .long], none⟩ := by decide +kernel
def sch_rt : List (String × String) := [("values", "[J"), ("maxima", "[J"), ("spanStarts", "[I"), ("spanEnds", "[I"), ("spanBases", "[I"), ("pending", "[I"), ("lowNodes", "[I"), ("spanCount", "I"), ("size", "I"), ("nodeCount", "I"), ("bound", "J"), ("spanStart", "I"), ("base", "I"), ("blockCount", "I"), ("pendingCount", "I"), ("scanEnd", "I"), ("scanAt", "I"), ("tailAt", "I"), ("tailEnd", "I")]
theorem so_sch_rt {Z : State} {a0 : Array Value} (hw : ∀ d ∈ tables_1, d.before a0 Z = true) : SchOk Z a0 "com/example/graphweft/graphweft/RangeMaxTree" sch_rt := by
  refine ⟨fun q hq => ?_, by decide, by decide⟩
  simp only [sch_rt, List.mem_cons, List.not_mem_nil, or_false] at hq
  rcases hq with rfl | rfl | rfl | rfl | rfl | rfl | rfl | rfl | rfl | rfl | rfl | rfl | rfl | rfl | rfl | rfl | rfl | rfl | rfl
  · exact Or.inl (tw11 hw)
  · exact Or.inl (tw13 hw)
  · exact Or.inl (tw16 hw)
  · exact Or.inl (tw18 hw)
  · exact Or.inl (tw20 hw)
  · exact Or.inr (tw22 hw)
  · exact Or.inr (tw24 hw)
  · exact Or.inl (tw31 hw)
  · exact Or.inl (tw33 hw)
  · exact Or.inl (tw35 hw)
  · exact Or.inl (tw50 hw)
  · exact Or.inl (tw52 hw)
  · exact Or.inl (tw54 hw)
  · exact Or.inl (tw56 hw)
  · exact Or.inl (tw58 hw)
  · exact Or.inl (tw60 hw)
  · exact Or.inl (tw62 hw)
  · exact Or.inl (tw64 hw)
  · exact Or.inl (tw66 hw)
theorem o01 {a b1 b2 b3 b4 b5 b6 b7 : Addr} (h : @LT.lt Nat instLTNat a b1 ∧ @LT.lt Nat instLTNat b1 b2 ∧ @LT.lt Nat instLTNat b2 b3 ∧ @LT.lt Nat instLTNat b3 b4 ∧ @LT.lt Nat instLTNat b4 b5 ∧ @LT.lt Nat instLTNat b5 b6 ∧ @LT.lt Nat instLTNat b6 b7) : a ≠ b1 := Nat.ne_of_lt (by omega)
theorem o02 {a b1 b2 b3 b4 b5 b6 b7 : Addr} (h : @LT.lt Nat instLTNat a b1 ∧ @LT.lt Nat instLTNat b1 b2 ∧ @LT.lt Nat instLTNat b2 b3 ∧ @LT.lt Nat instLTNat b3 b4 ∧ @LT.lt Nat instLTNat b4 b5 ∧ @LT.lt Nat instLTNat b5 b6 ∧ @LT.lt Nat instLTNat b6 b7) : a ≠ b2 := Nat.ne_of_lt (by omega)
theorem o03 {a b1 b2 b3 b4 b5 b6 b7 : Addr} (h : @LT.lt Nat instLTNat a b1 ∧ @LT.lt Nat instLTNat b1 b2 ∧ @LT.lt Nat instLTNat b2 b3 ∧ @LT.lt Nat instLTNat b3 b4 ∧ @LT.lt Nat instLTNat b4 b5 ∧ @LT.lt Nat instLTNat b5 b6 ∧ @LT.lt Nat instLTNat b6 b7) : a ≠ b3 := Nat.ne_of_lt (by omega)
theorem o04 {a b1 b2 b3 b4 b5 b6 b7 : Addr} (h : @LT.lt Nat instLTNat a b1 ∧ @LT.lt Nat instLTNat b1 b2 ∧ @LT.lt Nat instLTNat b2 b3 ∧ @LT.lt Nat instLTNat b3 b4 ∧ @LT.lt Nat instLTNat b4 b5 ∧ @LT.lt Nat instLTNat b5 b6 ∧ @LT.lt Nat instLTNat b6 b7) : a ≠ b4 := Nat.ne_of_lt (by omega)
theorem o05 {a b1 b2 b3 b4 b5 b6 b7 : Addr} (h : @LT.lt Nat instLTNat a b1 ∧ @LT.lt Nat instLTNat b1 b2 ∧ @LT.lt Nat instLTNat b2 b3 ∧ @LT.lt Nat instLTNat b3 b4 ∧ @LT.lt Nat instLTNat b4 b5 ∧ @LT.lt Nat instLTNat b5 b6 ∧ @LT.lt Nat instLTNat b6 b7) : a ≠ b5 := Nat.ne_of_lt (by omega)
theorem o06 {a b1 b2 b3 b4 b5 b6 b7 : Addr} (h : @LT.lt Nat instLTNat a b1 ∧ @LT.lt Nat instLTNat b1 b2 ∧ @LT.lt Nat instLTNat b2 b3 ∧ @LT.lt Nat instLTNat b3 b4 ∧ @LT.lt Nat instLTNat b4 b5 ∧ @LT.lt Nat instLTNat b5 b6 ∧ @LT.lt Nat instLTNat b6 b7) : a ≠ b6 := Nat.ne_of_lt (by omega)
theorem o07 {a b1 b2 b3 b4 b5 b6 b7 : Addr} (h : @LT.lt Nat instLTNat a b1 ∧ @LT.lt Nat instLTNat b1 b2 ∧ @LT.lt Nat instLTNat b2 b3 ∧ @LT.lt Nat instLTNat b3 b4 ∧ @LT.lt Nat instLTNat b4 b5 ∧ @LT.lt Nat instLTNat b5 b6 ∧ @LT.lt Nat instLTNat b6 b7) : a ≠ b7 := Nat.ne_of_lt (by omega)
theorem o12 {a b1 b2 b3 b4 b5 b6 b7 : Addr} (h : @LT.lt Nat instLTNat a b1 ∧ @LT.lt Nat instLTNat b1 b2 ∧ @LT.lt Nat instLTNat b2 b3 ∧ @LT.lt Nat instLTNat b3 b4 ∧ @LT.lt Nat instLTNat b4 b5 ∧ @LT.lt Nat instLTNat b5 b6 ∧ @LT.lt Nat instLTNat b6 b7) : b1 ≠ b2 := Nat.ne_of_lt (by omega)
theorem o13 {a b1 b2 b3 b4 b5 b6 b7 : Addr} (h : @LT.lt Nat instLTNat a b1 ∧ @LT.lt Nat instLTNat b1 b2 ∧ @LT.lt Nat instLTNat b2 b3 ∧ @LT.lt Nat instLTNat b3 b4 ∧ @LT.lt Nat instLTNat b4 b5 ∧ @LT.lt Nat instLTNat b5 b6 ∧ @LT.lt Nat instLTNat b6 b7) : b1 ≠ b3 := Nat.ne_of_lt (by omega)
theorem o14 {a b1 b2 b3 b4 b5 b6 b7 : Addr} (h : @LT.lt Nat instLTNat a b1 ∧ @LT.lt Nat instLTNat b1 b2 ∧ @LT.lt Nat instLTNat b2 b3 ∧ @LT.lt Nat instLTNat b3 b4 ∧ @LT.lt Nat instLTNat b4 b5 ∧ @LT.lt Nat instLTNat b5 b6 ∧ @LT.lt Nat instLTNat b6 b7) : b1 ≠ b4 := Nat.ne_of_lt (by omega)
theorem o15 {a b1 b2 b3 b4 b5 b6 b7 : Addr} (h : @LT.lt Nat instLTNat a b1 ∧ @LT.lt Nat instLTNat b1 b2 ∧ @LT.lt Nat instLTNat b2 b3 ∧ @LT.lt Nat instLTNat b3 b4 ∧ @LT.lt Nat instLTNat b4 b5 ∧ @LT.lt Nat instLTNat b5 b6 ∧ @LT.lt Nat instLTNat b6 b7) : b1 ≠ b5 := Nat.ne_of_lt (by omega)
theorem o16 {a b1 b2 b3 b4 b5 b6 b7 : Addr} (h : @LT.lt Nat instLTNat a b1 ∧ @LT.lt Nat instLTNat b1 b2 ∧ @LT.lt Nat instLTNat b2 b3 ∧ @LT.lt Nat instLTNat b3 b4 ∧ @LT.lt Nat instLTNat b4 b5 ∧ @LT.lt Nat instLTNat b5 b6 ∧ @LT.lt Nat instLTNat b6 b7) : b1 ≠ b6 := Nat.ne_of_lt (by omega)
theorem o17 {a b1 b2 b3 b4 b5 b6 b7 : Addr} (h : @LT.lt Nat instLTNat a b1 ∧ @LT.lt Nat instLTNat b1 b2 ∧ @LT.lt Nat instLTNat b2 b3 ∧ @LT.lt Nat instLTNat b3 b4 ∧ @LT.lt Nat instLTNat b4 b5 ∧ @LT.lt Nat instLTNat b5 b6 ∧ @LT.lt Nat instLTNat b6 b7) : b1 ≠ b7 := Nat.ne_of_lt (by omega)
theorem o23 {a b1 b2 b3 b4 b5 b6 b7 : Addr} (h : @LT.lt Nat instLTNat a b1 ∧ @LT.lt Nat instLTNat b1 b2 ∧ @LT.lt Nat instLTNat b2 b3 ∧ @LT.lt Nat instLTNat b3 b4 ∧ @LT.lt Nat instLTNat b4 b5 ∧ @LT.lt Nat instLTNat b5 b6 ∧ @LT.lt Nat instLTNat b6 b7) : b2 ≠ b3 := Nat.ne_of_lt (by omega)
theorem o24 {a b1 b2 b3 b4 b5 b6 b7 : Addr} (h : @LT.lt Nat instLTNat a b1 ∧ @LT.lt Nat instLTNat b1 b2 ∧ @LT.lt Nat instLTNat b2 b3 ∧ @LT.lt Nat instLTNat b3 b4 ∧ @LT.lt Nat instLTNat b4 b5 ∧ @LT.lt Nat instLTNat b5 b6 ∧ @LT.lt Nat instLTNat b6 b7) : b2 ≠ b4 := Nat.ne_of_lt (by omega)
theorem o25 {a b1 b2 b3 b4 b5 b6 b7 : Addr} (h : @LT.lt Nat instLTNat a b1 ∧ @LT.lt Nat instLTNat b1 b2 ∧ @LT.lt Nat instLTNat b2 b3 ∧ @LT.lt Nat instLTNat b3 b4 ∧ @LT.lt Nat instLTNat b4 b5 ∧ @LT.lt Nat instLTNat b5 b6 ∧ @LT.lt Nat instLTNat b6 b7) : b2 ≠ b5 := Nat.ne_of_lt (by omega)
theorem o26 {a b1 b2 b3 b4 b5 b6 b7 : Addr} (h : @LT.lt Nat instLTNat a b1 ∧ @LT.lt Nat instLTNat b1 b2 ∧ @LT.lt Nat instLTNat b2 b3 ∧ @LT.lt Nat instLTNat b3 b4 ∧ @LT.lt Nat instLTNat b4 b5 ∧ @LT.lt Nat instLTNat b5 b6 ∧ @LT.lt Nat instLTNat b6 b7) : b2 ≠ b6 := Nat.ne_of_lt (by omega)
theorem o27 {a b1 b2 b3 b4 b5 b6 b7 : Addr} (h : @LT.lt Nat instLTNat a b1 ∧ @LT.lt Nat instLTNat b1 b2 ∧ @LT.lt Nat instLTNat b2 b3 ∧ @LT.lt Nat instLTNat b3 b4 ∧ @LT.lt Nat instLTNat b4 b5 ∧ @LT.lt Nat instLTNat b5 b6 ∧ @LT.lt Nat instLTNat b6 b7) : b2 ≠ b7 := Nat.ne_of_lt (by omega)
theorem o34 {a b1 b2 b3 b4 b5 b6 b7 : Addr} (h : @LT.lt Nat instLTNat a b1 ∧ @LT.lt Nat instLTNat b1 b2 ∧ @LT.lt Nat instLTNat b2 b3 ∧ @LT.lt Nat instLTNat b3 b4 ∧ @LT.lt Nat instLTNat b4 b5 ∧ @LT.lt Nat instLTNat b5 b6 ∧ @LT.lt Nat instLTNat b6 b7) : b3 ≠ b4 := Nat.ne_of_lt (by omega)
theorem o35 {a b1 b2 b3 b4 b5 b6 b7 : Addr} (h : @LT.lt Nat instLTNat a b1 ∧ @LT.lt Nat instLTNat b1 b2 ∧ @LT.lt Nat instLTNat b2 b3 ∧ @LT.lt Nat instLTNat b3 b4 ∧ @LT.lt Nat instLTNat b4 b5 ∧ @LT.lt Nat instLTNat b5 b6 ∧ @LT.lt Nat instLTNat b6 b7) : b3 ≠ b5 := Nat.ne_of_lt (by omega)
theorem o36 {a b1 b2 b3 b4 b5 b6 b7 : Addr} (h : @LT.lt Nat instLTNat a b1 ∧ @LT.lt Nat instLTNat b1 b2 ∧ @LT.lt Nat instLTNat b2 b3 ∧ @LT.lt Nat instLTNat b3 b4 ∧ @LT.lt Nat instLTNat b4 b5 ∧ @LT.lt Nat instLTNat b5 b6 ∧ @LT.lt Nat instLTNat b6 b7) : b3 ≠ b6 := Nat.ne_of_lt (by omega)
theorem o37 {a b1 b2 b3 b4 b5 b6 b7 : Addr} (h : @LT.lt Nat instLTNat a b1 ∧ @LT.lt Nat instLTNat b1 b2 ∧ @LT.lt Nat instLTNat b2 b3 ∧ @LT.lt Nat instLTNat b3 b4 ∧ @LT.lt Nat instLTNat b4 b5 ∧ @LT.lt Nat instLTNat b5 b6 ∧ @LT.lt Nat instLTNat b6 b7) : b3 ≠ b7 := Nat.ne_of_lt (by omega)
theorem o45 {a b1 b2 b3 b4 b5 b6 b7 : Addr} (h : @LT.lt Nat instLTNat a b1 ∧ @LT.lt Nat instLTNat b1 b2 ∧ @LT.lt Nat instLTNat b2 b3 ∧ @LT.lt Nat instLTNat b3 b4 ∧ @LT.lt Nat instLTNat b4 b5 ∧ @LT.lt Nat instLTNat b5 b6 ∧ @LT.lt Nat instLTNat b6 b7) : b4 ≠ b5 := Nat.ne_of_lt (by omega)
theorem o46 {a b1 b2 b3 b4 b5 b6 b7 : Addr} (h : @LT.lt Nat instLTNat a b1 ∧ @LT.lt Nat instLTNat b1 b2 ∧ @LT.lt Nat instLTNat b2 b3 ∧ @LT.lt Nat instLTNat b3 b4 ∧ @LT.lt Nat instLTNat b4 b5 ∧ @LT.lt Nat instLTNat b5 b6 ∧ @LT.lt Nat instLTNat b6 b7) : b4 ≠ b6 := Nat.ne_of_lt (by omega)
theorem o47 {a b1 b2 b3 b4 b5 b6 b7 : Addr} (h : @LT.lt Nat instLTNat a b1 ∧ @LT.lt Nat instLTNat b1 b2 ∧ @LT.lt Nat instLTNat b2 b3 ∧ @LT.lt Nat instLTNat b3 b4 ∧ @LT.lt Nat instLTNat b4 b5 ∧ @LT.lt Nat instLTNat b5 b6 ∧ @LT.lt Nat instLTNat b6 b7) : b4 ≠ b7 := Nat.ne_of_lt (by omega)
theorem o56 {a b1 b2 b3 b4 b5 b6 b7 : Addr} (h : @LT.lt Nat instLTNat a b1 ∧ @LT.lt Nat instLTNat b1 b2 ∧ @LT.lt Nat instLTNat b2 b3 ∧ @LT.lt Nat instLTNat b3 b4 ∧ @LT.lt Nat instLTNat b4 b5 ∧ @LT.lt Nat instLTNat b5 b6 ∧ @LT.lt Nat instLTNat b6 b7) : b5 ≠ b6 := Nat.ne_of_lt (by omega)
theorem o57 {a b1 b2 b3 b4 b5 b6 b7 : Addr} (h : @LT.lt Nat instLTNat a b1 ∧ @LT.lt Nat instLTNat b1 b2 ∧ @LT.lt Nat instLTNat b2 b3 ∧ @LT.lt Nat instLTNat b3 b4 ∧ @LT.lt Nat instLTNat b4 b5 ∧ @LT.lt Nat instLTNat b5 b6 ∧ @LT.lt Nat instLTNat b6 b7) : b5 ≠ b7 := Nat.ne_of_lt (by omega)
theorem o67 {a b1 b2 b3 b4 b5 b6 b7 : Addr} (h : @LT.lt Nat instLTNat a b1 ∧ @LT.lt Nat instLTNat b1 b2 ∧ @LT.lt Nat instLTNat b2 b3 ∧ @LT.lt Nat instLTNat b3 b4 ∧ @LT.lt Nat instLTNat b4 b5 ∧ @LT.lt Nat instLTNat b5 b6 ∧ @LT.lt Nat instLTNat b6 b7) : b6 ≠ b7 := Nat.ne_of_lt (by omega)
theorem d10_0 : decode jdk_29_method_66_code 0 = .ok (.lload_n 0, 1) := by decide +kernel
theorem d10_1 : decode jdk_29_method_66_code 1 = .ok (.lload_n 2, 1) := by decide +kernel
theorem d10_2 : decode jdk_29_method_66_code 2 = .ok (.lcmp, 1) := by decide +kernel
theorem d10_3 : decode jdk_29_method_66_code 3 = .ok (.ifCond .lt 7, 3) := by decide +kernel
theorem d10_6 : decode jdk_29_method_66_code 6 = .ok (.lload_n 0, 1) := by decide +kernel
theorem d10_7 : decode jdk_29_method_66_code 7 = .ok (.goto 4, 3) := by decide +kernel
theorem d10_10 : decode jdk_29_method_66_code 10 = .ok (.lload_n 2, 1) := by decide +kernel
theorem d10_11 : decode jdk_29_method_66_code 11 = .ok (.lreturn, 1) := by decide +kernel
theorem ef_10 (m : MethodId) (q0 : Int64) (q1 : Int64) : entryFrame m #[(.long q0), (.long q1)] 4 = mkF m 0 #[.val (.long q0), .second, .val (.long q1), .second] [] := by first | (simp [entryFrame, mkF, argsToLocals, Value.category]; done) | rfl
def jmax_11 (v11_s0 : Int64) : Int64 := v11_s0
def jmax (q0 : Int64) (q1 : Int64) : Int64 := if q0 < q1 then (jmax_11 q1) else (jmax_11 q0)
set_option maxRecDepth 65536 in
set_option maxHeartbeats 40000000 in
theorem rm_jmax (l : Launch) (Z : State) (a0 : Array Value) (hw : ∀ d ∈ tables_1, d.before a0 Z = true) (ws : List Jvm.Cond) (q0 : Int64) (q1 : Int64) (h0 : Heap) :
    MetFree l mn0 (head1 (Jvm.Cond.code mn0 jdk_29_method_66_code 4 (some .long) :: ws) ({ frames := 0, cells := 0, slots := 0, locals := 0 } : Room)) (fun a U => a = #[(.long q0), (.long q1)] ∧ Z.Warmed39 U.vm ∧ U.heap = h0) (fun _ _ _ _ _ => True) (fun _ U o U' => ∃ v L, o = .returned v ∧ QP (Value.long (jmax q0 q1)) h0 v U'.heap L ∧ FrameEnd U o U' L 0 0) := by
  refine MetFree.of_bodySF (Jvm.Free.JP.mathPlain rfl (by decide +kernel)) hisR ?_
  intro p e s m args below meth c s₁ Bd hml0 hP hK
  obtain ⟨rfl, hZ, hh⟩ := hP
  have hx := Bd.exec
  have hby := Bd.bytes
  have hlk : meth.locks = false := Bd.notSynchronized
  have hml : c.maxLocals = 4 := hml0
  have hown : s.vm.findClass "java/lang/Math" = some m.cls := findClass_of_methodNamed Bd.named
  have X0 : Stand p l e ({ frames := 0, cells := 0, slots := 0, locals := 0 } : Room) s m #[(.long q0), (.long q1)] below meth c s₁ [] 0 0 := Stand.of_body Bd
  have e0 : s₁.heap = h0 := by rw [← hh, Bd.state]; rfl
  have bjmax_11 : ∀ (T : State) (X : Stand p l e ({ frames := 0, cells := 0, slots := 0, locals := 0 } : Room) s m #[(.long q0), (.long q1)] below meth c T [] 0 0) (eT : T.heap = h0) (v11_s0 : Int64), OEnds p e below s (QP (Value.long (jmax_11 v11_s0)) h0) 0 0 (T.setTop (mkF m 11 #[(vj q0), sd, (vj q1), sd] [(.long v11_s0)])) := by
    intro T X eT v11_s0
    exact own_retJ X hx hlk Bd.returns (hb hby d10_11) ⟨congrArg (fun z => some (Value.long z)) (Eq.symm (by rw [jmax_11] <;> rfl)), rfl, eT⟩ (Nat.le_refl _) (Nat.le_refl _)
  show OEnds p e below s _ _ _ _
  refine own_by (fun t k => castTop (ef_10 m q0 q1) k) ?_
  show OEnds p e below s _ _ _ (s₁.setTop (mkF m 0 #[(vj q0), sd, (vj q1), sd] []))
  refine own_by (fun _ k => XS.lloadN X0.here hx rfl (hb hby d10_0) rfl k) ?_
  show OEnds p e below s _ _ _ (s₁.setTop (mkF m 1 #[(vj q0), sd, (vj q1), sd] [(.long q0)]))
  refine own_by (fun _ k => XS.lloadN X0.here hx rfl (hb hby d10_1) rfl k) ?_
  show OEnds p e below s _ _ _ (s₁.setTop (mkF m 2 #[(vj q0), sd, (vj q1), sd] [(.long q1), (.long q0)]))
  refine own_by (fun _ k => XS.lcmp X0.here hx rfl (hb hby d10_2) rfl k) ?_
  show OEnds p e below s _ _ _ (s₁.setTop (mkF m 3 #[(vj q0), sd, (vj q1), sd] [(.int (lcmpW q0 q1))]))
  by_cases hc3 : q0 < q1
  · refine own_by (fun _ k => XS.ifYes X0.here hx rfl (pc0 := 3) (pc' := 10) rfl (hb hby d10_3) rfl ((if0 _ _).trans (tlt ((lw_lt _ _).mpr hc3)).1) (by decide) (by decide) k) ?_
    show OEnds p e below s _ _ _ (s₁.setTop (mkF m 10 #[(vj q0), sd, (vj q1), sd] []))
    refine own_by (fun _ k => XS.lloadN X0.here hx rfl (hb hby d10_10) rfl k) ?_
    show OEnds p e below s _ _ _ (s₁.setTop (mkF m 11 #[(vj q0), sd, (vj q1), sd] [(.long q1)]))
    exact own_eq (congrArg Value.long (by rw [jmax, if_pos hc3] <;> rfl)) (bjmax_11 s₁ X0 e0 q1)
  · refine own_by (fun _ k => XS.ifNo X0.here hx rfl (hb hby d10_3) rfl ((if0 _ _).trans (flt (fun q => hc3 ((lw_lt _ _).mp q))).1) k) ?_
    show OEnds p e below s _ _ _ (s₁.setTop (mkF m 6 #[(vj q0), sd, (vj q1), sd] []))
    refine own_by (fun _ k => XS.lloadN X0.here hx rfl (hb hby d10_6) rfl k) ?_
    show OEnds p e below s _ _ _ (s₁.setTop (mkF m 7 #[(vj q0), sd, (vj q1), sd] [(.long q0)]))
    refine own_by (fun _ k => XS.goto X0.here hx rfl (pc0 := 7) (pc' := 11) rfl (hb hby d10_7) (by decide) (by decide) k) ?_
    show OEnds p e below s _ _ _ (s₁.setTop (mkF m 11 #[(vj q0), sd, (vj q1), sd] [(.long q0)]))
    exact own_eq (congrArg Value.long (by rw [jmax, if_neg hc3] <;> rfl)) (bjmax_11 s₁ X0 e0 q0)
def P1 (g : Nat → Int64) (bd : Int64) (j : Nat) : Bool := !(decide (g j < bd))
def FF (g : Nat → Int64) (bd : Int64) (i m : Nat) : List Nat := (List.range' i m).filter (P1 g bd)
theorem FF_hit {g : Nat → Int64} {bd : Int64} {i m : Nat} (h : ¬ g i < bd) : FF g bd i (m + 1) = i :: FF g bd (i + 1) m := by
  rw [FF, List.range'_succ, List.filter_cons, if_pos (by simp [P1, h])]; rfl
theorem FF_miss {g : Nat → Int64} {bd : Int64} {i m : Nat} (h : g i < bd) : FF g bd i (m + 1) = FF g bd (i + 1) m := by
  rw [FF, List.range'_succ, List.filter_cons, if_neg (by simp [P1, h])]; rfl
theorem FF_app (g : Nat → Int64) (bd : Int64) (i m k : Nat) : FF g bd i (m + k) = FF g bd i m ++ FF g bd (i + m) k := by
  rw [FF, FF, FF, ← List.filter_append, List.range'_append_1]
def cand (g : Nat → Int64) (bd : Int64) (i e t u : Nat) : List Nat := FF g bd i (e - i) ++ FF g bd t (u - t)
def Res (C : List Nat) (r : Int32) (rest : List Nat) : Prop := (C = [] ∧ r = (-1 : Int32) ∧ rest = []) ∨ ∃ j : Nat, C = j :: rest ∧ r.toInt = (j : Int)
theorem lt_i {x y : Int32} {i e : Nat} (hx : x.toInt = (i : Int)) (hy : y.toInt = (e : Int)) (h : x < y) : i < e := by
  rw [Int32.lt_iff_toInt_lt] at h; omega
theorem ge_i {x y : Int32} {i e : Nat} (hx : x.toInt = (i : Int)) (hy : y.toInt = (e : Int)) (h : ¬ x < y) : e ≤ i := by
  rw [Int32.lt_iff_toInt_lt] at h; omega
theorem nlt_i {x y : Int32} {i e : Nat} (hx : x.toInt = (i : Int)) (hy : y.toInt = (e : Int)) (h : e ≤ i) : ¬ x < y := by
  rw [Int32.lt_iff_toInt_lt]; omega
theorem cand_hit {g : Nat → Int64} {bd : Int64} {i e t u : Nat} (hi : i < e) (h : ¬ g i < bd) : cand g bd i e t u = i :: cand g bd (i + 1) e t u := by
  rw [cand, show e - i = (e - (i + 1)) + 1 by omega, FF_hit h]; rfl
theorem cand_miss {g : Nat → Int64} {bd : Int64} {i e t u : Nat} (hi : i < e) (h : g i < bd) : cand g bd i e t u = cand g bd (i + 1) e t u := by
  rw [cand, show e - i = (e - (i + 1)) + 1 by omega, FF_miss h]; rfl
theorem cand_tail {g : Nat → Int64} {bd : Int64} {i e t u : Nat} (hi : e ≤ i) : cand g bd i e t u = cand g bd t u u u := by
  rw [cand, cand, show e - i = 0 by omega, show u - u = 0 by omega]
  show FF g bd t (u - t) = FF g bd t (u - t) ++ []
  rw [List.append_nil]
theorem cand_end {g : Nat → Int64} {bd : Int64} {i e t u : Nat} (hi : e ≤ i) (ht : u ≤ t) : cand g bd i e t u = [] := by
  rw [cand, show e - i = 0 by omega, show u - t = 0 by omega]; rfl
theorem inc_i {x : Int32} {i : Nat} (h : x.toInt = (i : Int)) (hb : i ≤ 1000) : (x + (1 : Int32)).toInt = ((i + 1 : Nat) : Int) := by
  have h1 := c_iadd x 1
  have h2 := rng32 (x + 1)
  have h3 : (1 : Int32).toInt = 1 := by decide
  omega
theorem add8_i {x : Int32} {i : Nat} (h : x.toInt = (i : Int)) (hb : i ≤ 1000) : ((x + (0 : Int32)) + (8 : Int32)).toInt = ((i + 8 : Nat) : Int) := by
  have h0 : x + (0 : Int32) = x := by simp
  rw [h0]
  have h1 := c_iadd x 8
  have h2 := rng32 (x + 8)
  have h3 : (8 : Int32).toInt = 8 := by decide
  omega
theorem add0_i {x : Int32} {i : Nat} (h : x.toInt = (i : Int)) : (x + (0 : Int32)).toInt = (i : Int) := by
  have h0 : x + (0 : Int32) = x := by simp
  rw [h0]; exact h
theorem own_nlt (x : Int32) : ¬ x < ((0 : Int32) + x) := by
  have : (0 : Int32) + x = x := by simp
  rw [this, Int32.lt_iff_toInt_lt]; omega
theorem FF_none {g : Nat → Int64} {bd : Int64} : ∀ {m i : Nat}, (∀ j, j < m → g (i + j) < bd) → FF g bd i m = [] := by
  intro m
  induction m with
  | zero => intro i _; rfl
  | succ m ih =>
    intro i h
    rw [FF_miss (by simpa using h 0 (by omega))]
    exact ih fun j hj => by have := h (j + 1) (by omega); rw [show i + 1 + j = i + (j + 1) by omega]; exact this
theorem cand_lo {g : Nat → Int64} {bd : Int64} {s t u : Nat} (h : ∀ j, j < 8 → g (s + j) < bd) : cand g bd 0 0 t u = cand g bd s (s + 8) t u := by
  rw [cand, cand, show s + 8 - s = 8 by omega, FF_none h]; rfl
def MX (m : Int64) (gv : Nat → Int64) : Prop := ∀ bd, m < bd → ∀ j, j < 8 → gv j < bd
theorem jmax_lt {x y bd : Int64} (h : jmax x y < bd) : x < bd ∧ y < bd := by
  rw [jmax] at h
  by_cases q : x < y
  · simp only [if_pos q, jmax_11] at h
    rw [Int64.lt_iff_toInt_lt] at q h ⊢
    rw [Int64.lt_iff_toInt_lt]
    omega
  · simp only [if_neg q, jmax_11] at h
    rw [Int64.lt_iff_toInt_lt] at q h ⊢
    rw [Int64.lt_iff_toInt_lt]
    omega
theorem mx_step {c2 g1 : Nat → Int64} {p i kb : Nat} (h : ∀ bd, c2 kb < bd → ∀ j, j < 8 → p + j < i → g1 (p + j) < bd) (hp : p ≤ i) : ∀ bd, updL c2 (kb + (i - p) / 8) (jmax (c2 (kb + (i - p) / 8)) (g1 i)) kb < bd → ∀ j, j < 8 → p + j < i + 1 → g1 (p + j) < bd := by
  intro bd hb j hj hji
  by_cases q : (i - p) / 8 = 0
  · rw [updL, if_pos (by omega), q, Nat.add_zero] at hb
    obtain ⟨h1, h2⟩ := jmax_lt hb
    by_cases e : p + j = i
    · rw [e]; exact h2
    · exact h bd h1 j hj (by omega)
  · rw [updL, if_neg (by omega)] at hb
    exact h bd hb j hj (by omega)
theorem ix_i {iv : Int32} {i p : Nat} {K P : Int32} {k : Nat} (h : iv.toInt = (i : Int)) (hp : p ≤ i) (hi : i ≤ 100) (hK : K.toInt = (k : Int) ∧ P.toInt = (p : Int) ∧ k ≤ 100) : (K + ((iv - P) / (8 : Int32))).toInt = ((k + (i - p) / 8 : Nat) : Int) := by
  obtain ⟨h1, h2, h3⟩ := hK
  have a1 := c_isub iv P
  have a2 := rng32 (iv - P)
  have a3 : (iv - P).toInt = ((i - p : Nat) : Int) := by omega
  have a4 := (c_idiv (iv - P) 8 8 (by decide) (by decide)).1 (by omega)
  have a5 := c_iadd K ((iv - P) / (8 : Int32))
  have a6 := rng32 (K + ((iv - P) / (8 : Int32)))
  omega
theorem lt_of_i {x y : Int32} {i e : Nat} (hx : x.toInt = (i : Int)) (hy : y.toInt = (e : Int)) (h : i < e) : x < y := by
  rw [Int32.lt_iff_toInt_lt]; omega
theorem d1_0 : decode prog_32_method_1_code 0 = .ok (.aload_n 0, 1) := by decide +kernel
theorem d1_1 : decode prog_32_method_1_code 1 = .ok (.invokespecial 1, 3) := by decide +kernel
theorem d1_4 : decode prog_32_method_1_code 4 = .ok (.aload_n 0, 1) := by decide +kernel
theorem d1_5 : decode prog_32_method_1_code 5 = .ok (.bipush 64, 2) := by decide +kernel
theorem d1_7 : decode prog_32_method_1_code 7 = .ok (.newarray .long, 2) := by decide +kernel
theorem d1_9 : decode prog_32_method_1_code 9 = .ok (.putfield 7, 3) := by decide +kernel
theorem d1_12 : decode prog_32_method_1_code 12 = .ok (.aload_n 0, 1) := by decide +kernel
theorem d1_13 : decode prog_32_method_1_code 13 = .ok (.bipush 64, 2) := by decide +kernel
theorem d1_15 : decode prog_32_method_1_code 15 = .ok (.newarray .long, 2) := by decide +kernel
theorem d1_17 : decode prog_32_method_1_code 17 = .ok (.putfield 13, 3) := by decide +kernel
theorem d1_20 : decode prog_32_method_1_code 20 = .ok (.aload_n 0, 1) := by decide +kernel
theorem d1_21 : decode prog_32_method_1_code 21 = .ok (.bipush 16, 2) := by decide +kernel
theorem d1_23 : decode prog_32_method_1_code 23 = .ok (.newarray .int, 2) := by decide +kernel
theorem d1_25 : decode prog_32_method_1_code 25 = .ok (.putfield 16, 3) := by decide +kernel
theorem d1_28 : decode prog_32_method_1_code 28 = .ok (.aload_n 0, 1) := by decide +kernel
theorem d1_29 : decode prog_32_method_1_code 29 = .ok (.bipush 16, 2) := by decide +kernel
theorem d1_31 : decode prog_32_method_1_code 31 = .ok (.newarray .int, 2) := by decide +kernel
theorem d1_33 : decode prog_32_method_1_code 33 = .ok (.putfield 20, 3) := by decide +kernel
theorem d1_36 : decode prog_32_method_1_code 36 = .ok (.aload_n 0, 1) := by decide +kernel
theorem d1_37 : decode prog_32_method_1_code 37 = .ok (.bipush 16, 2) := by decide +kernel
theorem d1_39 : decode prog_32_method_1_code 39 = .ok (.newarray .int, 2) := by decide +kernel
theorem d1_41 : decode prog_32_method_1_code 41 = .ok (.putfield 23, 3) := by decide +kernel
theorem d1_44 : decode prog_32_method_1_code 44 = .ok (.aload_n 0, 1) := by decide +kernel
theorem d1_45 : decode prog_32_method_1_code 45 = .ok (.bipush 96, 2) := by decide +kernel
theorem d1_47 : decode prog_32_method_1_code 47 = .ok (.newarray .int, 2) := by decide +kernel
theorem d1_49 : decode prog_32_method_1_code 49 = .ok (.putfield 26, 3) := by decide +kernel
theorem d1_52 : decode prog_32_method_1_code 52 = .ok (.aload_n 0, 1) := by decide +kernel
theorem d1_53 : decode prog_32_method_1_code 53 = .ok (.bipush 32, 2) := by decide +kernel
theorem d1_55 : decode prog_32_method_1_code 55 = .ok (.newarray .int, 2) := by decide +kernel
theorem d1_57 : decode prog_32_method_1_code 57 = .ok (.putfield 29, 3) := by decide +kernel
theorem d1_60 : decode prog_32_method_1_code 60 = .ok (.return_, 1) := by decide +kernel
theorem pn_1 : plainName "com/example/graphweft/graphweft/RangeMaxTree" = true := by first | (simp [plainName, overriddenIn]; done) | decide +kernel
theorem ef_1 (m : MethodId) (x0 : Addr) : entryFrame m #[(.ref x0)] 1 = mkF m 0 #[.val (.ref x0)] [] := by first | (simp [entryFrame, mkF, argsToLocals, Value.category]; done) | rfl
def Q_init (Z : State) (a : Addr) (h0 : Heap) (n0 : Nat) (r : Option Value) (h : Heap) (L : List Loc) : Prop := r = none ∧ Fr n0 L ∧ Keep h0 h [a] ∧ ∃ b1 b2 b3 b4 b5 b6 b7 : Addr, (@LT.lt Nat instLTNat a b1 ∧ @LT.lt Nat instLTNat b1 b2 ∧ @LT.lt Nat instLTNat b2 b3 ∧ @LT.lt Nat instLTNat b3 b4 ∧ @LT.lt Nat instLTNat b4 b5 ∧ @LT.lt Nat instLTNat b5 b6 ∧ @LT.lt Nat instLTNat b6 b7) ∧ (n0 ≤ b1 ∧ n0 ≤ b2 ∧ n0 ≤ b3 ∧ n0 ≤ b4 ∧ n0 ≤ b5 ∧ n0 ≤ b6 ∧ n0 ≤ b7) ∧ Obj Z h a "com/example/graphweft/graphweft/RangeMaxTree" sch_rt [(.ref b1), (.ref b2), (.ref b3), (.ref b4), (.ref b5), (.ref b6), (.ref b7), (.int 0), (.int 0), (.int 0), (.long 0), (.int 0), (.int 0), (.int 0), (.int 0), (.int 0), (.int 0), (.int 0), (.int 0)] ∧ FA Z h b1 .long 64 (fun i => .long ((fun _ => (0 : Int64)) i)) ∧ FA Z h b2 .long 64 (fun i => .long ((fun _ => (0 : Int64)) i)) ∧ FA Z h b3 .int 16 (fun i => .int ((fun _ => (0 : Int32)) i)) ∧ FA Z h b4 .int 16 (fun i => .int ((fun _ => (0 : Int32)) i)) ∧ FA Z h b5 .int 16 (fun i => .int ((fun _ => (0 : Int32)) i)) ∧ FA Z h b6 .int 96 (fun i => .int ((fun _ => (0 : Int32)) i)) ∧ FA Z h b7 .int 32 (fun i => .int ((fun _ => (0 : Int32)) i))
set_option maxRecDepth 65536 in
set_option maxHeartbeats 40000000 in
theorem rm_init (l : Launch) (Z : State) (a0 : Array Value) (hw : ∀ d ∈ tables_1, d.before a0 Z = true) (ws : List Jvm.Cond) (a : Addr) (h0 : Heap) (n0 : Nat) (Z0 : n0 ≤ h0.size) (O0 : Obj Z h0 a "com/example/graphweft/graphweft/RangeMaxTree" sch_rt [.null, .null, .null, .null, .null, .null, .null, (.int 0), (.int 0), (.int 0), (.long 0), (.int 0), (.int 0), (.int 0), (.int 0), (.int 0), (.int 0), (.int 0), (.int 0)]) (ga : n0 ≤ a) :
    MetFree l mn1 (head1 (Jvm.Cond.code mn1 prog_32_method_1_code 1 none :: ws) ({ frames := 1, cells := 7, slots := 304, locals := 12 } : Room)) (fun a_ U => a_ = #[(.ref a)] ∧ Z.Warmed39 U.vm ∧ U.heap = h0) (fun _ _ _ _ _ => True) (fun _ U o U' => ∃ v_ L_, o = .returned v_ ∧ Q_init Z a h0 n0 v_ U'.heap L_ ∧ FrameEnd U o U' L_ ({ frames := 1, cells := 7, slots := 304, locals := 12 } : Room).cells ({ frames := 1, cells := 7, slots := 304, locals := 12 } : Room).slots) := by
  refine MetFree.of_bodySF (plainFor_of_name pn_1) hisR ?_
  intro p e s m args below meth c s₁ Bd hml0 hP hK
  obtain ⟨rfl, hZ, hh⟩ := hP
  have hx := Bd.exec
  have hby := Bd.bytes
  have hlk : meth.locks = false := Bd.notSynchronized
  have hml : c.maxLocals = 1 := hml0
  have hown : s.vm.findClass "com/example/graphweft/graphweft/RangeMaxTree" = some m.cls := findClass_of_methodNamed Bd.named
  have hnm := (name_of_methodNamed Bd.named Bd.method).1
  have X0 : Stand p l e ({ frames := 1, cells := 7, slots := 304, locals := 12 } : Room) s m #[(.ref a)] below meth c s₁ [] 0 0 := Stand.of_body Bd
  have e0 : s₁.heap = h0 := by rw [← hh, Bd.state]; rfl
  have N0 := Fr.nil n0
  have K0 : Keep h0 h0 [a] := Keep.refl _ _
  show OEnds p e below s (Q_init Z a h0 n0) _ _ _
  refine own_by (fun t k => castTop (ef_1 m a) k) ?_
  show OEnds p e below s _ _ _ (s₁.setTop (mkF m 0 #[(vr a)] []))
  refine qaN 1 X0 hx hby d1_0 rfl rfl ?_
  obtain ⟨T1, X1, e1, st1⟩ := initO X0 hx hZ hown (tw7 hw) (tw8 hw) (tw9 hw) e0 (g := (mkF m 1 #[(vr a)] [(.ref a)])) rfl (by rw [hml]; rfl) rfl (hb hby d1_1) (by decide) (W := 0) (by show 2 * 0 + _ ≤ _; exact Nat.le_of_eq rfl) (by decide)
  refine qat 4 #[(vr a)] [] st1 ?_
  refine qaN 5 X1 hx hby d1_4 rfl rfl ?_
  refine qc2 7 64 X1 hx hby d1_5 rfl rfl ?_
  obtain ⟨T2, h2, k2, X2, e2, E2, A2, st2⟩ := newP X1 hx hZ (aty := .long) (tw0 hw) e1 (g := (mkF m 7 #[(vr a)] [(.int 64), (.ref a)])) rfl (hb hby d1_7) rfl (by decide) (cap := 64) (by decide) (by decide) (by decide) (by decide)
  obtain ⟨nb2, g2⟩ : ∃ z, z = h0.size := ⟨_, rfl⟩
  rw [← g2] at A2 st2
  have g_nb2 : n0 ≤ nb2 := Nat.le_trans Z0 (Nat.le_of_eq g2.symm)
  have sz_nb2 : h0.size ≤ nb2 := Nat.le_trans K0.1 (Nat.le_of_eq g2.symm)
  have K2 := K0.ext E2
  have Z2 := Nat.le_trans Z0 E2.1
  have F2 : FA Z h2 nb2 .long 64 (fun i => .long ((fun _ => (0 : Int64)) i)) := FA.new A2 (by decide) (by decide) rfl
  refine qat 9 #[(vr a)] [(.ref nb2), (.ref a)] st2 ?_
  have O4 := (O0.ext E2)
  obtain ⟨T3, h3, X3, e3, W3, st3⟩ := putF X2 hx hZ hown (host := "") (Or.inl (tw10 hw)) Via.refl e2 (O4.fld 0 rfl rfl) O4.exa (Or.inl (tw11 hw)) (tw2 hw) (ty := (.array .long)) (by decide) rfl rfl (g := (mkF m 9 #[(vr a)] [(.ref nb2), (.ref a)])) rfl rfl (hb hby d1_9)
  have O3 : Obj Z h3 a "com/example/graphweft/graphweft/RangeMaxTree" sch_rt [(.ref nb2), .null, .null, .null, .null, .null, .null, (.int 0), (.int 0), (.int 0), (.long 0), (.int 0), (.int 0), (.int 0), (.int 0), (.int 0), (.int 0), (.int 0), (.int 0)] := O4.set (so_sch_rt hw) W3 0 rfl (Nat.le_of_ble_eq_true rfl)
  have N3 := Fr.snoc X3 N0 ga
  have Z3 := Nat.le_trans Z2 (Keep.of_wr W3).1
  have K3 := K2.wr W3 (wi 0 rfl)
  refine qat 12 #[(vr a)] [] st3 ?_
  refine qaN 13 X3 hx hby d1_12 rfl rfl ?_
  refine qc2 15 64 X3 hx hby d1_13 rfl rfl ?_
  obtain ⟨T5, h5, k5, X5, e5, E5, A5, st5⟩ := newP X3 hx hZ (aty := .long) (tw0 hw) e3 (g := (mkF m 15 #[(vr a)] [(.int 64), (.ref a)])) rfl (hb hby d1_15) rfl (by decide) (cap := 64) (by decide) (by decide) (by decide) (by decide)
  obtain ⟨nb5, g5⟩ : ∃ z, z = h3.size := ⟨_, rfl⟩
  rw [← g5] at A5 st5
  have F6 := (F2.other W3 (Ne.symm (Nat.ne_of_lt (Nat.lt_of_lt_of_le O0.lt (Nat.le_of_eq g2.symm)))))
  have lt_nb5 : nb2 < nb5 := Nat.lt_of_lt_of_le F6.lt (Nat.le_of_eq g5.symm)
  have g_nb5 : n0 ≤ nb5 := Nat.le_trans Z3 (Nat.le_of_eq g5.symm)
  have sz_nb5 : h0.size ≤ nb5 := Nat.le_trans K3.1 (Nat.le_of_eq g5.symm)
  have K5 := K3.ext E5
  have Z5 := Nat.le_trans Z3 E5.1
  have F5 : FA Z h5 nb5 .long 64 (fun i => .long ((fun _ => (0 : Int64)) i)) := FA.new A5 (by decide) (by decide) rfl
  refine qat 17 #[(vr a)] [(.ref nb5), (.ref a)] st5 ?_
  have O8 := (O3.ext E5)
  obtain ⟨T7, h7, X7, e7, W7, st7⟩ := putF X5 hx hZ hown (host := "") (Or.inl (tw12 hw)) Via.refl e5 (O8.fld 1 rfl rfl) O8.exa (Or.inl (tw13 hw)) (tw2 hw) (ty := (.array .long)) (by decide) rfl rfl (g := (mkF m 17 #[(vr a)] [(.ref nb5), (.ref a)])) rfl rfl (hb hby d1_17)
  have O7 : Obj Z h7 a "com/example/graphweft/graphweft/RangeMaxTree" sch_rt [(.ref nb2), (.ref nb5), .null, .null, .null, .null, .null, (.int 0), (.int 0), (.int 0), (.long 0), (.int 0), (.int 0), (.int 0), (.int 0), (.int 0), (.int 0), (.int 0), (.int 0)] := O8.set (so_sch_rt hw) W7 1 rfl (Nat.le_of_ble_eq_true rfl)
  have N7 := Fr.snoc X7 N3 ga
  have Z7 := Nat.le_trans Z5 (Keep.of_wr W7).1
  have K7 := K5.wr W7 (wi 0 rfl)
  refine qat 20 #[(vr a)] [] st7 ?_
  refine qaN 21 X7 hx hby d1_20 rfl rfl ?_
  refine qc2 23 16 X7 hx hby d1_21 rfl rfl ?_
  obtain ⟨T9, h9, k9, X9, e9, E9, A9, st9⟩ := newP X7 hx hZ (aty := .int) (tw14 hw) e7 (g := (mkF m 23 #[(vr a)] [(.int 16), (.ref a)])) rfl (hb hby d1_23) rfl (by decide) (cap := 16) (by decide) (by decide) (by decide) (by decide)
  obtain ⟨nb9, g9⟩ : ∃ z, z = h7.size := ⟨_, rfl⟩
  rw [← g9] at A9 st9
  have F10 := ((F6.ext E5).other W7 (Ne.symm (Nat.ne_of_lt (Nat.lt_of_lt_of_le O0.lt (Nat.le_of_eq g2.symm)))))
  have F11 := (F5.other W7 (Ne.symm (Nat.ne_of_lt (Nat.lt_of_lt_of_le O3.lt (Nat.le_of_eq g5.symm)))))
  have lt_nb9 : nb5 < nb9 := Nat.lt_of_lt_of_le F11.lt (Nat.le_of_eq g9.symm)
  have g_nb9 : n0 ≤ nb9 := Nat.le_trans Z7 (Nat.le_of_eq g9.symm)
  have sz_nb9 : h0.size ≤ nb9 := Nat.le_trans K7.1 (Nat.le_of_eq g9.symm)
  have K9 := K7.ext E9
  have Z9 := Nat.le_trans Z7 E9.1
  have F9 : FA Z h9 nb9 .int 16 (fun i => .int ((fun _ => (0 : Int32)) i)) := FA.new A9 (by decide) (by decide) rfl
  refine qat 25 #[(vr a)] [(.ref nb9), (.ref a)] st9 ?_
  have O13 := (O7.ext E9)
  obtain ⟨T12, h12, X12, e12, W12, st12⟩ := putF X9 hx hZ hown (host := "") (Or.inl (tw15 hw)) Via.refl e9 (O13.fld 2 rfl rfl) O13.exa (Or.inl (tw16 hw)) (tw2 hw) (ty := (.array .int)) (by decide) rfl rfl (g := (mkF m 25 #[(vr a)] [(.ref nb9), (.ref a)])) rfl rfl (hb hby d1_25)
  have O12 : Obj Z h12 a "com/example/graphweft/graphweft/RangeMaxTree" sch_rt [(.ref nb2), (.ref nb5), (.ref nb9), .null, .null, .null, .null, (.int 0), (.int 0), (.int 0), (.long 0), (.int 0), (.int 0), (.int 0), (.int 0), (.int 0), (.int 0), (.int 0), (.int 0)] := O13.set (so_sch_rt hw) W12 2 rfl (Nat.le_of_ble_eq_true rfl)
  have N12 := Fr.snoc X12 N7 ga
  have Z12 := Nat.le_trans Z9 (Keep.of_wr W12).1
  have K12 := K9.wr W12 (wi 0 rfl)
  refine qat 28 #[(vr a)] [] st12 ?_
  refine qaN 29 X12 hx hby d1_28 rfl rfl ?_
  refine qc2 31 16 X12 hx hby d1_29 rfl rfl ?_
  obtain ⟨T14, h14, k14, X14, e14, E14, A14, st14⟩ := newP X12 hx hZ (aty := .int) (tw14 hw) e12 (g := (mkF m 31 #[(vr a)] [(.int 16), (.ref a)])) rfl (hb hby d1_31) rfl (by decide) (cap := 16) (by decide) (by decide) (by decide) (by decide)
  obtain ⟨nb14, g14⟩ : ∃ z, z = h12.size := ⟨_, rfl⟩
  rw [← g14] at A14 st14
  have F15 := ((F10.ext E9).other W12 (Ne.symm (Nat.ne_of_lt (Nat.lt_of_lt_of_le O0.lt (Nat.le_of_eq g2.symm)))))
  have F16 := ((F11.ext E9).other W12 (Ne.symm (Nat.ne_of_lt (Nat.lt_of_lt_of_le O3.lt (Nat.le_of_eq g5.symm)))))
  have F17 := (F9.other W12 (Ne.symm (Nat.ne_of_lt (Nat.lt_of_lt_of_le O7.lt (Nat.le_of_eq g9.symm)))))
  have lt_nb14 : nb9 < nb14 := Nat.lt_of_lt_of_le F17.lt (Nat.le_of_eq g14.symm)
  have g_nb14 : n0 ≤ nb14 := Nat.le_trans Z12 (Nat.le_of_eq g14.symm)
  have sz_nb14 : h0.size ≤ nb14 := Nat.le_trans K12.1 (Nat.le_of_eq g14.symm)
  have K14 := K12.ext E14
  have Z14 := Nat.le_trans Z12 E14.1
  have F14 : FA Z h14 nb14 .int 16 (fun i => .int ((fun _ => (0 : Int32)) i)) := FA.new A14 (by decide) (by decide) rfl
  refine qat 33 #[(vr a)] [(.ref nb14), (.ref a)] st14 ?_
  have O19 := (O12.ext E14)
  obtain ⟨T18, h18, X18, e18, W18, st18⟩ := putF X14 hx hZ hown (host := "") (Or.inl (tw17 hw)) Via.refl e14 (O19.fld 3 rfl rfl) O19.exa (Or.inl (tw18 hw)) (tw2 hw) (ty := (.array .int)) (by decide) rfl rfl (g := (mkF m 33 #[(vr a)] [(.ref nb14), (.ref a)])) rfl rfl (hb hby d1_33)
  have O18 : Obj Z h18 a "com/example/graphweft/graphweft/RangeMaxTree" sch_rt [(.ref nb2), (.ref nb5), (.ref nb9), (.ref nb14), .null, .null, .null, (.int 0), (.int 0), (.int 0), (.long 0), (.int 0), (.int 0), (.int 0), (.int 0), (.int 0), (.int 0), (.int 0), (.int 0)] := O19.set (so_sch_rt hw) W18 3 rfl (Nat.le_of_ble_eq_true rfl)
  have N18 := Fr.snoc X18 N12 ga
  have Z18 := Nat.le_trans Z14 (Keep.of_wr W18).1
  have K18 := K14.wr W18 (wi 0 rfl)
  refine qat 36 #[(vr a)] [] st18 ?_
  refine qaN 37 X18 hx hby d1_36 rfl rfl ?_
  refine qc2 39 16 X18 hx hby d1_37 rfl rfl ?_
  obtain ⟨T20, h20, k20, X20, e20, E20, A20, st20⟩ := newP X18 hx hZ (aty := .int) (tw14 hw) e18 (g := (mkF m 39 #[(vr a)] [(.int 16), (.ref a)])) rfl (hb hby d1_39) rfl (by decide) (cap := 16) (by decide) (by decide) (by decide) (by decide)
  obtain ⟨nb20, g20⟩ : ∃ z, z = h18.size := ⟨_, rfl⟩
  rw [← g20] at A20 st20
  have F21 := ((F15.ext E14).other W18 (Ne.symm (Nat.ne_of_lt (Nat.lt_of_lt_of_le O0.lt (Nat.le_of_eq g2.symm)))))
  have F22 := ((F16.ext E14).other W18 (Ne.symm (Nat.ne_of_lt (Nat.lt_of_lt_of_le O3.lt (Nat.le_of_eq g5.symm)))))
  have F23 := ((F17.ext E14).other W18 (Ne.symm (Nat.ne_of_lt (Nat.lt_of_lt_of_le O7.lt (Nat.le_of_eq g9.symm)))))
  have F24 := (F14.other W18 (Ne.symm (Nat.ne_of_lt (Nat.lt_of_lt_of_le O12.lt (Nat.le_of_eq g14.symm)))))
  have lt_nb20 : nb14 < nb20 := Nat.lt_of_lt_of_le F24.lt (Nat.le_of_eq g20.symm)
  have g_nb20 : n0 ≤ nb20 := Nat.le_trans Z18 (Nat.le_of_eq g20.symm)
  have sz_nb20 : h0.size ≤ nb20 := Nat.le_trans K18.1 (Nat.le_of_eq g20.symm)
  have K20 := K18.ext E20
  have Z20 := Nat.le_trans Z18 E20.1
  have F20 : FA Z h20 nb20 .int 16 (fun i => .int ((fun _ => (0 : Int32)) i)) := FA.new A20 (by decide) (by decide) rfl
  refine qat 41 #[(vr a)] [(.ref nb20), (.ref a)] st20 ?_
  have O26 := (O18.ext E20)
  obtain ⟨T25, h25, X25, e25, W25, st25⟩ := putF X20 hx hZ hown (host := "") (Or.inl (tw19 hw)) Via.refl e20 (O26.fld 4 rfl rfl) O26.exa (Or.inl (tw20 hw)) (tw2 hw) (ty := (.array .int)) (by decide) rfl rfl (g := (mkF m 41 #[(vr a)] [(.ref nb20), (.ref a)])) rfl rfl (hb hby d1_41)
  have O25 : Obj Z h25 a "com/example/graphweft/graphweft/RangeMaxTree" sch_rt [(.ref nb2), (.ref nb5), (.ref nb9), (.ref nb14), (.ref nb20), .null, .null, (.int 0), (.int 0), (.int 0), (.long 0), (.int 0), (.int 0), (.int 0), (.int 0), (.int 0), (.int 0), (.int 0), (.int 0)] := O26.set (so_sch_rt hw) W25 4 rfl (Nat.le_of_ble_eq_true rfl)
  have N25 := Fr.snoc X25 N18 ga
  have Z25 := Nat.le_trans Z20 (Keep.of_wr W25).1
  have K25 := K20.wr W25 (wi 0 rfl)
  refine qat 44 #[(vr a)] [] st25 ?_
  refine qaN 45 X25 hx hby d1_44 rfl rfl ?_
  refine qc2 47 96 X25 hx hby d1_45 rfl rfl ?_
  obtain ⟨T27, h27, k27, X27, e27, E27, A27, st27⟩ := newP X25 hx hZ (aty := .int) (tw14 hw) e25 (g := (mkF m 47 #[(vr a)] [(.int 96), (.ref a)])) rfl (hb hby d1_47) rfl (by decide) (cap := 96) (by decide) (by decide) (by decide) (by decide)
  obtain ⟨nb27, g27⟩ : ∃ z, z = h25.size := ⟨_, rfl⟩
  rw [← g27] at A27 st27
  have F28 := ((F21.ext E20).other W25 (Ne.symm (Nat.ne_of_lt (Nat.lt_of_lt_of_le O0.lt (Nat.le_of_eq g2.symm)))))
  have F29 := ((F22.ext E20).other W25 (Ne.symm (Nat.ne_of_lt (Nat.lt_of_lt_of_le O3.lt (Nat.le_of_eq g5.symm)))))
  have F30 := ((F23.ext E20).other W25 (Ne.symm (Nat.ne_of_lt (Nat.lt_of_lt_of_le O7.lt (Nat.le_of_eq g9.symm)))))
  have F31 := ((F24.ext E20).other W25 (Ne.symm (Nat.ne_of_lt (Nat.lt_of_lt_of_le O12.lt (Nat.le_of_eq g14.symm)))))
  have F32 := (F20.other W25 (Ne.symm (Nat.ne_of_lt (Nat.lt_of_lt_of_le O18.lt (Nat.le_of_eq g20.symm)))))
  have lt_nb27 : nb20 < nb27 := Nat.lt_of_lt_of_le F32.lt (Nat.le_of_eq g27.symm)
  have g_nb27 : n0 ≤ nb27 := Nat.le_trans Z25 (Nat.le_of_eq g27.symm)
  have sz_nb27 : h0.size ≤ nb27 := Nat.le_trans K25.1 (Nat.le_of_eq g27.symm)
  have K27 := K25.ext E27
  have Z27 := Nat.le_trans Z25 E27.1
  have F27 : FA Z h27 nb27 .int 96 (fun i => .int ((fun _ => (0 : Int32)) i)) := FA.new A27 (by decide) (by decide) rfl
  refine qat 49 #[(vr a)] [(.ref nb27), (.ref a)] st27 ?_
  have O34 := (O25.ext E27)
  obtain ⟨T33, h33, X33, e33, W33, st33⟩ := putF X27 hx hZ hown (host := "") (Or.inl (tw21 hw)) Via.refl e27 (O34.fld 5 rfl rfl) O34.exa (Or.inr ⟨(tw22 hw), rfl, hnm⟩) (tw2 hw) (ty := (.array .int)) (by decide) rfl rfl (g := (mkF m 49 #[(vr a)] [(.ref nb27), (.ref a)])) rfl rfl (hb hby d1_49)
  have O33 : Obj Z h33 a "com/example/graphweft/graphweft/RangeMaxTree" sch_rt [(.ref nb2), (.ref nb5), (.ref nb9), (.ref nb14), (.ref nb20), (.ref nb27), .null, (.int 0), (.int 0), (.int 0), (.long 0), (.int 0), (.int 0), (.int 0), (.int 0), (.int 0), (.int 0), (.int 0), (.int 0)] := O34.set (so_sch_rt hw) W33 5 rfl (Nat.le_of_ble_eq_true rfl)
  have N33 := Fr.snoc X33 N25 ga
  have Z33 := Nat.le_trans Z27 (Keep.of_wr W33).1
  have K33 := K27.wr W33 (wi 0 rfl)
  refine qat 52 #[(vr a)] [] st33 ?_
  refine qaN 53 X33 hx hby d1_52 rfl rfl ?_
  refine qc2 55 32 X33 hx hby d1_53 rfl rfl ?_
  obtain ⟨T35, h35, k35, X35, e35, E35, A35, st35⟩ := newP X33 hx hZ (aty := .int) (tw14 hw) e33 (g := (mkF m 55 #[(vr a)] [(.int 32), (.ref a)])) rfl (hb hby d1_55) rfl (by decide) (cap := 32) (by decide) (by decide) (by decide) (by decide)
  obtain ⟨nb35, g35⟩ : ∃ z, z = h33.size := ⟨_, rfl⟩
  rw [← g35] at A35 st35
  have F36 := ((F28.ext E27).other W33 (Ne.symm (Nat.ne_of_lt (Nat.lt_of_lt_of_le O0.lt (Nat.le_of_eq g2.symm)))))
  have F37 := ((F29.ext E27).other W33 (Ne.symm (Nat.ne_of_lt (Nat.lt_of_lt_of_le O3.lt (Nat.le_of_eq g5.symm)))))
  have F38 := ((F30.ext E27).other W33 (Ne.symm (Nat.ne_of_lt (Nat.lt_of_lt_of_le O7.lt (Nat.le_of_eq g9.symm)))))
  have F39 := ((F31.ext E27).other W33 (Ne.symm (Nat.ne_of_lt (Nat.lt_of_lt_of_le O12.lt (Nat.le_of_eq g14.symm)))))
  have F40 := ((F32.ext E27).other W33 (Ne.symm (Nat.ne_of_lt (Nat.lt_of_lt_of_le O18.lt (Nat.le_of_eq g20.symm)))))
  have F41 := (F27.other W33 (Ne.symm (Nat.ne_of_lt (Nat.lt_of_lt_of_le O25.lt (Nat.le_of_eq g27.symm)))))
  have lt_nb35 : nb27 < nb35 := Nat.lt_of_lt_of_le F41.lt (Nat.le_of_eq g35.symm)
  have g_nb35 : n0 ≤ nb35 := Nat.le_trans Z33 (Nat.le_of_eq g35.symm)
  have sz_nb35 : h0.size ≤ nb35 := Nat.le_trans K33.1 (Nat.le_of_eq g35.symm)
  have K35 := K33.ext E35
  have Z35 := Nat.le_trans Z33 E35.1
  have F35 : FA Z h35 nb35 .int 32 (fun i => .int ((fun _ => (0 : Int32)) i)) := FA.new A35 (by decide) (by decide) rfl
  refine qat 57 #[(vr a)] [(.ref nb35), (.ref a)] st35 ?_
  have O43 := (O33.ext E35)
  obtain ⟨T42, h42, X42, e42, W42, st42⟩ := putF X35 hx hZ hown (host := "") (Or.inl (tw23 hw)) Via.refl e35 (O43.fld 6 rfl rfl) O43.exa (Or.inr ⟨(tw24 hw), rfl, hnm⟩) (tw2 hw) (ty := (.array .int)) (by decide) rfl rfl (g := (mkF m 57 #[(vr a)] [(.ref nb35), (.ref a)])) rfl rfl (hb hby d1_57)
  have O42 : Obj Z h42 a "com/example/graphweft/graphweft/RangeMaxTree" sch_rt [(.ref nb2), (.ref nb5), (.ref nb9), (.ref nb14), (.ref nb20), (.ref nb27), (.ref nb35), (.int 0), (.int 0), (.int 0), (.long 0), (.int 0), (.int 0), (.int 0), (.int 0), (.int 0), (.int 0), (.int 0), (.int 0)] := O43.set (so_sch_rt hw) W42 6 rfl (Nat.le_of_ble_eq_true rfl)
  have N42 := Fr.snoc X42 N33 ga
  have Z42 := Nat.le_trans Z35 (Keep.of_wr W42).1
  have K42 := K35.wr W42 (wi 0 rfl)
  refine qat 60 #[(vr a)] [] st42 ?_
  have F44 := ((F36.ext E35).other W42 (Ne.symm (Nat.ne_of_lt (Nat.lt_of_lt_of_le O0.lt (Nat.le_of_eq g2.symm)))))
  have F45 := ((F37.ext E35).other W42 (Ne.symm (Nat.ne_of_lt (Nat.lt_of_lt_of_le O3.lt (Nat.le_of_eq g5.symm)))))
  have F46 := ((F38.ext E35).other W42 (Ne.symm (Nat.ne_of_lt (Nat.lt_of_lt_of_le O7.lt (Nat.le_of_eq g9.symm)))))
  have F47 := ((F39.ext E35).other W42 (Ne.symm (Nat.ne_of_lt (Nat.lt_of_lt_of_le O12.lt (Nat.le_of_eq g14.symm)))))
  have F48 := ((F40.ext E35).other W42 (Ne.symm (Nat.ne_of_lt (Nat.lt_of_lt_of_le O18.lt (Nat.le_of_eq g20.symm)))))
  have F49 := ((F41.ext E35).other W42 (Ne.symm (Nat.ne_of_lt (Nat.lt_of_lt_of_le O25.lt (Nat.le_of_eq g27.symm)))))
  have F50 := (F35.other W42 (Ne.symm (Nat.ne_of_lt (Nat.lt_of_lt_of_le O33.lt (Nat.le_of_eq g35.symm)))))
  exact own_retV X42 hx hlk Bd.returns (hb hby d1_60) (by rw [e42]; exact ⟨rfl, N42, K42, nb2, nb5, nb9, nb14, nb20, nb27, nb35, ⟨(Nat.lt_of_lt_of_le O0.lt sz_nb2), lt_nb5, lt_nb9, lt_nb14, lt_nb20, lt_nb27, lt_nb35⟩, ⟨g_nb2, g_nb5, g_nb9, g_nb14, g_nb20, g_nb27, g_nb35⟩, O42, F44, F45, F46, F47, F48, F49, F50⟩) (by decide) (by decide)
theorem d9_0 : decode prog_32_method_4_code 0 = .ok (.aload_n 0, 1) := by decide +kernel
theorem d9_1 : decode prog_32_method_4_code 1 = .ok (.getfield 32, 3) := by decide +kernel
theorem d9_4 : decode prog_32_method_4_code 4 = .ok (.aload_n 0, 1) := by decide +kernel
theorem d9_5 : decode prog_32_method_4_code 5 = .ok (.getfield 7, 3) := by decide +kernel
theorem d9_8 : decode prog_32_method_4_code 8 = .ok (.arraylength, 1) := by decide +kernel
theorem d9_9 : decode prog_32_method_4_code 9 = .ok (.if_icmp .ne 20, 3) := by decide +kernel
theorem d9_29 : decode prog_32_method_4_code 29 = .ok (.aload_n 0, 1) := by decide +kernel
theorem d9_30 : decode prog_32_method_4_code 30 = .ok (.getfield 7, 3) := by decide +kernel
theorem d9_33 : decode prog_32_method_4_code 33 = .ok (.aload_n 0, 1) := by decide +kernel
theorem d9_34 : decode prog_32_method_4_code 34 = .ok (.dup, 1) := by decide +kernel
theorem d9_35 : decode prog_32_method_4_code 35 = .ok (.getfield 32, 3) := by decide +kernel
theorem d9_38 : decode prog_32_method_4_code 38 = .ok (.dup_x1, 1) := by decide +kernel
theorem d9_39 : decode prog_32_method_4_code 39 = .ok (.iconst 1, 1) := by decide +kernel
theorem d9_40 : decode prog_32_method_4_code 40 = .ok (.iadd, 1) := by decide +kernel
theorem d9_41 : decode prog_32_method_4_code 41 = .ok (.putfield 32, 3) := by decide +kernel
theorem d9_44 : decode prog_32_method_4_code 44 = .ok (.lload_n 1, 1) := by decide +kernel
theorem d9_45 : decode prog_32_method_4_code 45 = .ok (.lastore, 1) := by decide +kernel
theorem d9_46 : decode prog_32_method_4_code 46 = .ok (.return_, 1) := by decide +kernel
theorem pn_9 : plainName "com/example/graphweft/graphweft/RangeMaxTree" = true := by first | (simp [plainName, overriddenIn]; done) | decide +kernel
theorem ef_9 (m : MethodId) (x0 : Addr) (x1 : Int64) : entryFrame m #[(.ref x0), (.long x1)] 3 = mkF m 0 #[.val (.ref x0), .val (.long x1), .second] [] := by first | (simp [entryFrame, mkF, argsToLocals, Value.category]; done) | rfl
def Q_addk (Z : State) (a : Addr) (vv : Int64) (b1 : Addr) (b2 : Addr) (b3 : Addr) (b4 : Addr) (b5 : Addr) (b6 : Addr) (b7 : Addr) (sc : Int32) (sz : Int32) (nc : Int32) (bd : Int64) (ss : Int32) (bs : Int32) (bc : Int32) (pn : Int32) (se : Int32) (sa : Int32) (ta : Int32) (te : Int32) (g1 : Nat → Int64) (h0 : Heap) (n0 : Nat) (r : Option Value) (h : Heap) (L : List Loc) : Prop := r = none ∧ Fr n0 L ∧ Keep h0 h [a, b1] ∧ Obj Z h a "com/example/graphweft/graphweft/RangeMaxTree" sch_rt [(.ref b1), (.ref b2), (.ref b3), (.ref b4), (.ref b5), (.ref b6), (.ref b7), (.int sc), (.int (sz + (1 : Int32))), (.int nc), (.long bd), (.int ss), (.int bs), (.int bc), (.int pn), (.int se), (.int sa), (.int ta), (.int te)] ∧ FA Z h b1 .long 64 (fun i => .long ((updL g1 (sz.toInt.toNat) vv) i))
set_option maxRecDepth 65536 in
set_option maxHeartbeats 40000000 in
theorem rm_addk (l : Launch) (Z : State) (a0 : Array Value) (hw : ∀ d ∈ tables_1, d.before a0 Z = true) (ws : List Jvm.Cond) (a : Addr) (vv : Int64) (b1 : Addr) (b2 : Addr) (b3 : Addr) (b4 : Addr) (b5 : Addr) (b6 : Addr) (b7 : Addr) (sc : Int32) (sz : Int32) (nc : Int32) (bd : Int64) (ss : Int32) (bs : Int32) (bc : Int32) (pn : Int32) (se : Int32) (sa : Int32) (ta : Int32) (te : Int32) (g1 : Nat → Int64) (h0 : Heap) (n0 : Nat) (Z0 : n0 ≤ h0.size) (O0 : Obj Z h0 a "com/example/graphweft/graphweft/RangeMaxTree" sch_rt [(.ref b1), (.ref b2), (.ref b3), (.ref b4), (.ref b5), (.ref b6), (.ref b7), (.int sc), (.int sz), (.int nc), (.long bd), (.int ss), (.int bs), (.int bc), (.int pn), (.int se), (.int sa), (.int ta), (.int te)]) (F_b1 : FA Z h0 b1 .long 64 (fun i => .long (g1 i))) (g_a : n0 ≤ a) (g_b1 : n0 ≤ b1) (hord : @LT.lt Nat instLTNat a b1 ∧ @LT.lt Nat instLTNat b1 b2 ∧ @LT.lt Nat instLTNat b2 b3 ∧ @LT.lt Nat instLTNat b3 b4 ∧ @LT.lt Nat instLTNat b4 b5 ∧ @LT.lt Nat instLTNat b5 b6 ∧ @LT.lt Nat instLTNat b6 b7) (hk : 0 ≤ sz.toInt ∧ sz.toInt < 64) (hne : ¬ sz = (64 : Int32)) :
    MetFree l mn2 (head1 (Jvm.Cond.code mn2 prog_32_method_4_code 3 none :: ws) ({ frames := 0, cells := 0, slots := 0, locals := 0 } : Room)) (fun a_ U => a_ = #[(.ref a), (.long vv)] ∧ Z.Warmed39 U.vm ∧ U.heap = h0) (fun _ _ _ _ _ => True) (fun _ U o U' => ∃ v_ L_, o = .returned v_ ∧ Q_addk Z a vv b1 b2 b3 b4 b5 b6 b7 sc sz nc bd ss bs bc pn se sa ta te g1 h0 n0 v_ U'.heap L_ ∧ FrameEnd U o U' L_ ({ frames := 0, cells := 0, slots := 0, locals := 0 } : Room).cells ({ frames := 0, cells := 0, slots := 0, locals := 0 } : Room).slots) := by
  refine MetFree.of_bodySF (plainFor_of_name pn_9) hisR ?_
  intro p e s m args below meth c s₁ Bd hml0 hP hK
  obtain ⟨rfl, hZ, hh⟩ := hP
  have hx := Bd.exec
  have hby := Bd.bytes
  have hlk : meth.locks = false := Bd.notSynchronized
  have hml : c.maxLocals = 3 := hml0
  have hown : s.vm.findClass "com/example/graphweft/graphweft/RangeMaxTree" = some m.cls := findClass_of_methodNamed Bd.named
  have hnm := (name_of_methodNamed Bd.named Bd.method).1
  have X0 : Stand p l e ({ frames := 0, cells := 0, slots := 0, locals := 0 } : Room) s m #[(.ref a), (.long vv)] below meth c s₁ [] 0 0 := Stand.of_body Bd
  have e0 : s₁.heap = h0 := by rw [← hh, Bd.state]; rfl
  have N0 := Fr.nil n0
  have K0 : Keep h0 h0 [a, b1] := Keep.refl _ _
  show OEnds p e below s (Q_addk Z a vv b1 b2 b3 b4 b5 b6 b7 sc sz nc bd ss bs bc pn se sa ta te g1 h0 n0) _ _ _
  refine own_by (fun t k => castTop (ef_9 m a vv) k) ?_
  show OEnds p e below s _ _ _ (s₁.setTop (mkF m 0 #[(vr a), (vj vv), sd] []))
  refine qaN 1 X0 hx hby d9_0 rfl rfl ?_
  refine qg 4 X0 hx hZ hown (tw32 hw) e0 (O0.fld 8 rfl rfl) hby d9_1 rfl fun T1 X1 e1 => ?_
  refine qaN 5 X1 hx hby d9_4 rfl rfl ?_
  refine qg 8 X1 hx hZ hown (tw10 hw) e1 (O0.fld 0 rfl rfl) hby d9_5 rfl fun T2 X2 e2 => ?_
  refine qn 9 (64 : Int32) X2 hx hZ e2 F_b1 (by decide) hby d9_8 rfl ?_
  refine q_cmy 29 X2 hx hby d9_9 rfl (feq hne).2 ?_
  refine qaN 30 X2 hx hby d9_29 rfl rfl ?_
  refine qg 33 X2 hx hZ hown (tw10 hw) e2 (O0.fld 0 rfl rfl) hby d9_30 rfl fun T3 X3 e3 => ?_
  refine qaN 34 X3 hx hby d9_33 rfl rfl ?_
  refine q_dup 35 X3 hx hby d9_34 rfl rfl ?_
  refine qg 38 X3 hx hZ hown (tw32 hw) e3 (O0.fld 8 rfl rfl) hby d9_35 rfl fun T4 X4 e4 => ?_
  refine own_by (fun _ k => XS.dupX1 X4.here hx rfl (hb hby d9_38) rfl rfl rfl k) ?_
  show OEnds p e below s _ _ _ (T4.setTop (mkF m 39 #[(vr a), (vj vv), sd] [(.int sz), (.ref a), (.int sz), (.ref b1)]))
  refine qc1 40 1 X4 hx hby d9_39 rfl rfl ?_
  refine q_iadd 41 X4 hx hby d9_40 rfl ?_
  obtain ⟨T5, h5, X5, e5, W5, st5⟩ := putF X4 hx hZ hown (host := "") (Or.inl (tw32 hw)) Via.refl e4 (O0.fld 8 rfl rfl) O0.exa (Or.inl (tw33 hw)) (tw2 hw) (ty := .int) (by decide) rfl rfl (g := (mkF m 41 #[(vr a), (vj vv), sd] [(.int (sz + (1 : Int32))), (.ref a), (.int sz), (.ref b1)])) rfl rfl (hb hby d9_41)
  have O5 : Obj Z h5 a "com/example/graphweft/graphweft/RangeMaxTree" sch_rt [(.ref b1), (.ref b2), (.ref b3), (.ref b4), (.ref b5), (.ref b6), (.ref b7), (.int sc), (.int (sz + (1 : Int32))), (.int nc), (.long bd), (.int ss), (.int bs), (.int bc), (.int pn), (.int se), (.int sa), (.int ta), (.int te)] := O0.set (so_sch_rt hw) W5 8 rfl (Nat.le_of_ble_eq_true rfl)
  have N5 := Fr.snoc X5 N0 g_a
  have Z5 := Nat.le_trans Z0 (Keep.of_wr W5).1
  have K5 := K0.wr W5 (wi 0 rfl)
  refine qat 44 #[(vr a), (vj vv), sd] [(.int sz), (.ref b1)] st5 ?_
  refine qlN 45 X5 hx hby d9_44 rfl rfl ?_
  have F7 := (F_b1.other W5 (Ne.symm (o01 hord)))
  obtain ⟨T6, h6, X6, e6, W6, st6⟩ := own_lastore X5 hx hZ e5 F7 (sz.toInt.toNat) (by omega) (by omega) (g := (mkF m 45 #[(vr a), (vj vv), sd] [(.long vv), (.int sz), (.ref b1)])) rfl rfl (hb hby d9_45)
  have F6 : FA Z h6 b1 .long 64 (fun i => .long ((updL g1 (sz.toInt.toNat) vv) i)) := F7.setL W6
  have N6 := Fr.snoc X6 N5 g_b1
  have Z6 := Nat.le_trans Z5 (Keep.of_wr W6).1
  have K6 := K5.wr W6 (wi 1 rfl)
  refine qat 46 #[(vr a), (vj vv), sd] [] st6 ?_
  have O8 := (O5.other W6 (o01 hord))
  exact own_retV X6 hx hlk Bd.returns (hb hby d9_46) (by rw [e6]; exact ⟨rfl, N6, K6, O8, F6⟩) (by decide) (by decide)
theorem d5_0 : decode jdk_65_method_30_code 0 = .ok (.iload_n 1, 1) := by decide +kernel
theorem d5_1 : decode jdk_65_method_30_code 1 = .ok (.iload_n 2, 1) := by decide +kernel
theorem d5_2 : decode jdk_65_method_30_code 2 = .ok (.if_icmp .le 44, 3) := by decide +kernel
theorem d5_46 : decode jdk_65_method_30_code 46 = .ok (.iload_n 1, 1) := by decide +kernel
theorem d5_47 : decode jdk_65_method_30_code 47 = .ok (.ifCond .ge 12, 3) := by decide +kernel
theorem d5_59 : decode jdk_65_method_30_code 59 = .ok (.iload_n 2, 1) := by decide +kernel
theorem d5_60 : decode jdk_65_method_30_code 60 = .ok (.iload_n 0, 1) := by decide +kernel
theorem d5_61 : decode jdk_65_method_30_code 61 = .ok (.if_icmp .le 12, 3) := by decide +kernel
theorem d5_73 : decode jdk_65_method_30_code 73 = .ok (.return_, 1) := by decide +kernel
theorem pn_5 : plainName "java/util/Arrays" = true := by first | (simp [plainName, overriddenIn]; done) | decide +kernel
theorem ef_5 (m : MethodId) (x0 : Int32) (x1 : Int32) (x2 : Int32) : entryFrame m #[(.int x0), (.int x1), (.int x2)] 3 = mkF m 0 #[.val (.int x0), .val (.int x1), .val (.int x2)] [] := by first | (simp [entryFrame, mkF, argsToLocals, Value.category]; done) | rfl
def Q_rcheck_0_0 (Z : State)  (h0 : Heap) (n0 : Nat) (r : Option Value) (h : Heap) (L : List Loc) : Prop := r = none ∧ Fr n0 L ∧ Keep h0 h []
set_option maxRecDepth 65536 in
set_option maxHeartbeats 40000000 in
theorem rm_rcheck_0_0 (l : Launch) (Z : State) (a0 : Array Value) (hw : ∀ d ∈ tables_1, d.before a0 Z = true) (ws : List Jvm.Cond)  (h0 : Heap) (n0 : Nat) (Z0 : n0 ≤ h0.size) :
    MetFree l mn3 (head1 (Jvm.Cond.code mn3 jdk_65_method_30_code 3 none :: ws) ({ frames := 0, cells := 0, slots := 0, locals := 0 } : Room)) (fun a_ U => a_ = #[(.int 64), (.int 0), (.int 0)] ∧ Z.Warmed39 U.vm ∧ U.heap = h0) (fun _ _ _ _ _ => True) (fun _ U o U' => ∃ v_ L_, o = .returned v_ ∧ Q_rcheck_0_0 Z  h0 n0 v_ U'.heap L_ ∧ FrameEnd U o U' L_ ({ frames := 0, cells := 0, slots := 0, locals := 0 } : Room).cells ({ frames := 0, cells := 0, slots := 0, locals := 0 } : Room).slots) := by
  refine MetFree.of_bodySF (plainFor_of_name pn_5) hisR ?_
  intro p e s m args below meth c s₁ Bd hml0 hP hK
  obtain ⟨rfl, hZ, hh⟩ := hP
  have hx := Bd.exec
  have hby := Bd.bytes
  have hlk : meth.locks = false := Bd.notSynchronized
  have hml : c.maxLocals = 3 := hml0
  have hown : s.vm.findClass "java/util/Arrays" = some m.cls := findClass_of_methodNamed Bd.named
  have hnm := (name_of_methodNamed Bd.named Bd.method).1
  have X0 : Stand p l e ({ frames := 0, cells := 0, slots := 0, locals := 0 } : Room) s m #[(.int 64), (.int 0), (.int 0)] below meth c s₁ [] 0 0 := Stand.of_body Bd
  have e0 : s₁.heap = h0 := by rw [← hh, Bd.state]; rfl
  have N0 := Fr.nil n0
  have K0 : Keep h0 h0 [] := Keep.refl _ _
  show OEnds p e below s (Q_rcheck_0_0 Z  h0 n0) _ _ _
  refine own_by (fun t k => castTop (ef_5 m (64 : Int32) (0 : Int32) (0 : Int32)) k) ?_
  show OEnds p e below s _ _ _ (s₁.setTop (mkF m 0 #[(vi 64), (vi 0), (vi 0)] []))
  refine qiN 1 X0 hx hby d5_0 rfl rfl ?_
  refine qiN 2 X0 hx hby d5_1 rfl rfl ?_
  refine q_cmy 46 X0 hx hby d5_2 rfl (flt (by decide : ¬ ((0 : Int32) < (0 : Int32)))).2.2.2 ?_
  refine qiN 47 X0 hx hby d5_46 rfl rfl ?_
  refine q_ify 59 X0 hx hby d5_47 rfl ((if0 _ _).trans (flt (by decide : ¬ ((0 : Int32) < (0 : Int32)))).2.1) ?_
  refine qiN 60 X0 hx hby d5_59 rfl rfl ?_
  refine qiN 61 X0 hx hby d5_60 rfl rfl ?_
  refine q_cmy 73 X0 hx hby d5_61 rfl (flt (by decide : ¬ ((64 : Int32) < (0 : Int32)))).2.2.2 ?_
  exact own_retV X0 hx hlk Bd.returns (hb hby d5_73) (by rw [e0]; exact ⟨rfl, N0, K0⟩) (by decide) (by decide)
def Q_rcheck_1_2 (Z : State)  (h0 : Heap) (n0 : Nat) (r : Option Value) (h : Heap) (L : List Loc) : Prop := r = none ∧ Fr n0 L ∧ Keep h0 h []
set_option maxRecDepth 65536 in
set_option maxHeartbeats 40000000 in
theorem rm_rcheck_1_2 (l : Launch) (Z : State) (a0 : Array Value) (hw : ∀ d ∈ tables_1, d.before a0 Z = true) (ws : List Jvm.Cond)  (h0 : Heap) (n0 : Nat) (Z0 : n0 ≤ h0.size) :
    MetFree l mn3 (head1 (Jvm.Cond.code mn3 jdk_65_method_30_code 3 none :: ws) ({ frames := 0, cells := 0, slots := 0, locals := 0 } : Room)) (fun a_ U => a_ = #[(.int 64), (.int 1), (.int 2)] ∧ Z.Warmed39 U.vm ∧ U.heap = h0) (fun _ _ _ _ _ => True) (fun _ U o U' => ∃ v_ L_, o = .returned v_ ∧ Q_rcheck_1_2 Z  h0 n0 v_ U'.heap L_ ∧ FrameEnd U o U' L_ ({ frames := 0, cells := 0, slots := 0, locals := 0 } : Room).cells ({ frames := 0, cells := 0, slots := 0, locals := 0 } : Room).slots) := by
  refine MetFree.of_bodySF (plainFor_of_name pn_5) hisR ?_
  intro p e s m args below meth c s₁ Bd hml0 hP hK
  obtain ⟨rfl, hZ, hh⟩ := hP
  have hx := Bd.exec
  have hby := Bd.bytes
  have hlk : meth.locks = false := Bd.notSynchronized
  have hml : c.maxLocals = 3 := hml0
  have hown : s.vm.findClass "java/util/Arrays" = some m.cls := findClass_of_methodNamed Bd.named
  have hnm := (name_of_methodNamed Bd.named Bd.method).1
  have X0 : Stand p l e ({ frames := 0, cells := 0, slots := 0, locals := 0 } : Room) s m #[(.int 64), (.int 1), (.int 2)] below meth c s₁ [] 0 0 := Stand.of_body Bd
  have e0 : s₁.heap = h0 := by rw [← hh, Bd.state]; rfl
  have N0 := Fr.nil n0
  have K0 : Keep h0 h0 [] := Keep.refl _ _
  show OEnds p e below s (Q_rcheck_1_2 Z  h0 n0) _ _ _
  refine own_by (fun t k => castTop (ef_5 m (64 : Int32) (1 : Int32) (2 : Int32)) k) ?_
  show OEnds p e below s _ _ _ (s₁.setTop (mkF m 0 #[(vi 64), (vi 1), (vi 2)] []))
  refine qiN 1 X0 hx hby d5_0 rfl rfl ?_
  refine qiN 2 X0 hx hby d5_1 rfl rfl ?_
  refine q_cmy 46 X0 hx hby d5_2 rfl (flt (by decide : ¬ ((2 : Int32) < (1 : Int32)))).2.2.2 ?_
  refine qiN 47 X0 hx hby d5_46 rfl rfl ?_
  refine q_ify 59 X0 hx hby d5_47 rfl ((if0 _ _).trans (flt (by decide : ¬ ((1 : Int32) < (0 : Int32)))).2.1) ?_
  refine qiN 60 X0 hx hby d5_59 rfl rfl ?_
  refine qiN 61 X0 hx hby d5_60 rfl rfl ?_
  refine q_cmy 73 X0 hx hby d5_61 rfl (flt (by decide : ¬ ((64 : Int32) < (2 : Int32)))).2.2.2 ?_
  exact own_retV X0 hx hlk Bd.returns (hb hby d5_73) (by rw [e0]; exact ⟨rfl, N0, K0⟩) (by decide) (by decide)
def Q_rcheck_2_2 (Z : State)  (h0 : Heap) (n0 : Nat) (r : Option Value) (h : Heap) (L : List Loc) : Prop := r = none ∧ Fr n0 L ∧ Keep h0 h []
set_option maxRecDepth 65536 in
set_option maxHeartbeats 40000000 in
theorem rm_rcheck_2_2 (l : Launch) (Z : State) (a0 : Array Value) (hw : ∀ d ∈ tables_1, d.before a0 Z = true) (ws : List Jvm.Cond)  (h0 : Heap) (n0 : Nat) (Z0 : n0 ≤ h0.size) :
    MetFree l mn3 (head1 (Jvm.Cond.code mn3 jdk_65_method_30_code 3 none :: ws) ({ frames := 0, cells := 0, slots := 0, locals := 0 } : Room)) (fun a_ U => a_ = #[(.int 64), (.int 2), (.int 2)] ∧ Z.Warmed39 U.vm ∧ U.heap = h0) (fun _ _ _ _ _ => True) (fun _ U o U' => ∃ v_ L_, o = .returned v_ ∧ Q_rcheck_2_2 Z  h0 n0 v_ U'.heap L_ ∧ FrameEnd U o U' L_ ({ frames := 0, cells := 0, slots := 0, locals := 0 } : Room).cells ({ frames := 0, cells := 0, slots := 0, locals := 0 } : Room).slots) := by
  refine MetFree.of_bodySF (plainFor_of_name pn_5) hisR ?_
  intro p e s m args below meth c s₁ Bd hml0 hP hK
  obtain ⟨rfl, hZ, hh⟩ := hP
  have hx := Bd.exec
  have hby := Bd.bytes
  have hlk : meth.locks = false := Bd.notSynchronized
  have hml : c.maxLocals = 3 := hml0
  have hown : s.vm.findClass "java/util/Arrays" = some m.cls := findClass_of_methodNamed Bd.named
  have hnm := (name_of_methodNamed Bd.named Bd.method).1
  have X0 : Stand p l e ({ frames := 0, cells := 0, slots := 0, locals := 0 } : Room) s m #[(.int 64), (.int 2), (.int 2)] below meth c s₁ [] 0 0 := Stand.of_body Bd
  have e0 : s₁.heap = h0 := by rw [← hh, Bd.state]; rfl
  have N0 := Fr.nil n0
  have K0 : Keep h0 h0 [] := Keep.refl _ _
  show OEnds p e below s (Q_rcheck_2_2 Z  h0 n0) _ _ _
  refine own_by (fun t k => castTop (ef_5 m (64 : Int32) (2 : Int32) (2 : Int32)) k) ?_
  show OEnds p e below s _ _ _ (s₁.setTop (mkF m 0 #[(vi 64), (vi 2), (vi 2)] []))
  refine qiN 1 X0 hx hby d5_0 rfl rfl ?_
  refine qiN 2 X0 hx hby d5_1 rfl rfl ?_
  refine q_cmy 46 X0 hx hby d5_2 rfl (flt (by decide : ¬ ((2 : Int32) < (2 : Int32)))).2.2.2 ?_
  refine qiN 47 X0 hx hby d5_46 rfl rfl ?_
  refine q_ify 59 X0 hx hby d5_47 rfl ((if0 _ _).trans (flt (by decide : ¬ ((2 : Int32) < (0 : Int32)))).2.1) ?_
  refine qiN 60 X0 hx hby d5_59 rfl rfl ?_
  refine qiN 61 X0 hx hby d5_60 rfl rfl ?_
  refine q_cmy 73 X0 hx hby d5_61 rfl (flt (by decide : ¬ ((64 : Int32) < (2 : Int32)))).2.2.2 ?_
  exact own_retV X0 hx hlk Bd.returns (hb hby d5_73) (by rw [e0]; exact ⟨rfl, N0, K0⟩) (by decide) (by decide)
def Q_rcheck_2_4 (Z : State)  (h0 : Heap) (n0 : Nat) (r : Option Value) (h : Heap) (L : List Loc) : Prop := r = none ∧ Fr n0 L ∧ Keep h0 h []
set_option maxRecDepth 65536 in
set_option maxHeartbeats 40000000 in
theorem rm_rcheck_2_4 (l : Launch) (Z : State) (a0 : Array Value) (hw : ∀ d ∈ tables_1, d.before a0 Z = true) (ws : List Jvm.Cond)  (h0 : Heap) (n0 : Nat) (Z0 : n0 ≤ h0.size) :
    MetFree l mn3 (head1 (Jvm.Cond.code mn3 jdk_65_method_30_code 3 none :: ws) ({ frames := 0, cells := 0, slots := 0, locals := 0 } : Room)) (fun a_ U => a_ = #[(.int 64), (.int 2), (.int 4)] ∧ Z.Warmed39 U.vm ∧ U.heap = h0) (fun _ _ _ _ _ => True) (fun _ U o U' => ∃ v_ L_, o = .returned v_ ∧ Q_rcheck_2_4 Z  h0 n0 v_ U'.heap L_ ∧ FrameEnd U o U' L_ ({ frames := 0, cells := 0, slots := 0, locals := 0 } : Room).cells ({ frames := 0, cells := 0, slots := 0, locals := 0 } : Room).slots) := by
  refine MetFree.of_bodySF (plainFor_of_name pn_5) hisR ?_
  intro p e s m args below meth c s₁ Bd hml0 hP hK
  obtain ⟨rfl, hZ, hh⟩ := hP
  have hx := Bd.exec
  have hby := Bd.bytes
  have hlk : meth.locks = false := Bd.notSynchronized
  have hml : c.maxLocals = 3 := hml0
  have hown : s.vm.findClass "java/util/Arrays" = some m.cls := findClass_of_methodNamed Bd.named
  have hnm := (name_of_methodNamed Bd.named Bd.method).1
  have X0 : Stand p l e ({ frames := 0, cells := 0, slots := 0, locals := 0 } : Room) s m #[(.int 64), (.int 2), (.int 4)] below meth c s₁ [] 0 0 := Stand.of_body Bd
  have e0 : s₁.heap = h0 := by rw [← hh, Bd.state]; rfl
  have N0 := Fr.nil n0
  have K0 : Keep h0 h0 [] := Keep.refl _ _
  show OEnds p e below s (Q_rcheck_2_4 Z  h0 n0) _ _ _
  refine own_by (fun t k => castTop (ef_5 m (64 : Int32) (2 : Int32) (4 : Int32)) k) ?_
  show OEnds p e below s _ _ _ (s₁.setTop (mkF m 0 #[(vi 64), (vi 2), (vi 4)] []))
  refine qiN 1 X0 hx hby d5_0 rfl rfl ?_
  refine qiN 2 X0 hx hby d5_1 rfl rfl ?_
  refine q_cmy 46 X0 hx hby d5_2 rfl (flt (by decide : ¬ ((4 : Int32) < (2 : Int32)))).2.2.2 ?_
  refine qiN 47 X0 hx hby d5_46 rfl rfl ?_
  refine q_ify 59 X0 hx hby d5_47 rfl ((if0 _ _).trans (flt (by decide : ¬ ((2 : Int32) < (0 : Int32)))).2.1) ?_
  refine qiN 60 X0 hx hby d5_59 rfl rfl ?_
  refine qiN 61 X0 hx hby d5_60 rfl rfl ?_
  refine q_cmy 73 X0 hx hby d5_61 rfl (flt (by decide : ¬ ((64 : Int32) < (4 : Int32)))).2.2.2 ?_
  exact own_retV X0 hx hlk Bd.returns (hb hby d5_73) (by rw [e0]; exact ⟨rfl, N0, K0⟩) (by decide) (by decide)
def Q_rcheck_3_4 (Z : State)  (h0 : Heap) (n0 : Nat) (r : Option Value) (h : Heap) (L : List Loc) : Prop := r = none ∧ Fr n0 L ∧ Keep h0 h []
set_option maxRecDepth 65536 in
set_option maxHeartbeats 40000000 in
theorem rm_rcheck_3_4 (l : Launch) (Z : State) (a0 : Array Value) (hw : ∀ d ∈ tables_1, d.before a0 Z = true) (ws : List Jvm.Cond)  (h0 : Heap) (n0 : Nat) (Z0 : n0 ≤ h0.size) :
    MetFree l mn3 (head1 (Jvm.Cond.code mn3 jdk_65_method_30_code 3 none :: ws) ({ frames := 0, cells := 0, slots := 0, locals := 0 } : Room)) (fun a_ U => a_ = #[(.int 64), (.int 3), (.int 4)] ∧ Z.Warmed39 U.vm ∧ U.heap = h0) (fun _ _ _ _ _ => True) (fun _ U o U' => ∃ v_ L_, o = .returned v_ ∧ Q_rcheck_3_4 Z  h0 n0 v_ U'.heap L_ ∧ FrameEnd U o U' L_ ({ frames := 0, cells := 0, slots := 0, locals := 0 } : Room).cells ({ frames := 0, cells := 0, slots := 0, locals := 0 } : Room).slots) := by
  refine MetFree.of_bodySF (plainFor_of_name pn_5) hisR ?_
  intro p e s m args below meth c s₁ Bd hml0 hP hK
  obtain ⟨rfl, hZ, hh⟩ := hP
  have hx := Bd.exec
  have hby := Bd.bytes
  have hlk : meth.locks = false := Bd.notSynchronized
  have hml : c.maxLocals = 3 := hml0
  have hown : s.vm.findClass "java/util/Arrays" = some m.cls := findClass_of_methodNamed Bd.named
  have hnm := (name_of_methodNamed Bd.named Bd.method).1
  have X0 : Stand p l e ({ frames := 0, cells := 0, slots := 0, locals := 0 } : Room) s m #[(.int 64), (.int 3), (.int 4)] below meth c s₁ [] 0 0 := Stand.of_body Bd
  have e0 : s₁.heap = h0 := by rw [← hh, Bd.state]; rfl
  have N0 := Fr.nil n0
  have K0 : Keep h0 h0 [] := Keep.refl _ _
  show OEnds p e below s (Q_rcheck_3_4 Z  h0 n0) _ _ _
  refine own_by (fun t k => castTop (ef_5 m (64 : Int32) (3 : Int32) (4 : Int32)) k) ?_
  show OEnds p e below s _ _ _ (s₁.setTop (mkF m 0 #[(vi 64), (vi 3), (vi 4)] []))
  refine qiN 1 X0 hx hby d5_0 rfl rfl ?_
  refine qiN 2 X0 hx hby d5_1 rfl rfl ?_
  refine q_cmy 46 X0 hx hby d5_2 rfl (flt (by decide : ¬ ((4 : Int32) < (3 : Int32)))).2.2.2 ?_
  refine qiN 47 X0 hx hby d5_46 rfl rfl ?_
  refine q_ify 59 X0 hx hby d5_47 rfl ((if0 _ _).trans (flt (by decide : ¬ ((3 : Int32) < (0 : Int32)))).2.1) ?_
  refine qiN 60 X0 hx hby d5_59 rfl rfl ?_
  refine qiN 61 X0 hx hby d5_60 rfl rfl ?_
  refine q_cmy 73 X0 hx hby d5_61 rfl (flt (by decide : ¬ ((64 : Int32) < (4 : Int32)))).2.2.2 ?_
  exact own_retV X0 hx hlk Bd.returns (hb hby d5_73) (by rw [e0]; exact ⟨rfl, N0, K0⟩) (by decide) (by decide)
def Q_rcheck_4_6 (Z : State)  (h0 : Heap) (n0 : Nat) (r : Option Value) (h : Heap) (L : List Loc) : Prop := r = none ∧ Fr n0 L ∧ Keep h0 h []
set_option maxRecDepth 65536 in
set_option maxHeartbeats 40000000 in
theorem rm_rcheck_4_6 (l : Launch) (Z : State) (a0 : Array Value) (hw : ∀ d ∈ tables_1, d.before a0 Z = true) (ws : List Jvm.Cond)  (h0 : Heap) (n0 : Nat) (Z0 : n0 ≤ h0.size) :
    MetFree l mn3 (head1 (Jvm.Cond.code mn3 jdk_65_method_30_code 3 none :: ws) ({ frames := 0, cells := 0, slots := 0, locals := 0 } : Room)) (fun a_ U => a_ = #[(.int 64), (.int 4), (.int 6)] ∧ Z.Warmed39 U.vm ∧ U.heap = h0) (fun _ _ _ _ _ => True) (fun _ U o U' => ∃ v_ L_, o = .returned v_ ∧ Q_rcheck_4_6 Z  h0 n0 v_ U'.heap L_ ∧ FrameEnd U o U' L_ ({ frames := 0, cells := 0, slots := 0, locals := 0 } : Room).cells ({ frames := 0, cells := 0, slots := 0, locals := 0 } : Room).slots) := by
  refine MetFree.of_bodySF (plainFor_of_name pn_5) hisR ?_
  intro p e s m args below meth c s₁ Bd hml0 hP hK
  obtain ⟨rfl, hZ, hh⟩ := hP
  have hx := Bd.exec
  have hby := Bd.bytes
  have hlk : meth.locks = false := Bd.notSynchronized
  have hml : c.maxLocals = 3 := hml0
  have hown : s.vm.findClass "java/util/Arrays" = some m.cls := findClass_of_methodNamed Bd.named
  have hnm := (name_of_methodNamed Bd.named Bd.method).1
  have X0 : Stand p l e ({ frames := 0, cells := 0, slots := 0, locals := 0 } : Room) s m #[(.int 64), (.int 4), (.int 6)] below meth c s₁ [] 0 0 := Stand.of_body Bd
  have e0 : s₁.heap = h0 := by rw [← hh, Bd.state]; rfl
  have N0 := Fr.nil n0
  have K0 : Keep h0 h0 [] := Keep.refl _ _
  show OEnds p e below s (Q_rcheck_4_6 Z  h0 n0) _ _ _
  refine own_by (fun t k => castTop (ef_5 m (64 : Int32) (4 : Int32) (6 : Int32)) k) ?_
  show OEnds p e below s _ _ _ (s₁.setTop (mkF m 0 #[(vi 64), (vi 4), (vi 6)] []))
  refine qiN 1 X0 hx hby d5_0 rfl rfl ?_
  refine qiN 2 X0 hx hby d5_1 rfl rfl ?_
  refine q_cmy 46 X0 hx hby d5_2 rfl (flt (by decide : ¬ ((6 : Int32) < (4 : Int32)))).2.2.2 ?_
  refine qiN 47 X0 hx hby d5_46 rfl rfl ?_
  refine q_ify 59 X0 hx hby d5_47 rfl ((if0 _ _).trans (flt (by decide : ¬ ((4 : Int32) < (0 : Int32)))).2.1) ?_
  refine qiN 60 X0 hx hby d5_59 rfl rfl ?_
  refine qiN 61 X0 hx hby d5_60 rfl rfl ?_
  refine q_cmy 73 X0 hx hby d5_61 rfl (flt (by decide : ¬ ((64 : Int32) < (6 : Int32)))).2.2.2 ?_
  exact own_retV X0 hx hlk Bd.returns (hb hby d5_73) (by rw [e0]; exact ⟨rfl, N0, K0⟩) (by decide) (by decide)
theorem d4_0 : decode jdk_65_method_102_code 0 = .ok (.aload_n 0, 1) := by decide +kernel
theorem d4_1 : decode jdk_65_method_102_code 1 = .ok (.arraylength, 1) := by decide +kernel
theorem d4_2 : decode jdk_65_method_102_code 2 = .ok (.iload_n 1, 1) := by decide +kernel
theorem d4_3 : decode jdk_65_method_102_code 3 = .ok (.iload_n 2, 1) := by decide +kernel
theorem d4_4 : decode jdk_65_method_102_code 4 = .ok (.invokestatic 13, 3) := by decide +kernel
theorem d4_7 : decode jdk_65_method_102_code 7 = .ok (.iload_n 1, 1) := by decide +kernel
theorem d4_8 : decode jdk_65_method_102_code 8 = .ok (.istore 5, 2) := by decide +kernel
theorem d4_10 : decode jdk_65_method_102_code 10 = .ok (.iload 5, 2) := by decide +kernel
theorem d4_12 : decode jdk_65_method_102_code 12 = .ok (.iload_n 2, 1) := by decide +kernel
theorem d4_13 : decode jdk_65_method_102_code 13 = .ok (.if_icmp .ge 14, 3) := by decide +kernel
theorem d4_27 : decode jdk_65_method_102_code 27 = .ok (.return_, 1) := by decide +kernel
theorem pn_4 : plainName "java/util/Arrays" = true := by first | (simp [plainName, overriddenIn]; done) | decide +kernel
theorem ef_4 (m : MethodId) (x0 : Addr) (x1 : Int32) (x2 : Int32) (x3 : Int64) : entryFrame m #[(.ref x0), (.int x1), (.int x2), (.long x3)] 6 = mkF m 0 #[.val (.ref x0), .val (.int x1), .val (.int x2), .val (.long x3), .second, .unset] [] := by first | (simp [entryFrame, mkF, argsToLocals, Value.category]; done) | rfl
def Q_fill_0_0 (Z : State) (b2 : Addr) (vv : Int64) (g2 : Nat → Int64) (h0 : Heap) (n0 : Nat) (r : Option Value) (h : Heap) (L : List Loc) : Prop := r = none ∧ Fr n0 L ∧ Keep h0 h []
set_option maxRecDepth 65536 in
set_option maxHeartbeats 40000000 in
theorem rm_fill_0_0 (l : Launch) (Z : State) (a0 : Array Value) (hw : ∀ d ∈ tables_1, d.before a0 Z = true) (ws : List Jvm.Cond) (b2 : Addr) (vv : Int64) (g2 : Nat → Int64) (h0 : Heap) (n0 : Nat) (Z0 : n0 ≤ h0.size) (F_b2 : FA Z h0 b2 .long 64 (fun i => .long (g2 i))) :
    MetFree l mn4 (head1 (Jvm.Cond.code mn4 jdk_65_method_102_code 6 none :: ws) ({ frames := 1, cells := 0, slots := 0, locals := 14 } : Room)) (fun a_ U => a_ = #[(.ref b2), (.int 0), (.int 0), (.long vv)] ∧ Z.Warmed39 U.vm ∧ U.heap = h0) (fun _ _ _ _ _ => True) (fun _ U o U' => ∃ v_ L_, o = .returned v_ ∧ Q_fill_0_0 Z b2 vv g2 h0 n0 v_ U'.heap L_ ∧ FrameEnd U o U' L_ ({ frames := 1, cells := 0, slots := 0, locals := 14 } : Room).cells ({ frames := 1, cells := 0, slots := 0, locals := 14 } : Room).slots) := by
  refine MetFree.of_bodySF (plainFor_of_name pn_4) hisR ?_
  intro p e s m args below meth c s₁ Bd hml0 hP hK
  obtain ⟨rfl, hZ, hh⟩ := hP
  have hx := Bd.exec
  have hby := Bd.bytes
  have hlk : meth.locks = false := Bd.notSynchronized
  have hml : c.maxLocals = 6 := hml0
  have hown : s.vm.findClass "java/util/Arrays" = some m.cls := findClass_of_methodNamed Bd.named
  have hnm := (name_of_methodNamed Bd.named Bd.method).1
  have X0 : Stand p l e ({ frames := 1, cells := 0, slots := 0, locals := 14 } : Room) s m #[(.ref b2), (.int 0), (.int 0), (.long vv)] below meth c s₁ [] 0 0 := Stand.of_body Bd
  have e0 : s₁.heap = h0 := by rw [← hh, Bd.state]; rfl
  have N0 := Fr.nil n0
  have K0 : Keep h0 h0 [] := Keep.refl _ _
  show OEnds p e below s (Q_fill_0_0 Z b2 vv g2 h0 n0) _ _ _
  refine own_by (fun t k => castTop (ef_4 m b2 (0 : Int32) (0 : Int32) vv) k) ?_
  show OEnds p e below s _ _ _ (s₁.setTop (mkF m 0 #[(vr b2), (vi 0), (vi 0), (vj vv), sd, un] []))
  refine qaN 1 X0 hx hby d4_0 rfl rfl ?_
  refine qn 2 (64 : Int32) X0 hx hZ e0 F_b2 (by decide) hby d4_1 rfl ?_
  refine qiN 3 X0 hx hby d4_2 rfl rfl ?_
  refine qiN 4 X0 hx hby d4_3 rfl rfl ?_
  obtain ⟨v1, T1, L1, h1, X1, e1, hQ1, st1⟩ := own_callS X0 hx hZ (y := mn3) hown (tw41 hw) (tw42 hw) (tw39 hw) (tw43 hw) (by decide) (rm_rcheck_0_0 l Z a0 hw [] h0 n0 Z0) e0 (g := (mkF m 4 #[(vr b2), (vi 0), (vi 0), (vj vv), sd, un] [(.int 0), (.int 0), (.int 64)])) rfl (by rw [hml]; rfl) (argsL := [(.int 64), (.int 0), (.int 0)]) (rest := []) (lenOf pd_pIIIrV rfl) rfl (W := 0) (by show 2 * 0 + _ ≤ _; exact Nat.le_of_eq rfl) (hb hby d4_4) (by decide) (by decide) (by decide) (by decide)
  obtain ⟨rfl, Nq1, Kq1⟩ := hQ1
  have N1 := Fr.app N0 Nq1
  have K1 := K0.trans Kq1 all0
  have Z1 := Nat.le_trans Z0 Kq1.1
  refine qtr 7 #[(vr b2), (vi 0), (vi 0), (vj vv), sd, un] [] st1 ?_
  refine qiN 8 X1 hx hby d4_7 rfl rfl ?_
  refine qsi 10 #[(vr b2), (vi 0), (vi 0), (vj vv), sd, (vi 0)] X1 hx hby d4_8 rfl rfl ?_
  refine qi 12 X1 hx hby d4_10 rfl rfl ?_
  refine qiN 13 X1 hx hby d4_12 rfl rfl ?_
  refine q_cmy 27 X1 hx hby d4_13 rfl (flt (by decide : ¬ ((0 : Int32) < (0 : Int32)))).2.1 ?_
  exact own_retV X1 hx hlk Bd.returns (hb hby d4_27) (by rw [e1]; exact ⟨rfl, N1, K1⟩) (by decide) (by decide)
theorem d4_16 : decode jdk_65_method_102_code 16 = .ok (.aload_n 0, 1) := by decide +kernel
theorem d4_17 : decode jdk_65_method_102_code 17 = .ok (.iload 5, 2) := by decide +kernel
theorem d4_19 : decode jdk_65_method_102_code 19 = .ok (.lload_n 3, 1) := by decide +kernel
theorem d4_20 : decode jdk_65_method_102_code 20 = .ok (.lastore, 1) := by decide +kernel
theorem d4_21 : decode jdk_65_method_102_code 21 = .ok (.iinc 5 1, 3) := by decide +kernel
theorem d4_24 : decode jdk_65_method_102_code 24 = .ok (.goto (-14), 3) := by decide +kernel
def Q_fill_1_2 (Z : State) (b2 : Addr) (vv : Int64) (g2 : Nat → Int64) (h0 : Heap) (n0 : Nat) (r : Option Value) (h : Heap) (L : List Loc) : Prop := r = none ∧ Fr n0 L ∧ Keep h0 h [b2] ∧ FA Z h b2 .long 64 (fun i => .long ((updL g2 1 vv) i))
set_option maxRecDepth 65536 in
set_option maxHeartbeats 40000000 in
theorem rm_fill_1_2 (l : Launch) (Z : State) (a0 : Array Value) (hw : ∀ d ∈ tables_1, d.before a0 Z = true) (ws : List Jvm.Cond) (b2 : Addr) (vv : Int64) (g2 : Nat → Int64) (h0 : Heap) (n0 : Nat) (Z0 : n0 ≤ h0.size) (F_b2 : FA Z h0 b2 .long 64 (fun i => .long (g2 i))) (g_b2 : n0 ≤ b2) :
    MetFree l mn4 (head1 (Jvm.Cond.code mn4 jdk_65_method_102_code 6 none :: ws) ({ frames := 1, cells := 0, slots := 0, locals := 14 } : Room)) (fun a_ U => a_ = #[(.ref b2), (.int 1), (.int 2), (.long vv)] ∧ Z.Warmed39 U.vm ∧ U.heap = h0) (fun _ _ _ _ _ => True) (fun _ U o U' => ∃ v_ L_, o = .returned v_ ∧ Q_fill_1_2 Z b2 vv g2 h0 n0 v_ U'.heap L_ ∧ FrameEnd U o U' L_ ({ frames := 1, cells := 0, slots := 0, locals := 14 } : Room).cells ({ frames := 1, cells := 0, slots := 0, locals := 14 } : Room).slots) := by
  refine MetFree.of_bodySF (plainFor_of_name pn_4) hisR ?_
  intro p e s m args below meth c s₁ Bd hml0 hP hK
  obtain ⟨rfl, hZ, hh⟩ := hP
  have hx := Bd.exec
  have hby := Bd.bytes
  have hlk : meth.locks = false := Bd.notSynchronized
  have hml : c.maxLocals = 6 := hml0
  have hown : s.vm.findClass "java/util/Arrays" = some m.cls := findClass_of_methodNamed Bd.named
  have hnm := (name_of_methodNamed Bd.named Bd.method).1
  have X0 : Stand p l e ({ frames := 1, cells := 0, slots := 0, locals := 14 } : Room) s m #[(.ref b2), (.int 1), (.int 2), (.long vv)] below meth c s₁ [] 0 0 := Stand.of_body Bd
  have e0 : s₁.heap = h0 := by rw [← hh, Bd.state]; rfl
  have N0 := Fr.nil n0
  have K0 : Keep h0 h0 [b2] := Keep.refl _ _
  show OEnds p e below s (Q_fill_1_2 Z b2 vv g2 h0 n0) _ _ _
  refine own_by (fun t k => castTop (ef_4 m b2 (1 : Int32) (2 : Int32) vv) k) ?_
  show OEnds p e below s _ _ _ (s₁.setTop (mkF m 0 #[(vr b2), (vi 1), (vi 2), (vj vv), sd, un] []))
  refine qaN 1 X0 hx hby d4_0 rfl rfl ?_
  refine qn 2 (64 : Int32) X0 hx hZ e0 F_b2 (by decide) hby d4_1 rfl ?_
  refine qiN 3 X0 hx hby d4_2 rfl rfl ?_
  refine qiN 4 X0 hx hby d4_3 rfl rfl ?_
  obtain ⟨v1, T1, L1, h1, X1, e1, hQ1, st1⟩ := own_callS X0 hx hZ (y := mn3) hown (tw41 hw) (tw42 hw) (tw39 hw) (tw43 hw) (by decide) (rm_rcheck_1_2 l Z a0 hw [] h0 n0 Z0) e0 (g := (mkF m 4 #[(vr b2), (vi 1), (vi 2), (vj vv), sd, un] [(.int 2), (.int 1), (.int 64)])) rfl (by rw [hml]; rfl) (argsL := [(.int 64), (.int 1), (.int 2)]) (rest := []) (lenOf pd_pIIIrV rfl) rfl (W := 0) (by show 2 * 0 + _ ≤ _; exact Nat.le_of_eq rfl) (hb hby d4_4) (by decide) (by decide) (by decide) (by decide)
  obtain ⟨rfl, Nq1, Kq1⟩ := hQ1
  have N1 := Fr.app N0 Nq1
  have K1 := K0.trans Kq1 all0
  have Z1 := Nat.le_trans Z0 Kq1.1
  refine qtr 7 #[(vr b2), (vi 1), (vi 2), (vj vv), sd, un] [] st1 ?_
  refine qiN 8 X1 hx hby d4_7 rfl rfl ?_
  refine qsi 10 #[(vr b2), (vi 1), (vi 2), (vj vv), sd, (vi 1)] X1 hx hby d4_8 rfl rfl ?_
  refine qi 12 X1 hx hby d4_10 rfl rfl ?_
  refine qiN 13 X1 hx hby d4_12 rfl rfl ?_
  refine q_cmn 16 X1 hx hby d4_13 rfl (tlt (by decide : (1 : Int32) < (2 : Int32))).2.1 ?_
  refine qaN 17 X1 hx hby d4_16 rfl rfl ?_
  refine qi 19 X1 hx hby d4_17 rfl rfl ?_
  refine qlN 20 X1 hx hby d4_19 rfl rfl ?_
  have F3 := (F_b2.keep Kq1 nin0)
  obtain ⟨T2, h2, X2, e2, W2, st2⟩ := own_lastore X1 hx hZ e1 F3 1 (by decide) (by decide) (g := (mkF m 20 #[(vr b2), (vi 1), (vi 2), (vj vv), sd, (vi 1)] [(.long vv), (.int 1), (.ref b2)])) rfl rfl (hb hby d4_20)
  have F2 : FA Z h2 b2 .long 64 (fun i => .long ((updL g2 1 vv) i)) := F3.setL W2
  have N2 := Fr.snoc X2 N1 g_b2
  have Z2 := Nat.le_trans Z1 (Keep.of_wr W2).1
  have K2 := K1.wr W2 (wi 0 rfl)
  refine qat 21 #[(vr b2), (vi 1), (vi 2), (vj vv), sd, (vi 1)] [] st2 ?_
  refine q_inc 24 #[(vr b2), (vi 1), (vi 2), (vj vv), sd, (vi 2)] X2 hx hby d4_21 rfl rfl rfl ?_
  refine q_goto 10 X2 hx hby d4_24 rfl ?_
  refine qi 12 X2 hx hby d4_10 rfl rfl ?_
  refine qiN 13 X2 hx hby d4_12 rfl rfl ?_
  refine q_cmy 27 X2 hx hby d4_13 rfl (flt (by decide : ¬ ((2 : Int32) < (2 : Int32)))).2.1 ?_
  exact own_retV X2 hx hlk Bd.returns (hb hby d4_27) (by rw [e2]; exact ⟨rfl, N2, K2, F2⟩) (by decide) (by decide)
def Q_fill_2_2 (Z : State) (b2 : Addr) (vv : Int64) (g2 : Nat → Int64) (h0 : Heap) (n0 : Nat) (r : Option Value) (h : Heap) (L : List Loc) : Prop := r = none ∧ Fr n0 L ∧ Keep h0 h []
set_option maxRecDepth 65536 in
set_option maxHeartbeats 40000000 in
theorem rm_fill_2_2 (l : Launch) (Z : State) (a0 : Array Value) (hw : ∀ d ∈ tables_1, d.before a0 Z = true) (ws : List Jvm.Cond) (b2 : Addr) (vv : Int64) (g2 : Nat → Int64) (h0 : Heap) (n0 : Nat) (Z0 : n0 ≤ h0.size) (F_b2 : FA Z h0 b2 .long 64 (fun i => .long (g2 i))) :
    MetFree l mn4 (head1 (Jvm.Cond.code mn4 jdk_65_method_102_code 6 none :: ws) ({ frames := 1, cells := 0, slots := 0, locals := 14 } : Room)) (fun a_ U => a_ = #[(.ref b2), (.int 2), (.int 2), (.long vv)] ∧ Z.Warmed39 U.vm ∧ U.heap = h0) (fun _ _ _ _ _ => True) (fun _ U o U' => ∃ v_ L_, o = .returned v_ ∧ Q_fill_2_2 Z b2 vv g2 h0 n0 v_ U'.heap L_ ∧ FrameEnd U o U' L_ ({ frames := 1, cells := 0, slots := 0, locals := 14 } : Room).cells ({ frames := 1, cells := 0, slots := 0, locals := 14 } : Room).slots) := by
  refine MetFree.of_bodySF (plainFor_of_name pn_4) hisR ?_
  intro p e s m args below meth c s₁ Bd hml0 hP hK
  obtain ⟨rfl, hZ, hh⟩ := hP
  have hx := Bd.exec
  have hby := Bd.bytes
  have hlk : meth.locks = false := Bd.notSynchronized
  have hml : c.maxLocals = 6 := hml0
  have hown : s.vm.findClass "java/util/Arrays" = some m.cls := findClass_of_methodNamed Bd.named
  have hnm := (name_of_methodNamed Bd.named Bd.method).1
  have X0 : Stand p l e ({ frames := 1, cells := 0, slots := 0, locals := 14 } : Room) s m #[(.ref b2), (.int 2), (.int 2), (.long vv)] below meth c s₁ [] 0 0 := Stand.of_body Bd
  have e0 : s₁.heap = h0 := by rw [← hh, Bd.state]; rfl
  have N0 := Fr.nil n0
  have K0 : Keep h0 h0 [] := Keep.refl _ _
  show OEnds p e below s (Q_fill_2_2 Z b2 vv g2 h0 n0) _ _ _
  refine own_by (fun t k => castTop (ef_4 m b2 (2 : Int32) (2 : Int32) vv) k) ?_
  show OEnds p e below s _ _ _ (s₁.setTop (mkF m 0 #[(vr b2), (vi 2), (vi 2), (vj vv), sd, un] []))
  refine qaN 1 X0 hx hby d4_0 rfl rfl ?_
  refine qn 2 (64 : Int32) X0 hx hZ e0 F_b2 (by decide) hby d4_1 rfl ?_
  refine qiN 3 X0 hx hby d4_2 rfl rfl ?_
  refine qiN 4 X0 hx hby d4_3 rfl rfl ?_
  obtain ⟨v1, T1, L1, h1, X1, e1, hQ1, st1⟩ := own_callS X0 hx hZ (y := mn3) hown (tw41 hw) (tw42 hw) (tw39 hw) (tw43 hw) (by decide) (rm_rcheck_2_2 l Z a0 hw [] h0 n0 Z0) e0 (g := (mkF m 4 #[(vr b2), (vi 2), (vi 2), (vj vv), sd, un] [(.int 2), (.int 2), (.int 64)])) rfl (by rw [hml]; rfl) (argsL := [(.int 64), (.int 2), (.int 2)]) (rest := []) (lenOf pd_pIIIrV rfl) rfl (W := 0) (by show 2 * 0 + _ ≤ _; exact Nat.le_of_eq rfl) (hb hby d4_4) (by decide) (by decide) (by decide) (by decide)
  obtain ⟨rfl, Nq1, Kq1⟩ := hQ1
  have N1 := Fr.app N0 Nq1
  have K1 := K0.trans Kq1 all0
  have Z1 := Nat.le_trans Z0 Kq1.1
  refine qtr 7 #[(vr b2), (vi 2), (vi 2), (vj vv), sd, un] [] st1 ?_
  refine qiN 8 X1 hx hby d4_7 rfl rfl ?_
  refine qsi 10 #[(vr b2), (vi 2), (vi 2), (vj vv), sd, (vi 2)] X1 hx hby d4_8 rfl rfl ?_
  refine qi 12 X1 hx hby d4_10 rfl rfl ?_
  refine qiN 13 X1 hx hby d4_12 rfl rfl ?_
  refine q_cmy 27 X1 hx hby d4_13 rfl (flt (by decide : ¬ ((2 : Int32) < (2 : Int32)))).2.1 ?_
  exact own_retV X1 hx hlk Bd.returns (hb hby d4_27) (by rw [e1]; exact ⟨rfl, N1, K1⟩) (by decide) (by decide)
def Q_fill_2_4 (Z : State) (b2 : Addr) (vv : Int64) (g2 : Nat → Int64) (h0 : Heap) (n0 : Nat) (r : Option Value) (h : Heap) (L : List Loc) : Prop := r = none ∧ Fr n0 L ∧ Keep h0 h [b2] ∧ FA Z h b2 .long 64 (fun i => .long ((updL (updL g2 2 vv) 3 vv) i))
set_option maxRecDepth 65536 in
set_option maxHeartbeats 40000000 in
theorem rm_fill_2_4 (l : Launch) (Z : State) (a0 : Array Value) (hw : ∀ d ∈ tables_1, d.before a0 Z = true) (ws : List Jvm.Cond) (b2 : Addr) (vv : Int64) (g2 : Nat → Int64) (h0 : Heap) (n0 : Nat) (Z0 : n0 ≤ h0.size) (F_b2 : FA Z h0 b2 .long 64 (fun i => .long (g2 i))) (g_b2 : n0 ≤ b2) :
    MetFree l mn4 (head1 (Jvm.Cond.code mn4 jdk_65_method_102_code 6 none :: ws) ({ frames := 1, cells := 0, slots := 0, locals := 14 } : Room)) (fun a_ U => a_ = #[(.ref b2), (.int 2), (.int 4), (.long vv)] ∧ Z.Warmed39 U.vm ∧ U.heap = h0) (fun _ _ _ _ _ => True) (fun _ U o U' => ∃ v_ L_, o = .returned v_ ∧ Q_fill_2_4 Z b2 vv g2 h0 n0 v_ U'.heap L_ ∧ FrameEnd U o U' L_ ({ frames := 1, cells := 0, slots := 0, locals := 14 } : Room).cells ({ frames := 1, cells := 0, slots := 0, locals := 14 } : Room).slots) := by
  refine MetFree.of_bodySF (plainFor_of_name pn_4) hisR ?_
  intro p e s m args below meth c s₁ Bd hml0 hP hK
  obtain ⟨rfl, hZ, hh⟩ := hP
  have hx := Bd.exec
  have hby := Bd.bytes
  have hlk : meth.locks = false := Bd.notSynchronized
  have hml : c.maxLocals = 6 := hml0
  have hown : s.vm.findClass "java/util/Arrays" = some m.cls := findClass_of_methodNamed Bd.named
  have hnm := (name_of_methodNamed Bd.named Bd.method).1
  have X0 : Stand p l e ({ frames := 1, cells := 0, slots := 0, locals := 14 } : Room) s m #[(.ref b2), (.int 2), (.int 4), (.long vv)] below meth c s₁ [] 0 0 := Stand.of_body Bd
  have e0 : s₁.heap = h0 := by rw [← hh, Bd.state]; rfl
  have N0 := Fr.nil n0
  have K0 : Keep h0 h0 [b2] := Keep.refl _ _
  show OEnds p e below s (Q_fill_2_4 Z b2 vv g2 h0 n0) _ _ _
  refine own_by (fun t k => castTop (ef_4 m b2 (2 : Int32) (4 : Int32) vv) k) ?_
  show OEnds p e below s _ _ _ (s₁.setTop (mkF m 0 #[(vr b2), (vi 2), (vi 4), (vj vv), sd, un] []))
  refine qaN 1 X0 hx hby d4_0 rfl rfl ?_
  refine qn 2 (64 : Int32) X0 hx hZ e0 F_b2 (by decide) hby d4_1 rfl ?_
  refine qiN 3 X0 hx hby d4_2 rfl rfl ?_
  refine qiN 4 X0 hx hby d4_3 rfl rfl ?_
  obtain ⟨v1, T1, L1, h1, X1, e1, hQ1, st1⟩ := own_callS X0 hx hZ (y := mn3) hown (tw41 hw) (tw42 hw) (tw39 hw) (tw43 hw) (by decide) (rm_rcheck_2_4 l Z a0 hw [] h0 n0 Z0) e0 (g := (mkF m 4 #[(vr b2), (vi 2), (vi 4), (vj vv), sd, un] [(.int 4), (.int 2), (.int 64)])) rfl (by rw [hml]; rfl) (argsL := [(.int 64), (.int 2), (.int 4)]) (rest := []) (lenOf pd_pIIIrV rfl) rfl (W := 0) (by show 2 * 0 + _ ≤ _; exact Nat.le_of_eq rfl) (hb hby d4_4) (by decide) (by decide) (by decide) (by decide)
  obtain ⟨rfl, Nq1, Kq1⟩ := hQ1
  have N1 := Fr.app N0 Nq1
  have K1 := K0.trans Kq1 all0
  have Z1 := Nat.le_trans Z0 Kq1.1
  refine qtr 7 #[(vr b2), (vi 2), (vi 4), (vj vv), sd, un] [] st1 ?_
  refine qiN 8 X1 hx hby d4_7 rfl rfl ?_
  refine qsi 10 #[(vr b2), (vi 2), (vi 4), (vj vv), sd, (vi 2)] X1 hx hby d4_8 rfl rfl ?_
  refine qi 12 X1 hx hby d4_10 rfl rfl ?_
  refine qiN 13 X1 hx hby d4_12 rfl rfl ?_
  refine q_cmn 16 X1 hx hby d4_13 rfl (tlt (by decide : (2 : Int32) < (4 : Int32))).2.1 ?_
  refine qaN 17 X1 hx hby d4_16 rfl rfl ?_
  refine qi 19 X1 hx hby d4_17 rfl rfl ?_
  refine qlN 20 X1 hx hby d4_19 rfl rfl ?_
  have F3 := (F_b2.keep Kq1 nin0)
  obtain ⟨T2, h2, X2, e2, W2, st2⟩ := own_lastore X1 hx hZ e1 F3 2 (by decide) (by decide) (g := (mkF m 20 #[(vr b2), (vi 2), (vi 4), (vj vv), sd, (vi 2)] [(.long vv), (.int 2), (.ref b2)])) rfl rfl (hb hby d4_20)
  have F2 : FA Z h2 b2 .long 64 (fun i => .long ((updL g2 2 vv) i)) := F3.setL W2
  have N2 := Fr.snoc X2 N1 g_b2
  have Z2 := Nat.le_trans Z1 (Keep.of_wr W2).1
  have K2 := K1.wr W2 (wi 0 rfl)
  refine qat 21 #[(vr b2), (vi 2), (vi 4), (vj vv), sd, (vi 2)] [] st2 ?_
  refine q_inc 24 #[(vr b2), (vi 2), (vi 4), (vj vv), sd, (vi 3)] X2 hx hby d4_21 rfl rfl rfl ?_
  refine q_goto 10 X2 hx hby d4_24 rfl ?_
  refine qi 12 X2 hx hby d4_10 rfl rfl ?_
  refine qiN 13 X2 hx hby d4_12 rfl rfl ?_
  refine q_cmn 16 X2 hx hby d4_13 rfl (tlt (by decide : (3 : Int32) < (4 : Int32))).2.1 ?_
  refine qaN 17 X2 hx hby d4_16 rfl rfl ?_
  refine qi 19 X2 hx hby d4_17 rfl rfl ?_
  refine qlN 20 X2 hx hby d4_19 rfl rfl ?_
  obtain ⟨T4, h4, X4, e4, W4, st4⟩ := own_lastore X2 hx hZ e2 F2 3 (by decide) (by decide) (g := (mkF m 20 #[(vr b2), (vi 2), (vi 4), (vj vv), sd, (vi 3)] [(.long vv), (.int 3), (.ref b2)])) rfl rfl (hb hby d4_20)
  have F4 : FA Z h4 b2 .long 64 (fun i => .long ((updL (updL g2 2 vv) 3 vv) i)) := F2.setL W4
  have N4 := Fr.snoc X4 N2 g_b2
  have Z4 := Nat.le_trans Z2 (Keep.of_wr W4).1
  have K4 := K2.wr W4 (wi 0 rfl)
  refine qat 21 #[(vr b2), (vi 2), (vi 4), (vj vv), sd, (vi 3)] [] st4 ?_
  refine q_inc 24 #[(vr b2), (vi 2), (vi 4), (vj vv), sd, (vi 4)] X4 hx hby d4_21 rfl rfl rfl ?_
  refine q_goto 10 X4 hx hby d4_24 rfl ?_
  refine qi 12 X4 hx hby d4_10 rfl rfl ?_
  refine qiN 13 X4 hx hby d4_12 rfl rfl ?_
  refine q_cmy 27 X4 hx hby d4_13 rfl (flt (by decide : ¬ ((4 : Int32) < (4 : Int32)))).2.1 ?_
  exact own_retV X4 hx hlk Bd.returns (hb hby d4_27) (by rw [e4]; exact ⟨rfl, N4, K4, F4⟩) (by decide) (by decide)
def Q_fill_3_4 (Z : State) (b2 : Addr) (vv : Int64) (g2 : Nat → Int64) (h0 : Heap) (n0 : Nat) (r : Option Value) (h : Heap) (L : List Loc) : Prop := r = none ∧ Fr n0 L ∧ Keep h0 h [b2] ∧ FA Z h b2 .long 64 (fun i => .long ((updL g2 3 vv) i))
set_option maxRecDepth 65536 in
set_option maxHeartbeats 40000000 in
theorem rm_fill_3_4 (l : Launch) (Z : State) (a0 : Array Value) (hw : ∀ d ∈ tables_1, d.before a0 Z = true) (ws : List Jvm.Cond) (b2 : Addr) (vv : Int64) (g2 : Nat → Int64) (h0 : Heap) (n0 : Nat) (Z0 : n0 ≤ h0.size) (F_b2 : FA Z h0 b2 .long 64 (fun i => .long (g2 i))) (g_b2 : n0 ≤ b2) :
    MetFree l mn4 (head1 (Jvm.Cond.code mn4 jdk_65_method_102_code 6 none :: ws) ({ frames := 1, cells := 0, slots := 0, locals := 14 } : Room)) (fun a_ U => a_ = #[(.ref b2), (.int 3), (.int 4), (.long vv)] ∧ Z.Warmed39 U.vm ∧ U.heap = h0) (fun _ _ _ _ _ => True) (fun _ U o U' => ∃ v_ L_, o = .returned v_ ∧ Q_fill_3_4 Z b2 vv g2 h0 n0 v_ U'.heap L_ ∧ FrameEnd U o U' L_ ({ frames := 1, cells := 0, slots := 0, locals := 14 } : Room).cells ({ frames := 1, cells := 0, slots := 0, locals := 14 } : Room).slots) := by
  refine MetFree.of_bodySF (plainFor_of_name pn_4) hisR ?_
  intro p e s m args below meth c s₁ Bd hml0 hP hK
  obtain ⟨rfl, hZ, hh⟩ := hP
  have hx := Bd.exec
  have hby := Bd.bytes
  have hlk : meth.locks = false := Bd.notSynchronized
  have hml : c.maxLocals = 6 := hml0
  have hown : s.vm.findClass "java/util/Arrays" = some m.cls := findClass_of_methodNamed Bd.named
  have hnm := (name_of_methodNamed Bd.named Bd.method).1
  have X0 : Stand p l e ({ frames := 1, cells := 0, slots := 0, locals := 14 } : Room) s m #[(.ref b2), (.int 3), (.int 4), (.long vv)] below meth c s₁ [] 0 0 := Stand.of_body Bd
  have e0 : s₁.heap = h0 := by rw [← hh, Bd.state]; rfl
  have N0 := Fr.nil n0
  have K0 : Keep h0 h0 [b2] := Keep.refl _ _
  show OEnds p e below s (Q_fill_3_4 Z b2 vv g2 h0 n0) _ _ _
  refine own_by (fun t k => castTop (ef_4 m b2 (3 : Int32) (4 : Int32) vv) k) ?_
  show OEnds p e below s _ _ _ (s₁.setTop (mkF m 0 #[(vr b2), (vi 3), (vi 4), (vj vv), sd, un] []))
  refine qaN 1 X0 hx hby d4_0 rfl rfl ?_
  refine qn 2 (64 : Int32) X0 hx hZ e0 F_b2 (by decide) hby d4_1 rfl ?_
  refine qiN 3 X0 hx hby d4_2 rfl rfl ?_
  refine qiN 4 X0 hx hby d4_3 rfl rfl ?_
  obtain ⟨v1, T1, L1, h1, X1, e1, hQ1, st1⟩ := own_callS X0 hx hZ (y := mn3) hown (tw41 hw) (tw42 hw) (tw39 hw) (tw43 hw) (by decide) (rm_rcheck_3_4 l Z a0 hw [] h0 n0 Z0) e0 (g := (mkF m 4 #[(vr b2), (vi 3), (vi 4), (vj vv), sd, un] [(.int 4), (.int 3), (.int 64)])) rfl (by rw [hml]; rfl) (argsL := [(.int 64), (.int 3), (.int 4)]) (rest := []) (lenOf pd_pIIIrV rfl) rfl (W := 0) (by show 2 * 0 + _ ≤ _; exact Nat.le_of_eq rfl) (hb hby d4_4) (by decide) (by decide) (by decide) (by decide)
  obtain ⟨rfl, Nq1, Kq1⟩ := hQ1
  have N1 := Fr.app N0 Nq1
  have K1 := K0.trans Kq1 all0
  have Z1 := Nat.le_trans Z0 Kq1.1
  refine qtr 7 #[(vr b2), (vi 3), (vi 4), (vj vv), sd, un] [] st1 ?_
  refine qiN 8 X1 hx hby d4_7 rfl rfl ?_
  refine qsi 10 #[(vr b2), (vi 3), (vi 4), (vj vv), sd, (vi 3)] X1 hx hby d4_8 rfl rfl ?_
  refine qi 12 X1 hx hby d4_10 rfl rfl ?_
  refine qiN 13 X1 hx hby d4_12 rfl rfl ?_
  refine q_cmn 16 X1 hx hby d4_13 rfl (tlt (by decide : (3 : Int32) < (4 : Int32))).2.1 ?_
  refine qaN 17 X1 hx hby d4_16 rfl rfl ?_
  refine qi 19 X1 hx hby d4_17 rfl rfl ?_
  refine qlN 20 X1 hx hby d4_19 rfl rfl ?_
  have F3 := (F_b2.keep Kq1 nin0)
  obtain ⟨T2, h2, X2, e2, W2, st2⟩ := own_lastore X1 hx hZ e1 F3 3 (by decide) (by decide) (g := (mkF m 20 #[(vr b2), (vi 3), (vi 4), (vj vv), sd, (vi 3)] [(.long vv), (.int 3), (.ref b2)])) rfl rfl (hb hby d4_20)
  have F2 : FA Z h2 b2 .long 64 (fun i => .long ((updL g2 3 vv) i)) := F3.setL W2
  have N2 := Fr.snoc X2 N1 g_b2
  have Z2 := Nat.le_trans Z1 (Keep.of_wr W2).1
  have K2 := K1.wr W2 (wi 0 rfl)
  refine qat 21 #[(vr b2), (vi 3), (vi 4), (vj vv), sd, (vi 3)] [] st2 ?_
  refine q_inc 24 #[(vr b2), (vi 3), (vi 4), (vj vv), sd, (vi 4)] X2 hx hby d4_21 rfl rfl rfl ?_
  refine q_goto 10 X2 hx hby d4_24 rfl ?_
  refine qi 12 X2 hx hby d4_10 rfl rfl ?_
  refine qiN 13 X2 hx hby d4_12 rfl rfl ?_
  refine q_cmy 27 X2 hx hby d4_13 rfl (flt (by decide : ¬ ((4 : Int32) < (4 : Int32)))).2.1 ?_
  exact own_retV X2 hx hlk Bd.returns (hb hby d4_27) (by rw [e2]; exact ⟨rfl, N2, K2, F2⟩) (by decide) (by decide)
def Q_fill_4_6 (Z : State) (b2 : Addr) (vv : Int64) (g2 : Nat → Int64) (h0 : Heap) (n0 : Nat) (r : Option Value) (h : Heap) (L : List Loc) : Prop := r = none ∧ Fr n0 L ∧ Keep h0 h [b2] ∧ FA Z h b2 .long 64 (fun i => .long ((updL (updL g2 4 vv) 5 vv) i))
set_option maxRecDepth 65536 in
set_option maxHeartbeats 40000000 in
theorem rm_fill_4_6 (l : Launch) (Z : State) (a0 : Array Value) (hw : ∀ d ∈ tables_1, d.before a0 Z = true) (ws : List Jvm.Cond) (b2 : Addr) (vv : Int64) (g2 : Nat → Int64) (h0 : Heap) (n0 : Nat) (Z0 : n0 ≤ h0.size) (F_b2 : FA Z h0 b2 .long 64 (fun i => .long (g2 i))) (g_b2 : n0 ≤ b2) :
    MetFree l mn4 (head1 (Jvm.Cond.code mn4 jdk_65_method_102_code 6 none :: ws) ({ frames := 1, cells := 0, slots := 0, locals := 14 } : Room)) (fun a_ U => a_ = #[(.ref b2), (.int 4), (.int 6), (.long vv)] ∧ Z.Warmed39 U.vm ∧ U.heap = h0) (fun _ _ _ _ _ => True) (fun _ U o U' => ∃ v_ L_, o = .returned v_ ∧ Q_fill_4_6 Z b2 vv g2 h0 n0 v_ U'.heap L_ ∧ FrameEnd U o U' L_ ({ frames := 1, cells := 0, slots := 0, locals := 14 } : Room).cells ({ frames := 1, cells := 0, slots := 0, locals := 14 } : Room).slots) := by
  refine MetFree.of_bodySF (plainFor_of_name pn_4) hisR ?_
  intro p e s m args below meth c s₁ Bd hml0 hP hK
  obtain ⟨rfl, hZ, hh⟩ := hP
  have hx := Bd.exec
  have hby := Bd.bytes
  have hlk : meth.locks = false := Bd.notSynchronized
  have hml : c.maxLocals = 6 := hml0
  have hown : s.vm.findClass "java/util/Arrays" = some m.cls := findClass_of_methodNamed Bd.named
  have hnm := (name_of_methodNamed Bd.named Bd.method).1
  have X0 : Stand p l e ({ frames := 1, cells := 0, slots := 0, locals := 14 } : Room) s m #[(.ref b2), (.int 4), (.int 6), (.long vv)] below meth c s₁ [] 0 0 := Stand.of_body Bd
  have e0 : s₁.heap = h0 := by rw [← hh, Bd.state]; rfl
  have N0 := Fr.nil n0
  have K0 : Keep h0 h0 [b2] := Keep.refl _ _
  show OEnds p e below s (Q_fill_4_6 Z b2 vv g2 h0 n0) _ _ _
  refine own_by (fun t k => castTop (ef_4 m b2 (4 : Int32) (6 : Int32) vv) k) ?_
  show OEnds p e below s _ _ _ (s₁.setTop (mkF m 0 #[(vr b2), (vi 4), (vi 6), (vj vv), sd, un] []))
  refine qaN 1 X0 hx hby d4_0 rfl rfl ?_
  refine qn 2 (64 : Int32) X0 hx hZ e0 F_b2 (by decide) hby d4_1 rfl ?_
  refine qiN 3 X0 hx hby d4_2 rfl rfl ?_
  refine qiN 4 X0 hx hby d4_3 rfl rfl ?_
  obtain ⟨v1, T1, L1, h1, X1, e1, hQ1, st1⟩ := own_callS X0 hx hZ (y := mn3) hown (tw41 hw) (tw42 hw) (tw39 hw) (tw43 hw) (by decide) (rm_rcheck_4_6 l Z a0 hw [] h0 n0 Z0) e0 (g := (mkF m 4 #[(vr b2), (vi 4), (vi 6), (vj vv), sd, un] [(.int 6), (.int 4), (.int 64)])) rfl (by rw [hml]; rfl) (argsL := [(.int 64), (.int 4), (.int 6)]) (rest := []) (lenOf pd_pIIIrV rfl) rfl (W := 0) (by show 2 * 0 + _ ≤ _; exact Nat.le_of_eq rfl) (hb hby d4_4) (by decide) (by decide) (by decide) (by decide)
  obtain ⟨rfl, Nq1, Kq1⟩ := hQ1
  have N1 := Fr.app N0 Nq1
  have K1 := K0.trans Kq1 all0
  have Z1 := Nat.le_trans Z0 Kq1.1
  refine qtr 7 #[(vr b2), (vi 4), (vi 6), (vj vv), sd, un] [] st1 ?_
  refine qiN 8 X1 hx hby d4_7 rfl rfl ?_
  refine qsi 10 #[(vr b2), (vi 4), (vi 6), (vj vv), sd, (vi 4)] X1 hx hby d4_8 rfl rfl ?_
  refine qi 12 X1 hx hby d4_10 rfl rfl ?_
  refine qiN 13 X1 hx hby d4_12 rfl rfl ?_
  refine q_cmn 16 X1 hx hby d4_13 rfl (tlt (by decide : (4 : Int32) < (6 : Int32))).2.1 ?_
  refine qaN 17 X1 hx hby d4_16 rfl rfl ?_
  refine qi 19 X1 hx hby d4_17 rfl rfl ?_
  refine qlN 20 X1 hx hby d4_19 rfl rfl ?_
  have F3 := (F_b2.keep Kq1 nin0)
  obtain ⟨T2, h2, X2, e2, W2, st2⟩ := own_lastore X1 hx hZ e1 F3 4 (by decide) (by decide) (g := (mkF m 20 #[(vr b2), (vi 4), (vi 6), (vj vv), sd, (vi 4)] [(.long vv), (.int 4), (.ref b2)])) rfl rfl (hb hby d4_20)
  have F2 : FA Z h2 b2 .long 64 (fun i => .long ((updL g2 4 vv) i)) := F3.setL W2
  have N2 := Fr.snoc X2 N1 g_b2
  have Z2 := Nat.le_trans Z1 (Keep.of_wr W2).1
  have K2 := K1.wr W2 (wi 0 rfl)
  refine qat 21 #[(vr b2), (vi 4), (vi 6), (vj vv), sd, (vi 4)] [] st2 ?_
  refine q_inc 24 #[(vr b2), (vi 4), (vi 6), (vj vv), sd, (vi 5)] X2 hx hby d4_21 rfl rfl rfl ?_
  refine q_goto 10 X2 hx hby d4_24 rfl ?_
  refine qi 12 X2 hx hby d4_10 rfl rfl ?_
  refine qiN 13 X2 hx hby d4_12 rfl rfl ?_
  refine q_cmn 16 X2 hx hby d4_13 rfl (tlt (by decide : (5 : Int32) < (6 : Int32))).2.1 ?_
  refine qaN 17 X2 hx hby d4_16 rfl rfl ?_
  refine qi 19 X2 hx hby d4_17 rfl rfl ?_
  refine qlN 20 X2 hx hby d4_19 rfl rfl ?_
  obtain ⟨T4, h4, X4, e4, W4, st4⟩ := own_lastore X2 hx hZ e2 F2 5 (by decide) (by decide) (g := (mkF m 20 #[(vr b2), (vi 4), (vi 6), (vj vv), sd, (vi 5)] [(.long vv), (.int 5), (.ref b2)])) rfl rfl (hb hby d4_20)
  have F4 : FA Z h4 b2 .long 64 (fun i => .long ((updL (updL g2 4 vv) 5 vv) i)) := F2.setL W4
  have N4 := Fr.snoc X4 N2 g_b2
  have Z4 := Nat.le_trans Z2 (Keep.of_wr W4).1
  have K4 := K2.wr W4 (wi 0 rfl)
  refine qat 21 #[(vr b2), (vi 4), (vi 6), (vj vv), sd, (vi 5)] [] st4 ?_
  refine q_inc 24 #[(vr b2), (vi 4), (vi 6), (vj vv), sd, (vi 6)] X4 hx hby d4_21 rfl rfl rfl ?_
  refine q_goto 10 X4 hx hby d4_24 rfl ?_
  refine qi 12 X4 hx hby d4_10 rfl rfl ?_
  refine qiN 13 X4 hx hby d4_12 rfl rfl ?_
  refine q_cmy 27 X4 hx hby d4_13 rfl (flt (by decide : ¬ ((6 : Int32) < (6 : Int32)))).2.1 ?_
  exact own_retV X4 hx hlk Bd.returns (hb hby d4_27) (by rw [e4]; exact ⟨rfl, N4, K4, F4⟩) (by decide) (by decide)
theorem d3_0 : decode prog_32_method_5_code 0 = .ok (.aload_n 0, 1) := by decide +kernel
theorem d3_1 : decode prog_32_method_5_code 1 = .ok (.getfield 39, 3) := by decide +kernel
theorem d3_4 : decode prog_32_method_5_code 4 = .ok (.ifCond .ne 7, 3) := by decide +kernel
theorem d3_7 : decode prog_32_method_5_code 7 = .ok (.iconst 0, 1) := by decide +kernel
theorem d3_8 : decode prog_32_method_5_code 8 = .ok (.goto 14, 3) := by decide +kernel
theorem d3_22 : decode prog_32_method_5_code 22 = .ok (.istore_n 1, 1) := by decide +kernel
theorem d3_23 : decode prog_32_method_5_code 23 = .ok (.aload_n 0, 1) := by decide +kernel
theorem d3_24 : decode prog_32_method_5_code 24 = .ok (.getfield 32, 3) := by decide +kernel
theorem d3_27 : decode prog_32_method_5_code 27 = .ok (.iload_n 1, 1) := by decide +kernel
theorem d3_28 : decode prog_32_method_5_code 28 = .ok (.isub, 1) := by decide +kernel
theorem d3_29 : decode prog_32_method_5_code 29 = .ok (.bipush 8, 2) := by decide +kernel
theorem d3_31 : decode prog_32_method_5_code 31 = .ok (.idiv, 1) := by decide +kernel
theorem d3_32 : decode prog_32_method_5_code 32 = .ok (.aload_n 0, 1) := by decide +kernel
theorem d3_33 : decode prog_32_method_5_code 33 = .ok (.getfield 32, 3) := by decide +kernel
theorem d3_36 : decode prog_32_method_5_code 36 = .ok (.iload_n 1, 1) := by decide +kernel
theorem d3_37 : decode prog_32_method_5_code 37 = .ok (.isub, 1) := by decide +kernel
theorem d3_38 : decode prog_32_method_5_code 38 = .ok (.bipush 8, 2) := by decide +kernel
theorem d3_40 : decode prog_32_method_5_code 40 = .ok (.irem, 1) := by decide +kernel
theorem d3_41 : decode prog_32_method_5_code 41 = .ok (.ifCond .ne 7, 3) := by decide +kernel
theorem d3_44 : decode prog_32_method_5_code 44 = .ok (.iconst 0, 1) := by decide +kernel
theorem d3_45 : decode prog_32_method_5_code 45 = .ok (.goto 4, 3) := by decide +kernel
theorem d3_49 : decode prog_32_method_5_code 49 = .ok (.iadd, 1) := by decide +kernel
theorem d3_50 : decode prog_32_method_5_code 50 = .ok (.istore_n 2, 1) := by decide +kernel
theorem d3_51 : decode prog_32_method_5_code 51 = .ok (.aload_n 0, 1) := by decide +kernel
theorem d3_52 : decode prog_32_method_5_code 52 = .ok (.getfield 13, 3) := by decide +kernel
theorem d3_55 : decode prog_32_method_5_code 55 = .ok (.arraylength, 1) := by decide +kernel
theorem d3_56 : decode prog_32_method_5_code 56 = .ok (.aload_n 0, 1) := by decide +kernel
theorem d3_57 : decode prog_32_method_5_code 57 = .ok (.getfield 36, 3) := by decide +kernel
theorem d3_60 : decode prog_32_method_5_code 60 = .ok (.isub, 1) := by decide +kernel
theorem d3_61 : decode prog_32_method_5_code 61 = .ok (.iconst 2, 1) := by decide +kernel
theorem d3_62 : decode prog_32_method_5_code 62 = .ok (.iload_n 2, 1) := by decide +kernel
theorem d3_63 : decode prog_32_method_5_code 63 = .ok (.imul, 1) := by decide +kernel
theorem d3_64 : decode prog_32_method_5_code 64 = .ok (.if_icmp .ge 32, 3) := by decide +kernel
theorem d3_96 : decode prog_32_method_5_code 96 = .ok (.aload_n 0, 1) := by decide +kernel
theorem d3_97 : decode prog_32_method_5_code 97 = .ok (.getfield 39, 3) := by decide +kernel
theorem d3_100 : decode prog_32_method_5_code 100 = .ok (.aload_n 0, 1) := by decide +kernel
theorem d3_101 : decode prog_32_method_5_code 101 = .ok (.getfield 16, 3) := by decide +kernel
theorem d3_104 : decode prog_32_method_5_code 104 = .ok (.arraylength, 1) := by decide +kernel
theorem d3_105 : decode prog_32_method_5_code 105 = .ok (.if_icmp .ne 54, 3) := by decide +kernel
theorem d3_159 : decode prog_32_method_5_code 159 = .ok (.aload_n 0, 1) := by decide +kernel
theorem d3_160 : decode prog_32_method_5_code 160 = .ok (.getfield 16, 3) := by decide +kernel
theorem d3_163 : decode prog_32_method_5_code 163 = .ok (.aload_n 0, 1) := by decide +kernel
theorem d3_164 : decode prog_32_method_5_code 164 = .ok (.getfield 39, 3) := by decide +kernel
theorem d3_167 : decode prog_32_method_5_code 167 = .ok (.iload_n 1, 1) := by decide +kernel
theorem d3_168 : decode prog_32_method_5_code 168 = .ok (.iastore, 1) := by decide +kernel
theorem d3_169 : decode prog_32_method_5_code 169 = .ok (.aload_n 0, 1) := by decide +kernel
theorem d3_170 : decode prog_32_method_5_code 170 = .ok (.getfield 20, 3) := by decide +kernel
theorem d3_173 : decode prog_32_method_5_code 173 = .ok (.aload_n 0, 1) := by decide +kernel
theorem d3_174 : decode prog_32_method_5_code 174 = .ok (.getfield 39, 3) := by decide +kernel
theorem d3_177 : decode prog_32_method_5_code 177 = .ok (.aload_n 0, 1) := by decide +kernel
theorem d3_178 : decode prog_32_method_5_code 178 = .ok (.getfield 32, 3) := by decide +kernel
theorem d3_181 : decode prog_32_method_5_code 181 = .ok (.iastore, 1) := by decide +kernel
theorem d3_182 : decode prog_32_method_5_code 182 = .ok (.aload_n 0, 1) := by decide +kernel
theorem d3_183 : decode prog_32_method_5_code 183 = .ok (.getfield 23, 3) := by decide +kernel
theorem d3_186 : decode prog_32_method_5_code 186 = .ok (.aload_n 0, 1) := by decide +kernel
theorem d3_187 : decode prog_32_method_5_code 187 = .ok (.getfield 39, 3) := by decide +kernel
theorem d3_190 : decode prog_32_method_5_code 190 = .ok (.aload_n 0, 1) := by decide +kernel
theorem d3_191 : decode prog_32_method_5_code 191 = .ok (.getfield 36, 3) := by decide +kernel
theorem d3_194 : decode prog_32_method_5_code 194 = .ok (.iastore, 1) := by decide +kernel
theorem d3_195 : decode prog_32_method_5_code 195 = .ok (.aload_n 0, 1) := by decide +kernel
theorem d3_196 : decode prog_32_method_5_code 196 = .ok (.getfield 13, 3) := by decide +kernel
theorem d3_199 : decode prog_32_method_5_code 199 = .ok (.aload_n 0, 1) := by decide +kernel
theorem d3_200 : decode prog_32_method_5_code 200 = .ok (.getfield 36, 3) := by decide +kernel
theorem d3_203 : decode prog_32_method_5_code 203 = .ok (.iload_n 2, 1) := by decide +kernel
theorem d3_204 : decode prog_32_method_5_code 204 = .ok (.iadd, 1) := by decide +kernel
theorem d3_205 : decode prog_32_method_5_code 205 = .ok (.aload_n 0, 1) := by decide +kernel
theorem d3_206 : decode prog_32_method_5_code 206 = .ok (.getfield 36, 3) := by decide +kernel
theorem d3_209 : decode prog_32_method_5_code 209 = .ok (.iconst 2, 1) := by decide +kernel
theorem d3_210 : decode prog_32_method_5_code 210 = .ok (.iload_n 2, 1) := by decide +kernel
theorem d3_211 : decode prog_32_method_5_code 211 = .ok (.imul, 1) := by decide +kernel
theorem d3_212 : decode prog_32_method_5_code 212 = .ok (.iadd, 1) := by decide +kernel
theorem d3_213 : decode prog_32_method_5_code 213 = .ok (.ldc2_w 74, 3) := by decide +kernel
theorem d3_216 : decode prog_32_method_5_code 216 = .ok (.invokestatic 76, 3) := by decide +kernel
theorem d3_219 : decode prog_32_method_5_code 219 = .ok (.iload_n 1, 1) := by decide +kernel
theorem d3_220 : decode prog_32_method_5_code 220 = .ok (.istore_n 3, 1) := by decide +kernel
theorem d3_221 : decode prog_32_method_5_code 221 = .ok (.iload_n 3, 1) := by decide +kernel
theorem d3_222 : decode prog_32_method_5_code 222 = .ok (.aload_n 0, 1) := by decide +kernel
theorem d3_223 : decode prog_32_method_5_code 223 = .ok (.getfield 32, 3) := by decide +kernel
theorem d3_226 : decode prog_32_method_5_code 226 = .ok (.if_icmp .ge 47, 3) := by decide +kernel
theorem d3_273 : decode prog_32_method_5_code 273 = .ok (.iload_n 2, 1) := by decide +kernel
theorem d3_274 : decode prog_32_method_5_code 274 = .ok (.iconst 1, 1) := by decide +kernel
theorem d3_275 : decode prog_32_method_5_code 275 = .ok (.isub, 1) := by decide +kernel
theorem d3_276 : decode prog_32_method_5_code 276 = .ok (.istore_n 3, 1) := by decide +kernel
theorem d3_277 : decode prog_32_method_5_code 277 = .ok (.iload_n 3, 1) := by decide +kernel
theorem d3_278 : decode prog_32_method_5_code 278 = .ok (.ifCond .le 51, 3) := by decide +kernel
theorem d3_329 : decode prog_32_method_5_code 329 = .ok (.aload_n 0, 1) := by decide +kernel
theorem d3_330 : decode prog_32_method_5_code 330 = .ok (.dup, 1) := by decide +kernel
theorem d3_331 : decode prog_32_method_5_code 331 = .ok (.getfield 36, 3) := by decide +kernel
theorem d3_334 : decode prog_32_method_5_code 334 = .ok (.iconst 2, 1) := by decide +kernel
theorem d3_335 : decode prog_32_method_5_code 335 = .ok (.iload_n 2, 1) := by decide +kernel
theorem d3_336 : decode prog_32_method_5_code 336 = .ok (.imul, 1) := by decide +kernel
theorem d3_337 : decode prog_32_method_5_code 337 = .ok (.iadd, 1) := by decide +kernel
theorem d3_338 : decode prog_32_method_5_code 338 = .ok (.putfield 36, 3) := by decide +kernel
theorem d3_341 : decode prog_32_method_5_code 341 = .ok (.aload_n 0, 1) := by decide +kernel
theorem d3_342 : decode prog_32_method_5_code 342 = .ok (.dup, 1) := by decide +kernel
theorem d3_343 : decode prog_32_method_5_code 343 = .ok (.getfield 39, 3) := by decide +kernel
theorem d3_346 : decode prog_32_method_5_code 346 = .ok (.dup_x1, 1) := by decide +kernel
theorem d3_347 : decode prog_32_method_5_code 347 = .ok (.iconst 1, 1) := by decide +kernel
theorem d3_348 : decode prog_32_method_5_code 348 = .ok (.iadd, 1) := by decide +kernel
theorem d3_349 : decode prog_32_method_5_code 349 = .ok (.putfield 39, 3) := by decide +kernel
theorem d3_352 : decode prog_32_method_5_code 352 = .ok (.ireturn, 1) := by decide +kernel
theorem pn_3 : plainName "com/example/graphweft/graphweft/RangeMaxTree" = true := by first | (simp [plainName, overriddenIn]; done) | decide +kernel
theorem ef_3 (m : MethodId) (x0 : Addr) : entryFrame m #[(.ref x0)] 5 = mkF m 0 #[.val (.ref x0), .unset, .unset, .unset, .unset] [] := by first | (simp [entryFrame, mkF, argsToLocals, Value.category]; done) | rfl
def Q_index0_0 (Z : State) (a : Addr) (b1 : Addr) (b2 : Addr) (b3 : Addr) (b4 : Addr) (b5 : Addr) (b6 : Addr) (b7 : Addr) (bd : Int64) (ss : Int32) (bs : Int32) (bc : Int32) (pn : Int32) (se : Int32) (sa : Int32) (ta : Int32) (te : Int32) (g1 : Nat → Int64) (g2 : Nat → Int64) (g3 : Nat → Int32) (g4 : Nat → Int32) (g5 : Nat → Int32) (h0 : Heap) (n0 : Nat) (r : Option Value) (h : Heap) (L : List Loc) : Prop := r = some (.int 0) ∧ Fr n0 L ∧ Keep h0 h [a, b3, b4, b5] ∧ Obj Z h a "com/example/graphweft/graphweft/RangeMaxTree" sch_rt [(.ref b1), (.ref b2), (.ref b3), (.ref b4), (.ref b5), (.ref b6), (.ref b7), (.int 1), (.int 0), (.int 0), (.long bd), (.int ss), (.int bs), (.int bc), (.int pn), (.int se), (.int sa), (.int ta), (.int te)] ∧ FA Z h b3 .int 16 (fun i => .int ((updI g3 0 (0 : Int32)) i)) ∧ FA Z h b4 .int 16 (fun i => .int ((updI g4 0 (0 : Int32)) i)) ∧ FA Z h b5 .int 16 (fun i => .int ((updI g5 0 (0 : Int32)) i))
set_option maxRecDepth 65536 in
set_option maxHeartbeats 40000000 in
theorem rm_index0_0 (l : Launch) (Z : State) (a0 : Array Value) (hw : ∀ d ∈ tables_1, d.before a0 Z = true) (ws : List Jvm.Cond) (a : Addr) (b1 : Addr) (b2 : Addr) (b3 : Addr) (b4 : Addr) (b5 : Addr) (b6 : Addr) (b7 : Addr) (bd : Int64) (ss : Int32) (bs : Int32) (bc : Int32) (pn : Int32) (se : Int32) (sa : Int32) (ta : Int32) (te : Int32) (g1 : Nat → Int64) (g2 : Nat → Int64) (g3 : Nat → Int32) (g4 : Nat → Int32) (g5 : Nat → Int32) (h0 : Heap) (n0 : Nat) (Z0 : n0 ≤ h0.size) (O0 : Obj Z h0 a "com/example/graphweft/graphweft/RangeMaxTree" sch_rt [(.ref b1), (.ref b2), (.ref b3), (.ref b4), (.ref b5), (.ref b6), (.ref b7), (.int 0), (.int 0), (.int 0), (.long bd), (.int ss), (.int bs), (.int bc), (.int pn), (.int se), (.int sa), (.int ta), (.int te)]) (F_b1 : FA Z h0 b1 .long 64 (fun i => .long (g1 i))) (F_b2 : FA Z h0 b2 .long 64 (fun i => .long (g2 i))) (F_b3 : FA Z h0 b3 .int 16 (fun i => .int (g3 i))) (F_b4 : FA Z h0 b4 .int 16 (fun i => .int (g4 i))) (F_b5 : FA Z h0 b5 .int 16 (fun i => .int (g5 i))) (g_a : n0 ≤ a) (g_b3 : n0 ≤ b3) (g_b4 : n0 ≤ b4) (g_b5 : n0 ≤ b5) (hord : @LT.lt Nat instLTNat a b1 ∧ @LT.lt Nat instLTNat b1 b2 ∧ @LT.lt Nat instLTNat b2 b3 ∧ @LT.lt Nat instLTNat b3 b4 ∧ @LT.lt Nat instLTNat b4 b5 ∧ @LT.lt Nat instLTNat b5 b6 ∧ @LT.lt Nat instLTNat b6 b7) :
    MetFree l mn5 (head1 (Jvm.Cond.code mn5 prog_32_method_5_code 5 (some .int) :: ws) ({ frames := 2, cells := 0, slots := 0, locals := 31 } : Room)) (fun a_ U => a_ = #[(.ref a)] ∧ Z.Warmed39 U.vm ∧ U.heap = h0) (fun _ _ _ _ _ => True) (fun _ U o U' => ∃ v_ L_, o = .returned v_ ∧ Q_index0_0 Z a b1 b2 b3 b4 b5 b6 b7 bd ss bs bc pn se sa ta te g1 g2 g3 g4 g5 h0 n0 v_ U'.heap L_ ∧ FrameEnd U o U' L_ ({ frames := 2, cells := 0, slots := 0, locals := 31 } : Room).cells ({ frames := 2, cells := 0, slots := 0, locals := 31 } : Room).slots) := by
  refine MetFree.of_bodySF (plainFor_of_name pn_3) hisR ?_
  intro p e s m args below meth c s₁ Bd hml0 hP hK
  obtain ⟨rfl, hZ, hh⟩ := hP
  have hx := Bd.exec
  have hby := Bd.bytes
  have hlk : meth.locks = false := Bd.notSynchronized
  have hml : c.maxLocals = 5 := hml0
  have hown : s.vm.findClass "com/example/graphweft/graphweft/RangeMaxTree" = some m.cls := findClass_of_methodNamed Bd.named
  have hnm := (name_of_methodNamed Bd.named Bd.method).1
  have X0 : Stand p l e ({ frames := 2, cells := 0, slots := 0, locals := 31 } : Room) s m #[(.ref a)] below meth c s₁ [] 0 0 := Stand.of_body Bd
  have e0 : s₁.heap = h0 := by rw [← hh, Bd.state]; rfl
  have N0 := Fr.nil n0
  have K0 : Keep h0 h0 [a, b3, b4, b5] := Keep.refl _ _
  show OEnds p e below s (Q_index0_0 Z a b1 b2 b3 b4 b5 b6 b7 bd ss bs bc pn se sa ta te g1 g2 g3 g4 g5 h0 n0) _ _ _
  refine own_by (fun t k => castTop (ef_3 m a) k) ?_
  show OEnds p e below s _ _ _ (s₁.setTop (mkF m 0 #[(vr a), un, un, un, un] []))
  refine qaN 1 X0 hx hby d3_0 rfl rfl ?_
  refine qg 4 X0 hx hZ hown (tw30 hw) e0 (O0.fld 7 rfl rfl) hby d3_1 rfl fun T1 X1 e1 => ?_
  refine q_ifn 7 X1 hx hby d3_4 rfl ((if0 _ _).trans (teq (by decide : (0 : Int32) = (0 : Int32))).2) ?_
  refine qc1 8 0 X1 hx hby d3_7 rfl rfl ?_
  refine q_goto 22 X1 hx hby d3_8 rfl ?_
  refine qsiN 23 #[(vr a), (vi 0), un, un, un] X1 hx hby d3_22 rfl rfl ?_
  refine qaN 24 X1 hx hby d3_23 rfl rfl ?_
  refine qg 27 X1 hx hZ hown (tw32 hw) e1 (O0.fld 8 rfl rfl) hby d3_24 rfl fun T2 X2 e2 => ?_
  refine qiN 28 X2 hx hby d3_27 rfl rfl ?_
  refine q_isub 29 X2 hx hby d3_28 rfl ?_
  show OEnds p e below s _ _ _ (T2.setTop (mkF m 29 #[(vr a), (vi 0), un, un, un] [(.int 0)]))
  refine qc2 31 8 X2 hx hby d3_29 rfl rfl ?_
  refine q_idiv 32 X2 hx hby d3_31 rfl (by decide) ?_
  show OEnds p e below s _ _ _ (T2.setTop (mkF m 32 #[(vr a), (vi 0), un, un, un] [(.int 0)]))
  refine qaN 33 X2 hx hby d3_32 rfl rfl ?_
  refine qg 36 X2 hx hZ hown (tw32 hw) e2 (O0.fld 8 rfl rfl) hby d3_33 rfl fun T3 X3 e3 => ?_
  refine qiN 37 X3 hx hby d3_36 rfl rfl ?_
  refine q_isub 38 X3 hx hby d3_37 rfl ?_
  show OEnds p e below s _ _ _ (T3.setTop (mkF m 38 #[(vr a), (vi 0), un, un, un] [(.int 0), (.int 0)]))
  refine qc2 40 8 X3 hx hby d3_38 rfl rfl ?_
  refine own_by (fun _ k => iremM X3 hx rfl (hb hby d3_40) rfl (by decide) k) ?_
  show OEnds p e below s _ _ _ (T3.setTop (mkF m 41 #[(vr a), (vi 0), un, un, un] [(.int 0), (.int 0)]))
  refine q_ifn 44 X3 hx hby d3_41 rfl ((if0 _ _).trans (teq (by decide : (0 : Int32) = (0 : Int32))).2) ?_
  refine qc1 45 0 X3 hx hby d3_44 rfl rfl ?_
  refine q_goto 49 X3 hx hby d3_45 rfl ?_
  refine q_iadd 50 X3 hx hby d3_49 rfl ?_
  show OEnds p e below s _ _ _ (T3.setTop (mkF m 50 #[(vr a), (vi 0), un, un, un] [(.int 0)]))
  refine qsiN 51 #[(vr a), (vi 0), (vi 0), un, un] X3 hx hby d3_50 rfl rfl ?_
  refine qaN 52 X3 hx hby d3_51 rfl rfl ?_
  refine qg 55 X3 hx hZ hown (tw12 hw) e3 (O0.fld 1 rfl rfl) hby d3_52 rfl fun T4 X4 e4 => ?_
  refine qn 56 (64 : Int32) X4 hx hZ e4 F_b2 (by decide) hby d3_55 rfl ?_
  refine qaN 57 X4 hx hby d3_56 rfl rfl ?_
  refine qg 60 X4 hx hZ hown (tw34 hw) e4 (O0.fld 9 rfl rfl) hby d3_57 rfl fun T5 X5 e5 => ?_
  refine q_isub 61 X5 hx hby d3_60 rfl ?_
  show OEnds p e below s _ _ _ (T5.setTop (mkF m 61 #[(vr a), (vi 0), (vi 0), un, un] [(.int 64)]))
  refine qc1 62 2 X5 hx hby d3_61 rfl rfl ?_
  refine qiN 63 X5 hx hby d3_62 rfl rfl ?_
  refine q_imul 64 X5 hx hby d3_63 rfl ?_
  show OEnds p e below s _ _ _ (T5.setTop (mkF m 64 #[(vr a), (vi 0), (vi 0), un, un] [(.int 0), (.int 64)]))
  refine q_cmy 96 X5 hx hby d3_64 rfl (flt (by decide : ¬ ((64 : Int32) < (0 : Int32)))).2.1 ?_
  refine qaN 97 X5 hx hby d3_96 rfl rfl ?_
  refine qg 100 X5 hx hZ hown (tw30 hw) e5 (O0.fld 7 rfl rfl) hby d3_97 rfl fun T6 X6 e6 => ?_
  refine qaN 101 X6 hx hby d3_100 rfl rfl ?_
  refine qg 104 X6 hx hZ hown (tw15 hw) e6 (O0.fld 2 rfl rfl) hby d3_101 rfl fun T7 X7 e7 => ?_
  refine qn 105 (16 : Int32) X7 hx hZ e7 F_b3 (by decide) hby d3_104 rfl ?_
  refine q_cmy 159 X7 hx hby d3_105 rfl (feq (by decide : ¬ ((0 : Int32) = (16 : Int32)))).2 ?_
  refine qaN 160 X7 hx hby d3_159 rfl rfl ?_
  refine qg 163 X7 hx hZ hown (tw15 hw) e7 (O0.fld 2 rfl rfl) hby d3_160 rfl fun T8 X8 e8 => ?_
  refine qaN 164 X8 hx hby d3_163 rfl rfl ?_
  refine qg 167 X8 hx hZ hown (tw30 hw) e8 (O0.fld 7 rfl rfl) hby d3_164 rfl fun T9 X9 e9 => ?_
  refine qiN 168 X9 hx hby d3_167 rfl rfl ?_
  obtain ⟨T10, h10, X10, e10, W10, st10⟩ := own_iastore X9 hx hZ e9 F_b3 0 (by decide) (by decide) (g := (mkF m 168 #[(vr a), (vi 0), (vi 0), un, un] [(.int 0), (.int 0), (.ref b3)])) rfl rfl (hb hby d3_168)
  have F10 : FA Z h10 b3 .int 16 (fun i => .int ((updI g3 0 (0 : Int32)) i)) := F_b3.setI W10
  have N10 := Fr.snoc X10 N0 g_b3
  have Z10 := Nat.le_trans Z0 (Keep.of_wr W10).1
  have K10 := K0.wr W10 (wi 1 rfl)
  refine qat 169 #[(vr a), (vi 0), (vi 0), un, un] [] st10 ?_
  refine qaN 170 X10 hx hby d3_169 rfl rfl ?_
  have O12 := (O0.other W10 (o03 hord))
  refine qg 173 X10 hx hZ hown (tw17 hw) e10 (O12.fld 3 rfl rfl) hby d3_170 rfl fun T11 X11 e11 => ?_
  refine qaN 174 X11 hx hby d3_173 rfl rfl ?_
  refine qg 177 X11 hx hZ hown (tw30 hw) e11 (O12.fld 7 rfl rfl) hby d3_174 rfl fun T13 X13 e13 => ?_
  refine qaN 178 X13 hx hby d3_177 rfl rfl ?_
  refine qg 181 X13 hx hZ hown (tw32 hw) e13 (O12.fld 8 rfl rfl) hby d3_178 rfl fun T14 X14 e14 => ?_
  have F16 := (F_b4.other W10 (Ne.symm (o34 hord)))
  obtain ⟨T15, h15, X15, e15, W15, st15⟩ := own_iastore X14 hx hZ e14 F16 0 (by decide) (by decide) (g := (mkF m 181 #[(vr a), (vi 0), (vi 0), un, un] [(.int 0), (.int 0), (.ref b4)])) rfl rfl (hb hby d3_181)
  have F15 : FA Z h15 b4 .int 16 (fun i => .int ((updI g4 0 (0 : Int32)) i)) := F16.setI W15
  have N15 := Fr.snoc X15 N10 g_b4
  have Z15 := Nat.le_trans Z10 (Keep.of_wr W15).1
  have K15 := K10.wr W15 (wi 2 rfl)
  refine qat 182 #[(vr a), (vi 0), (vi 0), un, un] [] st15 ?_
  refine qaN 183 X15 hx hby d3_182 rfl rfl ?_
  have O18 := (O12.other W15 (o04 hord))
  refine qg 186 X15 hx hZ hown (tw19 hw) e15 (O18.fld 4 rfl rfl) hby d3_183 rfl fun T17 X17 e17 => ?_
  refine qaN 187 X17 hx hby d3_186 rfl rfl ?_
  refine qg 190 X17 hx hZ hown (tw30 hw) e17 (O18.fld 7 rfl rfl) hby d3_187 rfl fun T19 X19 e19 => ?_
  refine qaN 191 X19 hx hby d3_190 rfl rfl ?_
  refine qg 194 X19 hx hZ hown (tw34 hw) e19 (O18.fld 9 rfl rfl) hby d3_191 rfl fun T20 X20 e20 => ?_
  have F22 := ((F_b5.other W10 (Ne.symm (o35 hord))).other W15 (Ne.symm (o45 hord)))
  obtain ⟨T21, h21, X21, e21, W21, st21⟩ := own_iastore X20 hx hZ e20 F22 0 (by decide) (by decide) (g := (mkF m 194 #[(vr a), (vi 0), (vi 0), un, un] [(.int 0), (.int 0), (.ref b5)])) rfl rfl (hb hby d3_194)
  have F21 : FA Z h21 b5 .int 16 (fun i => .int ((updI g5 0 (0 : Int32)) i)) := F22.setI W21
  have N21 := Fr.snoc X21 N15 g_b5
  have Z21 := Nat.le_trans Z15 (Keep.of_wr W21).1
  have K21 := K15.wr W21 (wi 3 rfl)
  refine qat 195 #[(vr a), (vi 0), (vi 0), un, un] [] st21 ?_
  refine qaN 196 X21 hx hby d3_195 rfl rfl ?_
  have O24 := (O18.other W21 (o05 hord))
  refine qg 199 X21 hx hZ hown (tw12 hw) e21 (O24.fld 1 rfl rfl) hby d3_196 rfl fun T23 X23 e23 => ?_
  refine qaN 200 X23 hx hby d3_199 rfl rfl ?_
  refine qg 203 X23 hx hZ hown (tw34 hw) e23 (O24.fld 9 rfl rfl) hby d3_200 rfl fun T25 X25 e25 => ?_
  refine qiN 204 X25 hx hby d3_203 rfl rfl ?_
  refine q_iadd 205 X25 hx hby d3_204 rfl ?_
  show OEnds p e below s _ _ _ (T25.setTop (mkF m 205 #[(vr a), (vi 0), (vi 0), un, un] [(.int 0), (.ref b2)]))
  refine qaN 206 X25 hx hby d3_205 rfl rfl ?_
  refine qg 209 X25 hx hZ hown (tw34 hw) e25 (O24.fld 9 rfl rfl) hby d3_206 rfl fun T26 X26 e26 => ?_
  refine qc1 210 2 X26 hx hby d3_209 rfl rfl ?_
  refine qiN 211 X26 hx hby d3_210 rfl rfl ?_
  refine q_imul 212 X26 hx hby d3_211 rfl ?_
  show OEnds p e below s _ _ _ (T26.setTop (mkF m 212 #[(vr a), (vi 0), (vi 0), un, un] [(.int 0), (.int 0), (.int 0), (.ref b2)]))
  refine q_iadd 213 X26 hx hby d3_212 rfl ?_
  show OEnds p e below s _ _ _ (T26.setTop (mkF m 213 #[(vr a), (vi 0), (vi 0), un, un] [(.int 0), (.int 0), (.ref b2)]))
  refine own_by (X26.ldc2Long hx hown (mvT hZ (tw36 hw)) (g := (mkF m 213 #[(vr a), (vi 0), (vi 0), un, un] [(.int 0), (.int 0), (.ref b2)])) rfl (hb hby d3_213)) ?_
  show OEnds p e below s _ _ _ (T26.setTop (mkF m 216 #[(vr a), (vi 0), (vi 0), un, un] [(.long (-9223372036854775808)), (.int 0), (.int 0), (.ref b2)]))
  have F28 := (((F_b2.other W10 (o23 hord)).other W15 (o24 hord)).other W21 (o25 hord))
  obtain ⟨v27, T27, L27, h27, X27, e27, hQ27, st27⟩ := own_callS X26 hx hZ (y := mn4) hown (tw37 hw) (tw38 hw) (tw39 hw) (tw40 hw) (by decide) (rm_fill_0_0 l Z a0 hw [] b2 (-9223372036854775808 : Int64) g2 h21 n0 Z21 F28) e26 (g := (mkF m 216 #[(vr a), (vi 0), (vi 0), un, un] [(.long (-9223372036854775808)), (.int 0), (.int 0), (.ref b2)])) rfl (by rw [hml]; rfl) (argsL := [(.ref b2), (.int 0), (.int 0), (.long (-9223372036854775808))]) (rest := []) (lenOf pd_paJIIJrV rfl) rfl (W := 0) (by show 2 * 0 + _ ≤ _; exact Nat.le_of_eq rfl) (hb hby d3_216) (by decide) (by decide) (by decide) (by decide)
  obtain ⟨rfl, Nq27, Kq27⟩ := hQ27
  have N27 := Fr.app N21 Nq27
  have K27 := K21.trans Kq27 all0
  have Z27 := Nat.le_trans Z21 Kq27.1
  refine qtr 219 #[(vr a), (vi 0), (vi 0), un, un] [] st27 ?_
  refine qiN 220 X27 hx hby d3_219 rfl rfl ?_
  refine qsiN 221 #[(vr a), (vi 0), (vi 0), (vi 0), un] X27 hx hby d3_220 rfl rfl ?_
  refine qiN 222 X27 hx hby d3_221 rfl rfl ?_
  refine qaN 223 X27 hx hby d3_222 rfl rfl ?_
  have O30 := (O24.keep Kq27 nin0)
  refine qg 226 X27 hx hZ hown (tw32 hw) e27 (O30.fld 8 rfl rfl) hby d3_223 rfl fun T29 X29 e29 => ?_
  refine q_cmy 273 X29 hx hby d3_226 rfl (flt (by decide : ¬ ((0 : Int32) < (0 : Int32)))).2.1 ?_
  refine qiN 274 X29 hx hby d3_273 rfl rfl ?_
  refine qc1 275 1 X29 hx hby d3_274 rfl rfl ?_
  refine q_isub 276 X29 hx hby d3_275 rfl ?_
  show OEnds p e below s _ _ _ (T29.setTop (mkF m 276 #[(vr a), (vi 0), (vi 0), (vi 0), un] [(.int (-1))]))
  refine qsiN 277 #[(vr a), (vi 0), (vi 0), (vi (-1)), un] X29 hx hby d3_276 rfl rfl ?_
  refine qiN 278 X29 hx hby d3_277 rfl rfl ?_
  refine q_ify 329 X29 hx hby d3_278 rfl ((if0 _ _).trans (flt (by decide : ¬ ((0 : Int32) < (-1 : Int32)))).2.2.2) ?_
  refine qaN 330 X29 hx hby d3_329 rfl rfl ?_
  refine q_dup 331 X29 hx hby d3_330 rfl rfl ?_
  refine qg 334 X29 hx hZ hown (tw34 hw) e29 (O30.fld 9 rfl rfl) hby d3_331 rfl fun T31 X31 e31 => ?_
  refine qc1 335 2 X31 hx hby d3_334 rfl rfl ?_
  refine qiN 336 X31 hx hby d3_335 rfl rfl ?_
  refine q_imul 337 X31 hx hby d3_336 rfl ?_
  show OEnds p e below s _ _ _ (T31.setTop (mkF m 337 #[(vr a), (vi 0), (vi 0), (vi (-1)), un] [(.int 0), (.int 0), (.ref a)]))
  refine q_iadd 338 X31 hx hby d3_337 rfl ?_
  show OEnds p e below s _ _ _ (T31.setTop (mkF m 338 #[(vr a), (vi 0), (vi 0), (vi (-1)), un] [(.int 0), (.ref a)]))
  obtain ⟨T32, h32, X32, e32, W32, st32⟩ := putF X31 hx hZ hown (host := "") (Or.inl (tw34 hw)) Via.refl e31 (O30.fld 9 rfl rfl) O30.exa (Or.inl (tw35 hw)) (tw2 hw) (ty := .int) (by decide) rfl rfl (g := (mkF m 338 #[(vr a), (vi 0), (vi 0), (vi (-1)), un] [(.int 0), (.ref a)])) rfl rfl (hb hby d3_338)
  have O32 : Obj Z h32 a "com/example/graphweft/graphweft/RangeMaxTree" sch_rt [(.ref b1), (.ref b2), (.ref b3), (.ref b4), (.ref b5), (.ref b6), (.ref b7), (.int 0), (.int 0), (.int 0), (.long bd), (.int ss), (.int bs), (.int bc), (.int pn), (.int se), (.int sa), (.int ta), (.int te)] := O30.set (so_sch_rt hw) W32 9 rfl (Nat.le_of_ble_eq_true rfl)
  have N32 := Fr.snoc X32 N27 g_a
  have Z32 := Nat.le_trans Z27 (Keep.of_wr W32).1
  have K32 := K27.wr W32 (wi 0 rfl)
  refine qat 341 #[(vr a), (vi 0), (vi 0), (vi (-1)), un] [] st32 ?_
  refine qaN 342 X32 hx hby d3_341 rfl rfl ?_
  refine q_dup 343 X32 hx hby d3_342 rfl rfl ?_
  refine qg 346 X32 hx hZ hown (tw30 hw) e32 (O32.fld 7 rfl rfl) hby d3_343 rfl fun T33 X33 e33 => ?_
  refine own_by (fun _ k => XS.dupX1 X33.here hx rfl (hb hby d3_346) rfl rfl rfl k) ?_
  show OEnds p e below s _ _ _ (T33.setTop (mkF m 347 #[(vr a), (vi 0), (vi 0), (vi (-1)), un] [(.int 0), (.ref a), (.int 0)]))
  refine qc1 348 1 X33 hx hby d3_347 rfl rfl ?_
  refine q_iadd 349 X33 hx hby d3_348 rfl ?_
  show OEnds p e below s _ _ _ (T33.setTop (mkF m 349 #[(vr a), (vi 0), (vi 0), (vi (-1)), un] [(.int 1), (.ref a), (.int 0)]))
  obtain ⟨T34, h34, X34, e34, W34, st34⟩ := putF X33 hx hZ hown (host := "") (Or.inl (tw30 hw)) Via.refl e33 (O32.fld 7 rfl rfl) O32.exa (Or.inl (tw31 hw)) (tw2 hw) (ty := .int) (by decide) rfl rfl (g := (mkF m 349 #[(vr a), (vi 0), (vi 0), (vi (-1)), un] [(.int 1), (.ref a), (.int 0)])) rfl rfl (hb hby d3_349)
  have O34 : Obj Z h34 a "com/example/graphweft/graphweft/RangeMaxTree" sch_rt [(.ref b1), (.ref b2), (.ref b3), (.ref b4), (.ref b5), (.ref b6), (.ref b7), (.int 1), (.int 0), (.int 0), (.long bd), (.int ss), (.int bs), (.int bc), (.int pn), (.int se), (.int sa), (.int ta), (.int te)] := O32.set (so_sch_rt hw) W34 7 rfl (Nat.le_of_ble_eq_true rfl)
  have N34 := Fr.snoc X34 N32 g_a
  have Z34 := Nat.le_trans Z32 (Keep.of_wr W34).1
  have K34 := K32.wr W34 (wi 0 rfl)
  refine qat 352 #[(vr a), (vi 0), (vi 0), (vi (-1)), un] [(.int 0)] st34 ?_
  have F35 := (((((F10.other W15 (o34 hord)).other W21 (o35 hord)).keep Kq27 nin0).other W32 (Ne.symm (o03 hord))).other W34 (Ne.symm (o03 hord)))
  have F36 := ((((F15.other W21 (o45 hord)).keep Kq27 nin0).other W32 (Ne.symm (o04 hord))).other W34 (Ne.symm (o04 hord)))
  have F37 := (((F21.keep Kq27 nin0).other W32 (Ne.symm (o05 hord))).other W34 (Ne.symm (o05 hord)))
  exact own_retI X34 hx hlk Bd.returns (hb hby d3_352) (by rw [e34]; exact ⟨rfl, N34, K34, O34, F35, F36, F37⟩) (by decide) (by decide)
theorem d3_48 : decode prog_32_method_5_code 48 = .ok (.iconst 1, 1) := by decide +kernel
theorem d3_229 : decode prog_32_method_5_code 229 = .ok (.aload_n 0, 1) := by decide +kernel
theorem d3_230 : decode prog_32_method_5_code 230 = .ok (.getfield 36, 3) := by decide +kernel
theorem d3_233 : decode prog_32_method_5_code 233 = .ok (.iload_n 2, 1) := by decide +kernel
theorem d3_234 : decode prog_32_method_5_code 234 = .ok (.iadd, 1) := by decide +kernel
theorem d3_235 : decode prog_32_method_5_code 235 = .ok (.iload_n 3, 1) := by decide +kernel
theorem d3_236 : decode prog_32_method_5_code 236 = .ok (.iload_n 1, 1) := by decide +kernel
theorem d3_237 : decode prog_32_method_5_code 237 = .ok (.isub, 1) := by decide +kernel
theorem d3_238 : decode prog_32_method_5_code 238 = .ok (.bipush 8, 2) := by decide +kernel
theorem d3_240 : decode prog_32_method_5_code 240 = .ok (.idiv, 1) := by decide +kernel
theorem d3_241 : decode prog_32_method_5_code 241 = .ok (.iadd, 1) := by decide +kernel
theorem d3_242 : decode prog_32_method_5_code 242 = .ok (.istore 4, 2) := by decide +kernel
theorem d3_244 : decode prog_32_method_5_code 244 = .ok (.aload_n 0, 1) := by decide +kernel
theorem d3_245 : decode prog_32_method_5_code 245 = .ok (.getfield 13, 3) := by decide +kernel
theorem d3_248 : decode prog_32_method_5_code 248 = .ok (.iload 4, 2) := by decide +kernel
theorem d3_250 : decode prog_32_method_5_code 250 = .ok (.aload_n 0, 1) := by decide +kernel
theorem d3_251 : decode prog_32_method_5_code 251 = .ok (.getfield 13, 3) := by decide +kernel
theorem d3_254 : decode prog_32_method_5_code 254 = .ok (.iload 4, 2) := by decide +kernel
theorem d3_256 : decode prog_32_method_5_code 256 = .ok (.laload, 1) := by decide +kernel
theorem d3_257 : decode prog_32_method_5_code 257 = .ok (.aload_n 0, 1) := by decide +kernel
theorem d3_258 : decode prog_32_method_5_code 258 = .ok (.getfield 7, 3) := by decide +kernel
theorem d3_261 : decode prog_32_method_5_code 261 = .ok (.iload_n 3, 1) := by decide +kernel
theorem d3_262 : decode prog_32_method_5_code 262 = .ok (.laload, 1) := by decide +kernel
theorem d3_263 : decode prog_32_method_5_code 263 = .ok (.invokestatic 80, 3) := by decide +kernel
theorem d3_266 : decode prog_32_method_5_code 266 = .ok (.lastore, 1) := by decide +kernel
theorem d3_267 : decode prog_32_method_5_code 267 = .ok (.iinc 3 1, 3) := by decide +kernel
theorem d3_270 : decode prog_32_method_5_code 270 = .ok (.goto (-49), 3) := by decide +kernel
def Q_index0_1 (Z : State) (a : Addr) (b1 : Addr) (b2 : Addr) (b3 : Addr) (b4 : Addr) (b5 : Addr) (b6 : Addr) (b7 : Addr) (bd : Int64) (ss : Int32) (bs : Int32) (bc : Int32) (pn : Int32) (se : Int32) (sa : Int32) (ta : Int32) (te : Int32) (g1 : Nat → Int64) (g2 : Nat → Int64) (g3 : Nat → Int32) (g4 : Nat → Int32) (g5 : Nat → Int32) (h0 : Heap) (n0 : Nat) (r : Option Value) (h : Heap) (L : List Loc) : Prop := r = some (.int 0) ∧ Fr n0 L ∧ Keep h0 h [a, b2, b3, b4, b5] ∧ Obj Z h a "com/example/graphweft/graphweft/RangeMaxTree" sch_rt [(.ref b1), (.ref b2), (.ref b3), (.ref b4), (.ref b5), (.ref b6), (.ref b7), (.int 1), (.int 1), (.int 2), (.long bd), (.int ss), (.int bs), (.int bc), (.int pn), (.int se), (.int sa), (.int ta), (.int te)] ∧ FA Z h b2 .long 64 (fun i => .long ((updL (updL g2 1 (-9223372036854775808 : Int64)) 1 (jmax (-9223372036854775808 : Int64) (g1 0))) i)) ∧ FA Z h b3 .int 16 (fun i => .int ((updI g3 0 (0 : Int32)) i)) ∧ FA Z h b4 .int 16 (fun i => .int ((updI g4 0 (1 : Int32)) i)) ∧ FA Z h b5 .int 16 (fun i => .int ((updI g5 0 (0 : Int32)) i))
set_option maxRecDepth 65536 in
set_option maxHeartbeats 40000000 in
theorem rm_index0_1 (l : Launch) (Z : State) (a0 : Array Value) (hw : ∀ d ∈ tables_1, d.before a0 Z = true) (ws : List Jvm.Cond) (a : Addr) (b1 : Addr) (b2 : Addr) (b3 : Addr) (b4 : Addr) (b5 : Addr) (b6 : Addr) (b7 : Addr) (bd : Int64) (ss : Int32) (bs : Int32) (bc : Int32) (pn : Int32) (se : Int32) (sa : Int32) (ta : Int32) (te : Int32) (g1 : Nat → Int64) (g2 : Nat → Int64) (g3 : Nat → Int32) (g4 : Nat → Int32) (g5 : Nat → Int32) (h0 : Heap) (n0 : Nat) (Z0 : n0 ≤ h0.size) (O0 : Obj Z h0 a "com/example/graphweft/graphweft/RangeMaxTree" sch_rt [(.ref b1), (.ref b2), (.ref b3), (.ref b4), (.ref b5), (.ref b6), (.ref b7), (.int 0), (.int 1), (.int 0), (.long bd), (.int ss), (.int bs), (.int bc), (.int pn), (.int se), (.int sa), (.int ta), (.int te)]) (F_b1 : FA Z h0 b1 .long 64 (fun i => .long (g1 i))) (F_b2 : FA Z h0 b2 .long 64 (fun i => .long (g2 i))) (F_b3 : FA Z h0 b3 .int 16 (fun i => .int (g3 i))) (F_b4 : FA Z h0 b4 .int 16 (fun i => .int (g4 i))) (F_b5 : FA Z h0 b5 .int 16 (fun i => .int (g5 i))) (g_a : n0 ≤ a) (g_b2 : n0 ≤ b2) (g_b3 : n0 ≤ b3) (g_b4 : n0 ≤ b4) (g_b5 : n0 ≤ b5) (hord : @LT.lt Nat instLTNat a b1 ∧ @LT.lt Nat instLTNat b1 b2 ∧ @LT.lt Nat instLTNat b2 b3 ∧ @LT.lt Nat instLTNat b3 b4 ∧ @LT.lt Nat instLTNat b4 b5 ∧ @LT.lt Nat instLTNat b5 b6 ∧ @LT.lt Nat instLTNat b6 b7) :
    MetFree l mn5 (head1 (Jvm.Cond.code mn5 prog_32_method_5_code 5 (some .int) :: ws) ({ frames := 2, cells := 0, slots := 0, locals := 31 } : Room)) (fun a_ U => a_ = #[(.ref a)] ∧ Z.Warmed39 U.vm ∧ U.heap = h0) (fun _ _ _ _ _ => True) (fun _ U o U' => ∃ v_ L_, o = .returned v_ ∧ Q_index0_1 Z a b1 b2 b3 b4 b5 b6 b7 bd ss bs bc pn se sa ta te g1 g2 g3 g4 g5 h0 n0 v_ U'.heap L_ ∧ FrameEnd U o U' L_ ({ frames := 2, cells := 0, slots := 0, locals := 31 } : Room).cells ({ frames := 2, cells := 0, slots := 0, locals := 31 } : Room).slots) := by
  refine MetFree.of_bodySF (plainFor_of_name pn_3) hisR ?_
  intro p e s m args below meth c s₁ Bd hml0 hP hK
  obtain ⟨rfl, hZ, hh⟩ := hP
  have hx := Bd.exec
  have hby := Bd.bytes
  have hlk : meth.locks = false := Bd.notSynchronized
  have hml : c.maxLocals = 5 := hml0
  have hown : s.vm.findClass "com/example/graphweft/graphweft/RangeMaxTree" = some m.cls := findClass_of_methodNamed Bd.named
  have hnm := (name_of_methodNamed Bd.named Bd.method).1
  have X0 : Stand p l e ({ frames := 2, cells := 0, slots := 0, locals := 31 } : Room) s m #[(.ref a)] below meth c s₁ [] 0 0 := Stand.of_body Bd
  have e0 : s₁.heap = h0 := by rw [← hh, Bd.state]; rfl
  have N0 := Fr.nil n0
  have K0 : Keep h0 h0 [a, b2, b3, b4, b5] := Keep.refl _ _
  show OEnds p e below s (Q_index0_1 Z a b1 b2 b3 b4 b5 b6 b7 bd ss bs bc pn se sa ta te g1 g2 g3 g4 g5 h0 n0) _ _ _
  refine own_by (fun t k => castTop (ef_3 m a) k) ?_
  show OEnds p e below s _ _ _ (s₁.setTop (mkF m 0 #[(vr a), un, un, un, un] []))
  refine qaN 1 X0 hx hby d3_0 rfl rfl ?_
  refine qg 4 X0 hx hZ hown (tw30 hw) e0 (O0.fld 7 rfl rfl) hby d3_1 rfl fun T1 X1 e1 => ?_
  refine q_ifn 7 X1 hx hby d3_4 rfl ((if0 _ _).trans (teq (by decide : (0 : Int32) = (0 : Int32))).2) ?_
  refine qc1 8 0 X1 hx hby d3_7 rfl rfl ?_
  refine q_goto 22 X1 hx hby d3_8 rfl ?_
  refine qsiN 23 #[(vr a), (vi 0), un, un, un] X1 hx hby d3_22 rfl rfl ?_
  refine qaN 24 X1 hx hby d3_23 rfl rfl ?_
  refine qg 27 X1 hx hZ hown (tw32 hw) e1 (O0.fld 8 rfl rfl) hby d3_24 rfl fun T2 X2 e2 => ?_
  refine qiN 28 X2 hx hby d3_27 rfl rfl ?_
  refine q_isub 29 X2 hx hby d3_28 rfl ?_
  show OEnds p e below s _ _ _ (T2.setTop (mkF m 29 #[(vr a), (vi 0), un, un, un] [(.int 1)]))
  refine qc2 31 8 X2 hx hby d3_29 rfl rfl ?_
  refine q_idiv 32 X2 hx hby d3_31 rfl (by decide) ?_
  show OEnds p e below s _ _ _ (T2.setTop (mkF m 32 #[(vr a), (vi 0), un, un, un] [(.int 0)]))
  refine qaN 33 X2 hx hby d3_32 rfl rfl ?_
  refine qg 36 X2 hx hZ hown (tw32 hw) e2 (O0.fld 8 rfl rfl) hby d3_33 rfl fun T3 X3 e3 => ?_
  refine qiN 37 X3 hx hby d3_36 rfl rfl ?_
  refine q_isub 38 X3 hx hby d3_37 rfl ?_
  show OEnds p e below s _ _ _ (T3.setTop (mkF m 38 #[(vr a), (vi 0), un, un, un] [(.int 1), (.int 0)]))
  refine qc2 40 8 X3 hx hby d3_38 rfl rfl ?_
  refine own_by (fun _ k => iremM X3 hx rfl (hb hby d3_40) rfl (by decide) k) ?_
  show OEnds p e below s _ _ _ (T3.setTop (mkF m 41 #[(vr a), (vi 0), un, un, un] [(.int 1), (.int 0)]))
  refine q_ify 48 X3 hx hby d3_41 rfl ((if0 _ _).trans (feq (by decide : ¬ ((1 : Int32) = (0 : Int32)))).2) ?_
  refine qc1 49 1 X3 hx hby d3_48 rfl rfl ?_
  refine q_iadd 50 X3 hx hby d3_49 rfl ?_
  show OEnds p e below s _ _ _ (T3.setTop (mkF m 50 #[(vr a), (vi 0), un, un, un] [(.int 1)]))
  refine qsiN 51 #[(vr a), (vi 0), (vi 1), un, un] X3 hx hby d3_50 rfl rfl ?_
  refine qaN 52 X3 hx hby d3_51 rfl rfl ?_
  refine qg 55 X3 hx hZ hown (tw12 hw) e3 (O0.fld 1 rfl rfl) hby d3_52 rfl fun T4 X4 e4 => ?_
  refine qn 56 (64 : Int32) X4 hx hZ e4 F_b2 (by decide) hby d3_55 rfl ?_
  refine qaN 57 X4 hx hby d3_56 rfl rfl ?_
  refine qg 60 X4 hx hZ hown (tw34 hw) e4 (O0.fld 9 rfl rfl) hby d3_57 rfl fun T5 X5 e5 => ?_
  refine q_isub 61 X5 hx hby d3_60 rfl ?_
  show OEnds p e below s _ _ _ (T5.setTop (mkF m 61 #[(vr a), (vi 0), (vi 1), un, un] [(.int 64)]))
  refine qc1 62 2 X5 hx hby d3_61 rfl rfl ?_
  refine qiN 63 X5 hx hby d3_62 rfl rfl ?_
  refine q_imul 64 X5 hx hby d3_63 rfl ?_
  show OEnds p e below s _ _ _ (T5.setTop (mkF m 64 #[(vr a), (vi 0), (vi 1), un, un] [(.int 2), (.int 64)]))
  refine q_cmy 96 X5 hx hby d3_64 rfl (flt (by decide : ¬ ((64 : Int32) < (2 : Int32)))).2.1 ?_
  refine qaN 97 X5 hx hby d3_96 rfl rfl ?_
  refine qg 100 X5 hx hZ hown (tw30 hw) e5 (O0.fld 7 rfl rfl) hby d3_97 rfl fun T6 X6 e6 => ?_
  refine qaN 101 X6 hx hby d3_100 rfl rfl ?_
  refine qg 104 X6 hx hZ hown (tw15 hw) e6 (O0.fld 2 rfl rfl) hby d3_101 rfl fun T7 X7 e7 => ?_
  refine qn 105 (16 : Int32) X7 hx hZ e7 F_b3 (by decide) hby d3_104 rfl ?_
  refine q_cmy 159 X7 hx hby d3_105 rfl (feq (by decide : ¬ ((0 : Int32) = (16 : Int32)))).2 ?_
  refine qaN 160 X7 hx hby d3_159 rfl rfl ?_
  refine qg 163 X7 hx hZ hown (tw15 hw) e7 (O0.fld 2 rfl rfl) hby d3_160 rfl fun T8 X8 e8 => ?_
  refine qaN 164 X8 hx hby d3_163 rfl rfl ?_
  refine qg 167 X8 hx hZ hown (tw30 hw) e8 (O0.fld 7 rfl rfl) hby d3_164 rfl fun T9 X9 e9 => ?_
  refine qiN 168 X9 hx hby d3_167 rfl rfl ?_
  obtain ⟨T10, h10, X10, e10, W10, st10⟩ := own_iastore X9 hx hZ e9 F_b3 0 (by decide) (by decide) (g := (mkF m 168 #[(vr a), (vi 0), (vi 1), un, un] [(.int 0), (.int 0), (.ref b3)])) rfl rfl (hb hby d3_168)
  have F10 : FA Z h10 b3 .int 16 (fun i => .int ((updI g3 0 (0 : Int32)) i)) := F_b3.setI W10
  have N10 := Fr.snoc X10 N0 g_b3
  have Z10 := Nat.le_trans Z0 (Keep.of_wr W10).1
  have K10 := K0.wr W10 (wi 2 rfl)
  refine qat 169 #[(vr a), (vi 0), (vi 1), un, un] [] st10 ?_
  refine qaN 170 X10 hx hby d3_169 rfl rfl ?_
  have O12 := (O0.other W10 (o03 hord))
  refine qg 173 X10 hx hZ hown (tw17 hw) e10 (O12.fld 3 rfl rfl) hby d3_170 rfl fun T11 X11 e11 => ?_
  refine qaN 174 X11 hx hby d3_173 rfl rfl ?_
  refine qg 177 X11 hx hZ hown (tw30 hw) e11 (O12.fld 7 rfl rfl) hby d3_174 rfl fun T13 X13 e13 => ?_
  refine qaN 178 X13 hx hby d3_177 rfl rfl ?_
  refine qg 181 X13 hx hZ hown (tw32 hw) e13 (O12.fld 8 rfl rfl) hby d3_178 rfl fun T14 X14 e14 => ?_
  have F16 := (F_b4.other W10 (Ne.symm (o34 hord)))
  obtain ⟨T15, h15, X15, e15, W15, st15⟩ := own_iastore X14 hx hZ e14 F16 0 (by decide) (by decide) (g := (mkF m 181 #[(vr a), (vi 0), (vi 1), un, un] [(.int 1), (.int 0), (.ref b4)])) rfl rfl (hb hby d3_181)
  have F15 : FA Z h15 b4 .int 16 (fun i => .int ((updI g4 0 (1 : Int32)) i)) := F16.setI W15
  have N15 := Fr.snoc X15 N10 g_b4
  have Z15 := Nat.le_trans Z10 (Keep.of_wr W15).1
  have K15 := K10.wr W15 (wi 3 rfl)
  refine qat 182 #[(vr a), (vi 0), (vi 1), un, un] [] st15 ?_
  refine qaN 183 X15 hx hby d3_182 rfl rfl ?_
  have O18 := (O12.other W15 (o04 hord))
  refine qg 186 X15 hx hZ hown (tw19 hw) e15 (O18.fld 4 rfl rfl) hby d3_183 rfl fun T17 X17 e17 => ?_
  refine qaN 187 X17 hx hby d3_186 rfl rfl ?_
  refine qg 190 X17 hx hZ hown (tw30 hw) e17 (O18.fld 7 rfl rfl) hby d3_187 rfl fun T19 X19 e19 => ?_
  refine qaN 191 X19 hx hby d3_190 rfl rfl ?_
  refine qg 194 X19 hx hZ hown (tw34 hw) e19 (O18.fld 9 rfl rfl) hby d3_191 rfl fun T20 X20 e20 => ?_
  have F22 := ((F_b5.other W10 (Ne.symm (o35 hord))).other W15 (Ne.symm (o45 hord)))
  obtain ⟨T21, h21, X21, e21, W21, st21⟩ := own_iastore X20 hx hZ e20 F22 0 (by decide) (by decide) (g := (mkF m 194 #[(vr a), (vi 0), (vi 1), un, un] [(.int 0), (.int 0), (.ref b5)])) rfl rfl (hb hby d3_194)
  have F21 : FA Z h21 b5 .int 16 (fun i => .int ((updI g5 0 (0 : Int32)) i)) := F22.setI W21
  have N21 := Fr.snoc X21 N15 g_b5
  have Z21 := Nat.le_trans Z15 (Keep.of_wr W21).1
  have K21 := K15.wr W21 (wi 4 rfl)
  refine qat 195 #[(vr a), (vi 0), (vi 1), un, un] [] st21 ?_
  refine qaN 196 X21 hx hby d3_195 rfl rfl ?_
  have O24 := (O18.other W21 (o05 hord))
  refine qg 199 X21 hx hZ hown (tw12 hw) e21 (O24.fld 1 rfl rfl) hby d3_196 rfl fun T23 X23 e23 => ?_
  refine qaN 200 X23 hx hby d3_199 rfl rfl ?_
  refine qg 203 X23 hx hZ hown (tw34 hw) e23 (O24.fld 9 rfl rfl) hby d3_200 rfl fun T25 X25 e25 => ?_
  refine qiN 204 X25 hx hby d3_203 rfl rfl ?_
  refine q_iadd 205 X25 hx hby d3_204 rfl ?_
  show OEnds p e below s _ _ _ (T25.setTop (mkF m 205 #[(vr a), (vi 0), (vi 1), un, un] [(.int 1), (.ref b2)]))
  refine qaN 206 X25 hx hby d3_205 rfl rfl ?_
  refine qg 209 X25 hx hZ hown (tw34 hw) e25 (O24.fld 9 rfl rfl) hby d3_206 rfl fun T26 X26 e26 => ?_
  refine qc1 210 2 X26 hx hby d3_209 rfl rfl ?_
  refine qiN 211 X26 hx hby d3_210 rfl rfl ?_
  refine q_imul 212 X26 hx hby d3_211 rfl ?_
  show OEnds p e below s _ _ _ (T26.setTop (mkF m 212 #[(vr a), (vi 0), (vi 1), un, un] [(.int 2), (.int 0), (.int 1), (.ref b2)]))
  refine q_iadd 213 X26 hx hby d3_212 rfl ?_
  show OEnds p e below s _ _ _ (T26.setTop (mkF m 213 #[(vr a), (vi 0), (vi 1), un, un] [(.int 2), (.int 1), (.ref b2)]))
  refine own_by (X26.ldc2Long hx hown (mvT hZ (tw36 hw)) (g := (mkF m 213 #[(vr a), (vi 0), (vi 1), un, un] [(.int 2), (.int 1), (.ref b2)])) rfl (hb hby d3_213)) ?_
  show OEnds p e below s _ _ _ (T26.setTop (mkF m 216 #[(vr a), (vi 0), (vi 1), un, un] [(.long (-9223372036854775808)), (.int 2), (.int 1), (.ref b2)]))
  have F28 := (((F_b2.other W10 (o23 hord)).other W15 (o24 hord)).other W21 (o25 hord))
  obtain ⟨v27, T27, L27, h27, X27, e27, hQ27, st27⟩ := own_callS X26 hx hZ (y := mn4) hown (tw37 hw) (tw38 hw) (tw39 hw) (tw40 hw) (by decide) (rm_fill_1_2 l Z a0 hw [] b2 (-9223372036854775808 : Int64) g2 h21 n0 Z21 F28 g_b2) e26 (g := (mkF m 216 #[(vr a), (vi 0), (vi 1), un, un] [(.long (-9223372036854775808)), (.int 2), (.int 1), (.ref b2)])) rfl (by rw [hml]; rfl) (argsL := [(.ref b2), (.int 1), (.int 2), (.long (-9223372036854775808))]) (rest := []) (lenOf pd_paJIIJrV rfl) rfl (W := 0) (by show 2 * 0 + _ ≤ _; exact Nat.le_of_eq rfl) (hb hby d3_216) (by decide) (by decide) (by decide) (by decide)
  obtain ⟨rfl, Nq27, Kq27, F27_b2⟩ := hQ27
  have N27 := Fr.app N21 Nq27
  have K27 := K21.trans Kq27 (allS (wi 1 rfl) all0)
  have Z27 := Nat.le_trans Z21 Kq27.1
  refine qtr 219 #[(vr a), (vi 0), (vi 1), un, un] [] st27 ?_
  refine qiN 220 X27 hx hby d3_219 rfl rfl ?_
  refine qsiN 221 #[(vr a), (vi 0), (vi 1), (vi 0), un] X27 hx hby d3_220 rfl rfl ?_
  refine qiN 222 X27 hx hby d3_221 rfl rfl ?_
  refine qaN 223 X27 hx hby d3_222 rfl rfl ?_
  have O30 := (O24.keep Kq27 (ninS (o02 hord) nin0))
  refine qg 226 X27 hx hZ hown (tw32 hw) e27 (O30.fld 8 rfl rfl) hby d3_223 rfl fun T29 X29 e29 => ?_
  refine q_cmn 229 X29 hx hby d3_226 rfl (tlt (by decide : (0 : Int32) < (1 : Int32))).2.1 ?_
  refine qaN 230 X29 hx hby d3_229 rfl rfl ?_
  refine qg 233 X29 hx hZ hown (tw34 hw) e29 (O30.fld 9 rfl rfl) hby d3_230 rfl fun T31 X31 e31 => ?_
  refine qiN 234 X31 hx hby d3_233 rfl rfl ?_
  refine q_iadd 235 X31 hx hby d3_234 rfl ?_
  show OEnds p e below s _ _ _ (T31.setTop (mkF m 235 #[(vr a), (vi 0), (vi 1), (vi 0), un] [(.int 1)]))
  refine qiN 236 X31 hx hby d3_235 rfl rfl ?_
  refine qiN 237 X31 hx hby d3_236 rfl rfl ?_
  refine q_isub 238 X31 hx hby d3_237 rfl ?_
  show OEnds p e below s _ _ _ (T31.setTop (mkF m 238 #[(vr a), (vi 0), (vi 1), (vi 0), un] [(.int 0), (.int 1)]))
  refine qc2 240 8 X31 hx hby d3_238 rfl rfl ?_
  refine q_idiv 241 X31 hx hby d3_240 rfl (by decide) ?_
  show OEnds p e below s _ _ _ (T31.setTop (mkF m 241 #[(vr a), (vi 0), (vi 1), (vi 0), un] [(.int 0), (.int 1)]))
  refine q_iadd 242 X31 hx hby d3_241 rfl ?_
  show OEnds p e below s _ _ _ (T31.setTop (mkF m 242 #[(vr a), (vi 0), (vi 1), (vi 0), un] [(.int 1)]))
  refine qsi 244 #[(vr a), (vi 0), (vi 1), (vi 0), (vi 1)] X31 hx hby d3_242 rfl rfl ?_
  refine qaN 245 X31 hx hby d3_244 rfl rfl ?_
  refine qg 248 X31 hx hZ hown (tw12 hw) e31 (O30.fld 1 rfl rfl) hby d3_245 rfl fun T32 X32 e32 => ?_
  refine qi 250 X32 hx hby d3_248 rfl rfl ?_
  refine qaN 251 X32 hx hby d3_250 rfl rfl ?_
  refine qg 254 X32 hx hZ hown (tw12 hw) e32 (O30.fld 1 rfl rfl) hby d3_251 rfl fun T33 X33 e33 => ?_
  refine qi 256 X33 hx hby d3_254 rfl rfl ?_
  refine qJ 257 X33 hx hZ e33 F27_b2 1 (by decide) (by decide) (v := (.long (-9223372036854775808))) rfl hby d3_256 rfl ?_
  refine qaN 258 X33 hx hby d3_257 rfl rfl ?_
  refine qg 261 X33 hx hZ hown (tw10 hw) e33 (O30.fld 0 rfl rfl) hby d3_258 rfl fun T34 X34 e34 => ?_
  refine qiN 262 X34 hx hby d3_261 rfl rfl ?_
  have F35 := ((((F_b1.other W10 (o13 hord)).other W15 (o14 hord)).other W21 (o15 hord)).keep Kq27 (ninS (o12 hord) nin0))
  refine qJ 263 X34 hx hZ e34 F35 0 (by decide) (by decide) (v := (.long (g1 0))) rfl hby d3_262 rfl ?_
  obtain ⟨T36, X36, e36, st36⟩ := own_callP X34 hx hZ (y := mn0) hown (tw81 hw) (tw82 hw) (tw83 hw) (tw84 hw) (by decide) (rm_jmax l Z a0 hw [] (-9223372036854775808 : Int64) (g1 0) h27) e34 (g := (mkF m 263 #[(vr a), (vi 0), (vi 1), (vi 0), (vi 1)] [(.long (g1 0)), (.long (-9223372036854775808)), (.int 1), (.ref b2)])) rfl (by rw [hml]; rfl) (argsL := [(.long (-9223372036854775808)), (.long (g1 0))]) (rest := [(.int 1), (.ref b2)]) (lenOf pd_pJJrJ rfl) rfl (W := 2) (by show 2 * 0 + _ ≤ _; exact Nat.le_of_eq rfl) (hb hby d3_263) (by decide) (by decide) (by decide) (by decide)
  refine qat 266 #[(vr a), (vi 0), (vi 1), (vi 0), (vi 1)] [(.long (jmax (-9223372036854775808 : Int64) (g1 0))), (.int 1), (.ref b2)] st36 ?_
  obtain ⟨T37, h37, X37, e37, W37, st37⟩ := own_lastore X36 hx hZ e36 F27_b2 1 (by decide) (by decide) (g := (mkF m 266 #[(vr a), (vi 0), (vi 1), (vi 0), (vi 1)] [(.long (jmax (-9223372036854775808 : Int64) (g1 0))), (.int 1), (.ref b2)])) rfl rfl (hb hby d3_266)
  have F37 : FA Z h37 b2 .long 64 (fun i => .long ((updL (updL g2 1 (-9223372036854775808 : Int64)) 1 (jmax (-9223372036854775808 : Int64) (g1 0))) i)) := F27_b2.setL W37
  obtain ⟨f37, ef37⟩ : ∃ fz_ : Nat → Int64, fz_ = (updL (updL g2 1 (-9223372036854775808 : Int64)) 1 (jmax (-9223372036854775808 : Int64) (g1 0))) := ⟨_, rfl⟩
  rw [← ef37] at F37
  have N37 := Fr.snoc X37 N27 g_b2
  have Z37 := Nat.le_trans Z27 (Keep.of_wr W37).1
  have K37 := K27.wr W37 (wi 1 rfl)
  refine qat 267 #[(vr a), (vi 0), (vi 1), (vi 0), (vi 1)] [] st37 ?_
  refine q_inc 270 #[(vr a), (vi 0), (vi 1), (vi 1), (vi 1)] X37 hx hby d3_267 rfl rfl rfl ?_
  refine q_goto 221 X37 hx hby d3_270 rfl ?_
  refine qiN 222 X37 hx hby d3_221 rfl rfl ?_
  refine qaN 223 X37 hx hby d3_222 rfl rfl ?_
  have O39 := (O30.other W37 (o02 hord))
  refine qg 226 X37 hx hZ hown (tw32 hw) e37 (O39.fld 8 rfl rfl) hby d3_223 rfl fun T38 X38 e38 => ?_
  refine q_cmy 273 X38 hx hby d3_226 rfl (flt (by decide : ¬ ((1 : Int32) < (1 : Int32)))).2.1 ?_
  refine qiN 274 X38 hx hby d3_273 rfl rfl ?_
  refine qc1 275 1 X38 hx hby d3_274 rfl rfl ?_
  refine q_isub 276 X38 hx hby d3_275 rfl ?_
  show OEnds p e below s _ _ _ (T38.setTop (mkF m 276 #[(vr a), (vi 0), (vi 1), (vi 1), (vi 1)] [(.int 0)]))
  refine qsiN 277 #[(vr a), (vi 0), (vi 1), (vi 0), (vi 1)] X38 hx hby d3_276 rfl rfl ?_
  refine qiN 278 X38 hx hby d3_277 rfl rfl ?_
  refine q_ify 329 X38 hx hby d3_278 rfl ((if0 _ _).trans (flt (by decide : ¬ ((0 : Int32) < (0 : Int32)))).2.2.2) ?_
  refine qaN 330 X38 hx hby d3_329 rfl rfl ?_
  refine q_dup 331 X38 hx hby d3_330 rfl rfl ?_
  refine qg 334 X38 hx hZ hown (tw34 hw) e38 (O39.fld 9 rfl rfl) hby d3_331 rfl fun T40 X40 e40 => ?_
  refine qc1 335 2 X40 hx hby d3_334 rfl rfl ?_
  refine qiN 336 X40 hx hby d3_335 rfl rfl ?_
  refine q_imul 337 X40 hx hby d3_336 rfl ?_
  show OEnds p e below s _ _ _ (T40.setTop (mkF m 337 #[(vr a), (vi 0), (vi 1), (vi 0), (vi 1)] [(.int 2), (.int 0), (.ref a)]))
  refine q_iadd 338 X40 hx hby d3_337 rfl ?_
  show OEnds p e below s _ _ _ (T40.setTop (mkF m 338 #[(vr a), (vi 0), (vi 1), (vi 0), (vi 1)] [(.int 2), (.ref a)]))
  obtain ⟨T41, h41, X41, e41, W41, st41⟩ := putF X40 hx hZ hown (host := "") (Or.inl (tw34 hw)) Via.refl e40 (O39.fld 9 rfl rfl) O39.exa (Or.inl (tw35 hw)) (tw2 hw) (ty := .int) (by decide) rfl rfl (g := (mkF m 338 #[(vr a), (vi 0), (vi 1), (vi 0), (vi 1)] [(.int 2), (.ref a)])) rfl rfl (hb hby d3_338)
  have O41 : Obj Z h41 a "com/example/graphweft/graphweft/RangeMaxTree" sch_rt [(.ref b1), (.ref b2), (.ref b3), (.ref b4), (.ref b5), (.ref b6), (.ref b7), (.int 0), (.int 1), (.int 2), (.long bd), (.int ss), (.int bs), (.int bc), (.int pn), (.int se), (.int sa), (.int ta), (.int te)] := O39.set (so_sch_rt hw) W41 9 rfl (Nat.le_of_ble_eq_true rfl)
  have N41 := Fr.snoc X41 N37 g_a
  have Z41 := Nat.le_trans Z37 (Keep.of_wr W41).1
  have K41 := K37.wr W41 (wi 0 rfl)
  refine qat 341 #[(vr a), (vi 0), (vi 1), (vi 0), (vi 1)] [] st41 ?_
  refine qaN 342 X41 hx hby d3_341 rfl rfl ?_
  refine q_dup 343 X41 hx hby d3_342 rfl rfl ?_
  refine qg 346 X41 hx hZ hown (tw30 hw) e41 (O41.fld 7 rfl rfl) hby d3_343 rfl fun T42 X42 e42 => ?_
  refine own_by (fun _ k => XS.dupX1 X42.here hx rfl (hb hby d3_346) rfl rfl rfl k) ?_
  show OEnds p e below s _ _ _ (T42.setTop (mkF m 347 #[(vr a), (vi 0), (vi 1), (vi 0), (vi 1)] [(.int 0), (.ref a), (.int 0)]))
  refine qc1 348 1 X42 hx hby d3_347 rfl rfl ?_
  refine q_iadd 349 X42 hx hby d3_348 rfl ?_
  show OEnds p e below s _ _ _ (T42.setTop (mkF m 349 #[(vr a), (vi 0), (vi 1), (vi 0), (vi 1)] [(.int 1), (.ref a), (.int 0)]))
  obtain ⟨T43, h43, X43, e43, W43, st43⟩ := putF X42 hx hZ hown (host := "") (Or.inl (tw30 hw)) Via.refl e42 (O41.fld 7 rfl rfl) O41.exa (Or.inl (tw31 hw)) (tw2 hw) (ty := .int) (by decide) rfl rfl (g := (mkF m 349 #[(vr a), (vi 0), (vi 1), (vi 0), (vi 1)] [(.int 1), (.ref a), (.int 0)])) rfl rfl (hb hby d3_349)
  have O43 : Obj Z h43 a "com/example/graphweft/graphweft/RangeMaxTree" sch_rt [(.ref b1), (.ref b2), (.ref b3), (.ref b4), (.ref b5), (.ref b6), (.ref b7), (.int 1), (.int 1), (.int 2), (.long bd), (.int ss), (.int bs), (.int bc), (.int pn), (.int se), (.int sa), (.int ta), (.int te)] := O41.set (so_sch_rt hw) W43 7 rfl (Nat.le_of_ble_eq_true rfl)
  have N43 := Fr.snoc X43 N41 g_a
  have Z43 := Nat.le_trans Z41 (Keep.of_wr W43).1
  have K43 := K41.wr W43 (wi 0 rfl)
  refine qat 352 #[(vr a), (vi 0), (vi 1), (vi 0), (vi 1)] [(.int 0)] st43 ?_
  have F44 := ((F37.other W41 (Ne.symm (o02 hord))).other W43 (Ne.symm (o02 hord)))
  have F45 := ((((((F10.other W15 (o34 hord)).other W21 (o35 hord)).keep Kq27 (ninS (Ne.symm (o23 hord)) nin0)).other W37 (Ne.symm (o23 hord))).other W41 (Ne.symm (o03 hord))).other W43 (Ne.symm (o03 hord)))
  have F46 := (((((F15.other W21 (o45 hord)).keep Kq27 (ninS (Ne.symm (o24 hord)) nin0)).other W37 (Ne.symm (o24 hord))).other W41 (Ne.symm (o04 hord))).other W43 (Ne.symm (o04 hord)))
  have F47 := ((((F21.keep Kq27 (ninS (Ne.symm (o25 hord)) nin0)).other W37 (Ne.symm (o25 hord))).other W41 (Ne.symm (o05 hord))).other W43 (Ne.symm (o05 hord)))
  exact own_retI X43 hx hlk Bd.returns (hb hby d3_352) (by rw [e43]; subst ef37; exact ⟨rfl, N43, K43, O43, F44, F45, F46, F47⟩) (by decide) (by decide)
theorem d3_11 : decode prog_32_method_5_code 11 = .ok (.aload_n 0, 1) := by decide +kernel
theorem d3_12 : decode prog_32_method_5_code 12 = .ok (.getfield 20, 3) := by decide +kernel
theorem d3_15 : decode prog_32_method_5_code 15 = .ok (.aload_n 0, 1) := by decide +kernel
theorem d3_16 : decode prog_32_method_5_code 16 = .ok (.getfield 39, 3) := by decide +kernel
theorem d3_19 : decode prog_32_method_5_code 19 = .ok (.iconst 1, 1) := by decide +kernel
theorem d3_20 : decode prog_32_method_5_code 20 = .ok (.isub, 1) := by decide +kernel
theorem d3_21 : decode prog_32_method_5_code 21 = .ok (.iaload, 1) := by decide +kernel
def Q_index2_0_0 (Z : State) (a : Addr) (b1 : Addr) (b2 : Addr) (b3 : Addr) (b4 : Addr) (b5 : Addr) (b6 : Addr) (b7 : Addr) (sz : Int32) (bd : Int64) (ss : Int32) (bs : Int32) (bc : Int32) (pn : Int32) (se : Int32) (sa : Int32) (ta : Int32) (te : Int32) (g1 : Nat → Int64) (g2 : Nat → Int64) (g3 : Nat → Int32) (g4 : Nat → Int32) (g5 : Nat → Int32) (n : Nat) (h0 : Heap) (n0 : Nat) (r : Option Value) (h : Heap) (L : List Loc) : Prop := r = some (.int 1) ∧ Fr n0 L ∧ Keep h0 h [a, b2, b3, b4, b5] ∧ ∃ c2 : Nat → Int64, (∀ bd, c2 0 < bd → ∀ j, j < 8 → j < n → g1 (0 + j) < bd) ∧ Obj Z h a "com/example/graphweft/graphweft/RangeMaxTree" sch_rt [(.ref b1), (.ref b2), (.ref b3), (.ref b4), (.ref b5), (.ref b6), (.ref b7), (.int 2), (.int sz), (.int 0), (.long bd), (.int ss), (.int bs), (.int bc), (.int pn), (.int se), (.int sa), (.int ta), (.int te)] ∧ FA Z h b2 .long 64 (fun i => .long (c2 i)) ∧ FA Z h b3 .int 16 (fun i => .int ((updI g3 1 (0 : Int32)) i)) ∧ FA Z h b4 .int 16 (fun i => .int ((updI g4 1 sz) i)) ∧ FA Z h b5 .int 16 (fun i => .int ((updI g5 1 (0 : Int32)) i))
set_option maxRecDepth 65536 in
set_option maxHeartbeats 40000000 in
theorem rm_index2_0_0 (l : Launch) (Z : State) (a0 : Array Value) (hw : ∀ d ∈ tables_1, d.before a0 Z = true) (ws : List Jvm.Cond) (a : Addr) (b1 : Addr) (b2 : Addr) (b3 : Addr) (b4 : Addr) (b5 : Addr) (b6 : Addr) (b7 : Addr) (sz : Int32) (bd : Int64) (ss : Int32) (bs : Int32) (bc : Int32) (pn : Int32) (se : Int32) (sa : Int32) (ta : Int32) (te : Int32) (g1 : Nat → Int64) (g2 : Nat → Int64) (g3 : Nat → Int32) (g4 : Nat → Int32) (g5 : Nat → Int32) (n : Nat) (h0 : Heap) (n0 : Nat) (Z0 : n0 ≤ h0.size) (O0 : Obj Z h0 a "com/example/graphweft/graphweft/RangeMaxTree" sch_rt [(.ref b1), (.ref b2), (.ref b3), (.ref b4), (.ref b5), (.ref b6), (.ref b7), (.int 1), (.int sz), (.int 0), (.long bd), (.int ss), (.int bs), (.int bc), (.int pn), (.int se), (.int sa), (.int ta), (.int te)]) (F_b1 : FA Z h0 b1 .long 64 (fun i => .long (g1 i))) (F_b2 : FA Z h0 b2 .long 64 (fun i => .long (g2 i))) (F_b3 : FA Z h0 b3 .int 16 (fun i => .int (g3 i))) (F_b4 : FA Z h0 b4 .int 16 (fun i => .int (g4 i))) (F_b5 : FA Z h0 b5 .int 16 (fun i => .int (g5 i))) (g_a : n0 ≤ a) (g_b2 : n0 ≤ b2) (g_b3 : n0 ≤ b3) (g_b4 : n0 ≤ b4) (g_b5 : n0 ≤ b5) (hord : @LT.lt Nat instLTNat a b1 ∧ @LT.lt Nat instLTNat b1 b2 ∧ @LT.lt Nat instLTNat b2 b3 ∧ @LT.lt Nat instLTNat b3 b4 ∧ @LT.lt Nat instLTNat b4 b5 ∧ @LT.lt Nat instLTNat b5 b6 ∧ @LT.lt Nat instLTNat b6 b7) (he : g4 0 = (0 : Int32)) (hsz : sz.toInt = ((0 + n : Nat) : Int)) (hn9 : n ≤ 0) (hnb : ((((sz - (0 : Int32)) / (8 : Int32))) + (if ((sz - (0 : Int32)) % (8 : Int32)) = (0 : Int32) then (0 : Int32) else (1 : Int32))) = (0 : Int32)) :
    MetFree l mn5 (head1 (Jvm.Cond.code mn5 prog_32_method_5_code 5 (some .int) :: ws) ({ frames := 2, cells := 0, slots := 0, locals := 31 } : Room)) (fun a_ U => a_ = #[(.ref a)] ∧ Z.Warmed39 U.vm ∧ U.heap = h0) (fun _ _ _ _ _ => True) (fun _ U o U' => ∃ v_ L_, o = .returned v_ ∧ Q_index2_0_0 Z a b1 b2 b3 b4 b5 b6 b7 sz bd ss bs bc pn se sa ta te g1 g2 g3 g4 g5 n h0 n0 v_ U'.heap L_ ∧ FrameEnd U o U' L_ ({ frames := 2, cells := 0, slots := 0, locals := 31 } : Room).cells ({ frames := 2, cells := 0, slots := 0, locals := 31 } : Room).slots) := by
  refine MetFree.of_bodySF (plainFor_of_name pn_3) hisR ?_
  intro p e s m args below meth c s₁ Bd hml0 hP hK
  obtain ⟨rfl, hZ, hh⟩ := hP
  have hx := Bd.exec
  have hby := Bd.bytes
  have hlk : meth.locks = false := Bd.notSynchronized
  have hml : c.maxLocals = 5 := hml0
  have hown : s.vm.findClass "com/example/graphweft/graphweft/RangeMaxTree" = some m.cls := findClass_of_methodNamed Bd.named
  have hnm := (name_of_methodNamed Bd.named Bd.method).1
  have X0 : Stand p l e ({ frames := 2, cells := 0, slots := 0, locals := 31 } : Room) s m #[(.ref a)] below meth c s₁ [] 0 0 := Stand.of_body Bd
  have e0 : s₁.heap = h0 := by rw [← hh, Bd.state]; rfl
  have N0 := Fr.nil n0
  have K0 : Keep h0 h0 [a, b2, b3, b4, b5] := Keep.refl _ _
  show OEnds p e below s (Q_index2_0_0 Z a b1 b2 b3 b4 b5 b6 b7 sz bd ss bs bc pn se sa ta te g1 g2 g3 g4 g5 n h0 n0) _ _ _
  refine own_by (fun t k => castTop (ef_3 m a) k) ?_
  show OEnds p e below s _ _ _ (s₁.setTop (mkF m 0 #[(vr a), un, un, un, un] []))
  refine qaN 1 X0 hx hby d3_0 rfl rfl ?_
  refine qg 4 X0 hx hZ hown (tw30 hw) e0 (O0.fld 7 rfl rfl) hby d3_1 rfl fun T1 X1 e1 => ?_
  refine q_ify 11 X1 hx hby d3_4 rfl ((if0 _ _).trans (feq (by decide : ¬ ((1 : Int32) = (0 : Int32)))).2) ?_
  refine qaN 12 X1 hx hby d3_11 rfl rfl ?_
  refine qg 15 X1 hx hZ hown (tw17 hw) e1 (O0.fld 3 rfl rfl) hby d3_12 rfl fun T2 X2 e2 => ?_
  refine qaN 16 X2 hx hby d3_15 rfl rfl ?_
  refine qg 19 X2 hx hZ hown (tw30 hw) e2 (O0.fld 7 rfl rfl) hby d3_16 rfl fun T3 X3 e3 => ?_
  refine qc1 20 1 X3 hx hby d3_19 rfl rfl ?_
  refine q_isub 21 X3 hx hby d3_20 rfl ?_
  show OEnds p e below s _ _ _ (T3.setTop (mkF m 21 #[(vr a), un, un, un, un] [(.int 0), (.ref b4)]))
  refine qI 22 X3 hx hZ e3 F_b4 0 (by decide) (by decide) (v := (.int 0)) (congrArg Value.int he) hby d3_21 rfl ?_
  refine qsiN 23 #[(vr a), (vi 0), un, un, un] X3 hx hby d3_22 rfl rfl ?_
  refine qaN 24 X3 hx hby d3_23 rfl rfl ?_
  refine qg 27 X3 hx hZ hown (tw32 hw) e3 (O0.fld 8 rfl rfl) hby d3_24 rfl fun T4 X4 e4 => ?_
  refine qiN 28 X4 hx hby d3_27 rfl rfl ?_
  refine q_isub 29 X4 hx hby d3_28 rfl ?_
  refine qc2 31 8 X4 hx hby d3_29 rfl rfl ?_
  refine q_idiv 32 X4 hx hby d3_31 rfl (by decide) ?_
  refine qaN 33 X4 hx hby d3_32 rfl rfl ?_
  refine qg 36 X4 hx hZ hown (tw32 hw) e4 (O0.fld 8 rfl rfl) hby d3_33 rfl fun T5 X5 e5 => ?_
  refine qiN 37 X5 hx hby d3_36 rfl rfl ?_
  refine q_isub 38 X5 hx hby d3_37 rfl ?_
  refine qc2 40 8 X5 hx hby d3_38 rfl rfl ?_
  refine own_by (fun _ k => iremM X5 hx rfl (hb hby d3_40) rfl (by decide) k) ?_
  show OEnds p e below s _ _ _ (T5.setTop (mkF m 41 #[(vr a), (vi 0), un, un, un] [(.int ((sz - (0 : Int32)) % (8 : Int32))), (.int ((sz - (0 : Int32)) / (8 : Int32)))]))
  refine own_by (S' := T5.setTop (mkF m 49 #[(vr a), (vi 0), un, un, un] [(.int (if ((sz - (0 : Int32)) % (8 : Int32)) = (0 : Int32) then (0 : Int32) else (1 : Int32))), (.int ((sz - (0 : Int32)) / (8 : Int32)))])) (fun t k => ?_) ?_
  · by_cases hc41_6 : ((sz - (0 : Int32)) % (8 : Int32)) = (0 : Int32)
    · rw [if_pos hc41_6] at k
      refine XS.ifNo X5.here hx rfl (hb hby d3_41) rfl ((if0 _ _).trans (teq hc41_6).2) ?_
      show Steps p.tables e below (T5.setTop (mkF m 44 #[(vr a), (vi 0), un, un, un] [(.int ((sz - (0 : Int32)) / (8 : Int32)))])) t
      refine XS.iconst X5.here hx rfl (hb hby d3_44) ?_
      show Steps p.tables e below (T5.setTop (mkF m 45 #[(vr a), (vi 0), un, un, un] [(.int 0), (.int ((sz - (0 : Int32)) / (8 : Int32)))])) t
      refine XS.goto X5.here hx rfl (pc0 := 45) (pc' := 49) rfl (hb hby d3_45) (by decide) (by decide) ?_
      show Steps p.tables e below (T5.setTop (mkF m 49 #[(vr a), (vi 0), un, un, un] [(.int 0), (.int ((sz - (0 : Int32)) / (8 : Int32)))])) t
      exact k
    · rw [if_neg hc41_6] at k
      refine XS.ifYes X5.here hx rfl (pc0 := 41) (pc' := 48) rfl (hb hby d3_41) rfl ((if0 _ _).trans (feq hc41_6).2) (by decide) (by decide) ?_
      show Steps p.tables e below (T5.setTop (mkF m 48 #[(vr a), (vi 0), un, un, un] [(.int ((sz - (0 : Int32)) / (8 : Int32)))])) t
      refine XS.iconst X5.here hx rfl (hb hby d3_48) ?_
      show Steps p.tables e below (T5.setTop (mkF m 49 #[(vr a), (vi 0), un, un, un] [(.int 1), (.int ((sz - (0 : Int32)) / (8 : Int32)))])) t
      exact k
  show OEnds p e below s _ _ _ (T5.setTop (mkF m 49 #[(vr a), (vi 0), un, un, un] [(.int (if ((sz - (0 : Int32)) % (8 : Int32)) = (0 : Int32) then (0 : Int32) else (1 : Int32))), (.int ((sz - (0 : Int32)) / (8 : Int32)))]))
  refine q_iadd 50 X5 hx hby d3_49 rfl ?_
  rw [hnb]
  show OEnds p e below s _ _ _ (T5.setTop (mkF m 50 #[(vr a), (vi 0), un, un, un] [(.int 0)]))
  refine qsiN 51 #[(vr a), (vi 0), (vi 0), un, un] X5 hx hby d3_50 rfl rfl ?_
  refine qaN 52 X5 hx hby d3_51 rfl rfl ?_
  refine qg 55 X5 hx hZ hown (tw12 hw) e5 (O0.fld 1 rfl rfl) hby d3_52 rfl fun T7 X7 e7 => ?_
  refine qn 56 (64 : Int32) X7 hx hZ e7 F_b2 (by decide) hby d3_55 rfl ?_
  refine qaN 57 X7 hx hby d3_56 rfl rfl ?_
  refine qg 60 X7 hx hZ hown (tw34 hw) e7 (O0.fld 9 rfl rfl) hby d3_57 rfl fun T8 X8 e8 => ?_
  refine q_isub 61 X8 hx hby d3_60 rfl ?_
  show OEnds p e below s _ _ _ (T8.setTop (mkF m 61 #[(vr a), (vi 0), (vi 0), un, un] [(.int 64)]))
  refine qc1 62 2 X8 hx hby d3_61 rfl rfl ?_
  refine qiN 63 X8 hx hby d3_62 rfl rfl ?_
  refine q_imul 64 X8 hx hby d3_63 rfl ?_
  show OEnds p e below s _ _ _ (T8.setTop (mkF m 64 #[(vr a), (vi 0), (vi 0), un, un] [(.int 0), (.int 64)]))
  refine q_cmy 96 X8 hx hby d3_64 rfl (flt (by decide : ¬ ((64 : Int32) < (0 : Int32)))).2.1 ?_
  refine qaN 97 X8 hx hby d3_96 rfl rfl ?_
  refine qg 100 X8 hx hZ hown (tw30 hw) e8 (O0.fld 7 rfl rfl) hby d3_97 rfl fun T9 X9 e9 => ?_
  refine qaN 101 X9 hx hby d3_100 rfl rfl ?_
  refine qg 104 X9 hx hZ hown (tw15 hw) e9 (O0.fld 2 rfl rfl) hby d3_101 rfl fun T10 X10 e10 => ?_
  refine qn 105 (16 : Int32) X10 hx hZ e10 F_b3 (by decide) hby d3_104 rfl ?_
  refine q_cmy 159 X10 hx hby d3_105 rfl (feq (by decide : ¬ ((1 : Int32) = (16 : Int32)))).2 ?_
  refine qaN 160 X10 hx hby d3_159 rfl rfl ?_
  refine qg 163 X10 hx hZ hown (tw15 hw) e10 (O0.fld 2 rfl rfl) hby d3_160 rfl fun T11 X11 e11 => ?_
  refine qaN 164 X11 hx hby d3_163 rfl rfl ?_
  refine qg 167 X11 hx hZ hown (tw30 hw) e11 (O0.fld 7 rfl rfl) hby d3_164 rfl fun T12 X12 e12 => ?_
  refine qiN 168 X12 hx hby d3_167 rfl rfl ?_
  obtain ⟨T13, h13, X13, e13, W13, st13⟩ := own_iastore X12 hx hZ e12 F_b3 1 (by decide) (by decide) (g := (mkF m 168 #[(vr a), (vi 0), (vi 0), un, un] [(.int 0), (.int 1), (.ref b3)])) rfl rfl (hb hby d3_168)
  have F13 : FA Z h13 b3 .int 16 (fun i => .int ((updI g3 1 (0 : Int32)) i)) := F_b3.setI W13
  have N13 := Fr.snoc X13 N0 g_b3
  have Z13 := Nat.le_trans Z0 (Keep.of_wr W13).1
  have K13 := K0.wr W13 (wi 2 rfl)
  refine qat 169 #[(vr a), (vi 0), (vi 0), un, un] [] st13 ?_
  refine qaN 170 X13 hx hby d3_169 rfl rfl ?_
  have O15 := (O0.other W13 (o03 hord))
  refine qg 173 X13 hx hZ hown (tw17 hw) e13 (O15.fld 3 rfl rfl) hby d3_170 rfl fun T14 X14 e14 => ?_
  refine qaN 174 X14 hx hby d3_173 rfl rfl ?_
  refine qg 177 X14 hx hZ hown (tw30 hw) e14 (O15.fld 7 rfl rfl) hby d3_174 rfl fun T16 X16 e16 => ?_
  refine qaN 178 X16 hx hby d3_177 rfl rfl ?_
  refine qg 181 X16 hx hZ hown (tw32 hw) e16 (O15.fld 8 rfl rfl) hby d3_178 rfl fun T17 X17 e17 => ?_
  have F19 := (F_b4.other W13 (Ne.symm (o34 hord)))
  obtain ⟨T18, h18, X18, e18, W18, st18⟩ := own_iastore X17 hx hZ e17 F19 1 (by decide) (by decide) (g := (mkF m 181 #[(vr a), (vi 0), (vi 0), un, un] [(.int sz), (.int 1), (.ref b4)])) rfl rfl (hb hby d3_181)
  have F18 : FA Z h18 b4 .int 16 (fun i => .int ((updI g4 1 sz) i)) := F19.setI W18
  have N18 := Fr.snoc X18 N13 g_b4
  have Z18 := Nat.le_trans Z13 (Keep.of_wr W18).1
  have K18 := K13.wr W18 (wi 3 rfl)
  refine qat 182 #[(vr a), (vi 0), (vi 0), un, un] [] st18 ?_
  refine qaN 183 X18 hx hby d3_182 rfl rfl ?_
  have O21 := (O15.other W18 (o04 hord))
  refine qg 186 X18 hx hZ hown (tw19 hw) e18 (O21.fld 4 rfl rfl) hby d3_183 rfl fun T20 X20 e20 => ?_
  refine qaN 187 X20 hx hby d3_186 rfl rfl ?_
  refine qg 190 X20 hx hZ hown (tw30 hw) e20 (O21.fld 7 rfl rfl) hby d3_187 rfl fun T22 X22 e22 => ?_
  refine qaN 191 X22 hx hby d3_190 rfl rfl ?_
  refine qg 194 X22 hx hZ hown (tw34 hw) e22 (O21.fld 9 rfl rfl) hby d3_191 rfl fun T23 X23 e23 => ?_
  have F25 := ((F_b5.other W13 (Ne.symm (o35 hord))).other W18 (Ne.symm (o45 hord)))
  obtain ⟨T24, h24, X24, e24, W24, st24⟩ := own_iastore X23 hx hZ e23 F25 1 (by decide) (by decide) (g := (mkF m 194 #[(vr a), (vi 0), (vi 0), un, un] [(.int 0), (.int 1), (.ref b5)])) rfl rfl (hb hby d3_194)
  have F24 : FA Z h24 b5 .int 16 (fun i => .int ((updI g5 1 (0 : Int32)) i)) := F25.setI W24
  have N24 := Fr.snoc X24 N18 g_b5
  have Z24 := Nat.le_trans Z18 (Keep.of_wr W24).1
  have K24 := K18.wr W24 (wi 4 rfl)
  refine qat 195 #[(vr a), (vi 0), (vi 0), un, un] [] st24 ?_
  refine qaN 196 X24 hx hby d3_195 rfl rfl ?_
  have O27 := (O21.other W24 (o05 hord))
  refine qg 199 X24 hx hZ hown (tw12 hw) e24 (O27.fld 1 rfl rfl) hby d3_196 rfl fun T26 X26 e26 => ?_
  refine qaN 200 X26 hx hby d3_199 rfl rfl ?_
  refine qg 203 X26 hx hZ hown (tw34 hw) e26 (O27.fld 9 rfl rfl) hby d3_200 rfl fun T28 X28 e28 => ?_
  refine qiN 204 X28 hx hby d3_203 rfl rfl ?_
  refine q_iadd 205 X28 hx hby d3_204 rfl ?_
  show OEnds p e below s _ _ _ (T28.setTop (mkF m 205 #[(vr a), (vi 0), (vi 0), un, un] [(.int 0), (.ref b2)]))
  refine qaN 206 X28 hx hby d3_205 rfl rfl ?_
  refine qg 209 X28 hx hZ hown (tw34 hw) e28 (O27.fld 9 rfl rfl) hby d3_206 rfl fun T29 X29 e29 => ?_
  refine qc1 210 2 X29 hx hby d3_209 rfl rfl ?_
  refine qiN 211 X29 hx hby d3_210 rfl rfl ?_
  refine q_imul 212 X29 hx hby d3_211 rfl ?_
  show OEnds p e below s _ _ _ (T29.setTop (mkF m 212 #[(vr a), (vi 0), (vi 0), un, un] [(.int 0), (.int 0), (.int 0), (.ref b2)]))
  refine q_iadd 213 X29 hx hby d3_212 rfl ?_
  show OEnds p e below s _ _ _ (T29.setTop (mkF m 213 #[(vr a), (vi 0), (vi 0), un, un] [(.int 0), (.int 0), (.ref b2)]))
  refine own_by (X29.ldc2Long hx hown (mvT hZ (tw36 hw)) (g := (mkF m 213 #[(vr a), (vi 0), (vi 0), un, un] [(.int 0), (.int 0), (.ref b2)])) rfl (hb hby d3_213)) ?_
  show OEnds p e below s _ _ _ (T29.setTop (mkF m 216 #[(vr a), (vi 0), (vi 0), un, un] [(.long (-9223372036854775808)), (.int 0), (.int 0), (.ref b2)]))
  have F31 := (((F_b2.other W13 (o23 hord)).other W18 (o24 hord)).other W24 (o25 hord))
  obtain ⟨v30, T30, L30, h30, X30, e30, hQ30, st30⟩ := own_callS X29 hx hZ (y := mn4) hown (tw37 hw) (tw38 hw) (tw39 hw) (tw40 hw) (by decide) (rm_fill_0_0 l Z a0 hw [] b2 (-9223372036854775808 : Int64) g2 h24 n0 Z24 F31) e29 (g := (mkF m 216 #[(vr a), (vi 0), (vi 0), un, un] [(.long (-9223372036854775808)), (.int 0), (.int 0), (.ref b2)])) rfl (by rw [hml]; rfl) (argsL := [(.ref b2), (.int 0), (.int 0), (.long (-9223372036854775808))]) (rest := []) (lenOf pd_paJIIJrV rfl) rfl (W := 0) (by show 2 * 0 + _ ≤ _; exact Nat.le_of_eq rfl) (hb hby d3_216) (by decide) (by decide) (by decide) (by decide)
  obtain ⟨rfl, Nq30, Kq30⟩ := hQ30
  have N30 := Fr.app N24 Nq30
  have K30 := K24.trans Kq30 all0
  have Z30 := Nat.le_trans Z24 Kq30.1
  refine qtr 219 #[(vr a), (vi 0), (vi 0), un, un] [] st30 ?_
  refine qiN 220 X30 hx hby d3_219 rfl rfl ?_
  refine qsiN 221 #[(vr a), (vi 0), (vi 0), (vi 0), un] X30 hx hby d3_220 rfl rfl ?_
  have fin : ∀ (T : State) (lo : List Loc) (iv : Int32) (c2 : Nat → Int64) (ii : Nat) (s4 : Slot) (h_fin : Heap) (Zz_fin : n0 ≤ h_fin.size) (X_fin : Stand p l e ({ frames := 2, cells := 0, slots := 0, locals := 31 } : Room) s m #[(.ref a)] below meth c T lo 0 0) (e_fin : T.heap = h_fin) (N_fin : Fr n0 lo) (Kp_fin : Keep h0 h_fin [a, b2, b3, b4, b5]) (Ob_fin_a : Obj Z h_fin a "com/example/graphweft/graphweft/RangeMaxTree" sch_rt [(.ref b1), (.ref b2), (.ref b3), (.ref b4), (.ref b5), (.ref b6), (.ref b7), (.int 1), (.int sz), (.int 0), (.long bd), (.int ss), (.int bs), (.int bc), (.int pn), (.int se), (.int sa), (.int ta), (.int te)]) (Fa_fin_b1 : FA Z h_fin b1 .long 64 (fun i => .long (g1 i))) (Fa_fin_b2 : FA Z h_fin b2 .long 64 (fun i => .long (c2 i))) (Fa_fin_b3 : FA Z h_fin b3 .int 16 (fun i => .int ((updI g3 1 (0 : Int32)) i))) (Fa_fin_b4 : FA Z h_fin b4 .int 16 (fun i => .int ((updI g4 1 sz) i))) (Fa_fin_b5 : FA Z h_fin b5 .int 16 (fun i => .int ((updI g5 1 (0 : Int32)) i))) (hi : ii = 0 + n) (hMX : ∀ bd, c2 0 < bd → ∀ j, j < 8 → 0 + j < ii → g1 (0 + j) < bd), OEnds p e below s (Q_index2_0_0 Z a b1 b2 b3 b4 b5 b6 b7 sz bd ss bs bc pn se sa ta te g1 g2 g3 g4 g5 n h0 n0) 0 0 (T.setTop (mkF m 273 #[(vr a), (vi 0), (vi 0), (vi iv), s4] [])) := by
    intro T lo iv c2 ii s4 h_fin Zz_fin X_fin e_fin N_fin Kp_fin Ob_fin_a Fa_fin_b1 Fa_fin_b2 Fa_fin_b3 Fa_fin_b4 Fa_fin_b5 hi hMX
    show OEnds p e below s _ _ _ (T.setTop (mkF m 273 #[(vr a), (vi 0), (vi 0), (vi iv), s4] []))
    show OEnds p e below s _ _ _ (T.setTop (mkF m 273 #[(vr a), (vi 0), (vi 0), (vi iv), s4] []))
    refine qiN 274 X_fin hx hby d3_273 rfl rfl ?_
    refine qc1 275 1 X_fin hx hby d3_274 rfl rfl ?_
    refine q_isub 276 X_fin hx hby d3_275 rfl ?_
    show OEnds p e below s _ _ _ (T.setTop (mkF m 276 #[(vr a), (vi 0), (vi 0), (vi iv), s4] [(.int (-1))]))
    refine qsiN 277 #[(vr a), (vi 0), (vi 0), (vi (-1)), s4] X_fin hx hby d3_276 rfl rfl ?_
    refine qiN 278 X_fin hx hby d3_277 rfl rfl ?_
    refine q_ify 329 X_fin hx hby d3_278 rfl ((if0 _ _).trans (flt (by decide : ¬ ((0 : Int32) < (-1 : Int32)))).2.2.2) ?_
    refine qaN 330 X_fin hx hby d3_329 rfl rfl ?_
    refine q_dup 331 X_fin hx hby d3_330 rfl rfl ?_
    refine qg 334 X_fin hx hZ hown (tw34 hw) e_fin (Ob_fin_a.fld 9 rfl rfl) hby d3_331 rfl fun T32 X32 e32 => ?_
    refine qc1 335 2 X32 hx hby d3_334 rfl rfl ?_
    refine qiN 336 X32 hx hby d3_335 rfl rfl ?_
    refine q_imul 337 X32 hx hby d3_336 rfl ?_
    show OEnds p e below s _ _ _ (T32.setTop (mkF m 337 #[(vr a), (vi 0), (vi 0), (vi (-1)), s4] [(.int 0), (.int 0), (.ref a)]))
    refine q_iadd 338 X32 hx hby d3_337 rfl ?_
    show OEnds p e below s _ _ _ (T32.setTop (mkF m 338 #[(vr a), (vi 0), (vi 0), (vi (-1)), s4] [(.int 0), (.ref a)]))
    obtain ⟨T33, h33, X33, e33, W33, st33⟩ := putF X32 hx hZ hown (host := "") (Or.inl (tw34 hw)) Via.refl e32 (Ob_fin_a.fld 9 rfl rfl) Ob_fin_a.exa (Or.inl (tw35 hw)) (tw2 hw) (ty := .int) (by decide) rfl rfl (g := (mkF m 338 #[(vr a), (vi 0), (vi 0), (vi (-1)), s4] [(.int 0), (.ref a)])) rfl rfl (hb hby d3_338)
    have O33 : Obj Z h33 a "com/example/graphweft/graphweft/RangeMaxTree" sch_rt [(.ref b1), (.ref b2), (.ref b3), (.ref b4), (.ref b5), (.ref b6), (.ref b7), (.int 1), (.int sz), (.int 0), (.long bd), (.int ss), (.int bs), (.int bc), (.int pn), (.int se), (.int sa), (.int ta), (.int te)] := Ob_fin_a.set (so_sch_rt hw) W33 9 rfl (Nat.le_of_ble_eq_true rfl)
    have N33 := Fr.snoc X33 N_fin g_a
    have Z33 := Nat.le_trans Zz_fin (Keep.of_wr W33).1
    have K33 := Kp_fin.wr W33 (wi 0 rfl)
    refine qat 341 #[(vr a), (vi 0), (vi 0), (vi (-1)), s4] [] st33 ?_
    refine qaN 342 X33 hx hby d3_341 rfl rfl ?_
    refine q_dup 343 X33 hx hby d3_342 rfl rfl ?_
    refine qg 346 X33 hx hZ hown (tw30 hw) e33 (O33.fld 7 rfl rfl) hby d3_343 rfl fun T34 X34 e34 => ?_
    refine own_by (fun _ k => XS.dupX1 X34.here hx rfl (hb hby d3_346) rfl rfl rfl k) ?_
    show OEnds p e below s _ _ _ (T34.setTop (mkF m 347 #[(vr a), (vi 0), (vi 0), (vi (-1)), s4] [(.int 1), (.ref a), (.int 1)]))
    refine qc1 348 1 X34 hx hby d3_347 rfl rfl ?_
    refine q_iadd 349 X34 hx hby d3_348 rfl ?_
    show OEnds p e below s _ _ _ (T34.setTop (mkF m 349 #[(vr a), (vi 0), (vi 0), (vi (-1)), s4] [(.int 2), (.ref a), (.int 1)]))
    obtain ⟨T35, h35, X35, e35, W35, st35⟩ := putF X34 hx hZ hown (host := "") (Or.inl (tw30 hw)) Via.refl e34 (O33.fld 7 rfl rfl) O33.exa (Or.inl (tw31 hw)) (tw2 hw) (ty := .int) (by decide) rfl rfl (g := (mkF m 349 #[(vr a), (vi 0), (vi 0), (vi (-1)), s4] [(.int 2), (.ref a), (.int 1)])) rfl rfl (hb hby d3_349)
    have O35 : Obj Z h35 a "com/example/graphweft/graphweft/RangeMaxTree" sch_rt [(.ref b1), (.ref b2), (.ref b3), (.ref b4), (.ref b5), (.ref b6), (.ref b7), (.int 2), (.int sz), (.int 0), (.long bd), (.int ss), (.int bs), (.int bc), (.int pn), (.int se), (.int sa), (.int ta), (.int te)] := O33.set (so_sch_rt hw) W35 7 rfl (Nat.le_of_ble_eq_true rfl)
    have N35 := Fr.snoc X35 N33 g_a
    have Z35 := Nat.le_trans Z33 (Keep.of_wr W35).1
    have K35 := K33.wr W35 (wi 0 rfl)
    refine qat 352 #[(vr a), (vi 0), (vi 0), (vi (-1)), s4] [(.int 1)] st35 ?_
    have hfin : ∀ bd, c2 0 < bd → ∀ j, j < 8 → j < n → g1 (0 + j) < bd := by exact fun bd hb j hj hjn => hMX bd hb j hj (by omega)
    have F36 := ((Fa_fin_b2.other W33 (Ne.symm (o02 hord))).other W35 (Ne.symm (o02 hord)))
    have F37 := ((Fa_fin_b3.other W33 (Ne.symm (o03 hord))).other W35 (Ne.symm (o03 hord)))
    have F38 := ((Fa_fin_b4.other W33 (Ne.symm (o04 hord))).other W35 (Ne.symm (o04 hord)))
    have F39 := ((Fa_fin_b5.other W33 (Ne.symm (o05 hord))).other W35 (Ne.symm (o05 hord)))
    exact own_retI X35 hx hlk Bd.returns (hb hby d3_352) (by rw [e35]; exact ⟨rfl, N35, K35, _, hfin, O35, F36, F37, F38, F39⟩) (by decide) (by decide)
  have lp : ∀ (dd : Nat) (T : State) (lo : List Loc) (iv : Int32) (d4 : Int32) (c2 : Nat → Int64) (ii : Nat) (h_lp : Heap) (Zz_lp : n0 ≤ h_lp.size) (X_lp : Stand p l e ({ frames := 2, cells := 0, slots := 0, locals := 31 } : Room) s m #[(.ref a)] below meth c T lo 0 0) (e_lp : T.heap = h_lp) (N_lp : Fr n0 lo) (Kp_lp : Keep h0 h_lp [a, b2, b3, b4, b5]) (Ob_lp_a : Obj Z h_lp a "com/example/graphweft/graphweft/RangeMaxTree" sch_rt [(.ref b1), (.ref b2), (.ref b3), (.ref b4), (.ref b5), (.ref b6), (.ref b7), (.int 1), (.int sz), (.int 0), (.long bd), (.int ss), (.int bs), (.int bc), (.int pn), (.int se), (.int sa), (.int ta), (.int te)]) (Fa_lp_b1 : FA Z h_lp b1 .long 64 (fun i => .long (g1 i))) (Fa_lp_b2 : FA Z h_lp b2 .long 64 (fun i => .long (c2 i))) (Fa_lp_b3 : FA Z h_lp b3 .int 16 (fun i => .int ((updI g3 1 (0 : Int32)) i))) (Fa_lp_b4 : FA Z h_lp b4 .int 16 (fun i => .int ((updI g4 1 sz) i))) (Fa_lp_b5 : FA Z h_lp b5 .int 16 (fun i => .int ((updI g5 1 (0 : Int32)) i))) (hiv : iv.toInt = (ii : Int)) (hid : ii + dd = 0 + n) (hip : 0 ≤ ii) (hMX : ∀ bd, c2 0 < bd → ∀ j, j < 8 → 0 + j < ii → g1 (0 + j) < bd), OEnds p e below s (Q_index2_0_0 Z a b1 b2 b3 b4 b5 b6 b7 sz bd ss bs bc pn se sa ta te g1 g2 g3 g4 g5 n h0 n0) 0 0 (T.setTop (mkF m 221 #[(vr a), (vi 0), (vi 0), (vi iv), (vi d4)] [])) := by
    intro dd
    induction dd with
    | zero =>
      intro T lo iv d4 c2 ii h_lp Zz_lp X_lp e_lp N_lp Kp_lp Ob_lp_a Fa_lp_b1 Fa_lp_b2 Fa_lp_b3 Fa_lp_b4 Fa_lp_b5 hiv hid hip hMX
      show OEnds p e below s _ _ _ (T.setTop (mkF m 221 #[(vr a), (vi 0), (vi 0), (vi iv), (vi d4)] []))
      refine qiN 222 X_lp hx hby d3_221 rfl rfl ?_
      refine qaN 223 X_lp hx hby d3_222 rfl rfl ?_
      refine qg 226 X_lp hx hZ hown (tw32 hw) e_lp (Ob_lp_a.fld 8 rfl rfl) hby d3_223 rfl fun T40 X40 e40 => ?_
      refine q_cmy 273 X40 hx hby d3_226 rfl (flt (nlt_i hiv hsz (by omega))).2.1 ?_
      exact fin T40 _ iv c2 ii ((vi d4)) h_lp Zz_lp X40 e40 N_lp Kp_lp Ob_lp_a Fa_lp_b1 Fa_lp_b2 Fa_lp_b3 Fa_lp_b4 Fa_lp_b5 (by omega) hMX
    | succ dd ih_lp =>
      intro T lo iv d4 c2 ii h_lp Zz_lp X_lp e_lp N_lp Kp_lp Ob_lp_a Fa_lp_b1 Fa_lp_b2 Fa_lp_b3 Fa_lp_b4 Fa_lp_b5 hiv hid hip hMX
      show OEnds p e below s _ _ _ (T.setTop (mkF m 221 #[(vr a), (vi 0), (vi 0), (vi iv), (vi d4)] []))
      have hlt0 : ii < 0 + n := by omega
      show OEnds p e below s _ _ _ (T.setTop (mkF m 221 #[(vr a), (vi 0), (vi 0), (vi iv), (vi d4)] []))
      refine qiN 222 X_lp hx hby d3_221 rfl rfl ?_
      refine qaN 223 X_lp hx hby d3_222 rfl rfl ?_
      refine qg 226 X_lp hx hZ hown (tw32 hw) e_lp (Ob_lp_a.fld 8 rfl rfl) hby d3_223 rfl fun T41 X41 e41 => ?_
      refine q_cmn 229 X41 hx hby d3_226 rfl (tlt (lt_of_i hiv hsz hlt0)).2.1 ?_
      refine qaN 230 X41 hx hby d3_229 rfl rfl ?_
      refine qg 233 X41 hx hZ hown (tw34 hw) e41 (Ob_lp_a.fld 9 rfl rfl) hby d3_230 rfl fun T42 X42 e42 => ?_
      refine qiN 234 X42 hx hby d3_233 rfl rfl ?_
      refine q_iadd 235 X42 hx hby d3_234 rfl ?_
      show OEnds p e below s _ _ _ (T42.setTop (mkF m 235 #[(vr a), (vi 0), (vi 0), (vi iv), (vi d4)] [(.int 0)]))
      refine qiN 236 X42 hx hby d3_235 rfl rfl ?_
      refine qiN 237 X42 hx hby d3_236 rfl rfl ?_
      refine q_isub 238 X42 hx hby d3_237 rfl ?_
      refine qc2 240 8 X42 hx hby d3_238 rfl rfl ?_
      refine q_idiv 241 X42 hx hby d3_240 rfl (by decide) ?_
      refine q_iadd 242 X42 hx hby d3_241 rfl ?_
      refine qsi 244 #[(vr a), (vi 0), (vi 0), (vi iv), (vi ((0 : Int32) + ((iv - (0 : Int32)) / (8 : Int32))))] X42 hx hby d3_242 rfl rfl ?_
      refine qaN 245 X42 hx hby d3_244 rfl rfl ?_
      refine qg 248 X42 hx hZ hown (tw12 hw) e42 (Ob_lp_a.fld 1 rfl rfl) hby d3_245 rfl fun T43 X43 e43 => ?_
      refine qi 250 X43 hx hby d3_248 rfl rfl ?_
      refine qaN 251 X43 hx hby d3_250 rfl rfl ?_
      refine qg 254 X43 hx hZ hown (tw12 hw) e43 (Ob_lp_a.fld 1 rfl rfl) hby d3_251 rfl fun T44 X44 e44 => ?_
      refine qi 256 X44 hx hby d3_254 rfl rfl ?_
      refine qJ 257 X44 hx hZ e44 Fa_lp_b2 (0 + (ii - 0) / 8) (ix_i (p := 0) hiv hip (by omega) (by decide)) (by omega) (v := (.long (c2 (0 + (ii - 0) / 8)))) rfl hby d3_256 rfl ?_
      refine qaN 258 X44 hx hby d3_257 rfl rfl ?_
      refine qg 261 X44 hx hZ hown (tw10 hw) e44 (Ob_lp_a.fld 0 rfl rfl) hby d3_258 rfl fun T45 X45 e45 => ?_
      refine qiN 262 X45 hx hby d3_261 rfl rfl ?_
      refine qJ 263 X45 hx hZ e45 Fa_lp_b1 ii hiv (by omega) (v := (.long (g1 ii))) rfl hby d3_262 rfl ?_
      obtain ⟨T46, X46, e46, st46⟩ := own_callP X45 hx hZ (y := mn0) hown (tw81 hw) (tw82 hw) (tw83 hw) (tw84 hw) (by decide) (rm_jmax l Z a0 hw [] (c2 (0 + (ii - 0) / 8)) (g1 ii) h_lp) e45 (g := (mkF m 263 #[(vr a), (vi 0), (vi 0), (vi iv), (vi ((0 : Int32) + ((iv - (0 : Int32)) / (8 : Int32))))] [(.long (g1 ii)), (.long (c2 (0 + (ii - 0) / 8))), (.int ((0 : Int32) + ((iv - (0 : Int32)) / (8 : Int32)))), (.ref b2)])) rfl (by rw [hml]; rfl) (argsL := [(.long (c2 (0 + (ii - 0) / 8))), (.long (g1 ii))]) (rest := [(.int ((0 : Int32) + ((iv - (0 : Int32)) / (8 : Int32)))), (.ref b2)]) (lenOf pd_pJJrJ rfl) rfl (W := 2) (by show 2 * 0 + _ ≤ _; exact Nat.le_of_eq rfl) (hb hby d3_263) (by decide) (by decide) (by decide) (by decide)
      refine qat 266 #[(vr a), (vi 0), (vi 0), (vi iv), (vi ((0 : Int32) + ((iv - (0 : Int32)) / (8 : Int32))))] [(.long (jmax (c2 (0 + (ii - 0) / 8)) (g1 ii))), (.int ((0 : Int32) + ((iv - (0 : Int32)) / (8 : Int32)))), (.ref b2)] st46 ?_
      obtain ⟨T47, h47, X47, e47, W47, st47⟩ := own_lastore X46 hx hZ e46 Fa_lp_b2 (0 + (ii - 0) / 8) (ix_i (p := 0) hiv hip (by omega) (by decide)) (by omega) (g := (mkF m 266 #[(vr a), (vi 0), (vi 0), (vi iv), (vi ((0 : Int32) + ((iv - (0 : Int32)) / (8 : Int32))))] [(.long (jmax (c2 (0 + (ii - 0) / 8)) (g1 ii))), (.int ((0 : Int32) + ((iv - (0 : Int32)) / (8 : Int32)))), (.ref b2)])) rfl rfl (hb hby d3_266)
      have F47 : FA Z h47 b2 .long 64 (fun i => .long ((updL c2 (0 + (ii - 0) / 8) (jmax (c2 (0 + (ii - 0) / 8)) (g1 ii))) i)) := Fa_lp_b2.setL W47
      obtain ⟨f47, ef47⟩ : ∃ fz_ : Nat → Int64, fz_ = (updL c2 (0 + (ii - 0) / 8) (jmax (c2 (0 + (ii - 0) / 8)) (g1 ii))) := ⟨_, rfl⟩
      rw [← ef47] at F47
      have N47 := Fr.snoc X47 N_lp g_b2
      have Z47 := Nat.le_trans Zz_lp (Keep.of_wr W47).1
      have K47 := Kp_lp.wr W47 (wi 1 rfl)
      refine qat 267 #[(vr a), (vi 0), (vi 0), (vi iv), (vi ((0 : Int32) + ((iv - (0 : Int32)) / (8 : Int32))))] [] st47 ?_
      refine q_inc 270 #[(vr a), (vi 0), (vi 0), (vi (iv + (1 : Int32))), (vi ((0 : Int32) + ((iv - (0 : Int32)) / (8 : Int32))))] X47 hx hby d3_267 rfl rfl rfl ?_
      refine q_goto 221 X47 hx hby d3_270 rfl ?_
      have O48 := (Ob_lp_a.other W47 (o02 hord))
      have F49 := (Fa_lp_b1.other W47 (o12 hord))
      have F50 := (Fa_lp_b3.other W47 (Ne.symm (o23 hord)))
      have F51 := (Fa_lp_b4.other W47 (Ne.symm (o24 hord)))
      have F52 := (Fa_lp_b5.other W47 (Ne.symm (o25 hord)))
      exact ih_lp T47 _ (iv + (1 : Int32)) ((0 : Int32) + ((iv - (0 : Int32)) / (8 : Int32))) _ (ii + 1) h47 Z47 X47 e47 N47 K47 O48 F49 F47 F50 F51 F52 (inc_i hiv (by omega)) (by omega) (by omega) (by subst ef47; exact mx_step hMX hip)
  have lpU : ∀ (dd : Nat) (T : State) (lo : List Loc) (iv : Int32) (c2 : Nat → Int64) (ii : Nat) (h_lpU : Heap) (Zz_lpU : n0 ≤ h_lpU.size) (X_lpU : Stand p l e ({ frames := 2, cells := 0, slots := 0, locals := 31 } : Room) s m #[(.ref a)] below meth c T lo 0 0) (e_lpU : T.heap = h_lpU) (N_lpU : Fr n0 lo) (Kp_lpU : Keep h0 h_lpU [a, b2, b3, b4, b5]) (Ob_lpU_a : Obj Z h_lpU a "com/example/graphweft/graphweft/RangeMaxTree" sch_rt [(.ref b1), (.ref b2), (.ref b3), (.ref b4), (.ref b5), (.ref b6), (.ref b7), (.int 1), (.int sz), (.int 0), (.long bd), (.int ss), (.int bs), (.int bc), (.int pn), (.int se), (.int sa), (.int ta), (.int te)]) (Fa_lpU_b1 : FA Z h_lpU b1 .long 64 (fun i => .long (g1 i))) (Fa_lpU_b2 : FA Z h_lpU b2 .long 64 (fun i => .long (c2 i))) (Fa_lpU_b3 : FA Z h_lpU b3 .int 16 (fun i => .int ((updI g3 1 (0 : Int32)) i))) (Fa_lpU_b4 : FA Z h_lpU b4 .int 16 (fun i => .int ((updI g4 1 sz) i))) (Fa_lpU_b5 : FA Z h_lpU b5 .int 16 (fun i => .int ((updI g5 1 (0 : Int32)) i))) (hiv : iv.toInt = (ii : Int)) (hid : ii + dd = 0 + n) (hip : 0 ≤ ii) (hMX : ∀ bd, c2 0 < bd → ∀ j, j < 8 → 0 + j < ii → g1 (0 + j) < bd), OEnds p e below s (Q_index2_0_0 Z a b1 b2 b3 b4 b5 b6 b7 sz bd ss bs bc pn se sa ta te g1 g2 g3 g4 g5 n h0 n0) 0 0 (T.setTop (mkF m 221 #[(vr a), (vi 0), (vi 0), (vi iv), un] [])) := by
    intro dd
    induction dd with
    | zero =>
      intro T lo iv c2 ii h_lpU Zz_lpU X_lpU e_lpU N_lpU Kp_lpU Ob_lpU_a Fa_lpU_b1 Fa_lpU_b2 Fa_lpU_b3 Fa_lpU_b4 Fa_lpU_b5 hiv hid hip hMX
      show OEnds p e below s _ _ _ (T.setTop (mkF m 221 #[(vr a), (vi 0), (vi 0), (vi iv), un] []))
      refine qiN 222 X_lpU hx hby d3_221 rfl rfl ?_
      refine qaN 223 X_lpU hx hby d3_222 rfl rfl ?_
      refine qg 226 X_lpU hx hZ hown (tw32 hw) e_lpU (Ob_lpU_a.fld 8 rfl rfl) hby d3_223 rfl fun T53 X53 e53 => ?_
      refine q_cmy 273 X53 hx hby d3_226 rfl (flt (nlt_i hiv hsz (by omega))).2.1 ?_
      exact fin T53 _ iv c2 ii (.unset) h_lpU Zz_lpU X53 e53 N_lpU Kp_lpU Ob_lpU_a Fa_lpU_b1 Fa_lpU_b2 Fa_lpU_b3 Fa_lpU_b4 Fa_lpU_b5 (by omega) hMX
    | succ dd ih_lpU =>
      intro T lo iv c2 ii h_lpU Zz_lpU X_lpU e_lpU N_lpU Kp_lpU Ob_lpU_a Fa_lpU_b1 Fa_lpU_b2 Fa_lpU_b3 Fa_lpU_b4 Fa_lpU_b5 hiv hid hip hMX
      show OEnds p e below s _ _ _ (T.setTop (mkF m 221 #[(vr a), (vi 0), (vi 0), (vi iv), un] []))
      have hlt0 : ii < 0 + n := by omega
      show OEnds p e below s _ _ _ (T.setTop (mkF m 221 #[(vr a), (vi 0), (vi 0), (vi iv), un] []))
      refine qiN 222 X_lpU hx hby d3_221 rfl rfl ?_
      refine qaN 223 X_lpU hx hby d3_222 rfl rfl ?_
      refine qg 226 X_lpU hx hZ hown (tw32 hw) e_lpU (Ob_lpU_a.fld 8 rfl rfl) hby d3_223 rfl fun T54 X54 e54 => ?_
      refine q_cmn 229 X54 hx hby d3_226 rfl (tlt (lt_of_i hiv hsz hlt0)).2.1 ?_
      refine qaN 230 X54 hx hby d3_229 rfl rfl ?_
      refine qg 233 X54 hx hZ hown (tw34 hw) e54 (Ob_lpU_a.fld 9 rfl rfl) hby d3_230 rfl fun T55 X55 e55 => ?_
      refine qiN 234 X55 hx hby d3_233 rfl rfl ?_
      refine q_iadd 235 X55 hx hby d3_234 rfl ?_
      show OEnds p e below s _ _ _ (T55.setTop (mkF m 235 #[(vr a), (vi 0), (vi 0), (vi iv), un] [(.int 0)]))
      refine qiN 236 X55 hx hby d3_235 rfl rfl ?_
      refine qiN 237 X55 hx hby d3_236 rfl rfl ?_
      refine q_isub 238 X55 hx hby d3_237 rfl ?_
      refine qc2 240 8 X55 hx hby d3_238 rfl rfl ?_
      refine q_idiv 241 X55 hx hby d3_240 rfl (by decide) ?_
      refine q_iadd 242 X55 hx hby d3_241 rfl ?_
      refine qsi 244 #[(vr a), (vi 0), (vi 0), (vi iv), (vi ((0 : Int32) + ((iv - (0 : Int32)) / (8 : Int32))))] X55 hx hby d3_242 rfl rfl ?_
      refine qaN 245 X55 hx hby d3_244 rfl rfl ?_
      refine qg 248 X55 hx hZ hown (tw12 hw) e55 (Ob_lpU_a.fld 1 rfl rfl) hby d3_245 rfl fun T56 X56 e56 => ?_
      refine qi 250 X56 hx hby d3_248 rfl rfl ?_
      refine qaN 251 X56 hx hby d3_250 rfl rfl ?_
      refine qg 254 X56 hx hZ hown (tw12 hw) e56 (Ob_lpU_a.fld 1 rfl rfl) hby d3_251 rfl fun T57 X57 e57 => ?_
      refine qi 256 X57 hx hby d3_254 rfl rfl ?_
      refine qJ 257 X57 hx hZ e57 Fa_lpU_b2 (0 + (ii - 0) / 8) (ix_i (p := 0) hiv hip (by omega) (by decide)) (by omega) (v := (.long (c2 (0 + (ii - 0) / 8)))) rfl hby d3_256 rfl ?_
      refine qaN 258 X57 hx hby d3_257 rfl rfl ?_
      refine qg 261 X57 hx hZ hown (tw10 hw) e57 (Ob_lpU_a.fld 0 rfl rfl) hby d3_258 rfl fun T58 X58 e58 => ?_
      refine qiN 262 X58 hx hby d3_261 rfl rfl ?_
      refine qJ 263 X58 hx hZ e58 Fa_lpU_b1 ii hiv (by omega) (v := (.long (g1 ii))) rfl hby d3_262 rfl ?_
      obtain ⟨T59, X59, e59, st59⟩ := own_callP X58 hx hZ (y := mn0) hown (tw81 hw) (tw82 hw) (tw83 hw) (tw84 hw) (by decide) (rm_jmax l Z a0 hw [] (c2 (0 + (ii - 0) / 8)) (g1 ii) h_lpU) e58 (g := (mkF m 263 #[(vr a), (vi 0), (vi 0), (vi iv), (vi ((0 : Int32) + ((iv - (0 : Int32)) / (8 : Int32))))] [(.long (g1 ii)), (.long (c2 (0 + (ii - 0) / 8))), (.int ((0 : Int32) + ((iv - (0 : Int32)) / (8 : Int32)))), (.ref b2)])) rfl (by rw [hml]; rfl) (argsL := [(.long (c2 (0 + (ii - 0) / 8))), (.long (g1 ii))]) (rest := [(.int ((0 : Int32) + ((iv - (0 : Int32)) / (8 : Int32)))), (.ref b2)]) (lenOf pd_pJJrJ rfl) rfl (W := 2) (by show 2 * 0 + _ ≤ _; exact Nat.le_of_eq rfl) (hb hby d3_263) (by decide) (by decide) (by decide) (by decide)
      refine qat 266 #[(vr a), (vi 0), (vi 0), (vi iv), (vi ((0 : Int32) + ((iv - (0 : Int32)) / (8 : Int32))))] [(.long (jmax (c2 (0 + (ii - 0) / 8)) (g1 ii))), (.int ((0 : Int32) + ((iv - (0 : Int32)) / (8 : Int32)))), (.ref b2)] st59 ?_
      obtain ⟨T60, h60, X60, e60, W60, st60⟩ := own_lastore X59 hx hZ e59 Fa_lpU_b2 (0 + (ii - 0) / 8) (ix_i (p := 0) hiv hip (by omega) (by decide)) (by omega) (g := (mkF m 266 #[(vr a), (vi 0), (vi 0), (vi iv), (vi ((0 : Int32) + ((iv - (0 : Int32)) / (8 : Int32))))] [(.long (jmax (c2 (0 + (ii - 0) / 8)) (g1 ii))), (.int ((0 : Int32) + ((iv - (0 : Int32)) / (8 : Int32)))), (.ref b2)])) rfl rfl (hb hby d3_266)
      have F60 : FA Z h60 b2 .long 64 (fun i => .long ((updL c2 (0 + (ii - 0) / 8) (jmax (c2 (0 + (ii - 0) / 8)) (g1 ii))) i)) := Fa_lpU_b2.setL W60
      obtain ⟨f60, ef60⟩ : ∃ fz_ : Nat → Int64, fz_ = (updL c2 (0 + (ii - 0) / 8) (jmax (c2 (0 + (ii - 0) / 8)) (g1 ii))) := ⟨_, rfl⟩
      rw [← ef60] at F60
      have N60 := Fr.snoc X60 N_lpU g_b2
      have Z60 := Nat.le_trans Zz_lpU (Keep.of_wr W60).1
      have K60 := Kp_lpU.wr W60 (wi 1 rfl)
      refine qat 267 #[(vr a), (vi 0), (vi 0), (vi iv), (vi ((0 : Int32) + ((iv - (0 : Int32)) / (8 : Int32))))] [] st60 ?_
      refine q_inc 270 #[(vr a), (vi 0), (vi 0), (vi (iv + (1 : Int32))), (vi ((0 : Int32) + ((iv - (0 : Int32)) / (8 : Int32))))] X60 hx hby d3_267 rfl rfl rfl ?_
      refine q_goto 221 X60 hx hby d3_270 rfl ?_
      have O61 := (Ob_lpU_a.other W60 (o02 hord))
      have F62 := (Fa_lpU_b1.other W60 (o12 hord))
      have F63 := (Fa_lpU_b3.other W60 (Ne.symm (o23 hord)))
      have F64 := (Fa_lpU_b4.other W60 (Ne.symm (o24 hord)))
      have F65 := (Fa_lpU_b5.other W60 (Ne.symm (o25 hord)))
      exact lp dd T60 _ (iv + (1 : Int32)) ((0 : Int32) + ((iv - (0 : Int32)) / (8 : Int32))) _ (ii + 1) h60 Z60 X60 e60 N60 K60 O61 F62 F60 F63 F64 F65 (inc_i hiv (by omega)) (by omega) (by omega) (by subst ef60; exact mx_step hMX hip)
  have O66 := (O27.keep Kq30 nin0)
  have F67 := ((((F_b1.other W13 (o13 hord)).other W18 (o14 hord)).other W24 (o15 hord)).keep Kq30 nin0)
  have F68 := (F31.keep Kq30 nin0)
  have F69 := (((F13.other W18 (o34 hord)).other W24 (o35 hord)).keep Kq30 nin0)
  have F70 := ((F18.other W24 (o45 hord)).keep Kq30 nin0)
  have F71 := (F24.keep Kq30 nin0)
  exact lpU n T30 _ (0 : Int32) _ 0 h30 Z30 X30 e30 N30 K30 O66 F67 F68 F69 F70 F71 (by decide) rfl (Nat.le_refl _) (fun _ _ j _ hj => absurd hj (by omega))
def Q_index2_0_1 (Z : State) (a : Addr) (b1 : Addr) (b2 : Addr) (b3 : Addr) (b4 : Addr) (b5 : Addr) (b6 : Addr) (b7 : Addr) (sz : Int32) (bd : Int64) (ss : Int32) (bs : Int32) (bc : Int32) (pn : Int32) (se : Int32) (sa : Int32) (ta : Int32) (te : Int32) (g1 : Nat → Int64) (g2 : Nat → Int64) (g3 : Nat → Int32) (g4 : Nat → Int32) (g5 : Nat → Int32) (n : Nat) (h0 : Heap) (n0 : Nat) (r : Option Value) (h : Heap) (L : List Loc) : Prop := r = some (.int 1) ∧ Fr n0 L ∧ Keep h0 h [a, b2, b3, b4, b5] ∧ ∃ c2 : Nat → Int64, (∀ bd, c2 1 < bd → ∀ j, j < 8 → j < n → g1 (0 + j) < bd) ∧ Obj Z h a "com/example/graphweft/graphweft/RangeMaxTree" sch_rt [(.ref b1), (.ref b2), (.ref b3), (.ref b4), (.ref b5), (.ref b6), (.ref b7), (.int 2), (.int sz), (.int 2), (.long bd), (.int ss), (.int bs), (.int bc), (.int pn), (.int se), (.int sa), (.int ta), (.int te)] ∧ FA Z h b2 .long 64 (fun i => .long (c2 i)) ∧ FA Z h b3 .int 16 (fun i => .int ((updI g3 1 (0 : Int32)) i)) ∧ FA Z h b4 .int 16 (fun i => .int ((updI g4 1 sz) i)) ∧ FA Z h b5 .int 16 (fun i => .int ((updI g5 1 (0 : Int32)) i))
set_option maxRecDepth 65536 in
set_option maxHeartbeats 40000000 in
theorem rm_index2_0_1 (l : Launch) (Z : State) (a0 : Array Value) (hw : ∀ d ∈ tables_1, d.before a0 Z = true) (ws : List Jvm.Cond) (a : Addr) (b1 : Addr) (b2 : Addr) (b3 : Addr) (b4 : Addr) (b5 : Addr) (b6 : Addr) (b7 : Addr) (sz : Int32) (bd : Int64) (ss : Int32) (bs : Int32) (bc : Int32) (pn : Int32) (se : Int32) (sa : Int32) (ta : Int32) (te : Int32) (g1 : Nat → Int64) (g2 : Nat → Int64) (g3 : Nat → Int32) (g4 : Nat → Int32) (g5 : Nat → Int32) (n : Nat) (h0 : Heap) (n0 : Nat) (Z0 : n0 ≤ h0.size) (O0 : Obj Z h0 a "com/example/graphweft/graphweft/RangeMaxTree" sch_rt [(.ref b1), (.ref b2), (.ref b3), (.ref b4), (.ref b5), (.ref b6), (.ref b7), (.int 1), (.int sz), (.int 0), (.long bd), (.int ss), (.int bs), (.int bc), (.int pn), (.int se), (.int sa), (.int ta), (.int te)]) (F_b1 : FA Z h0 b1 .long 64 (fun i => .long (g1 i))) (F_b2 : FA Z h0 b2 .long 64 (fun i => .long (g2 i))) (F_b3 : FA Z h0 b3 .int 16 (fun i => .int (g3 i))) (F_b4 : FA Z h0 b4 .int 16 (fun i => .int (g4 i))) (F_b5 : FA Z h0 b5 .int 16 (fun i => .int (g5 i))) (g_a : n0 ≤ a) (g_b2 : n0 ≤ b2) (g_b3 : n0 ≤ b3) (g_b4 : n0 ≤ b4) (g_b5 : n0 ≤ b5) (hord : @LT.lt Nat instLTNat a b1 ∧ @LT.lt Nat instLTNat b1 b2 ∧ @LT.lt Nat instLTNat b2 b3 ∧ @LT.lt Nat instLTNat b3 b4 ∧ @LT.lt Nat instLTNat b4 b5 ∧ @LT.lt Nat instLTNat b5 b6 ∧ @LT.lt Nat instLTNat b6 b7) (he : g4 0 = (0 : Int32)) (hsz : sz.toInt = ((0 + n : Nat) : Int)) (hn9 : n ≤ 8) (hnb : ((((sz - (0 : Int32)) / (8 : Int32))) + (if ((sz - (0 : Int32)) % (8 : Int32)) = (0 : Int32) then (0 : Int32) else (1 : Int32))) = (1 : Int32)) :
    MetFree l mn5 (head1 (Jvm.Cond.code mn5 prog_32_method_5_code 5 (some .int) :: ws) ({ frames := 2, cells := 0, slots := 0, locals := 31 } : Room)) (fun a_ U => a_ = #[(.ref a)] ∧ Z.Warmed39 U.vm ∧ U.heap = h0) (fun _ _ _ _ _ => True) (fun _ U o U' => ∃ v_ L_, o = .returned v_ ∧ Q_index2_0_1 Z a b1 b2 b3 b4 b5 b6 b7 sz bd ss bs bc pn se sa ta te g1 g2 g3 g4 g5 n h0 n0 v_ U'.heap L_ ∧ FrameEnd U o U' L_ ({ frames := 2, cells := 0, slots := 0, locals := 31 } : Room).cells ({ frames := 2, cells := 0, slots := 0, locals := 31 } : Room).slots) := by
  refine MetFree.of_bodySF (plainFor_of_name pn_3) hisR ?_
  intro p e s m args below meth c s₁ Bd hml0 hP hK
  obtain ⟨rfl, hZ, hh⟩ := hP
  have hx := Bd.exec
  have hby := Bd.bytes
  have hlk : meth.locks = false := Bd.notSynchronized
  have hml : c.maxLocals = 5 := hml0
  have hown : s.vm.findClass "com/example/graphweft/graphweft/RangeMaxTree" = some m.cls := findClass_of_methodNamed Bd.named
  have hnm := (name_of_methodNamed Bd.named Bd.method).1
  have X0 : Stand p l e ({ frames := 2, cells := 0, slots := 0, locals := 31 } : Room) s m #[(.ref a)] below meth c s₁ [] 0 0 := Stand.of_body Bd
  have e0 : s₁.heap = h0 := by rw [← hh, Bd.state]; rfl
  have N0 := Fr.nil n0
  have K0 : Keep h0 h0 [a, b2, b3, b4, b5] := Keep.refl _ _
  show OEnds p e below s (Q_index2_0_1 Z a b1 b2 b3 b4 b5 b6 b7 sz bd ss bs bc pn se sa ta te g1 g2 g3 g4 g5 n h0 n0) _ _ _
  refine own_by (fun t k => castTop (ef_3 m a) k) ?_
  show OEnds p e below s _ _ _ (s₁.setTop (mkF m 0 #[(vr a), un, un, un, un] []))
  refine qaN 1 X0 hx hby d3_0 rfl rfl ?_
  refine qg 4 X0 hx hZ hown (tw30 hw) e0 (O0.fld 7 rfl rfl) hby d3_1 rfl fun T1 X1 e1 => ?_
  refine q_ify 11 X1 hx hby d3_4 rfl ((if0 _ _).trans (feq (by decide : ¬ ((1 : Int32) = (0 : Int32)))).2) ?_
  refine qaN 12 X1 hx hby d3_11 rfl rfl ?_
  refine qg 15 X1 hx hZ hown (tw17 hw) e1 (O0.fld 3 rfl rfl) hby d3_12 rfl fun T2 X2 e2 => ?_
  refine qaN 16 X2 hx hby d3_15 rfl rfl ?_
  refine qg 19 X2 hx hZ hown (tw30 hw) e2 (O0.fld 7 rfl rfl) hby d3_16 rfl fun T3 X3 e3 => ?_
  refine qc1 20 1 X3 hx hby d3_19 rfl rfl ?_
  refine q_isub 21 X3 hx hby d3_20 rfl ?_
  show OEnds p e below s _ _ _ (T3.setTop (mkF m 21 #[(vr a), un, un, un, un] [(.int 0), (.ref b4)]))
  refine qI 22 X3 hx hZ e3 F_b4 0 (by decide) (by decide) (v := (.int 0)) (congrArg Value.int he) hby d3_21 rfl ?_
  refine qsiN 23 #[(vr a), (vi 0), un, un, un] X3 hx hby d3_22 rfl rfl ?_
  refine qaN 24 X3 hx hby d3_23 rfl rfl ?_
  refine qg 27 X3 hx hZ hown (tw32 hw) e3 (O0.fld 8 rfl rfl) hby d3_24 rfl fun T4 X4 e4 => ?_
  refine qiN 28 X4 hx hby d3_27 rfl rfl ?_
  refine q_isub 29 X4 hx hby d3_28 rfl ?_
  refine qc2 31 8 X4 hx hby d3_29 rfl rfl ?_
  refine q_idiv 32 X4 hx hby d3_31 rfl (by decide) ?_
  refine qaN 33 X4 hx hby d3_32 rfl rfl ?_
  refine qg 36 X4 hx hZ hown (tw32 hw) e4 (O0.fld 8 rfl rfl) hby d3_33 rfl fun T5 X5 e5 => ?_
  refine qiN 37 X5 hx hby d3_36 rfl rfl ?_
  refine q_isub 38 X5 hx hby d3_37 rfl ?_
  refine qc2 40 8 X5 hx hby d3_38 rfl rfl ?_
  refine own_by (fun _ k => iremM X5 hx rfl (hb hby d3_40) rfl (by decide) k) ?_
  show OEnds p e below s _ _ _ (T5.setTop (mkF m 41 #[(vr a), (vi 0), un, un, un] [(.int ((sz - (0 : Int32)) % (8 : Int32))), (.int ((sz - (0 : Int32)) / (8 : Int32)))]))
  refine own_by (S' := T5.setTop (mkF m 49 #[(vr a), (vi 0), un, un, un] [(.int (if ((sz - (0 : Int32)) % (8 : Int32)) = (0 : Int32) then (0 : Int32) else (1 : Int32))), (.int ((sz - (0 : Int32)) / (8 : Int32)))])) (fun t k => ?_) ?_
  · by_cases hc41_6 : ((sz - (0 : Int32)) % (8 : Int32)) = (0 : Int32)
    · rw [if_pos hc41_6] at k
      refine XS.ifNo X5.here hx rfl (hb hby d3_41) rfl ((if0 _ _).trans (teq hc41_6).2) ?_
      show Steps p.tables e below (T5.setTop (mkF m 44 #[(vr a), (vi 0), un, un, un] [(.int ((sz - (0 : Int32)) / (8 : Int32)))])) t
      refine XS.iconst X5.here hx rfl (hb hby d3_44) ?_
      show Steps p.tables e below (T5.setTop (mkF m 45 #[(vr a), (vi 0), un, un, un] [(.int 0), (.int ((sz - (0 : Int32)) / (8 : Int32)))])) t
      refine XS.goto X5.here hx rfl (pc0 := 45) (pc' := 49) rfl (hb hby d3_45) (by decide) (by decide) ?_
      show Steps p.tables e below (T5.setTop (mkF m 49 #[(vr a), (vi 0), un, un, un] [(.int 0), (.int ((sz - (0 : Int32)) / (8 : Int32)))])) t
      exact k
    · rw [if_neg hc41_6] at k
      refine XS.ifYes X5.here hx rfl (pc0 := 41) (pc' := 48) rfl (hb hby d3_41) rfl ((if0 _ _).trans (feq hc41_6).2) (by decide) (by decide) ?_
      show Steps p.tables e below (T5.setTop (mkF m 48 #[(vr a), (vi 0), un, un, un] [(.int ((sz - (0 : Int32)) / (8 : Int32)))])) t
      refine XS.iconst X5.here hx rfl (hb hby d3_48) ?_
      show Steps p.tables e below (T5.setTop (mkF m 49 #[(vr a), (vi 0), un, un, un] [(.int 1), (.int ((sz - (0 : Int32)) / (8 : Int32)))])) t
      exact k
  show OEnds p e below s _ _ _ (T5.setTop (mkF m 49 #[(vr a), (vi 0), un, un, un] [(.int (if ((sz - (0 : Int32)) % (8 : Int32)) = (0 : Int32) then (0 : Int32) else (1 : Int32))), (.int ((sz - (0 : Int32)) / (8 : Int32)))]))
  refine q_iadd 50 X5 hx hby d3_49 rfl ?_
  rw [hnb]
  show OEnds p e below s _ _ _ (T5.setTop (mkF m 50 #[(vr a), (vi 0), un, un, un] [(.int 1)]))
  refine qsiN 51 #[(vr a), (vi 0), (vi 1), un, un] X5 hx hby d3_50 rfl rfl ?_
  refine qaN 52 X5 hx hby d3_51 rfl rfl ?_
  refine qg 55 X5 hx hZ hown (tw12 hw) e5 (O0.fld 1 rfl rfl) hby d3_52 rfl fun T7 X7 e7 => ?_
  refine qn 56 (64 : Int32) X7 hx hZ e7 F_b2 (by decide) hby d3_55 rfl ?_
  refine qaN 57 X7 hx hby d3_56 rfl rfl ?_
  refine qg 60 X7 hx hZ hown (tw34 hw) e7 (O0.fld 9 rfl rfl) hby d3_57 rfl fun T8 X8 e8 => ?_
  refine q_isub 61 X8 hx hby d3_60 rfl ?_
  show OEnds p e below s _ _ _ (T8.setTop (mkF m 61 #[(vr a), (vi 0), (vi 1), un, un] [(.int 64)]))
  refine qc1 62 2 X8 hx hby d3_61 rfl rfl ?_
  refine qiN 63 X8 hx hby d3_62 rfl rfl ?_
  refine q_imul 64 X8 hx hby d3_63 rfl ?_
  show OEnds p e below s _ _ _ (T8.setTop (mkF m 64 #[(vr a), (vi 0), (vi 1), un, un] [(.int 2), (.int 64)]))
  refine q_cmy 96 X8 hx hby d3_64 rfl (flt (by decide : ¬ ((64 : Int32) < (2 : Int32)))).2.1 ?_
  refine qaN 97 X8 hx hby d3_96 rfl rfl ?_
  refine qg 100 X8 hx hZ hown (tw30 hw) e8 (O0.fld 7 rfl rfl) hby d3_97 rfl fun T9 X9 e9 => ?_
  refine qaN 101 X9 hx hby d3_100 rfl rfl ?_
  refine qg 104 X9 hx hZ hown (tw15 hw) e9 (O0.fld 2 rfl rfl) hby d3_101 rfl fun T10 X10 e10 => ?_
  refine qn 105 (16 : Int32) X10 hx hZ e10 F_b3 (by decide) hby d3_104 rfl ?_
  refine q_cmy 159 X10 hx hby d3_105 rfl (feq (by decide : ¬ ((1 : Int32) = (16 : Int32)))).2 ?_
  refine qaN 160 X10 hx hby d3_159 rfl rfl ?_
  refine qg 163 X10 hx hZ hown (tw15 hw) e10 (O0.fld 2 rfl rfl) hby d3_160 rfl fun T11 X11 e11 => ?_
  refine qaN 164 X11 hx hby d3_163 rfl rfl ?_
  refine qg 167 X11 hx hZ hown (tw30 hw) e11 (O0.fld 7 rfl rfl) hby d3_164 rfl fun T12 X12 e12 => ?_
  refine qiN 168 X12 hx hby d3_167 rfl rfl ?_
  obtain ⟨T13, h13, X13, e13, W13, st13⟩ := own_iastore X12 hx hZ e12 F_b3 1 (by decide) (by decide) (g := (mkF m 168 #[(vr a), (vi 0), (vi 1), un, un] [(.int 0), (.int 1), (.ref b3)])) rfl rfl (hb hby d3_168)
  have F13 : FA Z h13 b3 .int 16 (fun i => .int ((updI g3 1 (0 : Int32)) i)) := F_b3.setI W13
  have N13 := Fr.snoc X13 N0 g_b3
  have Z13 := Nat.le_trans Z0 (Keep.of_wr W13).1
  have K13 := K0.wr W13 (wi 2 rfl)
  refine qat 169 #[(vr a), (vi 0), (vi 1), un, un] [] st13 ?_
  refine qaN 170 X13 hx hby d3_169 rfl rfl ?_
  have O15 := (O0.other W13 (o03 hord))
  refine qg 173 X13 hx hZ hown (tw17 hw) e13 (O15.fld 3 rfl rfl) hby d3_170 rfl fun T14 X14 e14 => ?_
  refine qaN 174 X14 hx hby d3_173 rfl rfl ?_
  refine qg 177 X14 hx hZ hown (tw30 hw) e14 (O15.fld 7 rfl rfl) hby d3_174 rfl fun T16 X16 e16 => ?_
  refine qaN 178 X16 hx hby d3_177 rfl rfl ?_
  refine qg 181 X16 hx hZ hown (tw32 hw) e16 (O15.fld 8 rfl rfl) hby d3_178 rfl fun T17 X17 e17 => ?_
  have F19 := (F_b4.other W13 (Ne.symm (o34 hord)))
  obtain ⟨T18, h18, X18, e18, W18, st18⟩ := own_iastore X17 hx hZ e17 F19 1 (by decide) (by decide) (g := (mkF m 181 #[(vr a), (vi 0), (vi 1), un, un] [(.int sz), (.int 1), (.ref b4)])) rfl rfl (hb hby d3_181)
  have F18 : FA Z h18 b4 .int 16 (fun i => .int ((updI g4 1 sz) i)) := F19.setI W18
  have N18 := Fr.snoc X18 N13 g_b4
  have Z18 := Nat.le_trans Z13 (Keep.of_wr W18).1
  have K18 := K13.wr W18 (wi 3 rfl)
  refine qat 182 #[(vr a), (vi 0), (vi 1), un, un] [] st18 ?_
  refine qaN 183 X18 hx hby d3_182 rfl rfl ?_
  have O21 := (O15.other W18 (o04 hord))
  refine qg 186 X18 hx hZ hown (tw19 hw) e18 (O21.fld 4 rfl rfl) hby d3_183 rfl fun T20 X20 e20 => ?_
  refine qaN 187 X20 hx hby d3_186 rfl rfl ?_
  refine qg 190 X20 hx hZ hown (tw30 hw) e20 (O21.fld 7 rfl rfl) hby d3_187 rfl fun T22 X22 e22 => ?_
  refine qaN 191 X22 hx hby d3_190 rfl rfl ?_
  refine qg 194 X22 hx hZ hown (tw34 hw) e22 (O21.fld 9 rfl rfl) hby d3_191 rfl fun T23 X23 e23 => ?_
  have F25 := ((F_b5.other W13 (Ne.symm (o35 hord))).other W18 (Ne.symm (o45 hord)))
  obtain ⟨T24, h24, X24, e24, W24, st24⟩ := own_iastore X23 hx hZ e23 F25 1 (by decide) (by decide) (g := (mkF m 194 #[(vr a), (vi 0), (vi 1), un, un] [(.int 0), (.int 1), (.ref b5)])) rfl rfl (hb hby d3_194)
  have F24 : FA Z h24 b5 .int 16 (fun i => .int ((updI g5 1 (0 : Int32)) i)) := F25.setI W24
  have N24 := Fr.snoc X24 N18 g_b5
  have Z24 := Nat.le_trans Z18 (Keep.of_wr W24).1
  have K24 := K18.wr W24 (wi 4 rfl)
  refine qat 195 #[(vr a), (vi 0), (vi 1), un, un] [] st24 ?_
  refine qaN 196 X24 hx hby d3_195 rfl rfl ?_
  have O27 := (O21.other W24 (o05 hord))
  refine qg 199 X24 hx hZ hown (tw12 hw) e24 (O27.fld 1 rfl rfl) hby d3_196 rfl fun T26 X26 e26 => ?_
  refine qaN 200 X26 hx hby d3_199 rfl rfl ?_
  refine qg 203 X26 hx hZ hown (tw34 hw) e26 (O27.fld 9 rfl rfl) hby d3_200 rfl fun T28 X28 e28 => ?_
  refine qiN 204 X28 hx hby d3_203 rfl rfl ?_
  refine q_iadd 205 X28 hx hby d3_204 rfl ?_
  show OEnds p e below s _ _ _ (T28.setTop (mkF m 205 #[(vr a), (vi 0), (vi 1), un, un] [(.int 1), (.ref b2)]))
  refine qaN 206 X28 hx hby d3_205 rfl rfl ?_
  refine qg 209 X28 hx hZ hown (tw34 hw) e28 (O27.fld 9 rfl rfl) hby d3_206 rfl fun T29 X29 e29 => ?_
  refine qc1 210 2 X29 hx hby d3_209 rfl rfl ?_
  refine qiN 211 X29 hx hby d3_210 rfl rfl ?_
  refine q_imul 212 X29 hx hby d3_211 rfl ?_
  show OEnds p e below s _ _ _ (T29.setTop (mkF m 212 #[(vr a), (vi 0), (vi 1), un, un] [(.int 2), (.int 0), (.int 1), (.ref b2)]))
  refine q_iadd 213 X29 hx hby d3_212 rfl ?_
  show OEnds p e below s _ _ _ (T29.setTop (mkF m 213 #[(vr a), (vi 0), (vi 1), un, un] [(.int 2), (.int 1), (.ref b2)]))
  refine own_by (X29.ldc2Long hx hown (mvT hZ (tw36 hw)) (g := (mkF m 213 #[(vr a), (vi 0), (vi 1), un, un] [(.int 2), (.int 1), (.ref b2)])) rfl (hb hby d3_213)) ?_
  show OEnds p e below s _ _ _ (T29.setTop (mkF m 216 #[(vr a), (vi 0), (vi 1), un, un] [(.long (-9223372036854775808)), (.int 2), (.int 1), (.ref b2)]))
  have F31 := (((F_b2.other W13 (o23 hord)).other W18 (o24 hord)).other W24 (o25 hord))
  obtain ⟨v30, T30, L30, h30, X30, e30, hQ30, st30⟩ := own_callS X29 hx hZ (y := mn4) hown (tw37 hw) (tw38 hw) (tw39 hw) (tw40 hw) (by decide) (rm_fill_1_2 l Z a0 hw [] b2 (-9223372036854775808 : Int64) g2 h24 n0 Z24 F31 g_b2) e29 (g := (mkF m 216 #[(vr a), (vi 0), (vi 1), un, un] [(.long (-9223372036854775808)), (.int 2), (.int 1), (.ref b2)])) rfl (by rw [hml]; rfl) (argsL := [(.ref b2), (.int 1), (.int 2), (.long (-9223372036854775808))]) (rest := []) (lenOf pd_paJIIJrV rfl) rfl (W := 0) (by show 2 * 0 + _ ≤ _; exact Nat.le_of_eq rfl) (hb hby d3_216) (by decide) (by decide) (by decide) (by decide)
  obtain ⟨rfl, Nq30, Kq30, F30_b2⟩ := hQ30
  have N30 := Fr.app N24 Nq30
  have K30 := K24.trans Kq30 (allS (wi 1 rfl) all0)
  have Z30 := Nat.le_trans Z24 Kq30.1
  refine qtr 219 #[(vr a), (vi 0), (vi 1), un, un] [] st30 ?_
  refine qiN 220 X30 hx hby d3_219 rfl rfl ?_
  refine qsiN 221 #[(vr a), (vi 0), (vi 1), (vi 0), un] X30 hx hby d3_220 rfl rfl ?_
  have fin : ∀ (T : State) (lo : List Loc) (iv : Int32) (c2 : Nat → Int64) (ii : Nat) (s4 : Slot) (h_fin : Heap) (Zz_fin : n0 ≤ h_fin.size) (X_fin : Stand p l e ({ frames := 2, cells := 0, slots := 0, locals := 31 } : Room) s m #[(.ref a)] below meth c T lo 0 0) (e_fin : T.heap = h_fin) (N_fin : Fr n0 lo) (Kp_fin : Keep h0 h_fin [a, b2, b3, b4, b5]) (Ob_fin_a : Obj Z h_fin a "com/example/graphweft/graphweft/RangeMaxTree" sch_rt [(.ref b1), (.ref b2), (.ref b3), (.ref b4), (.ref b5), (.ref b6), (.ref b7), (.int 1), (.int sz), (.int 0), (.long bd), (.int ss), (.int bs), (.int bc), (.int pn), (.int se), (.int sa), (.int ta), (.int te)]) (Fa_fin_b1 : FA Z h_fin b1 .long 64 (fun i => .long (g1 i))) (Fa_fin_b2 : FA Z h_fin b2 .long 64 (fun i => .long (c2 i))) (Fa_fin_b3 : FA Z h_fin b3 .int 16 (fun i => .int ((updI g3 1 (0 : Int32)) i))) (Fa_fin_b4 : FA Z h_fin b4 .int 16 (fun i => .int ((updI g4 1 sz) i))) (Fa_fin_b5 : FA Z h_fin b5 .int 16 (fun i => .int ((updI g5 1 (0 : Int32)) i))) (hi : ii = 0 + n) (hMX : ∀ bd, c2 1 < bd → ∀ j, j < 8 → 0 + j < ii → g1 (0 + j) < bd), OEnds p e below s (Q_index2_0_1 Z a b1 b2 b3 b4 b5 b6 b7 sz bd ss bs bc pn se sa ta te g1 g2 g3 g4 g5 n h0 n0) 0 0 (T.setTop (mkF m 273 #[(vr a), (vi 0), (vi 1), (vi iv), s4] [])) := by
    intro T lo iv c2 ii s4 h_fin Zz_fin X_fin e_fin N_fin Kp_fin Ob_fin_a Fa_fin_b1 Fa_fin_b2 Fa_fin_b3 Fa_fin_b4 Fa_fin_b5 hi hMX
    show OEnds p e below s _ _ _ (T.setTop (mkF m 273 #[(vr a), (vi 0), (vi 1), (vi iv), s4] []))
    show OEnds p e below s _ _ _ (T.setTop (mkF m 273 #[(vr a), (vi 0), (vi 1), (vi iv), s4] []))
    refine qiN 274 X_fin hx hby d3_273 rfl rfl ?_
    refine qc1 275 1 X_fin hx hby d3_274 rfl rfl ?_
    refine q_isub 276 X_fin hx hby d3_275 rfl ?_
    show OEnds p e below s _ _ _ (T.setTop (mkF m 276 #[(vr a), (vi 0), (vi 1), (vi iv), s4] [(.int 0)]))
    refine qsiN 277 #[(vr a), (vi 0), (vi 1), (vi 0), s4] X_fin hx hby d3_276 rfl rfl ?_
    refine qiN 278 X_fin hx hby d3_277 rfl rfl ?_
    refine q_ify 329 X_fin hx hby d3_278 rfl ((if0 _ _).trans (flt (by decide : ¬ ((0 : Int32) < (0 : Int32)))).2.2.2) ?_
    refine qaN 330 X_fin hx hby d3_329 rfl rfl ?_
    refine q_dup 331 X_fin hx hby d3_330 rfl rfl ?_
    refine qg 334 X_fin hx hZ hown (tw34 hw) e_fin (Ob_fin_a.fld 9 rfl rfl) hby d3_331 rfl fun T32 X32 e32 => ?_
    refine qc1 335 2 X32 hx hby d3_334 rfl rfl ?_
    refine qiN 336 X32 hx hby d3_335 rfl rfl ?_
    refine q_imul 337 X32 hx hby d3_336 rfl ?_
    show OEnds p e below s _ _ _ (T32.setTop (mkF m 337 #[(vr a), (vi 0), (vi 1), (vi 0), s4] [(.int 2), (.int 0), (.ref a)]))
    refine q_iadd 338 X32 hx hby d3_337 rfl ?_
    show OEnds p e below s _ _ _ (T32.setTop (mkF m 338 #[(vr a), (vi 0), (vi 1), (vi 0), s4] [(.int 2), (.ref a)]))
    obtain ⟨T33, h33, X33, e33, W33, st33⟩ := putF X32 hx hZ hown (host := "") (Or.inl (tw34 hw)) Via.refl e32 (Ob_fin_a.fld 9 rfl rfl) Ob_fin_a.exa (Or.inl (tw35 hw)) (tw2 hw) (ty := .int) (by decide) rfl rfl (g := (mkF m 338 #[(vr a), (vi 0), (vi 1), (vi 0), s4] [(.int 2), (.ref a)])) rfl rfl (hb hby d3_338)
    have O33 : Obj Z h33 a "com/example/graphweft/graphweft/RangeMaxTree" sch_rt [(.ref b1), (.ref b2), (.ref b3), (.ref b4), (.ref b5), (.ref b6), (.ref b7), (.int 1), (.int sz), (.int 2), (.long bd), (.int ss), (.int bs), (.int bc), (.int pn), (.int se), (.int sa), (.int ta), (.int te)] := Ob_fin_a.set (so_sch_rt hw) W33 9 rfl (Nat.le_of_ble_eq_true rfl)
    have N33 := Fr.snoc X33 N_fin g_a
    have Z33 := Nat.le_trans Zz_fin (Keep.of_wr W33).1
    have K33 := Kp_fin.wr W33 (wi 0 rfl)
    refine qat 341 #[(vr a), (vi 0), (vi 1), (vi 0), s4] [] st33 ?_
    refine qaN 342 X33 hx hby d3_341 rfl rfl ?_
    refine q_dup 343 X33 hx hby d3_342 rfl rfl ?_
    refine qg 346 X33 hx hZ hown (tw30 hw) e33 (O33.fld 7 rfl rfl) hby d3_343 rfl fun T34 X34 e34 => ?_
    refine own_by (fun _ k => XS.dupX1 X34.here hx rfl (hb hby d3_346) rfl rfl rfl k) ?_
    show OEnds p e below s _ _ _ (T34.setTop (mkF m 347 #[(vr a), (vi 0), (vi 1), (vi 0), s4] [(.int 1), (.ref a), (.int 1)]))
    refine qc1 348 1 X34 hx hby d3_347 rfl rfl ?_
    refine q_iadd 349 X34 hx hby d3_348 rfl ?_
    show OEnds p e below s _ _ _ (T34.setTop (mkF m 349 #[(vr a), (vi 0), (vi 1), (vi 0), s4] [(.int 2), (.ref a), (.int 1)]))
    obtain ⟨T35, h35, X35, e35, W35, st35⟩ := putF X34 hx hZ hown (host := "") (Or.inl (tw30 hw)) Via.refl e34 (O33.fld 7 rfl rfl) O33.exa (Or.inl (tw31 hw)) (tw2 hw) (ty := .int) (by decide) rfl rfl (g := (mkF m 349 #[(vr a), (vi 0), (vi 1), (vi 0), s4] [(.int 2), (.ref a), (.int 1)])) rfl rfl (hb hby d3_349)
    have O35 : Obj Z h35 a "com/example/graphweft/graphweft/RangeMaxTree" sch_rt [(.ref b1), (.ref b2), (.ref b3), (.ref b4), (.ref b5), (.ref b6), (.ref b7), (.int 2), (.int sz), (.int 2), (.long bd), (.int ss), (.int bs), (.int bc), (.int pn), (.int se), (.int sa), (.int ta), (.int te)] := O33.set (so_sch_rt hw) W35 7 rfl (Nat.le_of_ble_eq_true rfl)
    have N35 := Fr.snoc X35 N33 g_a
    have Z35 := Nat.le_trans Z33 (Keep.of_wr W35).1
    have K35 := K33.wr W35 (wi 0 rfl)
    refine qat 352 #[(vr a), (vi 0), (vi 1), (vi 0), s4] [(.int 1)] st35 ?_
    have hfin : ∀ bd, c2 1 < bd → ∀ j, j < 8 → j < n → g1 (0 + j) < bd := by exact fun bd hb j hj hjn => hMX bd hb j hj (by omega)
    have F36 := ((Fa_fin_b2.other W33 (Ne.symm (o02 hord))).other W35 (Ne.symm (o02 hord)))
    have F37 := ((Fa_fin_b3.other W33 (Ne.symm (o03 hord))).other W35 (Ne.symm (o03 hord)))
    have F38 := ((Fa_fin_b4.other W33 (Ne.symm (o04 hord))).other W35 (Ne.symm (o04 hord)))
    have F39 := ((Fa_fin_b5.other W33 (Ne.symm (o05 hord))).other W35 (Ne.symm (o05 hord)))
    exact own_retI X35 hx hlk Bd.returns (hb hby d3_352) (by rw [e35]; exact ⟨rfl, N35, K35, _, hfin, O35, F36, F37, F38, F39⟩) (by decide) (by decide)
  have lp : ∀ (dd : Nat) (T : State) (lo : List Loc) (iv : Int32) (d4 : Int32) (c2 : Nat → Int64) (ii : Nat) (h_lp : Heap) (Zz_lp : n0 ≤ h_lp.size) (X_lp : Stand p l e ({ frames := 2, cells := 0, slots := 0, locals := 31 } : Room) s m #[(.ref a)] below meth c T lo 0 0) (e_lp : T.heap = h_lp) (N_lp : Fr n0 lo) (Kp_lp : Keep h0 h_lp [a, b2, b3, b4, b5]) (Ob_lp_a : Obj Z h_lp a "com/example/graphweft/graphweft/RangeMaxTree" sch_rt [(.ref b1), (.ref b2), (.ref b3), (.ref b4), (.ref b5), (.ref b6), (.ref b7), (.int 1), (.int sz), (.int 0), (.long bd), (.int ss), (.int bs), (.int bc), (.int pn), (.int se), (.int sa), (.int ta), (.int te)]) (Fa_lp_b1 : FA Z h_lp b1 .long 64 (fun i => .long (g1 i))) (Fa_lp_b2 : FA Z h_lp b2 .long 64 (fun i => .long (c2 i))) (Fa_lp_b3 : FA Z h_lp b3 .int 16 (fun i => .int ((updI g3 1 (0 : Int32)) i))) (Fa_lp_b4 : FA Z h_lp b4 .int 16 (fun i => .int ((updI g4 1 sz) i))) (Fa_lp_b5 : FA Z h_lp b5 .int 16 (fun i => .int ((updI g5 1 (0 : Int32)) i))) (hiv : iv.toInt = (ii : Int)) (hid : ii + dd = 0 + n) (hip : 0 ≤ ii) (hMX : ∀ bd, c2 1 < bd → ∀ j, j < 8 → 0 + j < ii → g1 (0 + j) < bd), OEnds p e below s (Q_index2_0_1 Z a b1 b2 b3 b4 b5 b6 b7 sz bd ss bs bc pn se sa ta te g1 g2 g3 g4 g5 n h0 n0) 0 0 (T.setTop (mkF m 221 #[(vr a), (vi 0), (vi 1), (vi iv), (vi d4)] [])) := by
    intro dd
    induction dd with
    | zero =>
      intro T lo iv d4 c2 ii h_lp Zz_lp X_lp e_lp N_lp Kp_lp Ob_lp_a Fa_lp_b1 Fa_lp_b2 Fa_lp_b3 Fa_lp_b4 Fa_lp_b5 hiv hid hip hMX
      show OEnds p e below s _ _ _ (T.setTop (mkF m 221 #[(vr a), (vi 0), (vi 1), (vi iv), (vi d4)] []))
      refine qiN 222 X_lp hx hby d3_221 rfl rfl ?_
      refine qaN 223 X_lp hx hby d3_222 rfl rfl ?_
      refine qg 226 X_lp hx hZ hown (tw32 hw) e_lp (Ob_lp_a.fld 8 rfl rfl) hby d3_223 rfl fun T40 X40 e40 => ?_
      refine q_cmy 273 X40 hx hby d3_226 rfl (flt (nlt_i hiv hsz (by omega))).2.1 ?_
      exact fin T40 _ iv c2 ii ((vi d4)) h_lp Zz_lp X40 e40 N_lp Kp_lp Ob_lp_a Fa_lp_b1 Fa_lp_b2 Fa_lp_b3 Fa_lp_b4 Fa_lp_b5 (by omega) hMX
    | succ dd ih_lp =>
      intro T lo iv d4 c2 ii h_lp Zz_lp X_lp e_lp N_lp Kp_lp Ob_lp_a Fa_lp_b1 Fa_lp_b2 Fa_lp_b3 Fa_lp_b4 Fa_lp_b5 hiv hid hip hMX
      show OEnds p e below s _ _ _ (T.setTop (mkF m 221 #[(vr a), (vi 0), (vi 1), (vi iv), (vi d4)] []))
      have hlt0 : ii < 0 + n := by omega
      show OEnds p e below s _ _ _ (T.setTop (mkF m 221 #[(vr a), (vi 0), (vi 1), (vi iv), (vi d4)] []))
      refine qiN 222 X_lp hx hby d3_221 rfl rfl ?_
      refine qaN 223 X_lp hx hby d3_222 rfl rfl ?_
      refine qg 226 X_lp hx hZ hown (tw32 hw) e_lp (Ob_lp_a.fld 8 rfl rfl) hby d3_223 rfl fun T41 X41 e41 => ?_
      refine q_cmn 229 X41 hx hby d3_226 rfl (tlt (lt_of_i hiv hsz hlt0)).2.1 ?_
      refine qaN 230 X41 hx hby d3_229 rfl rfl ?_
      refine qg 233 X41 hx hZ hown (tw34 hw) e41 (Ob_lp_a.fld 9 rfl rfl) hby d3_230 rfl fun T42 X42 e42 => ?_
      refine qiN 234 X42 hx hby d3_233 rfl rfl ?_
      refine q_iadd 235 X42 hx hby d3_234 rfl ?_
      show OEnds p e below s _ _ _ (T42.setTop (mkF m 235 #[(vr a), (vi 0), (vi 1), (vi iv), (vi d4)] [(.int 1)]))
      refine qiN 236 X42 hx hby d3_235 rfl rfl ?_
      refine qiN 237 X42 hx hby d3_236 rfl rfl ?_
      refine q_isub 238 X42 hx hby d3_237 rfl ?_
      refine qc2 240 8 X42 hx hby d3_238 rfl rfl ?_
      refine q_idiv 241 X42 hx hby d3_240 rfl (by decide) ?_
      refine q_iadd 242 X42 hx hby d3_241 rfl ?_
      refine qsi 244 #[(vr a), (vi 0), (vi 1), (vi iv), (vi ((1 : Int32) + ((iv - (0 : Int32)) / (8 : Int32))))] X42 hx hby d3_242 rfl rfl ?_
      refine qaN 245 X42 hx hby d3_244 rfl rfl ?_
      refine qg 248 X42 hx hZ hown (tw12 hw) e42 (Ob_lp_a.fld 1 rfl rfl) hby d3_245 rfl fun T43 X43 e43 => ?_
      refine qi 250 X43 hx hby d3_248 rfl rfl ?_
      refine qaN 251 X43 hx hby d3_250 rfl rfl ?_
      refine qg 254 X43 hx hZ hown (tw12 hw) e43 (Ob_lp_a.fld 1 rfl rfl) hby d3_251 rfl fun T44 X44 e44 => ?_
      refine qi 256 X44 hx hby d3_254 rfl rfl ?_
      refine qJ 257 X44 hx hZ e44 Fa_lp_b2 (1 + (ii - 0) / 8) (ix_i (p := 0) hiv hip (by omega) (by decide)) (by omega) (v := (.long (c2 (1 + (ii - 0) / 8)))) rfl hby d3_256 rfl ?_
      refine qaN 258 X44 hx hby d3_257 rfl rfl ?_
      refine qg 261 X44 hx hZ hown (tw10 hw) e44 (Ob_lp_a.fld 0 rfl rfl) hby d3_258 rfl fun T45 X45 e45 => ?_
      refine qiN 262 X45 hx hby d3_261 rfl rfl ?_
      refine qJ 263 X45 hx hZ e45 Fa_lp_b1 ii hiv (by omega) (v := (.long (g1 ii))) rfl hby d3_262 rfl ?_
      obtain ⟨T46, X46, e46, st46⟩ := own_callP X45 hx hZ (y := mn0) hown (tw81 hw) (tw82 hw) (tw83 hw) (tw84 hw) (by decide) (rm_jmax l Z a0 hw [] (c2 (1 + (ii - 0) / 8)) (g1 ii) h_lp) e45 (g := (mkF m 263 #[(vr a), (vi 0), (vi 1), (vi iv), (vi ((1 : Int32) + ((iv - (0 : Int32)) / (8 : Int32))))] [(.long (g1 ii)), (.long (c2 (1 + (ii - 0) / 8))), (.int ((1 : Int32) + ((iv - (0 : Int32)) / (8 : Int32)))), (.ref b2)])) rfl (by rw [hml]; rfl) (argsL := [(.long (c2 (1 + (ii - 0) / 8))), (.long (g1 ii))]) (rest := [(.int ((1 : Int32) + ((iv - (0 : Int32)) / (8 : Int32)))), (.ref b2)]) (lenOf pd_pJJrJ rfl) rfl (W := 2) (by show 2 * 0 + _ ≤ _; exact Nat.le_of_eq rfl) (hb hby d3_263) (by decide) (by decide) (by decide) (by decide)
      refine qat 266 #[(vr a), (vi 0), (vi 1), (vi iv), (vi ((1 : Int32) + ((iv - (0 : Int32)) / (8 : Int32))))] [(.long (jmax (c2 (1 + (ii - 0) / 8)) (g1 ii))), (.int ((1 : Int32) + ((iv - (0 : Int32)) / (8 : Int32)))), (.ref b2)] st46 ?_
      obtain ⟨T47, h47, X47, e47, W47, st47⟩ := own_lastore X46 hx hZ e46 Fa_lp_b2 (1 + (ii - 0) / 8) (ix_i (p := 0) hiv hip (by omega) (by decide)) (by omega) (g := (mkF m 266 #[(vr a), (vi 0), (vi 1), (vi iv), (vi ((1 : Int32) + ((iv - (0 : Int32)) / (8 : Int32))))] [(.long (jmax (c2 (1 + (ii - 0) / 8)) (g1 ii))), (.int ((1 : Int32) + ((iv - (0 : Int32)) / (8 : Int32)))), (.ref b2)])) rfl rfl (hb hby d3_266)
      have F47 : FA Z h47 b2 .long 64 (fun i => .long ((updL c2 (1 + (ii - 0) / 8) (jmax (c2 (1 + (ii - 0) / 8)) (g1 ii))) i)) := Fa_lp_b2.setL W47
      obtain ⟨f47, ef47⟩ : ∃ fz_ : Nat → Int64, fz_ = (updL c2 (1 + (ii - 0) / 8) (jmax (c2 (1 + (ii - 0) / 8)) (g1 ii))) := ⟨_, rfl⟩
      rw [← ef47] at F47
      have N47 := Fr.snoc X47 N_lp g_b2
      have Z47 := Nat.le_trans Zz_lp (Keep.of_wr W47).1
      have K47 := Kp_lp.wr W47 (wi 1 rfl)
      refine qat 267 #[(vr a), (vi 0), (vi 1), (vi iv), (vi ((1 : Int32) + ((iv - (0 : Int32)) / (8 : Int32))))] [] st47 ?_
      refine q_inc 270 #[(vr a), (vi 0), (vi 1), (vi (iv + (1 : Int32))), (vi ((1 : Int32) + ((iv - (0 : Int32)) / (8 : Int32))))] X47 hx hby d3_267 rfl rfl rfl ?_
      refine q_goto 221 X47 hx hby d3_270 rfl ?_
      have O48 := (Ob_lp_a.other W47 (o02 hord))
      have F49 := (Fa_lp_b1.other W47 (o12 hord))
      have F50 := (Fa_lp_b3.other W47 (Ne.symm (o23 hord)))
      have F51 := (Fa_lp_b4.other W47 (Ne.symm (o24 hord)))
      have F52 := (Fa_lp_b5.other W47 (Ne.symm (o25 hord)))
      exact ih_lp T47 _ (iv + (1 : Int32)) ((1 : Int32) + ((iv - (0 : Int32)) / (8 : Int32))) _ (ii + 1) h47 Z47 X47 e47 N47 K47 O48 F49 F47 F50 F51 F52 (inc_i hiv (by omega)) (by omega) (by omega) (by subst ef47; exact mx_step hMX hip)
  have lpU : ∀ (dd : Nat) (T : State) (lo : List Loc) (iv : Int32) (c2 : Nat → Int64) (ii : Nat) (h_lpU : Heap) (Zz_lpU : n0 ≤ h_lpU.size) (X_lpU : Stand p l e ({ frames := 2, cells := 0, slots := 0, locals := 31 } : Room) s m #[(.ref a)] below meth c T lo 0 0) (e_lpU : T.heap = h_lpU) (N_lpU : Fr n0 lo) (Kp_lpU : Keep h0 h_lpU [a, b2, b3, b4, b5]) (Ob_lpU_a : Obj Z h_lpU a "com/example/graphweft/graphweft/RangeMaxTree" sch_rt [(.ref b1), (.ref b2), (.ref b3), (.ref b4), (.ref b5), (.ref b6), (.ref b7), (.int 1), (.int sz), (.int 0), (.long bd), (.int ss), (.int bs), (.int bc), (.int pn), (.int se), (.int sa), (.int ta), (.int te)]) (Fa_lpU_b1 : FA Z h_lpU b1 .long 64 (fun i => .long (g1 i))) (Fa_lpU_b2 : FA Z h_lpU b2 .long 64 (fun i => .long (c2 i))) (Fa_lpU_b3 : FA Z h_lpU b3 .int 16 (fun i => .int ((updI g3 1 (0 : Int32)) i))) (Fa_lpU_b4 : FA Z h_lpU b4 .int 16 (fun i => .int ((updI g4 1 sz) i))) (Fa_lpU_b5 : FA Z h_lpU b5 .int 16 (fun i => .int ((updI g5 1 (0 : Int32)) i))) (hiv : iv.toInt = (ii : Int)) (hid : ii + dd = 0 + n) (hip : 0 ≤ ii) (hMX : ∀ bd, c2 1 < bd → ∀ j, j < 8 → 0 + j < ii → g1 (0 + j) < bd), OEnds p e below s (Q_index2_0_1 Z a b1 b2 b3 b4 b5 b6 b7 sz bd ss bs bc pn se sa ta te g1 g2 g3 g4 g5 n h0 n0) 0 0 (T.setTop (mkF m 221 #[(vr a), (vi 0), (vi 1), (vi iv), un] [])) := by
    intro dd
    induction dd with
    | zero =>
      intro T lo iv c2 ii h_lpU Zz_lpU X_lpU e_lpU N_lpU Kp_lpU Ob_lpU_a Fa_lpU_b1 Fa_lpU_b2 Fa_lpU_b3 Fa_lpU_b4 Fa_lpU_b5 hiv hid hip hMX
      show OEnds p e below s _ _ _ (T.setTop (mkF m 221 #[(vr a), (vi 0), (vi 1), (vi iv), un] []))
      refine qiN 222 X_lpU hx hby d3_221 rfl rfl ?_
      refine qaN 223 X_lpU hx hby d3_222 rfl rfl ?_
      refine qg 226 X_lpU hx hZ hown (tw32 hw) e_lpU (Ob_lpU_a.fld 8 rfl rfl) hby d3_223 rfl fun T53 X53 e53 => ?_
      refine q_cmy 273 X53 hx hby d3_226 rfl (flt (nlt_i hiv hsz (by omega))).2.1 ?_
      exact fin T53 _ iv c2 ii (.unset) h_lpU Zz_lpU X53 e53 N_lpU Kp_lpU Ob_lpU_a Fa_lpU_b1 Fa_lpU_b2 Fa_lpU_b3 Fa_lpU_b4 Fa_lpU_b5 (by omega) hMX
    | succ dd ih_lpU =>
      intro T lo iv c2 ii h_lpU Zz_lpU X_lpU e_lpU N_lpU Kp_lpU Ob_lpU_a Fa_lpU_b1 Fa_lpU_b2 Fa_lpU_b3 Fa_lpU_b4 Fa_lpU_b5 hiv hid hip hMX
      show OEnds p e below s _ _ _ (T.setTop (mkF m 221 #[(vr a), (vi 0), (vi 1), (vi iv), un] []))
      have hlt0 : ii < 0 + n := by omega
      show OEnds p e below s _ _ _ (T.setTop (mkF m 221 #[(vr a), (vi 0), (vi 1), (vi iv), un] []))
      refine qiN 222 X_lpU hx hby d3_221 rfl rfl ?_
      refine qaN 223 X_lpU hx hby d3_222 rfl rfl ?_
      refine qg 226 X_lpU hx hZ hown (tw32 hw) e_lpU (Ob_lpU_a.fld 8 rfl rfl) hby d3_223 rfl fun T54 X54 e54 => ?_
      refine q_cmn 229 X54 hx hby d3_226 rfl (tlt (lt_of_i hiv hsz hlt0)).2.1 ?_
      refine qaN 230 X54 hx hby d3_229 rfl rfl ?_
      refine qg 233 X54 hx hZ hown (tw34 hw) e54 (Ob_lpU_a.fld 9 rfl rfl) hby d3_230 rfl fun T55 X55 e55 => ?_
      refine qiN 234 X55 hx hby d3_233 rfl rfl ?_
      refine q_iadd 235 X55 hx hby d3_234 rfl ?_
      show OEnds p e below s _ _ _ (T55.setTop (mkF m 235 #[(vr a), (vi 0), (vi 1), (vi iv), un] [(.int 1)]))
      refine qiN 236 X55 hx hby d3_235 rfl rfl ?_
      refine qiN 237 X55 hx hby d3_236 rfl rfl ?_
      refine q_isub 238 X55 hx hby d3_237 rfl ?_
      refine qc2 240 8 X55 hx hby d3_238 rfl rfl ?_
      refine q_idiv 241 X55 hx hby d3_240 rfl (by decide) ?_
      refine q_iadd 242 X55 hx hby d3_241 rfl ?_
      refine qsi 244 #[(vr a), (vi 0), (vi 1), (vi iv), (vi ((1 : Int32) + ((iv - (0 : Int32)) / (8 : Int32))))] X55 hx hby d3_242 rfl rfl ?_
      refine qaN 245 X55 hx hby d3_244 rfl rfl ?_
      refine qg 248 X55 hx hZ hown (tw12 hw) e55 (Ob_lpU_a.fld 1 rfl rfl) hby d3_245 rfl fun T56 X56 e56 => ?_
      refine qi 250 X56 hx hby d3_248 rfl rfl ?_
      refine qaN 251 X56 hx hby d3_250 rfl rfl ?_
      refine qg 254 X56 hx hZ hown (tw12 hw) e56 (Ob_lpU_a.fld 1 rfl rfl) hby d3_251 rfl fun T57 X57 e57 => ?_
      refine qi 256 X57 hx hby d3_254 rfl rfl ?_
      refine qJ 257 X57 hx hZ e57 Fa_lpU_b2 (1 + (ii - 0) / 8) (ix_i (p := 0) hiv hip (by omega) (by decide)) (by omega) (v := (.long (c2 (1 + (ii - 0) / 8)))) rfl hby d3_256 rfl ?_
      refine qaN 258 X57 hx hby d3_257 rfl rfl ?_
      refine qg 261 X57 hx hZ hown (tw10 hw) e57 (Ob_lpU_a.fld 0 rfl rfl) hby d3_258 rfl fun T58 X58 e58 => ?_
      refine qiN 262 X58 hx hby d3_261 rfl rfl ?_
      refine qJ 263 X58 hx hZ e58 Fa_lpU_b1 ii hiv (by omega) (v := (.long (g1 ii))) rfl hby d3_262 rfl ?_
      obtain ⟨T59, X59, e59, st59⟩ := own_callP X58 hx hZ (y := mn0) hown (tw81 hw) (tw82 hw) (tw83 hw) (tw84 hw) (by decide) (rm_jmax l Z a0 hw [] (c2 (1 + (ii - 0) / 8)) (g1 ii) h_lpU) e58 (g := (mkF m 263 #[(vr a), (vi 0), (vi 1), (vi iv), (vi ((1 : Int32) + ((iv - (0 : Int32)) / (8 : Int32))))] [(.long (g1 ii)), (.long (c2 (1 + (ii - 0) / 8))), (.int ((1 : Int32) + ((iv - (0 : Int32)) / (8 : Int32)))), (.ref b2)])) rfl (by rw [hml]; rfl) (argsL := [(.long (c2 (1 + (ii - 0) / 8))), (.long (g1 ii))]) (rest := [(.int ((1 : Int32) + ((iv - (0 : Int32)) / (8 : Int32)))), (.ref b2)]) (lenOf pd_pJJrJ rfl) rfl (W := 2) (by show 2 * 0 + _ ≤ _; exact Nat.le_of_eq rfl) (hb hby d3_263) (by decide) (by decide) (by decide) (by decide)
      refine qat 266 #[(vr a), (vi 0), (vi 1), (vi iv), (vi ((1 : Int32) + ((iv - (0 : Int32)) / (8 : Int32))))] [(.long (jmax (c2 (1 + (ii - 0) / 8)) (g1 ii))), (.int ((1 : Int32) + ((iv - (0 : Int32)) / (8 : Int32)))), (.ref b2)] st59 ?_
      obtain ⟨T60, h60, X60, e60, W60, st60⟩ := own_lastore X59 hx hZ e59 Fa_lpU_b2 (1 + (ii - 0) / 8) (ix_i (p := 0) hiv hip (by omega) (by decide)) (by omega) (g := (mkF m 266 #[(vr a), (vi 0), (vi 1), (vi iv), (vi ((1 : Int32) + ((iv - (0 : Int32)) / (8 : Int32))))] [(.long (jmax (c2 (1 + (ii - 0) / 8)) (g1 ii))), (.int ((1 : Int32) + ((iv - (0 : Int32)) / (8 : Int32)))), (.ref b2)])) rfl rfl (hb hby d3_266)
      have F60 : FA Z h60 b2 .long 64 (fun i => .long ((updL c2 (1 + (ii - 0) / 8) (jmax (c2 (1 + (ii - 0) / 8)) (g1 ii))) i)) := Fa_lpU_b2.setL W60
      obtain ⟨f60, ef60⟩ : ∃ fz_ : Nat → Int64, fz_ = (updL c2 (1 + (ii - 0) / 8) (jmax (c2 (1 + (ii - 0) / 8)) (g1 ii))) := ⟨_, rfl⟩
      rw [← ef60] at F60
      have N60 := Fr.snoc X60 N_lpU g_b2
      have Z60 := Nat.le_trans Zz_lpU (Keep.of_wr W60).1
      have K60 := Kp_lpU.wr W60 (wi 1 rfl)
      refine qat 267 #[(vr a), (vi 0), (vi 1), (vi iv), (vi ((1 : Int32) + ((iv - (0 : Int32)) / (8 : Int32))))] [] st60 ?_
      refine q_inc 270 #[(vr a), (vi 0), (vi 1), (vi (iv + (1 : Int32))), (vi ((1 : Int32) + ((iv - (0 : Int32)) / (8 : Int32))))] X60 hx hby d3_267 rfl rfl rfl ?_
      refine q_goto 221 X60 hx hby d3_270 rfl ?_
      have O61 := (Ob_lpU_a.other W60 (o02 hord))
      have F62 := (Fa_lpU_b1.other W60 (o12 hord))
      have F63 := (Fa_lpU_b3.other W60 (Ne.symm (o23 hord)))
      have F64 := (Fa_lpU_b4.other W60 (Ne.symm (o24 hord)))
      have F65 := (Fa_lpU_b5.other W60 (Ne.symm (o25 hord)))
      exact lp dd T60 _ (iv + (1 : Int32)) ((1 : Int32) + ((iv - (0 : Int32)) / (8 : Int32))) _ (ii + 1) h60 Z60 X60 e60 N60 K60 O61 F62 F60 F63 F64 F65 (inc_i hiv (by omega)) (by omega) (by omega) (by subst ef60; exact mx_step hMX hip)
  have O66 := (O27.keep Kq30 (ninS (o02 hord) nin0))
  have F67 := ((((F_b1.other W13 (o13 hord)).other W18 (o14 hord)).other W24 (o15 hord)).keep Kq30 (ninS (o12 hord) nin0))
  have F68 := (((F13.other W18 (o34 hord)).other W24 (o35 hord)).keep Kq30 (ninS (Ne.symm (o23 hord)) nin0))
  have F69 := ((F18.other W24 (o45 hord)).keep Kq30 (ninS (Ne.symm (o24 hord)) nin0))
  have F70 := (F24.keep Kq30 (ninS (Ne.symm (o25 hord)) nin0))
  exact lpU n T30 _ (0 : Int32) _ 0 h30 Z30 X30 e30 N30 K30 O66 F67 F30_b2 F68 F69 F70 (by decide) rfl (Nat.le_refl _) (fun _ _ j _ hj => absurd hj (by omega))
theorem d3_281 : decode prog_32_method_5_code 281 = .ok (.aload_n 0, 1) := by decide +kernel
theorem d3_282 : decode prog_32_method_5_code 282 = .ok (.getfield 13, 3) := by decide +kernel
theorem d3_285 : decode prog_32_method_5_code 285 = .ok (.aload_n 0, 1) := by decide +kernel
theorem d3_286 : decode prog_32_method_5_code 286 = .ok (.getfield 36, 3) := by decide +kernel
theorem d3_289 : decode prog_32_method_5_code 289 = .ok (.iload_n 3, 1) := by decide +kernel
theorem d3_290 : decode prog_32_method_5_code 290 = .ok (.iadd, 1) := by decide +kernel
theorem d3_291 : decode prog_32_method_5_code 291 = .ok (.aload_n 0, 1) := by decide +kernel
theorem d3_292 : decode prog_32_method_5_code 292 = .ok (.getfield 13, 3) := by decide +kernel
theorem d3_295 : decode prog_32_method_5_code 295 = .ok (.aload_n 0, 1) := by decide +kernel
theorem d3_296 : decode prog_32_method_5_code 296 = .ok (.getfield 36, 3) := by decide +kernel
theorem d3_299 : decode prog_32_method_5_code 299 = .ok (.iconst 2, 1) := by decide +kernel
theorem d3_300 : decode prog_32_method_5_code 300 = .ok (.iload_n 3, 1) := by decide +kernel
theorem d3_301 : decode prog_32_method_5_code 301 = .ok (.imul, 1) := by decide +kernel
theorem d3_302 : decode prog_32_method_5_code 302 = .ok (.iadd, 1) := by decide +kernel
theorem d3_303 : decode prog_32_method_5_code 303 = .ok (.laload, 1) := by decide +kernel
theorem d3_304 : decode prog_32_method_5_code 304 = .ok (.aload_n 0, 1) := by decide +kernel
theorem d3_305 : decode prog_32_method_5_code 305 = .ok (.getfield 13, 3) := by decide +kernel
theorem d3_308 : decode prog_32_method_5_code 308 = .ok (.aload_n 0, 1) := by decide +kernel
theorem d3_309 : decode prog_32_method_5_code 309 = .ok (.getfield 36, 3) := by decide +kernel
theorem d3_312 : decode prog_32_method_5_code 312 = .ok (.iconst 2, 1) := by decide +kernel
theorem d3_313 : decode prog_32_method_5_code 313 = .ok (.iload_n 3, 1) := by decide +kernel
theorem d3_314 : decode prog_32_method_5_code 314 = .ok (.imul, 1) := by decide +kernel
theorem d3_315 : decode prog_32_method_5_code 315 = .ok (.iadd, 1) := by decide +kernel
theorem d3_316 : decode prog_32_method_5_code 316 = .ok (.iconst 1, 1) := by decide +kernel
theorem d3_317 : decode prog_32_method_5_code 317 = .ok (.iadd, 1) := by decide +kernel
theorem d3_318 : decode prog_32_method_5_code 318 = .ok (.laload, 1) := by decide +kernel
theorem d3_319 : decode prog_32_method_5_code 319 = .ok (.invokestatic 80, 3) := by decide +kernel
theorem d3_322 : decode prog_32_method_5_code 322 = .ok (.lastore, 1) := by decide +kernel
theorem d3_323 : decode prog_32_method_5_code 323 = .ok (.iinc 3 (-1), 3) := by decide +kernel
theorem d3_326 : decode prog_32_method_5_code 326 = .ok (.goto (-49), 3) := by decide +kernel
def Q_index2_0_2 (Z : State) (a : Addr) (b1 : Addr) (b2 : Addr) (b3 : Addr) (b4 : Addr) (b5 : Addr) (b6 : Addr) (b7 : Addr) (sz : Int32) (bd : Int64) (ss : Int32) (bs : Int32) (bc : Int32) (pn : Int32) (se : Int32) (sa : Int32) (ta : Int32) (te : Int32) (g1 : Nat → Int64) (g2 : Nat → Int64) (g3 : Nat → Int32) (g4 : Nat → Int32) (g5 : Nat → Int32) (n : Nat) (h0 : Heap) (n0 : Nat) (r : Option Value) (h : Heap) (L : List Loc) : Prop := r = some (.int 1) ∧ Fr n0 L ∧ Keep h0 h [a, b2, b3, b4, b5] ∧ ∃ c2 : Nat → Int64, (∀ bd, c2 2 < bd → ∀ j, j < 8 → j < n → g1 (0 + j) < bd) ∧ Obj Z h a "com/example/graphweft/graphweft/RangeMaxTree" sch_rt [(.ref b1), (.ref b2), (.ref b3), (.ref b4), (.ref b5), (.ref b6), (.ref b7), (.int 2), (.int sz), (.int 4), (.long bd), (.int ss), (.int bs), (.int bc), (.int pn), (.int se), (.int sa), (.int ta), (.int te)] ∧ FA Z h b2 .long 64 (fun i => .long (c2 i)) ∧ FA Z h b3 .int 16 (fun i => .int ((updI g3 1 (0 : Int32)) i)) ∧ FA Z h b4 .int 16 (fun i => .int ((updI g4 1 sz) i)) ∧ FA Z h b5 .int 16 (fun i => .int ((updI g5 1 (0 : Int32)) i))
set_option maxRecDepth 65536 in
set_option maxHeartbeats 40000000 in
theorem rm_index2_0_2 (l : Launch) (Z : State) (a0 : Array Value) (hw : ∀ d ∈ tables_1, d.before a0 Z = true) (ws : List Jvm.Cond) (a : Addr) (b1 : Addr) (b2 : Addr) (b3 : Addr) (b4 : Addr) (b5 : Addr) (b6 : Addr) (b7 : Addr) (sz : Int32) (bd : Int64) (ss : Int32) (bs : Int32) (bc : Int32) (pn : Int32) (se : Int32) (sa : Int32) (ta : Int32) (te : Int32) (g1 : Nat → Int64) (g2 : Nat → Int64) (g3 : Nat → Int32) (g4 : Nat → Int32) (g5 : Nat → Int32) (n : Nat) (h0 : Heap) (n0 : Nat) (Z0 : n0 ≤ h0.size) (O0 : Obj Z h0 a "com/example/graphweft/graphweft/RangeMaxTree" sch_rt [(.ref b1), (.ref b2), (.ref b3), (.ref b4), (.ref b5), (.ref b6), (.ref b7), (.int 1), (.int sz), (.int 0), (.long bd), (.int ss), (.int bs), (.int bc), (.int pn), (.int se), (.int sa), (.int ta), (.int te)]) (F_b1 : FA Z h0 b1 .long 64 (fun i => .long (g1 i))) (F_b2 : FA Z h0 b2 .long 64 (fun i => .long (g2 i))) (F_b3 : FA Z h0 b3 .int 16 (fun i => .int (g3 i))) (F_b4 : FA Z h0 b4 .int 16 (fun i => .int (g4 i))) (F_b5 : FA Z h0 b5 .int 16 (fun i => .int (g5 i))) (g_a : n0 ≤ a) (g_b2 : n0 ≤ b2) (g_b3 : n0 ≤ b3) (g_b4 : n0 ≤ b4) (g_b5 : n0 ≤ b5) (hord : @LT.lt Nat instLTNat a b1 ∧ @LT.lt Nat instLTNat b1 b2 ∧ @LT.lt Nat instLTNat b2 b3 ∧ @LT.lt Nat instLTNat b3 b4 ∧ @LT.lt Nat instLTNat b4 b5 ∧ @LT.lt Nat instLTNat b5 b6 ∧ @LT.lt Nat instLTNat b6 b7) (he : g4 0 = (0 : Int32)) (hsz : sz.toInt = ((0 + n : Nat) : Int)) (hn9 : n ≤ 9) (hnb : ((((sz - (0 : Int32)) / (8 : Int32))) + (if ((sz - (0 : Int32)) % (8 : Int32)) = (0 : Int32) then (0 : Int32) else (1 : Int32))) = (2 : Int32)) :
    MetFree l mn5 (head1 (Jvm.Cond.code mn5 prog_32_method_5_code 5 (some .int) :: ws) ({ frames := 2, cells := 0, slots := 0, locals := 31 } : Room)) (fun a_ U => a_ = #[(.ref a)] ∧ Z.Warmed39 U.vm ∧ U.heap = h0) (fun _ _ _ _ _ => True) (fun _ U o U' => ∃ v_ L_, o = .returned v_ ∧ Q_index2_0_2 Z a b1 b2 b3 b4 b5 b6 b7 sz bd ss bs bc pn se sa ta te g1 g2 g3 g4 g5 n h0 n0 v_ U'.heap L_ ∧ FrameEnd U o U' L_ ({ frames := 2, cells := 0, slots := 0, locals := 31 } : Room).cells ({ frames := 2, cells := 0, slots := 0, locals := 31 } : Room).slots) := by
  refine MetFree.of_bodySF (plainFor_of_name pn_3) hisR ?_
  intro p e s m args below meth c s₁ Bd hml0 hP hK
  obtain ⟨rfl, hZ, hh⟩ := hP
  have hx := Bd.exec
  have hby := Bd.bytes
  have hlk : meth.locks = false := Bd.notSynchronized
  have hml : c.maxLocals = 5 := hml0
  have hown : s.vm.findClass "com/example/graphweft/graphweft/RangeMaxTree" = some m.cls := findClass_of_methodNamed Bd.named
  have hnm := (name_of_methodNamed Bd.named Bd.method).1
  have X0 : Stand p l e ({ frames := 2, cells := 0, slots := 0, locals := 31 } : Room) s m #[(.ref a)] below meth c s₁ [] 0 0 := Stand.of_body Bd
  have e0 : s₁.heap = h0 := by rw [← hh, Bd.state]; rfl
  have N0 := Fr.nil n0
  have K0 : Keep h0 h0 [a, b2, b3, b4, b5] := Keep.refl _ _
  show OEnds p e below s (Q_index2_0_2 Z a b1 b2 b3 b4 b5 b6 b7 sz bd ss bs bc pn se sa ta te g1 g2 g3 g4 g5 n h0 n0) _ _ _
  refine own_by (fun t k => castTop (ef_3 m a) k) ?_
  show OEnds p e below s _ _ _ (s₁.setTop (mkF m 0 #[(vr a), un, un, un, un] []))
  refine qaN 1 X0 hx hby d3_0 rfl rfl ?_
  refine qg 4 X0 hx hZ hown (tw30 hw) e0 (O0.fld 7 rfl rfl) hby d3_1 rfl fun T1 X1 e1 => ?_
  refine q_ify 11 X1 hx hby d3_4 rfl ((if0 _ _).trans (feq (by decide : ¬ ((1 : Int32) = (0 : Int32)))).2) ?_
  refine qaN 12 X1 hx hby d3_11 rfl rfl ?_
  refine qg 15 X1 hx hZ hown (tw17 hw) e1 (O0.fld 3 rfl rfl) hby d3_12 rfl fun T2 X2 e2 => ?_
  refine qaN 16 X2 hx hby d3_15 rfl rfl ?_
  refine qg 19 X2 hx hZ hown (tw30 hw) e2 (O0.fld 7 rfl rfl) hby d3_16 rfl fun T3 X3 e3 => ?_
  refine qc1 20 1 X3 hx hby d3_19 rfl rfl ?_
  refine q_isub 21 X3 hx hby d3_20 rfl ?_
  show OEnds p e below s _ _ _ (T3.setTop (mkF m 21 #[(vr a), un, un, un, un] [(.int 0), (.ref b4)]))
  refine qI 22 X3 hx hZ e3 F_b4 0 (by decide) (by decide) (v := (.int 0)) (congrArg Value.int he) hby d3_21 rfl ?_
  refine qsiN 23 #[(vr a), (vi 0), un, un, un] X3 hx hby d3_22 rfl rfl ?_
  refine qaN 24 X3 hx hby d3_23 rfl rfl ?_
  refine qg 27 X3 hx hZ hown (tw32 hw) e3 (O0.fld 8 rfl rfl) hby d3_24 rfl fun T4 X4 e4 => ?_
  refine qiN 28 X4 hx hby d3_27 rfl rfl ?_
  refine q_isub 29 X4 hx hby d3_28 rfl ?_
  refine qc2 31 8 X4 hx hby d3_29 rfl rfl ?_
  refine q_idiv 32 X4 hx hby d3_31 rfl (by decide) ?_
  refine qaN 33 X4 hx hby d3_32 rfl rfl ?_
  refine qg 36 X4 hx hZ hown (tw32 hw) e4 (O0.fld 8 rfl rfl) hby d3_33 rfl fun T5 X5 e5 => ?_
  refine qiN 37 X5 hx hby d3_36 rfl rfl ?_
  refine q_isub 38 X5 hx hby d3_37 rfl ?_
  refine qc2 40 8 X5 hx hby d3_38 rfl rfl ?_
  refine own_by (fun _ k => iremM X5 hx rfl (hb hby d3_40) rfl (by decide) k) ?_
  show OEnds p e below s _ _ _ (T5.setTop (mkF m 41 #[(vr a), (vi 0), un, un, un] [(.int ((sz - (0 : Int32)) % (8 : Int32))), (.int ((sz - (0 : Int32)) / (8 : Int32)))]))
  refine own_by (S' := T5.setTop (mkF m 49 #[(vr a), (vi 0), un, un, un] [(.int (if ((sz - (0 : Int32)) % (8 : Int32)) = (0 : Int32) then (0 : Int32) else (1 : Int32))), (.int ((sz - (0 : Int32)) / (8 : Int32)))])) (fun t k => ?_) ?_
  · by_cases hc41_6 : ((sz - (0 : Int32)) % (8 : Int32)) = (0 : Int32)
    · rw [if_pos hc41_6] at k
      refine XS.ifNo X5.here hx rfl (hb hby d3_41) rfl ((if0 _ _).trans (teq hc41_6).2) ?_
      show Steps p.tables e below (T5.setTop (mkF m 44 #[(vr a), (vi 0), un, un, un] [(.int ((sz - (0 : Int32)) / (8 : Int32)))])) t
      refine XS.iconst X5.here hx rfl (hb hby d3_44) ?_
      show Steps p.tables e below (T5.setTop (mkF m 45 #[(vr a), (vi 0), un, un, un] [(.int 0), (.int ((sz - (0 : Int32)) / (8 : Int32)))])) t
      refine XS.goto X5.here hx rfl (pc0 := 45) (pc' := 49) rfl (hb hby d3_45) (by decide) (by decide) ?_
      show Steps p.tables e below (T5.setTop (mkF m 49 #[(vr a), (vi 0), un, un, un] [(.int 0), (.int ((sz - (0 : Int32)) / (8 : Int32)))])) t
      exact k
    · rw [if_neg hc41_6] at k
      refine XS.ifYes X5.here hx rfl (pc0 := 41) (pc' := 48) rfl (hb hby d3_41) rfl ((if0 _ _).trans (feq hc41_6).2) (by decide) (by decide) ?_
      show Steps p.tables e below (T5.setTop (mkF m 48 #[(vr a), (vi 0), un, un, un] [(.int ((sz - (0 : Int32)) / (8 : Int32)))])) t
      refine XS.iconst X5.here hx rfl (hb hby d3_48) ?_
      show Steps p.tables e below (T5.setTop (mkF m 49 #[(vr a), (vi 0), un, un, un] [(.int 1), (.int ((sz - (0 : Int32)) / (8 : Int32)))])) t
      exact k
  show OEnds p e below s _ _ _ (T5.setTop (mkF m 49 #[(vr a), (vi 0), un, un, un] [(.int (if ((sz - (0 : Int32)) % (8 : Int32)) = (0 : Int32) then (0 : Int32) else (1 : Int32))), (.int ((sz - (0 : Int32)) / (8 : Int32)))]))
  refine q_iadd 50 X5 hx hby d3_49 rfl ?_
  rw [hnb]
  show OEnds p e below s _ _ _ (T5.setTop (mkF m 50 #[(vr a), (vi 0), un, un, un] [(.int 2)]))
  refine qsiN 51 #[(vr a), (vi 0), (vi 2), un, un] X5 hx hby d3_50 rfl rfl ?_
  refine qaN 52 X5 hx hby d3_51 rfl rfl ?_
  refine qg 55 X5 hx hZ hown (tw12 hw) e5 (O0.fld 1 rfl rfl) hby d3_52 rfl fun T7 X7 e7 => ?_
  refine qn 56 (64 : Int32) X7 hx hZ e7 F_b2 (by decide) hby d3_55 rfl ?_
  refine qaN 57 X7 hx hby d3_56 rfl rfl ?_
  refine qg 60 X7 hx hZ hown (tw34 hw) e7 (O0.fld 9 rfl rfl) hby d3_57 rfl fun T8 X8 e8 => ?_
  refine q_isub 61 X8 hx hby d3_60 rfl ?_
  show OEnds p e below s _ _ _ (T8.setTop (mkF m 61 #[(vr a), (vi 0), (vi 2), un, un] [(.int 64)]))
  refine qc1 62 2 X8 hx hby d3_61 rfl rfl ?_
  refine qiN 63 X8 hx hby d3_62 rfl rfl ?_
  refine q_imul 64 X8 hx hby d3_63 rfl ?_
  show OEnds p e below s _ _ _ (T8.setTop (mkF m 64 #[(vr a), (vi 0), (vi 2), un, un] [(.int 4), (.int 64)]))
  refine q_cmy 96 X8 hx hby d3_64 rfl (flt (by decide : ¬ ((64 : Int32) < (4 : Int32)))).2.1 ?_
  refine qaN 97 X8 hx hby d3_96 rfl rfl ?_
  refine qg 100 X8 hx hZ hown (tw30 hw) e8 (O0.fld 7 rfl rfl) hby d3_97 rfl fun T9 X9 e9 => ?_
  refine qaN 101 X9 hx hby d3_100 rfl rfl ?_
  refine qg 104 X9 hx hZ hown (tw15 hw) e9 (O0.fld 2 rfl rfl) hby d3_101 rfl fun T10 X10 e10 => ?_
  refine qn 105 (16 : Int32) X10 hx hZ e10 F_b3 (by decide) hby d3_104 rfl ?_
  refine q_cmy 159 X10 hx hby d3_105 rfl (feq (by decide : ¬ ((1 : Int32) = (16 : Int32)))).2 ?_
  refine qaN 160 X10 hx hby d3_159 rfl rfl ?_
  refine qg 163 X10 hx hZ hown (tw15 hw) e10 (O0.fld 2 rfl rfl) hby d3_160 rfl fun T11 X11 e11 => ?_
  refine qaN 164 X11 hx hby d3_163 rfl rfl ?_
  refine qg 167 X11 hx hZ hown (tw30 hw) e11 (O0.fld 7 rfl rfl) hby d3_164 rfl fun T12 X12 e12 => ?_
  refine qiN 168 X12 hx hby d3_167 rfl rfl ?_
  obtain ⟨T13, h13, X13, e13, W13, st13⟩ := own_iastore X12 hx hZ e12 F_b3 1 (by decide) (by decide) (g := (mkF m 168 #[(vr a), (vi 0), (vi 2), un, un] [(.int 0), (.int 1), (.ref b3)])) rfl rfl (hb hby d3_168)
  have F13 : FA Z h13 b3 .int 16 (fun i => .int ((updI g3 1 (0 : Int32)) i)) := F_b3.setI W13
  have N13 := Fr.snoc X13 N0 g_b3
  have Z13 := Nat.le_trans Z0 (Keep.of_wr W13).1
  have K13 := K0.wr W13 (wi 2 rfl)
  refine qat 169 #[(vr a), (vi 0), (vi 2), un, un] [] st13 ?_
  refine qaN 170 X13 hx hby d3_169 rfl rfl ?_
  have O15 := (O0.other W13 (o03 hord))
  refine qg 173 X13 hx hZ hown (tw17 hw) e13 (O15.fld 3 rfl rfl) hby d3_170 rfl fun T14 X14 e14 => ?_
  refine qaN 174 X14 hx hby d3_173 rfl rfl ?_
  refine qg 177 X14 hx hZ hown (tw30 hw) e14 (O15.fld 7 rfl rfl) hby d3_174 rfl fun T16 X16 e16 => ?_
  refine qaN 178 X16 hx hby d3_177 rfl rfl ?_
  refine qg 181 X16 hx hZ hown (tw32 hw) e16 (O15.fld 8 rfl rfl) hby d3_178 rfl fun T17 X17 e17 => ?_
  have F19 := (F_b4.other W13 (Ne.symm (o34 hord)))
  obtain ⟨T18, h18, X18, e18, W18, st18⟩ := own_iastore X17 hx hZ e17 F19 1 (by decide) (by decide) (g := (mkF m 181 #[(vr a), (vi 0), (vi 2), un, un] [(.int sz), (.int 1), (.ref b4)])) rfl rfl (hb hby d3_181)
  have F18 : FA Z h18 b4 .int 16 (fun i => .int ((updI g4 1 sz) i)) := F19.setI W18
  have N18 := Fr.snoc X18 N13 g_b4
  have Z18 := Nat.le_trans Z13 (Keep.of_wr W18).1
  have K18 := K13.wr W18 (wi 3 rfl)
  refine qat 182 #[(vr a), (vi 0), (vi 2), un, un] [] st18 ?_
  refine qaN 183 X18 hx hby d3_182 rfl rfl ?_
  have O21 := (O15.other W18 (o04 hord))
  refine qg 186 X18 hx hZ hown (tw19 hw) e18 (O21.fld 4 rfl rfl) hby d3_183 rfl fun T20 X20 e20 => ?_
  refine qaN 187 X20 hx hby d3_186 rfl rfl ?_
  refine qg 190 X20 hx hZ hown (tw30 hw) e20 (O21.fld 7 rfl rfl) hby d3_187 rfl fun T22 X22 e22 => ?_
  refine qaN 191 X22 hx hby d3_190 rfl rfl ?_
  refine qg 194 X22 hx hZ hown (tw34 hw) e22 (O21.fld 9 rfl rfl) hby d3_191 rfl fun T23 X23 e23 => ?_
  have F25 := ((F_b5.other W13 (Ne.symm (o35 hord))).other W18 (Ne.symm (o45 hord)))
  obtain ⟨T24, h24, X24, e24, W24, st24⟩ := own_iastore X23 hx hZ e23 F25 1 (by decide) (by decide) (g := (mkF m 194 #[(vr a), (vi 0), (vi 2), un, un] [(.int 0), (.int 1), (.ref b5)])) rfl rfl (hb hby d3_194)
  have F24 : FA Z h24 b5 .int 16 (fun i => .int ((updI g5 1 (0 : Int32)) i)) := F25.setI W24
  have N24 := Fr.snoc X24 N18 g_b5
  have Z24 := Nat.le_trans Z18 (Keep.of_wr W24).1
  have K24 := K18.wr W24 (wi 4 rfl)
  refine qat 195 #[(vr a), (vi 0), (vi 2), un, un] [] st24 ?_
  refine qaN 196 X24 hx hby d3_195 rfl rfl ?_
  have O27 := (O21.other W24 (o05 hord))
  refine qg 199 X24 hx hZ hown (tw12 hw) e24 (O27.fld 1 rfl rfl) hby d3_196 rfl fun T26 X26 e26 => ?_
  refine qaN 200 X26 hx hby d3_199 rfl rfl ?_
  refine qg 203 X26 hx hZ hown (tw34 hw) e26 (O27.fld 9 rfl rfl) hby d3_200 rfl fun T28 X28 e28 => ?_
  refine qiN 204 X28 hx hby d3_203 rfl rfl ?_
  refine q_iadd 205 X28 hx hby d3_204 rfl ?_
  show OEnds p e below s _ _ _ (T28.setTop (mkF m 205 #[(vr a), (vi 0), (vi 2), un, un] [(.int 2), (.ref b2)]))
  refine qaN 206 X28 hx hby d3_205 rfl rfl ?_
  refine qg 209 X28 hx hZ hown (tw34 hw) e28 (O27.fld 9 rfl rfl) hby d3_206 rfl fun T29 X29 e29 => ?_
  refine qc1 210 2 X29 hx hby d3_209 rfl rfl ?_
  refine qiN 211 X29 hx hby d3_210 rfl rfl ?_
  refine q_imul 212 X29 hx hby d3_211 rfl ?_
  show OEnds p e below s _ _ _ (T29.setTop (mkF m 212 #[(vr a), (vi 0), (vi 2), un, un] [(.int 4), (.int 0), (.int 2), (.ref b2)]))
  refine q_iadd 213 X29 hx hby d3_212 rfl ?_
  show OEnds p e below s _ _ _ (T29.setTop (mkF m 213 #[(vr a), (vi 0), (vi 2), un, un] [(.int 4), (.int 2), (.ref b2)]))
  refine own_by (X29.ldc2Long hx hown (mvT hZ (tw36 hw)) (g := (mkF m 213 #[(vr a), (vi 0), (vi 2), un, un] [(.int 4), (.int 2), (.ref b2)])) rfl (hb hby d3_213)) ?_
  show OEnds p e below s _ _ _ (T29.setTop (mkF m 216 #[(vr a), (vi 0), (vi 2), un, un] [(.long (-9223372036854775808)), (.int 4), (.int 2), (.ref b2)]))
  have F31 := (((F_b2.other W13 (o23 hord)).other W18 (o24 hord)).other W24 (o25 hord))
  obtain ⟨v30, T30, L30, h30, X30, e30, hQ30, st30⟩ := own_callS X29 hx hZ (y := mn4) hown (tw37 hw) (tw38 hw) (tw39 hw) (tw40 hw) (by decide) (rm_fill_2_4 l Z a0 hw [] b2 (-9223372036854775808 : Int64) g2 h24 n0 Z24 F31 g_b2) e29 (g := (mkF m 216 #[(vr a), (vi 0), (vi 2), un, un] [(.long (-9223372036854775808)), (.int 4), (.int 2), (.ref b2)])) rfl (by rw [hml]; rfl) (argsL := [(.ref b2), (.int 2), (.int 4), (.long (-9223372036854775808))]) (rest := []) (lenOf pd_paJIIJrV rfl) rfl (W := 0) (by show 2 * 0 + _ ≤ _; exact Nat.le_of_eq rfl) (hb hby d3_216) (by decide) (by decide) (by decide) (by decide)
  obtain ⟨rfl, Nq30, Kq30, F30_b2⟩ := hQ30
  have N30 := Fr.app N24 Nq30
  have K30 := K24.trans Kq30 (allS (wi 1 rfl) all0)
  have Z30 := Nat.le_trans Z24 Kq30.1
  obtain ⟨f30_b2, ef30_b2⟩ : ∃ fz_ : Nat → Int64, fz_ = (updL (updL g2 2 (-9223372036854775808 : Int64)) 3 (-9223372036854775808 : Int64)) := ⟨_, rfl⟩
  rw [← ef30_b2] at F30_b2
  refine qtr 219 #[(vr a), (vi 0), (vi 2), un, un] [] st30 ?_
  refine qiN 220 X30 hx hby d3_219 rfl rfl ?_
  refine qsiN 221 #[(vr a), (vi 0), (vi 2), (vi 0), un] X30 hx hby d3_220 rfl rfl ?_
  have fin : ∀ (T : State) (lo : List Loc) (iv : Int32) (c2 : Nat → Int64) (ii : Nat) (s4 : Slot) (h_fin : Heap) (Zz_fin : n0 ≤ h_fin.size) (X_fin : Stand p l e ({ frames := 2, cells := 0, slots := 0, locals := 31 } : Room) s m #[(.ref a)] below meth c T lo 0 0) (e_fin : T.heap = h_fin) (N_fin : Fr n0 lo) (Kp_fin : Keep h0 h_fin [a, b2, b3, b4, b5]) (Ob_fin_a : Obj Z h_fin a "com/example/graphweft/graphweft/RangeMaxTree" sch_rt [(.ref b1), (.ref b2), (.ref b3), (.ref b4), (.ref b5), (.ref b6), (.ref b7), (.int 1), (.int sz), (.int 0), (.long bd), (.int ss), (.int bs), (.int bc), (.int pn), (.int se), (.int sa), (.int ta), (.int te)]) (Fa_fin_b1 : FA Z h_fin b1 .long 64 (fun i => .long (g1 i))) (Fa_fin_b2 : FA Z h_fin b2 .long 64 (fun i => .long (c2 i))) (Fa_fin_b3 : FA Z h_fin b3 .int 16 (fun i => .int ((updI g3 1 (0 : Int32)) i))) (Fa_fin_b4 : FA Z h_fin b4 .int 16 (fun i => .int ((updI g4 1 sz) i))) (Fa_fin_b5 : FA Z h_fin b5 .int 16 (fun i => .int ((updI g5 1 (0 : Int32)) i))) (hi : ii = 0 + n) (hMX : ∀ bd, c2 2 < bd → ∀ j, j < 8 → 0 + j < ii → g1 (0 + j) < bd), OEnds p e below s (Q_index2_0_2 Z a b1 b2 b3 b4 b5 b6 b7 sz bd ss bs bc pn se sa ta te g1 g2 g3 g4 g5 n h0 n0) 0 0 (T.setTop (mkF m 273 #[(vr a), (vi 0), (vi 2), (vi iv), s4] [])) := by
    intro T lo iv c2 ii s4 h_fin Zz_fin X_fin e_fin N_fin Kp_fin Ob_fin_a Fa_fin_b1 Fa_fin_b2 Fa_fin_b3 Fa_fin_b4 Fa_fin_b5 hi hMX
    show OEnds p e below s _ _ _ (T.setTop (mkF m 273 #[(vr a), (vi 0), (vi 2), (vi iv), s4] []))
    show OEnds p e below s _ _ _ (T.setTop (mkF m 273 #[(vr a), (vi 0), (vi 2), (vi iv), s4] []))
    refine qiN 274 X_fin hx hby d3_273 rfl rfl ?_
    refine qc1 275 1 X_fin hx hby d3_274 rfl rfl ?_
    refine q_isub 276 X_fin hx hby d3_275 rfl ?_
    show OEnds p e below s _ _ _ (T.setTop (mkF m 276 #[(vr a), (vi 0), (vi 2), (vi iv), s4] [(.int 1)]))
    refine qsiN 277 #[(vr a), (vi 0), (vi 2), (vi 1), s4] X_fin hx hby d3_276 rfl rfl ?_
    refine qiN 278 X_fin hx hby d3_277 rfl rfl ?_
    refine q_ifn 281 X_fin hx hby d3_278 rfl ((if0 _ _).trans (tlt (by decide : (0 : Int32) < (1 : Int32))).2.2.2) ?_
    refine qaN 282 X_fin hx hby d3_281 rfl rfl ?_
    refine qg 285 X_fin hx hZ hown (tw12 hw) e_fin (Ob_fin_a.fld 1 rfl rfl) hby d3_282 rfl fun T32 X32 e32 => ?_
    refine qaN 286 X32 hx hby d3_285 rfl rfl ?_
    refine qg 289 X32 hx hZ hown (tw34 hw) e32 (Ob_fin_a.fld 9 rfl rfl) hby d3_286 rfl fun T33 X33 e33 => ?_
    refine qiN 290 X33 hx hby d3_289 rfl rfl ?_
    refine q_iadd 291 X33 hx hby d3_290 rfl ?_
    show OEnds p e below s _ _ _ (T33.setTop (mkF m 291 #[(vr a), (vi 0), (vi 2), (vi 1), s4] [(.int 1), (.ref b2)]))
    refine qaN 292 X33 hx hby d3_291 rfl rfl ?_
    refine qg 295 X33 hx hZ hown (tw12 hw) e33 (Ob_fin_a.fld 1 rfl rfl) hby d3_292 rfl fun T34 X34 e34 => ?_
    refine qaN 296 X34 hx hby d3_295 rfl rfl ?_
    refine qg 299 X34 hx hZ hown (tw34 hw) e34 (Ob_fin_a.fld 9 rfl rfl) hby d3_296 rfl fun T35 X35 e35 => ?_
    refine qc1 300 2 X35 hx hby d3_299 rfl rfl ?_
    refine qiN 301 X35 hx hby d3_300 rfl rfl ?_
    refine q_imul 302 X35 hx hby d3_301 rfl ?_
    show OEnds p e below s _ _ _ (T35.setTop (mkF m 302 #[(vr a), (vi 0), (vi 2), (vi 1), s4] [(.int 2), (.int 0), (.ref b2), (.int 1), (.ref b2)]))
    refine q_iadd 303 X35 hx hby d3_302 rfl ?_
    show OEnds p e below s _ _ _ (T35.setTop (mkF m 303 #[(vr a), (vi 0), (vi 2), (vi 1), s4] [(.int 2), (.ref b2), (.int 1), (.ref b2)]))
    refine qJ 304 X35 hx hZ e35 Fa_fin_b2 2 (by decide) (by decide) (v := (.long (c2 2))) rfl hby d3_303 rfl ?_
    refine qaN 305 X35 hx hby d3_304 rfl rfl ?_
    refine qg 308 X35 hx hZ hown (tw12 hw) e35 (Ob_fin_a.fld 1 rfl rfl) hby d3_305 rfl fun T36 X36 e36 => ?_
    refine qaN 309 X36 hx hby d3_308 rfl rfl ?_
    refine qg 312 X36 hx hZ hown (tw34 hw) e36 (Ob_fin_a.fld 9 rfl rfl) hby d3_309 rfl fun T37 X37 e37 => ?_
    refine qc1 313 2 X37 hx hby d3_312 rfl rfl ?_
    refine qiN 314 X37 hx hby d3_313 rfl rfl ?_
    refine q_imul 315 X37 hx hby d3_314 rfl ?_
    show OEnds p e below s _ _ _ (T37.setTop (mkF m 315 #[(vr a), (vi 0), (vi 2), (vi 1), s4] [(.int 2), (.int 0), (.ref b2), (.long (c2 2)), (.int 1), (.ref b2)]))
    refine q_iadd 316 X37 hx hby d3_315 rfl ?_
    show OEnds p e below s _ _ _ (T37.setTop (mkF m 316 #[(vr a), (vi 0), (vi 2), (vi 1), s4] [(.int 2), (.ref b2), (.long (c2 2)), (.int 1), (.ref b2)]))
    refine qc1 317 1 X37 hx hby d3_316 rfl rfl ?_
    refine q_iadd 318 X37 hx hby d3_317 rfl ?_
    show OEnds p e below s _ _ _ (T37.setTop (mkF m 318 #[(vr a), (vi 0), (vi 2), (vi 1), s4] [(.int 3), (.ref b2), (.long (c2 2)), (.int 1), (.ref b2)]))
    refine qJ 319 X37 hx hZ e37 Fa_fin_b2 3 (by decide) (by decide) (v := (.long (c2 3))) rfl hby d3_318 rfl ?_
    obtain ⟨T38, X38, e38, st38⟩ := own_callP X37 hx hZ (y := mn0) hown (tw81 hw) (tw82 hw) (tw83 hw) (tw84 hw) (by decide) (rm_jmax l Z a0 hw [] (c2 2) (c2 3) h_fin) e37 (g := (mkF m 319 #[(vr a), (vi 0), (vi 2), (vi 1), s4] [(.long (c2 3)), (.long (c2 2)), (.int 1), (.ref b2)])) rfl (by rw [hml]; rfl) (argsL := [(.long (c2 2)), (.long (c2 3))]) (rest := [(.int 1), (.ref b2)]) (lenOf pd_pJJrJ rfl) rfl (W := 2) (by show 2 * 0 + _ ≤ _; exact Nat.le_of_eq rfl) (hb hby d3_319) (by decide) (by decide) (by decide) (by decide)
    refine qat 322 #[(vr a), (vi 0), (vi 2), (vi 1), s4] [(.long (jmax (c2 2) (c2 3))), (.int 1), (.ref b2)] st38 ?_
    obtain ⟨T39, h39, X39, e39, W39, st39⟩ := own_lastore X38 hx hZ e38 Fa_fin_b2 1 (by decide) (by decide) (g := (mkF m 322 #[(vr a), (vi 0), (vi 2), (vi 1), s4] [(.long (jmax (c2 2) (c2 3))), (.int 1), (.ref b2)])) rfl rfl (hb hby d3_322)
    have F39 : FA Z h39 b2 .long 64 (fun i => .long ((updL c2 1 (jmax (c2 2) (c2 3))) i)) := Fa_fin_b2.setL W39
    have N39 := Fr.snoc X39 N_fin g_b2
    have Z39 := Nat.le_trans Zz_fin (Keep.of_wr W39).1
    have K39 := Kp_fin.wr W39 (wi 1 rfl)
    refine qat 323 #[(vr a), (vi 0), (vi 2), (vi 1), s4] [] st39 ?_
    refine q_inc 326 #[(vr a), (vi 0), (vi 2), (vi 0), s4] X39 hx hby d3_323 rfl rfl rfl ?_
    refine q_goto 277 X39 hx hby d3_326 rfl ?_
    refine qiN 278 X39 hx hby d3_277 rfl rfl ?_
    refine q_ify 329 X39 hx hby d3_278 rfl ((if0 _ _).trans (flt (by decide : ¬ ((0 : Int32) < (0 : Int32)))).2.2.2) ?_
    refine qaN 330 X39 hx hby d3_329 rfl rfl ?_
    refine q_dup 331 X39 hx hby d3_330 rfl rfl ?_
    have O41 := (Ob_fin_a.other W39 (o02 hord))
    refine qg 334 X39 hx hZ hown (tw34 hw) e39 (O41.fld 9 rfl rfl) hby d3_331 rfl fun T40 X40 e40 => ?_
    refine qc1 335 2 X40 hx hby d3_334 rfl rfl ?_
    refine qiN 336 X40 hx hby d3_335 rfl rfl ?_
    refine q_imul 337 X40 hx hby d3_336 rfl ?_
    show OEnds p e below s _ _ _ (T40.setTop (mkF m 337 #[(vr a), (vi 0), (vi 2), (vi 0), s4] [(.int 4), (.int 0), (.ref a)]))
    refine q_iadd 338 X40 hx hby d3_337 rfl ?_
    show OEnds p e below s _ _ _ (T40.setTop (mkF m 338 #[(vr a), (vi 0), (vi 2), (vi 0), s4] [(.int 4), (.ref a)]))
    obtain ⟨T42, h42, X42, e42, W42, st42⟩ := putF X40 hx hZ hown (host := "") (Or.inl (tw34 hw)) Via.refl e40 (O41.fld 9 rfl rfl) O41.exa (Or.inl (tw35 hw)) (tw2 hw) (ty := .int) (by decide) rfl rfl (g := (mkF m 338 #[(vr a), (vi 0), (vi 2), (vi 0), s4] [(.int 4), (.ref a)])) rfl rfl (hb hby d3_338)
    have O42 : Obj Z h42 a "com/example/graphweft/graphweft/RangeMaxTree" sch_rt [(.ref b1), (.ref b2), (.ref b3), (.ref b4), (.ref b5), (.ref b6), (.ref b7), (.int 1), (.int sz), (.int 4), (.long bd), (.int ss), (.int bs), (.int bc), (.int pn), (.int se), (.int sa), (.int ta), (.int te)] := O41.set (so_sch_rt hw) W42 9 rfl (Nat.le_of_ble_eq_true rfl)
    have N42 := Fr.snoc X42 N39 g_a
    have Z42 := Nat.le_trans Z39 (Keep.of_wr W42).1
    have K42 := K39.wr W42 (wi 0 rfl)
    refine qat 341 #[(vr a), (vi 0), (vi 2), (vi 0), s4] [] st42 ?_
    refine qaN 342 X42 hx hby d3_341 rfl rfl ?_
    refine q_dup 343 X42 hx hby d3_342 rfl rfl ?_
    refine qg 346 X42 hx hZ hown (tw30 hw) e42 (O42.fld 7 rfl rfl) hby d3_343 rfl fun T43 X43 e43 => ?_
    refine own_by (fun _ k => XS.dupX1 X43.here hx rfl (hb hby d3_346) rfl rfl rfl k) ?_
    show OEnds p e below s _ _ _ (T43.setTop (mkF m 347 #[(vr a), (vi 0), (vi 2), (vi 0), s4] [(.int 1), (.ref a), (.int 1)]))
    refine qc1 348 1 X43 hx hby d3_347 rfl rfl ?_
    refine q_iadd 349 X43 hx hby d3_348 rfl ?_
    show OEnds p e below s _ _ _ (T43.setTop (mkF m 349 #[(vr a), (vi 0), (vi 2), (vi 0), s4] [(.int 2), (.ref a), (.int 1)]))
    obtain ⟨T44, h44, X44, e44, W44, st44⟩ := putF X43 hx hZ hown (host := "") (Or.inl (tw30 hw)) Via.refl e43 (O42.fld 7 rfl rfl) O42.exa (Or.inl (tw31 hw)) (tw2 hw) (ty := .int) (by decide) rfl rfl (g := (mkF m 349 #[(vr a), (vi 0), (vi 2), (vi 0), s4] [(.int 2), (.ref a), (.int 1)])) rfl rfl (hb hby d3_349)
    have O44 : Obj Z h44 a "com/example/graphweft/graphweft/RangeMaxTree" sch_rt [(.ref b1), (.ref b2), (.ref b3), (.ref b4), (.ref b5), (.ref b6), (.ref b7), (.int 2), (.int sz), (.int 4), (.long bd), (.int ss), (.int bs), (.int bc), (.int pn), (.int se), (.int sa), (.int ta), (.int te)] := O42.set (so_sch_rt hw) W44 7 rfl (Nat.le_of_ble_eq_true rfl)
    have N44 := Fr.snoc X44 N42 g_a
    have Z44 := Nat.le_trans Z42 (Keep.of_wr W44).1
    have K44 := K42.wr W44 (wi 0 rfl)
    refine qat 352 #[(vr a), (vi 0), (vi 2), (vi 0), s4] [(.int 1)] st44 ?_
    have hfin : ∀ bd, (updL c2 1 (jmax (c2 2) (c2 3))) 2 < bd → ∀ j, j < 8 → j < n → g1 (0 + j) < bd := by exact fun bd hb j hj hjn => hMX bd hb j hj (by omega)
    have F45 := ((F39.other W42 (Ne.symm (o02 hord))).other W44 (Ne.symm (o02 hord)))
    have F46 := (((Fa_fin_b3.other W39 (Ne.symm (o23 hord))).other W42 (Ne.symm (o03 hord))).other W44 (Ne.symm (o03 hord)))
    have F47 := (((Fa_fin_b4.other W39 (Ne.symm (o24 hord))).other W42 (Ne.symm (o04 hord))).other W44 (Ne.symm (o04 hord)))
    have F48 := (((Fa_fin_b5.other W39 (Ne.symm (o25 hord))).other W42 (Ne.symm (o05 hord))).other W44 (Ne.symm (o05 hord)))
    exact own_retI X44 hx hlk Bd.returns (hb hby d3_352) (by rw [e44]; exact ⟨rfl, N44, K44, _, hfin, O44, F45, F46, F47, F48⟩) (by decide) (by decide)
  have lp : ∀ (dd : Nat) (T : State) (lo : List Loc) (iv : Int32) (d4 : Int32) (c2 : Nat → Int64) (ii : Nat) (h_lp : Heap) (Zz_lp : n0 ≤ h_lp.size) (X_lp : Stand p l e ({ frames := 2, cells := 0, slots := 0, locals := 31 } : Room) s m #[(.ref a)] below meth c T lo 0 0) (e_lp : T.heap = h_lp) (N_lp : Fr n0 lo) (Kp_lp : Keep h0 h_lp [a, b2, b3, b4, b5]) (Ob_lp_a : Obj Z h_lp a "com/example/graphweft/graphweft/RangeMaxTree" sch_rt [(.ref b1), (.ref b2), (.ref b3), (.ref b4), (.ref b5), (.ref b6), (.ref b7), (.int 1), (.int sz), (.int 0), (.long bd), (.int ss), (.int bs), (.int bc), (.int pn), (.int se), (.int sa), (.int ta), (.int te)]) (Fa_lp_b1 : FA Z h_lp b1 .long 64 (fun i => .long (g1 i))) (Fa_lp_b2 : FA Z h_lp b2 .long 64 (fun i => .long (c2 i))) (Fa_lp_b3 : FA Z h_lp b3 .int 16 (fun i => .int ((updI g3 1 (0 : Int32)) i))) (Fa_lp_b4 : FA Z h_lp b4 .int 16 (fun i => .int ((updI g4 1 sz) i))) (Fa_lp_b5 : FA Z h_lp b5 .int 16 (fun i => .int ((updI g5 1 (0 : Int32)) i))) (hiv : iv.toInt = (ii : Int)) (hid : ii + dd = 0 + n) (hip : 0 ≤ ii) (hMX : ∀ bd, c2 2 < bd → ∀ j, j < 8 → 0 + j < ii → g1 (0 + j) < bd), OEnds p e below s (Q_index2_0_2 Z a b1 b2 b3 b4 b5 b6 b7 sz bd ss bs bc pn se sa ta te g1 g2 g3 g4 g5 n h0 n0) 0 0 (T.setTop (mkF m 221 #[(vr a), (vi 0), (vi 2), (vi iv), (vi d4)] [])) := by
    intro dd
    induction dd with
    | zero =>
      intro T lo iv d4 c2 ii h_lp Zz_lp X_lp e_lp N_lp Kp_lp Ob_lp_a Fa_lp_b1 Fa_lp_b2 Fa_lp_b3 Fa_lp_b4 Fa_lp_b5 hiv hid hip hMX
      show OEnds p e below s _ _ _ (T.setTop (mkF m 221 #[(vr a), (vi 0), (vi 2), (vi iv), (vi d4)] []))
      refine qiN 222 X_lp hx hby d3_221 rfl rfl ?_
      refine qaN 223 X_lp hx hby d3_222 rfl rfl ?_
      refine qg 226 X_lp hx hZ hown (tw32 hw) e_lp (Ob_lp_a.fld 8 rfl rfl) hby d3_223 rfl fun T49 X49 e49 => ?_
      refine q_cmy 273 X49 hx hby d3_226 rfl (flt (nlt_i hiv hsz (by omega))).2.1 ?_
      exact fin T49 _ iv c2 ii ((vi d4)) h_lp Zz_lp X49 e49 N_lp Kp_lp Ob_lp_a Fa_lp_b1 Fa_lp_b2 Fa_lp_b3 Fa_lp_b4 Fa_lp_b5 (by omega) hMX
    | succ dd ih_lp =>
      intro T lo iv d4 c2 ii h_lp Zz_lp X_lp e_lp N_lp Kp_lp Ob_lp_a Fa_lp_b1 Fa_lp_b2 Fa_lp_b3 Fa_lp_b4 Fa_lp_b5 hiv hid hip hMX
      show OEnds p e below s _ _ _ (T.setTop (mkF m 221 #[(vr a), (vi 0), (vi 2), (vi iv), (vi d4)] []))
      have hlt0 : ii < 0 + n := by omega
      show OEnds p e below s _ _ _ (T.setTop (mkF m 221 #[(vr a), (vi 0), (vi 2), (vi iv), (vi d4)] []))
      refine qiN 222 X_lp hx hby d3_221 rfl rfl ?_
      refine qaN 223 X_lp hx hby d3_222 rfl rfl ?_
      refine qg 226 X_lp hx hZ hown (tw32 hw) e_lp (Ob_lp_a.fld 8 rfl rfl) hby d3_223 rfl fun T50 X50 e50 => ?_
      refine q_cmn 229 X50 hx hby d3_226 rfl (tlt (lt_of_i hiv hsz hlt0)).2.1 ?_
      refine qaN 230 X50 hx hby d3_229 rfl rfl ?_
      refine qg 233 X50 hx hZ hown (tw34 hw) e50 (Ob_lp_a.fld 9 rfl rfl) hby d3_230 rfl fun T51 X51 e51 => ?_
      refine qiN 234 X51 hx hby d3_233 rfl rfl ?_
      refine q_iadd 235 X51 hx hby d3_234 rfl ?_
      show OEnds p e below s _ _ _ (T51.setTop (mkF m 235 #[(vr a), (vi 0), (vi 2), (vi iv), (vi d4)] [(.int 2)]))
      refine qiN 236 X51 hx hby d3_235 rfl rfl ?_
      refine qiN 237 X51 hx hby d3_236 rfl rfl ?_
      refine q_isub 238 X51 hx hby d3_237 rfl ?_
      refine qc2 240 8 X51 hx hby d3_238 rfl rfl ?_
      refine q_idiv 241 X51 hx hby d3_240 rfl (by decide) ?_
      refine q_iadd 242 X51 hx hby d3_241 rfl ?_
      refine qsi 244 #[(vr a), (vi 0), (vi 2), (vi iv), (vi ((2 : Int32) + ((iv - (0 : Int32)) / (8 : Int32))))] X51 hx hby d3_242 rfl rfl ?_
      refine qaN 245 X51 hx hby d3_244 rfl rfl ?_
      refine qg 248 X51 hx hZ hown (tw12 hw) e51 (Ob_lp_a.fld 1 rfl rfl) hby d3_245 rfl fun T52 X52 e52 => ?_
      refine qi 250 X52 hx hby d3_248 rfl rfl ?_
      refine qaN 251 X52 hx hby d3_250 rfl rfl ?_
      refine qg 254 X52 hx hZ hown (tw12 hw) e52 (Ob_lp_a.fld 1 rfl rfl) hby d3_251 rfl fun T53 X53 e53 => ?_
      refine qi 256 X53 hx hby d3_254 rfl rfl ?_
      refine qJ 257 X53 hx hZ e53 Fa_lp_b2 (2 + (ii - 0) / 8) (ix_i (p := 0) hiv hip (by omega) (by decide)) (by omega) (v := (.long (c2 (2 + (ii - 0) / 8)))) rfl hby d3_256 rfl ?_
      refine qaN 258 X53 hx hby d3_257 rfl rfl ?_
      refine qg 261 X53 hx hZ hown (tw10 hw) e53 (Ob_lp_a.fld 0 rfl rfl) hby d3_258 rfl fun T54 X54 e54 => ?_
      refine qiN 262 X54 hx hby d3_261 rfl rfl ?_
      refine qJ 263 X54 hx hZ e54 Fa_lp_b1 ii hiv (by omega) (v := (.long (g1 ii))) rfl hby d3_262 rfl ?_
      obtain ⟨T55, X55, e55, st55⟩ := own_callP X54 hx hZ (y := mn0) hown (tw81 hw) (tw82 hw) (tw83 hw) (tw84 hw) (by decide) (rm_jmax l Z a0 hw [] (c2 (2 + (ii - 0) / 8)) (g1 ii) h_lp) e54 (g := (mkF m 263 #[(vr a), (vi 0), (vi 2), (vi iv), (vi ((2 : Int32) + ((iv - (0 : Int32)) / (8 : Int32))))] [(.long (g1 ii)), (.long (c2 (2 + (ii - 0) / 8))), (.int ((2 : Int32) + ((iv - (0 : Int32)) / (8 : Int32)))), (.ref b2)])) rfl (by rw [hml]; rfl) (argsL := [(.long (c2 (2 + (ii - 0) / 8))), (.long (g1 ii))]) (rest := [(.int ((2 : Int32) + ((iv - (0 : Int32)) / (8 : Int32)))), (.ref b2)]) (lenOf pd_pJJrJ rfl) rfl (W := 2) (by show 2 * 0 + _ ≤ _; exact Nat.le_of_eq rfl) (hb hby d3_263) (by decide) (by decide) (by decide) (by decide)
      refine qat 266 #[(vr a), (vi 0), (vi 2), (vi iv), (vi ((2 : Int32) + ((iv - (0 : Int32)) / (8 : Int32))))] [(.long (jmax (c2 (2 + (ii - 0) / 8)) (g1 ii))), (.int ((2 : Int32) + ((iv - (0 : Int32)) / (8 : Int32)))), (.ref b2)] st55 ?_
      obtain ⟨T56, h56, X56, e56, W56, st56⟩ := own_lastore X55 hx hZ e55 Fa_lp_b2 (2 + (ii - 0) / 8) (ix_i (p := 0) hiv hip (by omega) (by decide)) (by omega) (g := (mkF m 266 #[(vr a), (vi 0), (vi 2), (vi iv), (vi ((2 : Int32) + ((iv - (0 : Int32)) / (8 : Int32))))] [(.long (jmax (c2 (2 + (ii - 0) / 8)) (g1 ii))), (.int ((2 : Int32) + ((iv - (0 : Int32)) / (8 : Int32)))), (.ref b2)])) rfl rfl (hb hby d3_266)
      have F56 : FA Z h56 b2 .long 64 (fun i => .long ((updL c2 (2 + (ii - 0) / 8) (jmax (c2 (2 + (ii - 0) / 8)) (g1 ii))) i)) := Fa_lp_b2.setL W56
      obtain ⟨f56, ef56⟩ : ∃ fz_ : Nat → Int64, fz_ = (updL c2 (2 + (ii - 0) / 8) (jmax (c2 (2 + (ii - 0) / 8)) (g1 ii))) := ⟨_, rfl⟩
      rw [← ef56] at F56
      have N56 := Fr.snoc X56 N_lp g_b2
      have Z56 := Nat.le_trans Zz_lp (Keep.of_wr W56).1
      have K56 := Kp_lp.wr W56 (wi 1 rfl)
      refine qat 267 #[(vr a), (vi 0), (vi 2), (vi iv), (vi ((2 : Int32) + ((iv - (0 : Int32)) / (8 : Int32))))] [] st56 ?_
      refine q_inc 270 #[(vr a), (vi 0), (vi 2), (vi (iv + (1 : Int32))), (vi ((2 : Int32) + ((iv - (0 : Int32)) / (8 : Int32))))] X56 hx hby d3_267 rfl rfl rfl ?_
      refine q_goto 221 X56 hx hby d3_270 rfl ?_
      have O57 := (Ob_lp_a.other W56 (o02 hord))
      have F58 := (Fa_lp_b1.other W56 (o12 hord))
      have F59 := (Fa_lp_b3.other W56 (Ne.symm (o23 hord)))
      have F60 := (Fa_lp_b4.other W56 (Ne.symm (o24 hord)))
      have F61 := (Fa_lp_b5.other W56 (Ne.symm (o25 hord)))
      exact ih_lp T56 _ (iv + (1 : Int32)) ((2 : Int32) + ((iv - (0 : Int32)) / (8 : Int32))) _ (ii + 1) h56 Z56 X56 e56 N56 K56 O57 F58 F56 F59 F60 F61 (inc_i hiv (by omega)) (by omega) (by omega) (by subst ef56; exact mx_step hMX hip)
  have lpU : ∀ (dd : Nat) (T : State) (lo : List Loc) (iv : Int32) (c2 : Nat → Int64) (ii : Nat) (h_lpU : Heap) (Zz_lpU : n0 ≤ h_lpU.size) (X_lpU : Stand p l e ({ frames := 2, cells := 0, slots := 0, locals := 31 } : Room) s m #[(.ref a)] below meth c T lo 0 0) (e_lpU : T.heap = h_lpU) (N_lpU : Fr n0 lo) (Kp_lpU : Keep h0 h_lpU [a, b2, b3, b4, b5]) (Ob_lpU_a : Obj Z h_lpU a "com/example/graphweft/graphweft/RangeMaxTree" sch_rt [(.ref b1), (.ref b2), (.ref b3), (.ref b4), (.ref b5), (.ref b6), (.ref b7), (.int 1), (.int sz), (.int 0), (.long bd), (.int ss), (.int bs), (.int bc), (.int pn), (.int se), (.int sa), (.int ta), (.int te)]) (Fa_lpU_b1 : FA Z h_lpU b1 .long 64 (fun i => .long (g1 i))) (Fa_lpU_b2 : FA Z h_lpU b2 .long 64 (fun i => .long (c2 i))) (Fa_lpU_b3 : FA Z h_lpU b3 .int 16 (fun i => .int ((updI g3 1 (0 : Int32)) i))) (Fa_lpU_b4 : FA Z h_lpU b4 .int 16 (fun i => .int ((updI g4 1 sz) i))) (Fa_lpU_b5 : FA Z h_lpU b5 .int 16 (fun i => .int ((updI g5 1 (0 : Int32)) i))) (hiv : iv.toInt = (ii : Int)) (hid : ii + dd = 0 + n) (hip : 0 ≤ ii) (hMX : ∀ bd, c2 2 < bd → ∀ j, j < 8 → 0 + j < ii → g1 (0 + j) < bd), OEnds p e below s (Q_index2_0_2 Z a b1 b2 b3 b4 b5 b6 b7 sz bd ss bs bc pn se sa ta te g1 g2 g3 g4 g5 n h0 n0) 0 0 (T.setTop (mkF m 221 #[(vr a), (vi 0), (vi 2), (vi iv), un] [])) := by
    intro dd
    induction dd with
    | zero =>
      intro T lo iv c2 ii h_lpU Zz_lpU X_lpU e_lpU N_lpU Kp_lpU Ob_lpU_a Fa_lpU_b1 Fa_lpU_b2 Fa_lpU_b3 Fa_lpU_b4 Fa_lpU_b5 hiv hid hip hMX
      show OEnds p e below s _ _ _ (T.setTop (mkF m 221 #[(vr a), (vi 0), (vi 2), (vi iv), un] []))
      refine qiN 222 X_lpU hx hby d3_221 rfl rfl ?_
      refine qaN 223 X_lpU hx hby d3_222 rfl rfl ?_
      refine qg 226 X_lpU hx hZ hown (tw32 hw) e_lpU (Ob_lpU_a.fld 8 rfl rfl) hby d3_223 rfl fun T62 X62 e62 => ?_
      refine q_cmy 273 X62 hx hby d3_226 rfl (flt (nlt_i hiv hsz (by omega))).2.1 ?_
      exact fin T62 _ iv c2 ii (.unset) h_lpU Zz_lpU X62 e62 N_lpU Kp_lpU Ob_lpU_a Fa_lpU_b1 Fa_lpU_b2 Fa_lpU_b3 Fa_lpU_b4 Fa_lpU_b5 (by omega) hMX
    | succ dd ih_lpU =>
      intro T lo iv c2 ii h_lpU Zz_lpU X_lpU e_lpU N_lpU Kp_lpU Ob_lpU_a Fa_lpU_b1 Fa_lpU_b2 Fa_lpU_b3 Fa_lpU_b4 Fa_lpU_b5 hiv hid hip hMX
      show OEnds p e below s _ _ _ (T.setTop (mkF m 221 #[(vr a), (vi 0), (vi 2), (vi iv), un] []))
      have hlt0 : ii < 0 + n := by omega
      show OEnds p e below s _ _ _ (T.setTop (mkF m 221 #[(vr a), (vi 0), (vi 2), (vi iv), un] []))
      refine qiN 222 X_lpU hx hby d3_221 rfl rfl ?_
      refine qaN 223 X_lpU hx hby d3_222 rfl rfl ?_
      refine qg 226 X_lpU hx hZ hown (tw32 hw) e_lpU (Ob_lpU_a.fld 8 rfl rfl) hby d3_223 rfl fun T63 X63 e63 => ?_
      refine q_cmn 229 X63 hx hby d3_226 rfl (tlt (lt_of_i hiv hsz hlt0)).2.1 ?_
      refine qaN 230 X63 hx hby d3_229 rfl rfl ?_
      refine qg 233 X63 hx hZ hown (tw34 hw) e63 (Ob_lpU_a.fld 9 rfl rfl) hby d3_230 rfl fun T64 X64 e64 => ?_
      refine qiN 234 X64 hx hby d3_233 rfl rfl ?_
      refine q_iadd 235 X64 hx hby d3_234 rfl ?_
      show OEnds p e below s _ _ _ (T64.setTop (mkF m 235 #[(vr a), (vi 0), (vi 2), (vi iv), un] [(.int 2)]))
      refine qiN 236 X64 hx hby d3_235 rfl rfl ?_
      refine qiN 237 X64 hx hby d3_236 rfl rfl ?_
      refine q_isub 238 X64 hx hby d3_237 rfl ?_
      refine qc2 240 8 X64 hx hby d3_238 rfl rfl ?_
      refine q_idiv 241 X64 hx hby d3_240 rfl (by decide) ?_
      refine q_iadd 242 X64 hx hby d3_241 rfl ?_
      refine qsi 244 #[(vr a), (vi 0), (vi 2), (vi iv), (vi ((2 : Int32) + ((iv - (0 : Int32)) / (8 : Int32))))] X64 hx hby d3_242 rfl rfl ?_
      refine qaN 245 X64 hx hby d3_244 rfl rfl ?_
      refine qg 248 X64 hx hZ hown (tw12 hw) e64 (Ob_lpU_a.fld 1 rfl rfl) hby d3_245 rfl fun T65 X65 e65 => ?_
      refine qi 250 X65 hx hby d3_248 rfl rfl ?_
      refine qaN 251 X65 hx hby d3_250 rfl rfl ?_
      refine qg 254 X65 hx hZ hown (tw12 hw) e65 (Ob_lpU_a.fld 1 rfl rfl) hby d3_251 rfl fun T66 X66 e66 => ?_
      refine qi 256 X66 hx hby d3_254 rfl rfl ?_
      refine qJ 257 X66 hx hZ e66 Fa_lpU_b2 (2 + (ii - 0) / 8) (ix_i (p := 0) hiv hip (by omega) (by decide)) (by omega) (v := (.long (c2 (2 + (ii - 0) / 8)))) rfl hby d3_256 rfl ?_
      refine qaN 258 X66 hx hby d3_257 rfl rfl ?_
      refine qg 261 X66 hx hZ hown (tw10 hw) e66 (Ob_lpU_a.fld 0 rfl rfl) hby d3_258 rfl fun T67 X67 e67 => ?_
      refine qiN 262 X67 hx hby d3_261 rfl rfl ?_
      refine qJ 263 X67 hx hZ e67 Fa_lpU_b1 ii hiv (by omega) (v := (.long (g1 ii))) rfl hby d3_262 rfl ?_
      obtain ⟨T68, X68, e68, st68⟩ := own_callP X67 hx hZ (y := mn0) hown (tw81 hw) (tw82 hw) (tw83 hw) (tw84 hw) (by decide) (rm_jmax l Z a0 hw [] (c2 (2 + (ii - 0) / 8)) (g1 ii) h_lpU) e67 (g := (mkF m 263 #[(vr a), (vi 0), (vi 2), (vi iv), (vi ((2 : Int32) + ((iv - (0 : Int32)) / (8 : Int32))))] [(.long (g1 ii)), (.long (c2 (2 + (ii - 0) / 8))), (.int ((2 : Int32) + ((iv - (0 : Int32)) / (8 : Int32)))), (.ref b2)])) rfl (by rw [hml]; rfl) (argsL := [(.long (c2 (2 + (ii - 0) / 8))), (.long (g1 ii))]) (rest := [(.int ((2 : Int32) + ((iv - (0 : Int32)) / (8 : Int32)))), (.ref b2)]) (lenOf pd_pJJrJ rfl) rfl (W := 2) (by show 2 * 0 + _ ≤ _; exact Nat.le_of_eq rfl) (hb hby d3_263) (by decide) (by decide) (by decide) (by decide)
      refine qat 266 #[(vr a), (vi 0), (vi 2), (vi iv), (vi ((2 : Int32) + ((iv - (0 : Int32)) / (8 : Int32))))] [(.long (jmax (c2 (2 + (ii - 0) / 8)) (g1 ii))), (.int ((2 : Int32) + ((iv - (0 : Int32)) / (8 : Int32)))), (.ref b2)] st68 ?_
      obtain ⟨T69, h69, X69, e69, W69, st69⟩ := own_lastore X68 hx hZ e68 Fa_lpU_b2 (2 + (ii - 0) / 8) (ix_i (p := 0) hiv hip (by omega) (by decide)) (by omega) (g := (mkF m 266 #[(vr a), (vi 0), (vi 2), (vi iv), (vi ((2 : Int32) + ((iv - (0 : Int32)) / (8 : Int32))))] [(.long (jmax (c2 (2 + (ii - 0) / 8)) (g1 ii))), (.int ((2 : Int32) + ((iv - (0 : Int32)) / (8 : Int32)))), (.ref b2)])) rfl rfl (hb hby d3_266)
      have F69 : FA Z h69 b2 .long 64 (fun i => .long ((updL c2 (2 + (ii - 0) / 8) (jmax (c2 (2 + (ii - 0) / 8)) (g1 ii))) i)) := Fa_lpU_b2.setL W69
      obtain ⟨f69, ef69⟩ : ∃ fz_ : Nat → Int64, fz_ = (updL c2 (2 + (ii - 0) / 8) (jmax (c2 (2 + (ii - 0) / 8)) (g1 ii))) := ⟨_, rfl⟩
      rw [← ef69] at F69
      have N69 := Fr.snoc X69 N_lpU g_b2
      have Z69 := Nat.le_trans Zz_lpU (Keep.of_wr W69).1
      have K69 := Kp_lpU.wr W69 (wi 1 rfl)
      refine qat 267 #[(vr a), (vi 0), (vi 2), (vi iv), (vi ((2 : Int32) + ((iv - (0 : Int32)) / (8 : Int32))))] [] st69 ?_
      refine q_inc 270 #[(vr a), (vi 0), (vi 2), (vi (iv + (1 : Int32))), (vi ((2 : Int32) + ((iv - (0 : Int32)) / (8 : Int32))))] X69 hx hby d3_267 rfl rfl rfl ?_
      refine q_goto 221 X69 hx hby d3_270 rfl ?_
      have O70 := (Ob_lpU_a.other W69 (o02 hord))
      have F71 := (Fa_lpU_b1.other W69 (o12 hord))
      have F72 := (Fa_lpU_b3.other W69 (Ne.symm (o23 hord)))
      have F73 := (Fa_lpU_b4.other W69 (Ne.symm (o24 hord)))
      have F74 := (Fa_lpU_b5.other W69 (Ne.symm (o25 hord)))
      exact lp dd T69 _ (iv + (1 : Int32)) ((2 : Int32) + ((iv - (0 : Int32)) / (8 : Int32))) _ (ii + 1) h69 Z69 X69 e69 N69 K69 O70 F71 F69 F72 F73 F74 (inc_i hiv (by omega)) (by omega) (by omega) (by subst ef69; exact mx_step hMX hip)
  subst ef30_b2
  have O75 := (O27.keep Kq30 (ninS (o02 hord) nin0))
  have F76 := ((((F_b1.other W13 (o13 hord)).other W18 (o14 hord)).other W24 (o15 hord)).keep Kq30 (ninS (o12 hord) nin0))
  have F77 := (((F13.other W18 (o34 hord)).other W24 (o35 hord)).keep Kq30 (ninS (Ne.symm (o23 hord)) nin0))
  have F78 := ((F18.other W24 (o45 hord)).keep Kq30 (ninS (Ne.symm (o24 hord)) nin0))
  have F79 := (F24.keep Kq30 (ninS (Ne.symm (o25 hord)) nin0))
  exact lpU n T30 _ (0 : Int32) _ 0 h30 Z30 X30 e30 N30 K30 O75 F76 F30_b2 F77 F78 F79 (by decide) rfl (Nat.le_refl _) (fun _ _ j _ hj => absurd hj (by omega))
def Q_index2_1_0 (Z : State) (a : Addr) (b1 : Addr) (b2 : Addr) (b3 : Addr) (b4 : Addr) (b5 : Addr) (b6 : Addr) (b7 : Addr) (sz : Int32) (bd : Int64) (ss : Int32) (bs : Int32) (bc : Int32) (pn : Int32) (se : Int32) (sa : Int32) (ta : Int32) (te : Int32) (g1 : Nat → Int64) (g2 : Nat → Int64) (g3 : Nat → Int32) (g4 : Nat → Int32) (g5 : Nat → Int32) (n : Nat) (h0 : Heap) (n0 : Nat) (r : Option Value) (h : Heap) (L : List Loc) : Prop := r = some (.int 1) ∧ Fr n0 L ∧ Keep h0 h [a, b2, b3, b4, b5] ∧ ∃ c2 : Nat → Int64, (∀ bd, c2 2 < bd → ∀ j, j < 8 → j < n → g1 (1 + j) < bd) ∧ Obj Z h a "com/example/graphweft/graphweft/RangeMaxTree" sch_rt [(.ref b1), (.ref b2), (.ref b3), (.ref b4), (.ref b5), (.ref b6), (.ref b7), (.int 2), (.int sz), (.int 2), (.long bd), (.int ss), (.int bs), (.int bc), (.int pn), (.int se), (.int sa), (.int ta), (.int te)] ∧ FA Z h b2 .long 64 (fun i => .long (c2 i)) ∧ FA Z h b3 .int 16 (fun i => .int ((updI g3 1 (1 : Int32)) i)) ∧ FA Z h b4 .int 16 (fun i => .int ((updI g4 1 sz) i)) ∧ FA Z h b5 .int 16 (fun i => .int ((updI g5 1 (2 : Int32)) i))
set_option maxRecDepth 65536 in
set_option maxHeartbeats 40000000 in
theorem rm_index2_1_0 (l : Launch) (Z : State) (a0 : Array Value) (hw : ∀ d ∈ tables_1, d.before a0 Z = true) (ws : List Jvm.Cond) (a : Addr) (b1 : Addr) (b2 : Addr) (b3 : Addr) (b4 : Addr) (b5 : Addr) (b6 : Addr) (b7 : Addr) (sz : Int32) (bd : Int64) (ss : Int32) (bs : Int32) (bc : Int32) (pn : Int32) (se : Int32) (sa : Int32) (ta : Int32) (te : Int32) (g1 : Nat → Int64) (g2 : Nat → Int64) (g3 : Nat → Int32) (g4 : Nat → Int32) (g5 : Nat → Int32) (n : Nat) (h0 : Heap) (n0 : Nat) (Z0 : n0 ≤ h0.size) (O0 : Obj Z h0 a "com/example/graphweft/graphweft/RangeMaxTree" sch_rt [(.ref b1), (.ref b2), (.ref b3), (.ref b4), (.ref b5), (.ref b6), (.ref b7), (.int 1), (.int sz), (.int 2), (.long bd), (.int ss), (.int bs), (.int bc), (.int pn), (.int se), (.int sa), (.int ta), (.int te)]) (F_b1 : FA Z h0 b1 .long 64 (fun i => .long (g1 i))) (F_b2 : FA Z h0 b2 .long 64 (fun i => .long (g2 i))) (F_b3 : FA Z h0 b3 .int 16 (fun i => .int (g3 i))) (F_b4 : FA Z h0 b4 .int 16 (fun i => .int (g4 i))) (F_b5 : FA Z h0 b5 .int 16 (fun i => .int (g5 i))) (g_a : n0 ≤ a) (g_b2 : n0 ≤ b2) (g_b3 : n0 ≤ b3) (g_b4 : n0 ≤ b4) (g_b5 : n0 ≤ b5) (hord : @LT.lt Nat instLTNat a b1 ∧ @LT.lt Nat instLTNat b1 b2 ∧ @LT.lt Nat instLTNat b2 b3 ∧ @LT.lt Nat instLTNat b3 b4 ∧ @LT.lt Nat instLTNat b4 b5 ∧ @LT.lt Nat instLTNat b5 b6 ∧ @LT.lt Nat instLTNat b6 b7) (he : g4 0 = (1 : Int32)) (hsz : sz.toInt = ((1 + n : Nat) : Int)) (hn9 : n ≤ 0) (hnb : ((((sz - (1 : Int32)) / (8 : Int32))) + (if ((sz - (1 : Int32)) % (8 : Int32)) = (0 : Int32) then (0 : Int32) else (1 : Int32))) = (0 : Int32)) :
    MetFree l mn5 (head1 (Jvm.Cond.code mn5 prog_32_method_5_code 5 (some .int) :: ws) ({ frames := 2, cells := 0, slots := 0, locals := 31 } : Room)) (fun a_ U => a_ = #[(.ref a)] ∧ Z.Warmed39 U.vm ∧ U.heap = h0) (fun _ _ _ _ _ => True) (fun _ U o U' => ∃ v_ L_, o = .returned v_ ∧ Q_index2_1_0 Z a b1 b2 b3 b4 b5 b6 b7 sz bd ss bs bc pn se sa ta te g1 g2 g3 g4 g5 n h0 n0 v_ U'.heap L_ ∧ FrameEnd U o U' L_ ({ frames := 2, cells := 0, slots := 0, locals := 31 } : Room).cells ({ frames := 2, cells := 0, slots := 0, locals := 31 } : Room).slots) := by
  refine MetFree.of_bodySF (plainFor_of_name pn_3) hisR ?_
  intro p e s m args below meth c s₁ Bd hml0 hP hK
  obtain ⟨rfl, hZ, hh⟩ := hP
  have hx := Bd.exec
  have hby := Bd.bytes
  have hlk : meth.locks = false := Bd.notSynchronized
  have hml : c.maxLocals = 5 := hml0
  have hown : s.vm.findClass "com/example/graphweft/graphweft/RangeMaxTree" = some m.cls := findClass_of_methodNamed Bd.named
  have hnm := (name_of_methodNamed Bd.named Bd.method).1
  have X0 : Stand p l e ({ frames := 2, cells := 0, slots := 0, locals := 31 } : Room) s m #[(.ref a)] below meth c s₁ [] 0 0 := Stand.of_body Bd
  have e0 : s₁.heap = h0 := by rw [← hh, Bd.state]; rfl
  have N0 := Fr.nil n0
  have K0 : Keep h0 h0 [a, b2, b3, b4, b5] := Keep.refl _ _
  show OEnds p e below s (Q_index2_1_0 Z a b1 b2 b3 b4 b5 b6 b7 sz bd ss bs bc pn se sa ta te g1 g2 g3 g4 g5 n h0 n0) _ _ _
  refine own_by (fun t k => castTop (ef_3 m a) k) ?_
  show OEnds p e below s _ _ _ (s₁.setTop (mkF m 0 #[(vr a), un, un, un, un] []))
  refine qaN 1 X0 hx hby d3_0 rfl rfl ?_
  refine qg 4 X0 hx hZ hown (tw30 hw) e0 (O0.fld 7 rfl rfl) hby d3_1 rfl fun T1 X1 e1 => ?_
  refine q_ify 11 X1 hx hby d3_4 rfl ((if0 _ _).trans (feq (by decide : ¬ ((1 : Int32) = (0 : Int32)))).2) ?_
  refine qaN 12 X1 hx hby d3_11 rfl rfl ?_
  refine qg 15 X1 hx hZ hown (tw17 hw) e1 (O0.fld 3 rfl rfl) hby d3_12 rfl fun T2 X2 e2 => ?_
  refine qaN 16 X2 hx hby d3_15 rfl rfl ?_
  refine qg 19 X2 hx hZ hown (tw30 hw) e2 (O0.fld 7 rfl rfl) hby d3_16 rfl fun T3 X3 e3 => ?_
  refine qc1 20 1 X3 hx hby d3_19 rfl rfl ?_
  refine q_isub 21 X3 hx hby d3_20 rfl ?_
  show OEnds p e below s _ _ _ (T3.setTop (mkF m 21 #[(vr a), un, un, un, un] [(.int 0), (.ref b4)]))
  refine qI 22 X3 hx hZ e3 F_b4 0 (by decide) (by decide) (v := (.int 1)) (congrArg Value.int he) hby d3_21 rfl ?_
  refine qsiN 23 #[(vr a), (vi 1), un, un, un] X3 hx hby d3_22 rfl rfl ?_
  refine qaN 24 X3 hx hby d3_23 rfl rfl ?_
  refine qg 27 X3 hx hZ hown (tw32 hw) e3 (O0.fld 8 rfl rfl) hby d3_24 rfl fun T4 X4 e4 => ?_
  refine qiN 28 X4 hx hby d3_27 rfl rfl ?_
  refine q_isub 29 X4 hx hby d3_28 rfl ?_
  refine qc2 31 8 X4 hx hby d3_29 rfl rfl ?_
  refine q_idiv 32 X4 hx hby d3_31 rfl (by decide) ?_
  refine qaN 33 X4 hx hby d3_32 rfl rfl ?_
  refine qg 36 X4 hx hZ hown (tw32 hw) e4 (O0.fld 8 rfl rfl) hby d3_33 rfl fun T5 X5 e5 => ?_
  refine qiN 37 X5 hx hby d3_36 rfl rfl ?_
  refine q_isub 38 X5 hx hby d3_37 rfl ?_
  refine qc2 40 8 X5 hx hby d3_38 rfl rfl ?_
  refine own_by (fun _ k => iremM X5 hx rfl (hb hby d3_40) rfl (by decide) k) ?_
  show OEnds p e below s _ _ _ (T5.setTop (mkF m 41 #[(vr a), (vi 1), un, un, un] [(.int ((sz - (1 : Int32)) % (8 : Int32))), (.int ((sz - (1 : Int32)) / (8 : Int32)))]))
  refine own_by (S' := T5.setTop (mkF m 49 #[(vr a), (vi 1), un, un, un] [(.int (if ((sz - (1 : Int32)) % (8 : Int32)) = (0 : Int32) then (0 : Int32) else (1 : Int32))), (.int ((sz - (1 : Int32)) / (8 : Int32)))])) (fun t k => ?_) ?_
  · by_cases hc41_6 : ((sz - (1 : Int32)) % (8 : Int32)) = (0 : Int32)
    · rw [if_pos hc41_6] at k
      refine XS.ifNo X5.here hx rfl (hb hby d3_41) rfl ((if0 _ _).trans (teq hc41_6).2) ?_
      show Steps p.tables e below (T5.setTop (mkF m 44 #[(vr a), (vi 1), un, un, un] [(.int ((sz - (1 : Int32)) / (8 : Int32)))])) t
      refine XS.iconst X5.here hx rfl (hb hby d3_44) ?_
      show Steps p.tables e below (T5.setTop (mkF m 45 #[(vr a), (vi 1), un, un, un] [(.int 0), (.int ((sz - (1 : Int32)) / (8 : Int32)))])) t
      refine XS.goto X5.here hx rfl (pc0 := 45) (pc' := 49) rfl (hb hby d3_45) (by decide) (by decide) ?_
      show Steps p.tables e below (T5.setTop (mkF m 49 #[(vr a), (vi 1), un, un, un] [(.int 0), (.int ((sz - (1 : Int32)) / (8 : Int32)))])) t
      exact k
    · rw [if_neg hc41_6] at k
      refine XS.ifYes X5.here hx rfl (pc0 := 41) (pc' := 48) rfl (hb hby d3_41) rfl ((if0 _ _).trans (feq hc41_6).2) (by decide) (by decide) ?_
      show Steps p.tables e below (T5.setTop (mkF m 48 #[(vr a), (vi 1), un, un, un] [(.int ((sz - (1 : Int32)) / (8 : Int32)))])) t
      refine XS.iconst X5.here hx rfl (hb hby d3_48) ?_
      show Steps p.tables e below (T5.setTop (mkF m 49 #[(vr a), (vi 1), un, un, un] [(.int 1), (.int ((sz - (1 : Int32)) / (8 : Int32)))])) t
      exact k
  show OEnds p e below s _ _ _ (T5.setTop (mkF m 49 #[(vr a), (vi 1), un, un, un] [(.int (if ((sz - (1 : Int32)) % (8 : Int32)) = (0 : Int32) then (0 : Int32) else (1 : Int32))), (.int ((sz - (1 : Int32)) / (8 : Int32)))]))
  refine q_iadd 50 X5 hx hby d3_49 rfl ?_
  rw [hnb]
  show OEnds p e below s _ _ _ (T5.setTop (mkF m 50 #[(vr a), (vi 1), un, un, un] [(.int 0)]))
  refine qsiN 51 #[(vr a), (vi 1), (vi 0), un, un] X5 hx hby d3_50 rfl rfl ?_
  refine qaN 52 X5 hx hby d3_51 rfl rfl ?_
  refine qg 55 X5 hx hZ hown (tw12 hw) e5 (O0.fld 1 rfl rfl) hby d3_52 rfl fun T7 X7 e7 => ?_
  refine qn 56 (64 : Int32) X7 hx hZ e7 F_b2 (by decide) hby d3_55 rfl ?_
  refine qaN 57 X7 hx hby d3_56 rfl rfl ?_
  refine qg 60 X7 hx hZ hown (tw34 hw) e7 (O0.fld 9 rfl rfl) hby d3_57 rfl fun T8 X8 e8 => ?_
  refine q_isub 61 X8 hx hby d3_60 rfl ?_
  show OEnds p e below s _ _ _ (T8.setTop (mkF m 61 #[(vr a), (vi 1), (vi 0), un, un] [(.int 62)]))
  refine qc1 62 2 X8 hx hby d3_61 rfl rfl ?_
  refine qiN 63 X8 hx hby d3_62 rfl rfl ?_
  refine q_imul 64 X8 hx hby d3_63 rfl ?_
  show OEnds p e below s _ _ _ (T8.setTop (mkF m 64 #[(vr a), (vi 1), (vi 0), un, un] [(.int 0), (.int 62)]))
  refine q_cmy 96 X8 hx hby d3_64 rfl (flt (by decide : ¬ ((62 : Int32) < (0 : Int32)))).2.1 ?_
  refine qaN 97 X8 hx hby d3_96 rfl rfl ?_
  refine qg 100 X8 hx hZ hown (tw30 hw) e8 (O0.fld 7 rfl rfl) hby d3_97 rfl fun T9 X9 e9 => ?_
  refine qaN 101 X9 hx hby d3_100 rfl rfl ?_
  refine qg 104 X9 hx hZ hown (tw15 hw) e9 (O0.fld 2 rfl rfl) hby d3_101 rfl fun T10 X10 e10 => ?_
  refine qn 105 (16 : Int32) X10 hx hZ e10 F_b3 (by decide) hby d3_104 rfl ?_
  refine q_cmy 159 X10 hx hby d3_105 rfl (feq (by decide : ¬ ((1 : Int32) = (16 : Int32)))).2 ?_
  refine qaN 160 X10 hx hby d3_159 rfl rfl ?_
  refine qg 163 X10 hx hZ hown (tw15 hw) e10 (O0.fld 2 rfl rfl) hby d3_160 rfl fun T11 X11 e11 => ?_
  refine qaN 164 X11 hx hby d3_163 rfl rfl ?_
  refine qg 167 X11 hx hZ hown (tw30 hw) e11 (O0.fld 7 rfl rfl) hby d3_164 rfl fun T12 X12 e12 => ?_
  refine qiN 168 X12 hx hby d3_167 rfl rfl ?_
  obtain ⟨T13, h13, X13, e13, W13, st13⟩ := own_iastore X12 hx hZ e12 F_b3 1 (by decide) (by decide) (g := (mkF m 168 #[(vr a), (vi 1), (vi 0), un, un] [(.int 1), (.int 1), (.ref b3)])) rfl rfl (hb hby d3_168)
  have F13 : FA Z h13 b3 .int 16 (fun i => .int ((updI g3 1 (1 : Int32)) i)) := F_b3.setI W13
  have N13 := Fr.snoc X13 N0 g_b3
  have Z13 := Nat.le_trans Z0 (Keep.of_wr W13).1
  have K13 := K0.wr W13 (wi 2 rfl)
  refine qat 169 #[(vr a), (vi 1), (vi 0), un, un] [] st13 ?_
  refine qaN 170 X13 hx hby d3_169 rfl rfl ?_
  have O15 := (O0.other W13 (o03 hord))
  refine qg 173 X13 hx hZ hown (tw17 hw) e13 (O15.fld 3 rfl rfl) hby d3_170 rfl fun T14 X14 e14 => ?_
  refine qaN 174 X14 hx hby d3_173 rfl rfl ?_
  refine qg 177 X14 hx hZ hown (tw30 hw) e14 (O15.fld 7 rfl rfl) hby d3_174 rfl fun T16 X16 e16 => ?_
  refine qaN 178 X16 hx hby d3_177 rfl rfl ?_
  refine qg 181 X16 hx hZ hown (tw32 hw) e16 (O15.fld 8 rfl rfl) hby d3_178 rfl fun T17 X17 e17 => ?_
  have F19 := (F_b4.other W13 (Ne.symm (o34 hord)))
  obtain ⟨T18, h18, X18, e18, W18, st18⟩ := own_iastore X17 hx hZ e17 F19 1 (by decide) (by decide) (g := (mkF m 181 #[(vr a), (vi 1), (vi 0), un, un] [(.int sz), (.int 1), (.ref b4)])) rfl rfl (hb hby d3_181)
  have F18 : FA Z h18 b4 .int 16 (fun i => .int ((updI g4 1 sz) i)) := F19.setI W18
  have N18 := Fr.snoc X18 N13 g_b4
  have Z18 := Nat.le_trans Z13 (Keep.of_wr W18).1
  have K18 := K13.wr W18 (wi 3 rfl)
  refine qat 182 #[(vr a), (vi 1), (vi 0), un, un] [] st18 ?_
  refine qaN 183 X18 hx hby d3_182 rfl rfl ?_
  have O21 := (O15.other W18 (o04 hord))
  refine qg 186 X18 hx hZ hown (tw19 hw) e18 (O21.fld 4 rfl rfl) hby d3_183 rfl fun T20 X20 e20 => ?_
  refine qaN 187 X20 hx hby d3_186 rfl rfl ?_
  refine qg 190 X20 hx hZ hown (tw30 hw) e20 (O21.fld 7 rfl rfl) hby d3_187 rfl fun T22 X22 e22 => ?_
  refine qaN 191 X22 hx hby d3_190 rfl rfl ?_
  refine qg 194 X22 hx hZ hown (tw34 hw) e22 (O21.fld 9 rfl rfl) hby d3_191 rfl fun T23 X23 e23 => ?_
  have F25 := ((F_b5.other W13 (Ne.symm (o35 hord))).other W18 (Ne.symm (o45 hord)))
  obtain ⟨T24, h24, X24, e24, W24, st24⟩ := own_iastore X23 hx hZ e23 F25 1 (by decide) (by decide) (g := (mkF m 194 #[(vr a), (vi 1), (vi 0), un, un] [(.int 2), (.int 1), (.ref b5)])) rfl rfl (hb hby d3_194)
  have F24 : FA Z h24 b5 .int 16 (fun i => .int ((updI g5 1 (2 : Int32)) i)) := F25.setI W24
  have N24 := Fr.snoc X24 N18 g_b5
  have Z24 := Nat.le_trans Z18 (Keep.of_wr W24).1
  have K24 := K18.wr W24 (wi 4 rfl)
  refine qat 195 #[(vr a), (vi 1), (vi 0), un, un] [] st24 ?_
  refine qaN 196 X24 hx hby d3_195 rfl rfl ?_
  have O27 := (O21.other W24 (o05 hord))
  refine qg 199 X24 hx hZ hown (tw12 hw) e24 (O27.fld 1 rfl rfl) hby d3_196 rfl fun T26 X26 e26 => ?_
  refine qaN 200 X26 hx hby d3_199 rfl rfl ?_
  refine qg 203 X26 hx hZ hown (tw34 hw) e26 (O27.fld 9 rfl rfl) hby d3_200 rfl fun T28 X28 e28 => ?_
  refine qiN 204 X28 hx hby d3_203 rfl rfl ?_
  refine q_iadd 205 X28 hx hby d3_204 rfl ?_
  show OEnds p e below s _ _ _ (T28.setTop (mkF m 205 #[(vr a), (vi 1), (vi 0), un, un] [(.int 2), (.ref b2)]))
  refine qaN 206 X28 hx hby d3_205 rfl rfl ?_
  refine qg 209 X28 hx hZ hown (tw34 hw) e28 (O27.fld 9 rfl rfl) hby d3_206 rfl fun T29 X29 e29 => ?_
  refine qc1 210 2 X29 hx hby d3_209 rfl rfl ?_
  refine qiN 211 X29 hx hby d3_210 rfl rfl ?_
  refine q_imul 212 X29 hx hby d3_211 rfl ?_
  show OEnds p e below s _ _ _ (T29.setTop (mkF m 212 #[(vr a), (vi 1), (vi 0), un, un] [(.int 0), (.int 2), (.int 2), (.ref b2)]))
  refine q_iadd 213 X29 hx hby d3_212 rfl ?_
  show OEnds p e below s _ _ _ (T29.setTop (mkF m 213 #[(vr a), (vi 1), (vi 0), un, un] [(.int 2), (.int 2), (.ref b2)]))
  refine own_by (X29.ldc2Long hx hown (mvT hZ (tw36 hw)) (g := (mkF m 213 #[(vr a), (vi 1), (vi 0), un, un] [(.int 2), (.int 2), (.ref b2)])) rfl (hb hby d3_213)) ?_
  show OEnds p e below s _ _ _ (T29.setTop (mkF m 216 #[(vr a), (vi 1), (vi 0), un, un] [(.long (-9223372036854775808)), (.int 2), (.int 2), (.ref b2)]))
  have F31 := (((F_b2.other W13 (o23 hord)).other W18 (o24 hord)).other W24 (o25 hord))
  obtain ⟨v30, T30, L30, h30, X30, e30, hQ30, st30⟩ := own_callS X29 hx hZ (y := mn4) hown (tw37 hw) (tw38 hw) (tw39 hw) (tw40 hw) (by decide) (rm_fill_2_2 l Z a0 hw [] b2 (-9223372036854775808 : Int64) g2 h24 n0 Z24 F31) e29 (g := (mkF m 216 #[(vr a), (vi 1), (vi 0), un, un] [(.long (-9223372036854775808)), (.int 2), (.int 2), (.ref b2)])) rfl (by rw [hml]; rfl) (argsL := [(.ref b2), (.int 2), (.int 2), (.long (-9223372036854775808))]) (rest := []) (lenOf pd_paJIIJrV rfl) rfl (W := 0) (by show 2 * 0 + _ ≤ _; exact Nat.le_of_eq rfl) (hb hby d3_216) (by decide) (by decide) (by decide) (by decide)
  obtain ⟨rfl, Nq30, Kq30⟩ := hQ30
  have N30 := Fr.app N24 Nq30
  have K30 := K24.trans Kq30 all0
  have Z30 := Nat.le_trans Z24 Kq30.1
  refine qtr 219 #[(vr a), (vi 1), (vi 0), un, un] [] st30 ?_
  refine qiN 220 X30 hx hby d3_219 rfl rfl ?_
  refine qsiN 221 #[(vr a), (vi 1), (vi 0), (vi 1), un] X30 hx hby d3_220 rfl rfl ?_
  have fin : ∀ (T : State) (lo : List Loc) (iv : Int32) (c2 : Nat → Int64) (ii : Nat) (s4 : Slot) (h_fin : Heap) (Zz_fin : n0 ≤ h_fin.size) (X_fin : Stand p l e ({ frames := 2, cells := 0, slots := 0, locals := 31 } : Room) s m #[(.ref a)] below meth c T lo 0 0) (e_fin : T.heap = h_fin) (N_fin : Fr n0 lo) (Kp_fin : Keep h0 h_fin [a, b2, b3, b4, b5]) (Ob_fin_a : Obj Z h_fin a "com/example/graphweft/graphweft/RangeMaxTree" sch_rt [(.ref b1), (.ref b2), (.ref b3), (.ref b4), (.ref b5), (.ref b6), (.ref b7), (.int 1), (.int sz), (.int 2), (.long bd), (.int ss), (.int bs), (.int bc), (.int pn), (.int se), (.int sa), (.int ta), (.int te)]) (Fa_fin_b1 : FA Z h_fin b1 .long 64 (fun i => .long (g1 i))) (Fa_fin_b2 : FA Z h_fin b2 .long 64 (fun i => .long (c2 i))) (Fa_fin_b3 : FA Z h_fin b3 .int 16 (fun i => .int ((updI g3 1 (1 : Int32)) i))) (Fa_fin_b4 : FA Z h_fin b4 .int 16 (fun i => .int ((updI g4 1 sz) i))) (Fa_fin_b5 : FA Z h_fin b5 .int 16 (fun i => .int ((updI g5 1 (2 : Int32)) i))) (hi : ii = 1 + n) (hMX : ∀ bd, c2 2 < bd → ∀ j, j < 8 → 1 + j < ii → g1 (1 + j) < bd), OEnds p e below s (Q_index2_1_0 Z a b1 b2 b3 b4 b5 b6 b7 sz bd ss bs bc pn se sa ta te g1 g2 g3 g4 g5 n h0 n0) 0 0 (T.setTop (mkF m 273 #[(vr a), (vi 1), (vi 0), (vi iv), s4] [])) := by
    intro T lo iv c2 ii s4 h_fin Zz_fin X_fin e_fin N_fin Kp_fin Ob_fin_a Fa_fin_b1 Fa_fin_b2 Fa_fin_b3 Fa_fin_b4 Fa_fin_b5 hi hMX
    show OEnds p e below s _ _ _ (T.setTop (mkF m 273 #[(vr a), (vi 1), (vi 0), (vi iv), s4] []))
    show OEnds p e below s _ _ _ (T.setTop (mkF m 273 #[(vr a), (vi 1), (vi 0), (vi iv), s4] []))
    refine qiN 274 X_fin hx hby d3_273 rfl rfl ?_
    refine qc1 275 1 X_fin hx hby d3_274 rfl rfl ?_
    refine q_isub 276 X_fin hx hby d3_275 rfl ?_
    show OEnds p e below s _ _ _ (T.setTop (mkF m 276 #[(vr a), (vi 1), (vi 0), (vi iv), s4] [(.int (-1))]))
    refine qsiN 277 #[(vr a), (vi 1), (vi 0), (vi (-1)), s4] X_fin hx hby d3_276 rfl rfl ?_
    refine qiN 278 X_fin hx hby d3_277 rfl rfl ?_
    refine q_ify 329 X_fin hx hby d3_278 rfl ((if0 _ _).trans (flt (by decide : ¬ ((0 : Int32) < (-1 : Int32)))).2.2.2) ?_
    refine qaN 330 X_fin hx hby d3_329 rfl rfl ?_
    refine q_dup 331 X_fin hx hby d3_330 rfl rfl ?_
    refine qg 334 X_fin hx hZ hown (tw34 hw) e_fin (Ob_fin_a.fld 9 rfl rfl) hby d3_331 rfl fun T32 X32 e32 => ?_
    refine qc1 335 2 X32 hx hby d3_334 rfl rfl ?_
    refine qiN 336 X32 hx hby d3_335 rfl rfl ?_
    refine q_imul 337 X32 hx hby d3_336 rfl ?_
    show OEnds p e below s _ _ _ (T32.setTop (mkF m 337 #[(vr a), (vi 1), (vi 0), (vi (-1)), s4] [(.int 0), (.int 2), (.ref a)]))
    refine q_iadd 338 X32 hx hby d3_337 rfl ?_
    show OEnds p e below s _ _ _ (T32.setTop (mkF m 338 #[(vr a), (vi 1), (vi 0), (vi (-1)), s4] [(.int 2), (.ref a)]))
    obtain ⟨T33, h33, X33, e33, W33, st33⟩ := putF X32 hx hZ hown (host := "") (Or.inl (tw34 hw)) Via.refl e32 (Ob_fin_a.fld 9 rfl rfl) Ob_fin_a.exa (Or.inl (tw35 hw)) (tw2 hw) (ty := .int) (by decide) rfl rfl (g := (mkF m 338 #[(vr a), (vi 1), (vi 0), (vi (-1)), s4] [(.int 2), (.ref a)])) rfl rfl (hb hby d3_338)
    have O33 : Obj Z h33 a "com/example/graphweft/graphweft/RangeMaxTree" sch_rt [(.ref b1), (.ref b2), (.ref b3), (.ref b4), (.ref b5), (.ref b6), (.ref b7), (.int 1), (.int sz), (.int 2), (.long bd), (.int ss), (.int bs), (.int bc), (.int pn), (.int se), (.int sa), (.int ta), (.int te)] := Ob_fin_a.set (so_sch_rt hw) W33 9 rfl (Nat.le_of_ble_eq_true rfl)
    have N33 := Fr.snoc X33 N_fin g_a
    have Z33 := Nat.le_trans Zz_fin (Keep.of_wr W33).1
    have K33 := Kp_fin.wr W33 (wi 0 rfl)
    refine qat 341 #[(vr a), (vi 1), (vi 0), (vi (-1)), s4] [] st33 ?_
    refine qaN 342 X33 hx hby d3_341 rfl rfl ?_
    refine q_dup 343 X33 hx hby d3_342 rfl rfl ?_
    refine qg 346 X33 hx hZ hown (tw30 hw) e33 (O33.fld 7 rfl rfl) hby d3_343 rfl fun T34 X34 e34 => ?_
    refine own_by (fun _ k => XS.dupX1 X34.here hx rfl (hb hby d3_346) rfl rfl rfl k) ?_
    show OEnds p e below s _ _ _ (T34.setTop (mkF m 347 #[(vr a), (vi 1), (vi 0), (vi (-1)), s4] [(.int 1), (.ref a), (.int 1)]))
    refine qc1 348 1 X34 hx hby d3_347 rfl rfl ?_
    refine q_iadd 349 X34 hx hby d3_348 rfl ?_
    show OEnds p e below s _ _ _ (T34.setTop (mkF m 349 #[(vr a), (vi 1), (vi 0), (vi (-1)), s4] [(.int 2), (.ref a), (.int 1)]))
    obtain ⟨T35, h35, X35, e35, W35, st35⟩ := putF X34 hx hZ hown (host := "") (Or.inl (tw30 hw)) Via.refl e34 (O33.fld 7 rfl rfl) O33.exa (Or.inl (tw31 hw)) (tw2 hw) (ty := .int) (by decide) rfl rfl (g := (mkF m 349 #[(vr a), (vi 1), (vi 0), (vi (-1)), s4] [(.int 2), (.ref a), (.int 1)])) rfl rfl (hb hby d3_349)
    have O35 : Obj Z h35 a "com/example/graphweft/graphweft/RangeMaxTree" sch_rt [(.ref b1), (.ref b2), (.ref b3), (.ref b4), (.ref b5), (.ref b6), (.ref b7), (.int 2), (.int sz), (.int 2), (.long bd), (.int ss), (.int bs), (.int bc), (.int pn), (.int se), (.int sa), (.int ta), (.int te)] := O33.set (so_sch_rt hw) W35 7 rfl (Nat.le_of_ble_eq_true rfl)
    have N35 := Fr.snoc X35 N33 g_a
    have Z35 := Nat.le_trans Z33 (Keep.of_wr W35).1
    have K35 := K33.wr W35 (wi 0 rfl)
    refine qat 352 #[(vr a), (vi 1), (vi 0), (vi (-1)), s4] [(.int 1)] st35 ?_
    have hfin : ∀ bd, c2 2 < bd → ∀ j, j < 8 → j < n → g1 (1 + j) < bd := by exact fun bd hb j hj hjn => hMX bd hb j hj (by omega)
    have F36 := ((Fa_fin_b2.other W33 (Ne.symm (o02 hord))).other W35 (Ne.symm (o02 hord)))
    have F37 := ((Fa_fin_b3.other W33 (Ne.symm (o03 hord))).other W35 (Ne.symm (o03 hord)))
    have F38 := ((Fa_fin_b4.other W33 (Ne.symm (o04 hord))).other W35 (Ne.symm (o04 hord)))
    have F39 := ((Fa_fin_b5.other W33 (Ne.symm (o05 hord))).other W35 (Ne.symm (o05 hord)))
    exact own_retI X35 hx hlk Bd.returns (hb hby d3_352) (by rw [e35]; exact ⟨rfl, N35, K35, _, hfin, O35, F36, F37, F38, F39⟩) (by decide) (by decide)
  have lp : ∀ (dd : Nat) (T : State) (lo : List Loc) (iv : Int32) (d4 : Int32) (c2 : Nat → Int64) (ii : Nat) (h_lp : Heap) (Zz_lp : n0 ≤ h_lp.size) (X_lp : Stand p l e ({ frames := 2, cells := 0, slots := 0, locals := 31 } : Room) s m #[(.ref a)] below meth c T lo 0 0) (e_lp : T.heap = h_lp) (N_lp : Fr n0 lo) (Kp_lp : Keep h0 h_lp [a, b2, b3, b4, b5]) (Ob_lp_a : Obj Z h_lp a "com/example/graphweft/graphweft/RangeMaxTree" sch_rt [(.ref b1), (.ref b2), (.ref b3), (.ref b4), (.ref b5), (.ref b6), (.ref b7), (.int 1), (.int sz), (.int 2), (.long bd), (.int ss), (.int bs), (.int bc), (.int pn), (.int se), (.int sa), (.int ta), (.int te)]) (Fa_lp_b1 : FA Z h_lp b1 .long 64 (fun i => .long (g1 i))) (Fa_lp_b2 : FA Z h_lp b2 .long 64 (fun i => .long (c2 i))) (Fa_lp_b3 : FA Z h_lp b3 .int 16 (fun i => .int ((updI g3 1 (1 : Int32)) i))) (Fa_lp_b4 : FA Z h_lp b4 .int 16 (fun i => .int ((updI g4 1 sz) i))) (Fa_lp_b5 : FA Z h_lp b5 .int 16 (fun i => .int ((updI g5 1 (2 : Int32)) i))) (hiv : iv.toInt = (ii : Int)) (hid : ii + dd = 1 + n) (hip : 1 ≤ ii) (hMX : ∀ bd, c2 2 < bd → ∀ j, j < 8 → 1 + j < ii → g1 (1 + j) < bd), OEnds p e below s (Q_index2_1_0 Z a b1 b2 b3 b4 b5 b6 b7 sz bd ss bs bc pn se sa ta te g1 g2 g3 g4 g5 n h0 n0) 0 0 (T.setTop (mkF m 221 #[(vr a), (vi 1), (vi 0), (vi iv), (vi d4)] [])) := by
    intro dd
    induction dd with
    | zero =>
      intro T lo iv d4 c2 ii h_lp Zz_lp X_lp e_lp N_lp Kp_lp Ob_lp_a Fa_lp_b1 Fa_lp_b2 Fa_lp_b3 Fa_lp_b4 Fa_lp_b5 hiv hid hip hMX
      show OEnds p e below s _ _ _ (T.setTop (mkF m 221 #[(vr a), (vi 1), (vi 0), (vi iv), (vi d4)] []))
      refine qiN 222 X_lp hx hby d3_221 rfl rfl ?_
      refine qaN 223 X_lp hx hby d3_222 rfl rfl ?_
      refine qg 226 X_lp hx hZ hown (tw32 hw) e_lp (Ob_lp_a.fld 8 rfl rfl) hby d3_223 rfl fun T40 X40 e40 => ?_
      refine q_cmy 273 X40 hx hby d3_226 rfl (flt (nlt_i hiv hsz (by omega))).2.1 ?_
      exact fin T40 _ iv c2 ii ((vi d4)) h_lp Zz_lp X40 e40 N_lp Kp_lp Ob_lp_a Fa_lp_b1 Fa_lp_b2 Fa_lp_b3 Fa_lp_b4 Fa_lp_b5 (by omega) hMX
    | succ dd ih_lp =>
      intro T lo iv d4 c2 ii h_lp Zz_lp X_lp e_lp N_lp Kp_lp Ob_lp_a Fa_lp_b1 Fa_lp_b2 Fa_lp_b3 Fa_lp_b4 Fa_lp_b5 hiv hid hip hMX
      show OEnds p e below s _ _ _ (T.setTop (mkF m 221 #[(vr a), (vi 1), (vi 0), (vi iv), (vi d4)] []))
      have hlt0 : ii < 1 + n := by omega
      show OEnds p e below s _ _ _ (T.setTop (mkF m 221 #[(vr a), (vi 1), (vi 0), (vi iv), (vi d4)] []))
      refine qiN 222 X_lp hx hby d3_221 rfl rfl ?_
      refine qaN 223 X_lp hx hby d3_222 rfl rfl ?_
      refine qg 226 X_lp hx hZ hown (tw32 hw) e_lp (Ob_lp_a.fld 8 rfl rfl) hby d3_223 rfl fun T41 X41 e41 => ?_
      refine q_cmn 229 X41 hx hby d3_226 rfl (tlt (lt_of_i hiv hsz hlt0)).2.1 ?_
      refine qaN 230 X41 hx hby d3_229 rfl rfl ?_
      refine qg 233 X41 hx hZ hown (tw34 hw) e41 (Ob_lp_a.fld 9 rfl rfl) hby d3_230 rfl fun T42 X42 e42 => ?_
      refine qiN 234 X42 hx hby d3_233 rfl rfl ?_
      refine q_iadd 235 X42 hx hby d3_234 rfl ?_
      show OEnds p e below s _ _ _ (T42.setTop (mkF m 235 #[(vr a), (vi 1), (vi 0), (vi iv), (vi d4)] [(.int 2)]))
      refine qiN 236 X42 hx hby d3_235 rfl rfl ?_
      refine qiN 237 X42 hx hby d3_236 rfl rfl ?_
      refine q_isub 238 X42 hx hby d3_237 rfl ?_
      refine qc2 240 8 X42 hx hby d3_238 rfl rfl ?_
      refine q_idiv 241 X42 hx hby d3_240 rfl (by decide) ?_
      refine q_iadd 242 X42 hx hby d3_241 rfl ?_
      refine qsi 244 #[(vr a), (vi 1), (vi 0), (vi iv), (vi ((2 : Int32) + ((iv - (1 : Int32)) / (8 : Int32))))] X42 hx hby d3_242 rfl rfl ?_
      refine qaN 245 X42 hx hby d3_244 rfl rfl ?_
      refine qg 248 X42 hx hZ hown (tw12 hw) e42 (Ob_lp_a.fld 1 rfl rfl) hby d3_245 rfl fun T43 X43 e43 => ?_
      refine qi 250 X43 hx hby d3_248 rfl rfl ?_
      refine qaN 251 X43 hx hby d3_250 rfl rfl ?_
      refine qg 254 X43 hx hZ hown (tw12 hw) e43 (Ob_lp_a.fld 1 rfl rfl) hby d3_251 rfl fun T44 X44 e44 => ?_
      refine qi 256 X44 hx hby d3_254 rfl rfl ?_
      refine qJ 257 X44 hx hZ e44 Fa_lp_b2 (2 + (ii - 1) / 8) (ix_i (p := 1) hiv hip (by omega) (by decide)) (by omega) (v := (.long (c2 (2 + (ii - 1) / 8)))) rfl hby d3_256 rfl ?_
      refine qaN 258 X44 hx hby d3_257 rfl rfl ?_
      refine qg 261 X44 hx hZ hown (tw10 hw) e44 (Ob_lp_a.fld 0 rfl rfl) hby d3_258 rfl fun T45 X45 e45 => ?_
      refine qiN 262 X45 hx hby d3_261 rfl rfl ?_
      refine qJ 263 X45 hx hZ e45 Fa_lp_b1 ii hiv (by omega) (v := (.long (g1 ii))) rfl hby d3_262 rfl ?_
      obtain ⟨T46, X46, e46, st46⟩ := own_callP X45 hx hZ (y := mn0) hown (tw81 hw) (tw82 hw) (tw83 hw) (tw84 hw) (by decide) (rm_jmax l Z a0 hw [] (c2 (2 + (ii - 1) / 8)) (g1 ii) h_lp) e45 (g := (mkF m 263 #[(vr a), (vi 1), (vi 0), (vi iv), (vi ((2 : Int32) + ((iv - (1 : Int32)) / (8 : Int32))))] [(.long (g1 ii)), (.long (c2 (2 + (ii - 1) / 8))), (.int ((2 : Int32) + ((iv - (1 : Int32)) / (8 : Int32)))), (.ref b2)])) rfl (by rw [hml]; rfl) (argsL := [(.long (c2 (2 + (ii - 1) / 8))), (.long (g1 ii))]) (rest := [(.int ((2 : Int32) + ((iv - (1 : Int32)) / (8 : Int32)))), (.ref b2)]) (lenOf pd_pJJrJ rfl) rfl (W := 2) (by show 2 * 0 + _ ≤ _; exact Nat.le_of_eq rfl) (hb hby d3_263) (by decide) (by decide) (by decide) (by decide)
      refine qat 266 #[(vr a), (vi 1), (vi 0), (vi iv), (vi ((2 : Int32) + ((iv - (1 : Int32)) / (8 : Int32))))] [(.long (jmax (c2 (2 + (ii - 1) / 8)) (g1 ii))), (.int ((2 : Int32) + ((iv - (1 : Int32)) / (8 : Int32)))), (.ref b2)] st46 ?_
      obtain ⟨T47, h47, X47, e47, W47, st47⟩ := own_lastore X46 hx hZ e46 Fa_lp_b2 (2 + (ii - 1) / 8) (ix_i (p := 1) hiv hip (by omega) (by decide)) (by omega) (g := (mkF m 266 #[(vr a), (vi 1), (vi 0), (vi iv), (vi ((2 : Int32) + ((iv - (1 : Int32)) / (8 : Int32))))] [(.long (jmax (c2 (2 + (ii - 1) / 8)) (g1 ii))), (.int ((2 : Int32) + ((iv - (1 : Int32)) / (8 : Int32)))), (.ref b2)])) rfl rfl (hb hby d3_266)
      have F47 : FA Z h47 b2 .long 64 (fun i => .long ((updL c2 (2 + (ii - 1) / 8) (jmax (c2 (2 + (ii - 1) / 8)) (g1 ii))) i)) := Fa_lp_b2.setL W47
      obtain ⟨f47, ef47⟩ : ∃ fz_ : Nat → Int64, fz_ = (updL c2 (2 + (ii - 1) / 8) (jmax (c2 (2 + (ii - 1) / 8)) (g1 ii))) := ⟨_, rfl⟩
      rw [← ef47] at F47
      have N47 := Fr.snoc X47 N_lp g_b2
      have Z47 := Nat.le_trans Zz_lp (Keep.of_wr W47).1
      have K47 := Kp_lp.wr W47 (wi 1 rfl)
      refine qat 267 #[(vr a), (vi 1), (vi 0), (vi iv), (vi ((2 : Int32) + ((iv - (1 : Int32)) / (8 : Int32))))] [] st47 ?_
      refine q_inc 270 #[(vr a), (vi 1), (vi 0), (vi (iv + (1 : Int32))), (vi ((2 : Int32) + ((iv - (1 : Int32)) / (8 : Int32))))] X47 hx hby d3_267 rfl rfl rfl ?_
      refine q_goto 221 X47 hx hby d3_270 rfl ?_
      have O48 := (Ob_lp_a.other W47 (o02 hord))
      have F49 := (Fa_lp_b1.other W47 (o12 hord))
      have F50 := (Fa_lp_b3.other W47 (Ne.symm (o23 hord)))
      have F51 := (Fa_lp_b4.other W47 (Ne.symm (o24 hord)))
      have F52 := (Fa_lp_b5.other W47 (Ne.symm (o25 hord)))
      exact ih_lp T47 _ (iv + (1 : Int32)) ((2 : Int32) + ((iv - (1 : Int32)) / (8 : Int32))) _ (ii + 1) h47 Z47 X47 e47 N47 K47 O48 F49 F47 F50 F51 F52 (inc_i hiv (by omega)) (by omega) (by omega) (by subst ef47; exact mx_step hMX hip)
  have lpU : ∀ (dd : Nat) (T : State) (lo : List Loc) (iv : Int32) (c2 : Nat → Int64) (ii : Nat) (h_lpU : Heap) (Zz_lpU : n0 ≤ h_lpU.size) (X_lpU : Stand p l e ({ frames := 2, cells := 0, slots := 0, locals := 31 } : Room) s m #[(.ref a)] below meth c T lo 0 0) (e_lpU : T.heap = h_lpU) (N_lpU : Fr n0 lo) (Kp_lpU : Keep h0 h_lpU [a, b2, b3, b4, b5]) (Ob_lpU_a : Obj Z h_lpU a "com/example/graphweft/graphweft/RangeMaxTree" sch_rt [(.ref b1), (.ref b2), (.ref b3), (.ref b4), (.ref b5), (.ref b6), (.ref b7), (.int 1), (.int sz), (.int 2), (.long bd), (.int ss), (.int bs), (.int bc), (.int pn), (.int se), (.int sa), (.int ta), (.int te)]) (Fa_lpU_b1 : FA Z h_lpU b1 .long 64 (fun i => .long (g1 i))) (Fa_lpU_b2 : FA Z h_lpU b2 .long 64 (fun i => .long (c2 i))) (Fa_lpU_b3 : FA Z h_lpU b3 .int 16 (fun i => .int ((updI g3 1 (1 : Int32)) i))) (Fa_lpU_b4 : FA Z h_lpU b4 .int 16 (fun i => .int ((updI g4 1 sz) i))) (Fa_lpU_b5 : FA Z h_lpU b5 .int 16 (fun i => .int ((updI g5 1 (2 : Int32)) i))) (hiv : iv.toInt = (ii : Int)) (hid : ii + dd = 1 + n) (hip : 1 ≤ ii) (hMX : ∀ bd, c2 2 < bd → ∀ j, j < 8 → 1 + j < ii → g1 (1 + j) < bd), OEnds p e below s (Q_index2_1_0 Z a b1 b2 b3 b4 b5 b6 b7 sz bd ss bs bc pn se sa ta te g1 g2 g3 g4 g5 n h0 n0) 0 0 (T.setTop (mkF m 221 #[(vr a), (vi 1), (vi 0), (vi iv), un] [])) := by
    intro dd
    induction dd with
    | zero =>
      intro T lo iv c2 ii h_lpU Zz_lpU X_lpU e_lpU N_lpU Kp_lpU Ob_lpU_a Fa_lpU_b1 Fa_lpU_b2 Fa_lpU_b3 Fa_lpU_b4 Fa_lpU_b5 hiv hid hip hMX
      show OEnds p e below s _ _ _ (T.setTop (mkF m 221 #[(vr a), (vi 1), (vi 0), (vi iv), un] []))
      refine qiN 222 X_lpU hx hby d3_221 rfl rfl ?_
      refine qaN 223 X_lpU hx hby d3_222 rfl rfl ?_
      refine qg 226 X_lpU hx hZ hown (tw32 hw) e_lpU (Ob_lpU_a.fld 8 rfl rfl) hby d3_223 rfl fun T53 X53 e53 => ?_
      refine q_cmy 273 X53 hx hby d3_226 rfl (flt (nlt_i hiv hsz (by omega))).2.1 ?_
      exact fin T53 _ iv c2 ii (.unset) h_lpU Zz_lpU X53 e53 N_lpU Kp_lpU Ob_lpU_a Fa_lpU_b1 Fa_lpU_b2 Fa_lpU_b3 Fa_lpU_b4 Fa_lpU_b5 (by omega) hMX
    | succ dd ih_lpU =>
      intro T lo iv c2 ii h_lpU Zz_lpU X_lpU e_lpU N_lpU Kp_lpU Ob_lpU_a Fa_lpU_b1 Fa_lpU_b2 Fa_lpU_b3 Fa_lpU_b4 Fa_lpU_b5 hiv hid hip hMX
      show OEnds p e below s _ _ _ (T.setTop (mkF m 221 #[(vr a), (vi 1), (vi 0), (vi iv), un] []))
      have hlt0 : ii < 1 + n := by omega
      show OEnds p e below s _ _ _ (T.setTop (mkF m 221 #[(vr a), (vi 1), (vi 0), (vi iv), un] []))
      refine qiN 222 X_lpU hx hby d3_221 rfl rfl ?_
      refine qaN 223 X_lpU hx hby d3_222 rfl rfl ?_
      refine qg 226 X_lpU hx hZ hown (tw32 hw) e_lpU (Ob_lpU_a.fld 8 rfl rfl) hby d3_223 rfl fun T54 X54 e54 => ?_
      refine q_cmn 229 X54 hx hby d3_226 rfl (tlt (lt_of_i hiv hsz hlt0)).2.1 ?_
      refine qaN 230 X54 hx hby d3_229 rfl rfl ?_
      refine qg 233 X54 hx hZ hown (tw34 hw) e54 (Ob_lpU_a.fld 9 rfl rfl) hby d3_230 rfl fun T55 X55 e55 => ?_
      refine qiN 234 X55 hx hby d3_233 rfl rfl ?_
      refine q_iadd 235 X55 hx hby d3_234 rfl ?_
      show OEnds p e below s _ _ _ (T55.setTop (mkF m 235 #[(vr a), (vi 1), (vi 0), (vi iv), un] [(.int 2)]))
      refine qiN 236 X55 hx hby d3_235 rfl rfl ?_
      refine qiN 237 X55 hx hby d3_236 rfl rfl ?_
      refine q_isub 238 X55 hx hby d3_237 rfl ?_
      refine qc2 240 8 X55 hx hby d3_238 rfl rfl ?_
      refine q_idiv 241 X55 hx hby d3_240 rfl (by decide) ?_
      refine q_iadd 242 X55 hx hby d3_241 rfl ?_
      refine qsi 244 #[(vr a), (vi 1), (vi 0), (vi iv), (vi ((2 : Int32) + ((iv - (1 : Int32)) / (8 : Int32))))] X55 hx hby d3_242 rfl rfl ?_
      refine qaN 245 X55 hx hby d3_244 rfl rfl ?_
      refine qg 248 X55 hx hZ hown (tw12 hw) e55 (Ob_lpU_a.fld 1 rfl rfl) hby d3_245 rfl fun T56 X56 e56 => ?_
      refine qi 250 X56 hx hby d3_248 rfl rfl ?_
      refine qaN 251 X56 hx hby d3_250 rfl rfl ?_
      refine qg 254 X56 hx hZ hown (tw12 hw) e56 (Ob_lpU_a.fld 1 rfl rfl) hby d3_251 rfl fun T57 X57 e57 => ?_
      refine qi 256 X57 hx hby d3_254 rfl rfl ?_
      refine qJ 257 X57 hx hZ e57 Fa_lpU_b2 (2 + (ii - 1) / 8) (ix_i (p := 1) hiv hip (by omega) (by decide)) (by omega) (v := (.long (c2 (2 + (ii - 1) / 8)))) rfl hby d3_256 rfl ?_
      refine qaN 258 X57 hx hby d3_257 rfl rfl ?_
      refine qg 261 X57 hx hZ hown (tw10 hw) e57 (Ob_lpU_a.fld 0 rfl rfl) hby d3_258 rfl fun T58 X58 e58 => ?_
      refine qiN 262 X58 hx hby d3_261 rfl rfl ?_
      refine qJ 263 X58 hx hZ e58 Fa_lpU_b1 ii hiv (by omega) (v := (.long (g1 ii))) rfl hby d3_262 rfl ?_
      obtain ⟨T59, X59, e59, st59⟩ := own_callP X58 hx hZ (y := mn0) hown (tw81 hw) (tw82 hw) (tw83 hw) (tw84 hw) (by decide) (rm_jmax l Z a0 hw [] (c2 (2 + (ii - 1) / 8)) (g1 ii) h_lpU) e58 (g := (mkF m 263 #[(vr a), (vi 1), (vi 0), (vi iv), (vi ((2 : Int32) + ((iv - (1 : Int32)) / (8 : Int32))))] [(.long (g1 ii)), (.long (c2 (2 + (ii - 1) / 8))), (.int ((2 : Int32) + ((iv - (1 : Int32)) / (8 : Int32)))), (.ref b2)])) rfl (by rw [hml]; rfl) (argsL := [(.long (c2 (2 + (ii - 1) / 8))), (.long (g1 ii))]) (rest := [(.int ((2 : Int32) + ((iv - (1 : Int32)) / (8 : Int32)))), (.ref b2)]) (lenOf pd_pJJrJ rfl) rfl (W := 2) (by show 2 * 0 + _ ≤ _; exact Nat.le_of_eq rfl) (hb hby d3_263) (by decide) (by decide) (by decide) (by decide)
      refine qat 266 #[(vr a), (vi 1), (vi 0), (vi iv), (vi ((2 : Int32) + ((iv - (1 : Int32)) / (8 : Int32))))] [(.long (jmax (c2 (2 + (ii - 1) / 8)) (g1 ii))), (.int ((2 : Int32) + ((iv - (1 : Int32)) / (8 : Int32)))), (.ref b2)] st59 ?_
      obtain ⟨T60, h60, X60, e60, W60, st60⟩ := own_lastore X59 hx hZ e59 Fa_lpU_b2 (2 + (ii - 1) / 8) (ix_i (p := 1) hiv hip (by omega) (by decide)) (by omega) (g := (mkF m 266 #[(vr a), (vi 1), (vi 0), (vi iv), (vi ((2 : Int32) + ((iv - (1 : Int32)) / (8 : Int32))))] [(.long (jmax (c2 (2 + (ii - 1) / 8)) (g1 ii))), (.int ((2 : Int32) + ((iv - (1 : Int32)) / (8 : Int32)))), (.ref b2)])) rfl rfl (hb hby d3_266)
      have F60 : FA Z h60 b2 .long 64 (fun i => .long ((updL c2 (2 + (ii - 1) / 8) (jmax (c2 (2 + (ii - 1) / 8)) (g1 ii))) i)) := Fa_lpU_b2.setL W60
      obtain ⟨f60, ef60⟩ : ∃ fz_ : Nat → Int64, fz_ = (updL c2 (2 + (ii - 1) / 8) (jmax (c2 (2 + (ii - 1) / 8)) (g1 ii))) := ⟨_, rfl⟩
      rw [← ef60] at F60
      have N60 := Fr.snoc X60 N_lpU g_b2
      have Z60 := Nat.le_trans Zz_lpU (Keep.of_wr W60).1
      have K60 := Kp_lpU.wr W60 (wi 1 rfl)
      refine qat 267 #[(vr a), (vi 1), (vi 0), (vi iv), (vi ((2 : Int32) + ((iv - (1 : Int32)) / (8 : Int32))))] [] st60 ?_
      refine q_inc 270 #[(vr a), (vi 1), (vi 0), (vi (iv + (1 : Int32))), (vi ((2 : Int32) + ((iv - (1 : Int32)) / (8 : Int32))))] X60 hx hby d3_267 rfl rfl rfl ?_
      refine q_goto 221 X60 hx hby d3_270 rfl ?_
      have O61 := (Ob_lpU_a.other W60 (o02 hord))
      have F62 := (Fa_lpU_b1.other W60 (o12 hord))
      have F63 := (Fa_lpU_b3.other W60 (Ne.symm (o23 hord)))
      have F64 := (Fa_lpU_b4.other W60 (Ne.symm (o24 hord)))
      have F65 := (Fa_lpU_b5.other W60 (Ne.symm (o25 hord)))
      exact lp dd T60 _ (iv + (1 : Int32)) ((2 : Int32) + ((iv - (1 : Int32)) / (8 : Int32))) _ (ii + 1) h60 Z60 X60 e60 N60 K60 O61 F62 F60 F63 F64 F65 (inc_i hiv (by omega)) (by omega) (by omega) (by subst ef60; exact mx_step hMX hip)
  have O66 := (O27.keep Kq30 nin0)
  have F67 := ((((F_b1.other W13 (o13 hord)).other W18 (o14 hord)).other W24 (o15 hord)).keep Kq30 nin0)
  have F68 := (F31.keep Kq30 nin0)
  have F69 := (((F13.other W18 (o34 hord)).other W24 (o35 hord)).keep Kq30 nin0)
  have F70 := ((F18.other W24 (o45 hord)).keep Kq30 nin0)
  have F71 := (F24.keep Kq30 nin0)
  exact lpU n T30 _ (1 : Int32) _ 1 h30 Z30 X30 e30 N30 K30 O66 F67 F68 F69 F70 F71 (by decide) rfl (Nat.le_refl _) (fun _ _ j _ hj => absurd hj (by omega))
def Q_index2_1_1 (Z : State) (a : Addr) (b1 : Addr) (b2 : Addr) (b3 : Addr) (b4 : Addr) (b5 : Addr) (b6 : Addr) (b7 : Addr) (sz : Int32) (bd : Int64) (ss : Int32) (bs : Int32) (bc : Int32) (pn : Int32) (se : Int32) (sa : Int32) (ta : Int32) (te : Int32) (g1 : Nat → Int64) (g2 : Nat → Int64) (g3 : Nat → Int32) (g4 : Nat → Int32) (g5 : Nat → Int32) (n : Nat) (h0 : Heap) (n0 : Nat) (r : Option Value) (h : Heap) (L : List Loc) : Prop := r = some (.int 1) ∧ Fr n0 L ∧ Keep h0 h [a, b2, b3, b4, b5] ∧ ∃ c2 : Nat → Int64, (∀ bd, c2 3 < bd → ∀ j, j < 8 → j < n → g1 (1 + j) < bd) ∧ Obj Z h a "com/example/graphweft/graphweft/RangeMaxTree" sch_rt [(.ref b1), (.ref b2), (.ref b3), (.ref b4), (.ref b5), (.ref b6), (.ref b7), (.int 2), (.int sz), (.int 4), (.long bd), (.int ss), (.int bs), (.int bc), (.int pn), (.int se), (.int sa), (.int ta), (.int te)] ∧ FA Z h b2 .long 64 (fun i => .long (c2 i)) ∧ FA Z h b3 .int 16 (fun i => .int ((updI g3 1 (1 : Int32)) i)) ∧ FA Z h b4 .int 16 (fun i => .int ((updI g4 1 sz) i)) ∧ FA Z h b5 .int 16 (fun i => .int ((updI g5 1 (2 : Int32)) i))
set_option maxRecDepth 65536 in
set_option maxHeartbeats 40000000 in
theorem rm_index2_1_1 (l : Launch) (Z : State) (a0 : Array Value) (hw : ∀ d ∈ tables_1, d.before a0 Z = true) (ws : List Jvm.Cond) (a : Addr) (b1 : Addr) (b2 : Addr) (b3 : Addr) (b4 : Addr) (b5 : Addr) (b6 : Addr) (b7 : Addr) (sz : Int32) (bd : Int64) (ss : Int32) (bs : Int32) (bc : Int32) (pn : Int32) (se : Int32) (sa : Int32) (ta : Int32) (te : Int32) (g1 : Nat → Int64) (g2 : Nat → Int64) (g3 : Nat → Int32) (g4 : Nat → Int32) (g5 : Nat → Int32) (n : Nat) (h0 : Heap) (n0 : Nat) (Z0 : n0 ≤ h0.size) (O0 : Obj Z h0 a "com/example/graphweft/graphweft/RangeMaxTree" sch_rt [(.ref b1), (.ref b2), (.ref b3), (.ref b4), (.ref b5), (.ref b6), (.ref b7), (.int 1), (.int sz), (.int 2), (.long bd), (.int ss), (.int bs), (.int bc), (.int pn), (.int se), (.int sa), (.int ta), (.int te)]) (F_b1 : FA Z h0 b1 .long 64 (fun i => .long (g1 i))) (F_b2 : FA Z h0 b2 .long 64 (fun i => .long (g2 i))) (F_b3 : FA Z h0 b3 .int 16 (fun i => .int (g3 i))) (F_b4 : FA Z h0 b4 .int 16 (fun i => .int (g4 i))) (F_b5 : FA Z h0 b5 .int 16 (fun i => .int (g5 i))) (g_a : n0 ≤ a) (g_b2 : n0 ≤ b2) (g_b3 : n0 ≤ b3) (g_b4 : n0 ≤ b4) (g_b5 : n0 ≤ b5) (hord : @LT.lt Nat instLTNat a b1 ∧ @LT.lt Nat instLTNat b1 b2 ∧ @LT.lt Nat instLTNat b2 b3 ∧ @LT.lt Nat instLTNat b3 b4 ∧ @LT.lt Nat instLTNat b4 b5 ∧ @LT.lt Nat instLTNat b5 b6 ∧ @LT.lt Nat instLTNat b6 b7) (he : g4 0 = (1 : Int32)) (hsz : sz.toInt = ((1 + n : Nat) : Int)) (hn9 : n ≤ 8) (hnb : ((((sz - (1 : Int32)) / (8 : Int32))) + (if ((sz - (1 : Int32)) % (8 : Int32)) = (0 : Int32) then (0 : Int32) else (1 : Int32))) = (1 : Int32)) :
    MetFree l mn5 (head1 (Jvm.Cond.code mn5 prog_32_method_5_code 5 (some .int) :: ws) ({ frames := 2, cells := 0, slots := 0, locals := 31 } : Room)) (fun a_ U => a_ = #[(.ref a)] ∧ Z.Warmed39 U.vm ∧ U.heap = h0) (fun _ _ _ _ _ => True) (fun _ U o U' => ∃ v_ L_, o = .returned v_ ∧ Q_index2_1_1 Z a b1 b2 b3 b4 b5 b6 b7 sz bd ss bs bc pn se sa ta te g1 g2 g3 g4 g5 n h0 n0 v_ U'.heap L_ ∧ FrameEnd U o U' L_ ({ frames := 2, cells := 0, slots := 0, locals := 31 } : Room).cells ({ frames := 2, cells := 0, slots := 0, locals := 31 } : Room).slots) := by
  refine MetFree.of_bodySF (plainFor_of_name pn_3) hisR ?_
  intro p e s m args below meth c s₁ Bd hml0 hP hK
  obtain ⟨rfl, hZ, hh⟩ := hP
  have hx := Bd.exec
  have hby := Bd.bytes
  have hlk : meth.locks = false := Bd.notSynchronized
  have hml : c.maxLocals = 5 := hml0
  have hown : s.vm.findClass "com/example/graphweft/graphweft/RangeMaxTree" = some m.cls := findClass_of_methodNamed Bd.named
  have hnm := (name_of_methodNamed Bd.named Bd.method).1
  have X0 : Stand p l e ({ frames := 2, cells := 0, slots := 0, locals := 31 } : Room) s m #[(.ref a)] below meth c s₁ [] 0 0 := Stand.of_body Bd
  have e0 : s₁.heap = h0 := by rw [← hh, Bd.state]; rfl
  have N0 := Fr.nil n0
  have K0 : Keep h0 h0 [a, b2, b3, b4, b5] := Keep.refl _ _
  show OEnds p e below s (Q_index2_1_1 Z a b1 b2 b3 b4 b5 b6 b7 sz bd ss bs bc pn se sa ta te g1 g2 g3 g4 g5 n h0 n0) _ _ _
  refine own_by (fun t k => castTop (ef_3 m a) k) ?_
  show OEnds p e below s _ _ _ (s₁.setTop (mkF m 0 #[(vr a), un, un, un, un] []))
  refine qaN 1 X0 hx hby d3_0 rfl rfl ?_
  refine qg 4 X0 hx hZ hown (tw30 hw) e0 (O0.fld 7 rfl rfl) hby d3_1 rfl fun T1 X1 e1 => ?_
  refine q_ify 11 X1 hx hby d3_4 rfl ((if0 _ _).trans (feq (by decide : ¬ ((1 : Int32) = (0 : Int32)))).2) ?_
  refine qaN 12 X1 hx hby d3_11 rfl rfl ?_
  refine qg 15 X1 hx hZ hown (tw17 hw) e1 (O0.fld 3 rfl rfl) hby d3_12 rfl fun T2 X2 e2 => ?_
  refine qaN 16 X2 hx hby d3_15 rfl rfl ?_
  refine qg 19 X2 hx hZ hown (tw30 hw) e2 (O0.fld 7 rfl rfl) hby d3_16 rfl fun T3 X3 e3 => ?_
  refine qc1 20 1 X3 hx hby d3_19 rfl rfl ?_
  refine q_isub 21 X3 hx hby d3_20 rfl ?_
  show OEnds p e below s _ _ _ (T3.setTop (mkF m 21 #[(vr a), un, un, un, un] [(.int 0), (.ref b4)]))
  refine qI 22 X3 hx hZ e3 F_b4 0 (by decide) (by decide) (v := (.int 1)) (congrArg Value.int he) hby d3_21 rfl ?_
  refine qsiN 23 #[(vr a), (vi 1), un, un, un] X3 hx hby d3_22 rfl rfl ?_
  refine qaN 24 X3 hx hby d3_23 rfl rfl ?_
  refine qg 27 X3 hx hZ hown (tw32 hw) e3 (O0.fld 8 rfl rfl) hby d3_24 rfl fun T4 X4 e4 => ?_
  refine qiN 28 X4 hx hby d3_27 rfl rfl ?_
  refine q_isub 29 X4 hx hby d3_28 rfl ?_
  refine qc2 31 8 X4 hx hby d3_29 rfl rfl ?_
  refine q_idiv 32 X4 hx hby d3_31 rfl (by decide) ?_
  refine qaN 33 X4 hx hby d3_32 rfl rfl ?_
  refine qg 36 X4 hx hZ hown (tw32 hw) e4 (O0.fld 8 rfl rfl) hby d3_33 rfl fun T5 X5 e5 => ?_
  refine qiN 37 X5 hx hby d3_36 rfl rfl ?_
  refine q_isub 38 X5 hx hby d3_37 rfl ?_
  refine qc2 40 8 X5 hx hby d3_38 rfl rfl ?_
  refine own_by (fun _ k => iremM X5 hx rfl (hb hby d3_40) rfl (by decide) k) ?_
  show OEnds p e below s _ _ _ (T5.setTop (mkF m 41 #[(vr a), (vi 1), un, un, un] [(.int ((sz - (1 : Int32)) % (8 : Int32))), (.int ((sz - (1 : Int32)) / (8 : Int32)))]))
  refine own_by (S' := T5.setTop (mkF m 49 #[(vr a), (vi 1), un, un, un] [(.int (if ((sz - (1 : Int32)) % (8 : Int32)) = (0 : Int32) then (0 : Int32) else (1 : Int32))), (.int ((sz - (1 : Int32)) / (8 : Int32)))])) (fun t k => ?_) ?_
  · by_cases hc41_6 : ((sz - (1 : Int32)) % (8 : Int32)) = (0 : Int32)
    · rw [if_pos hc41_6] at k
      refine XS.ifNo X5.here hx rfl (hb hby d3_41) rfl ((if0 _ _).trans (teq hc41_6).2) ?_
      show Steps p.tables e below (T5.setTop (mkF m 44 #[(vr a), (vi 1), un, un, un] [(.int ((sz - (1 : Int32)) / (8 : Int32)))])) t
      refine XS.iconst X5.here hx rfl (hb hby d3_44) ?_
      show Steps p.tables e below (T5.setTop (mkF m 45 #[(vr a), (vi 1), un, un, un] [(.int 0), (.int ((sz - (1 : Int32)) / (8 : Int32)))])) t
      refine XS.goto X5.here hx rfl (pc0 := 45) (pc' := 49) rfl (hb hby d3_45) (by decide) (by decide) ?_
      show Steps p.tables e below (T5.setTop (mkF m 49 #[(vr a), (vi 1), un, un, un] [(.int 0), (.int ((sz - (1 : Int32)) / (8 : Int32)))])) t
      exact k
    · rw [if_neg hc41_6] at k
      refine XS.ifYes X5.here hx rfl (pc0 := 41) (pc' := 48) rfl (hb hby d3_41) rfl ((if0 _ _).trans (feq hc41_6).2) (by decide) (by decide) ?_
      show Steps p.tables e below (T5.setTop (mkF m 48 #[(vr a), (vi 1), un, un, un] [(.int ((sz - (1 : Int32)) / (8 : Int32)))])) t
      refine XS.iconst X5.here hx rfl (hb hby d3_48) ?_
      show Steps p.tables e below (T5.setTop (mkF m 49 #[(vr a), (vi 1), un, un, un] [(.int 1), (.int ((sz - (1 : Int32)) / (8 : Int32)))])) t
      exact k
  show OEnds p e below s _ _ _ (T5.setTop (mkF m 49 #[(vr a), (vi 1), un, un, un] [(.int (if ((sz - (1 : Int32)) % (8 : Int32)) = (0 : Int32) then (0 : Int32) else (1 : Int32))), (.int ((sz - (1 : Int32)) / (8 : Int32)))]))
  refine q_iadd 50 X5 hx hby d3_49 rfl ?_
  rw [hnb]
  show OEnds p e below s _ _ _ (T5.setTop (mkF m 50 #[(vr a), (vi 1), un, un, un] [(.int 1)]))
  refine qsiN 51 #[(vr a), (vi 1), (vi 1), un, un] X5 hx hby d3_50 rfl rfl ?_
  refine qaN 52 X5 hx hby d3_51 rfl rfl ?_
  refine qg 55 X5 hx hZ hown (tw12 hw) e5 (O0.fld 1 rfl rfl) hby d3_52 rfl fun T7 X7 e7 => ?_
  refine qn 56 (64 : Int32) X7 hx hZ e7 F_b2 (by decide) hby d3_55 rfl ?_
  refine qaN 57 X7 hx hby d3_56 rfl rfl ?_
  refine qg 60 X7 hx hZ hown (tw34 hw) e7 (O0.fld 9 rfl rfl) hby d3_57 rfl fun T8 X8 e8 => ?_
  refine q_isub 61 X8 hx hby d3_60 rfl ?_
  show OEnds p e below s _ _ _ (T8.setTop (mkF m 61 #[(vr a), (vi 1), (vi 1), un, un] [(.int 62)]))
  refine qc1 62 2 X8 hx hby d3_61 rfl rfl ?_
  refine qiN 63 X8 hx hby d3_62 rfl rfl ?_
  refine q_imul 64 X8 hx hby d3_63 rfl ?_
  show OEnds p e below s _ _ _ (T8.setTop (mkF m 64 #[(vr a), (vi 1), (vi 1), un, un] [(.int 2), (.int 62)]))
  refine q_cmy 96 X8 hx hby d3_64 rfl (flt (by decide : ¬ ((62 : Int32) < (2 : Int32)))).2.1 ?_
  refine qaN 97 X8 hx hby d3_96 rfl rfl ?_
  refine qg 100 X8 hx hZ hown (tw30 hw) e8 (O0.fld 7 rfl rfl) hby d3_97 rfl fun T9 X9 e9 => ?_
  refine qaN 101 X9 hx hby d3_100 rfl rfl ?_
  refine qg 104 X9 hx hZ hown (tw15 hw) e9 (O0.fld 2 rfl rfl) hby d3_101 rfl fun T10 X10 e10 => ?_
  refine qn 105 (16 : Int32) X10 hx hZ e10 F_b3 (by decide) hby d3_104 rfl ?_
  refine q_cmy 159 X10 hx hby d3_105 rfl (feq (by decide : ¬ ((1 : Int32) = (16 : Int32)))).2 ?_
  refine qaN 160 X10 hx hby d3_159 rfl rfl ?_
  refine qg 163 X10 hx hZ hown (tw15 hw) e10 (O0.fld 2 rfl rfl) hby d3_160 rfl fun T11 X11 e11 => ?_
  refine qaN 164 X11 hx hby d3_163 rfl rfl ?_
  refine qg 167 X11 hx hZ hown (tw30 hw) e11 (O0.fld 7 rfl rfl) hby d3_164 rfl fun T12 X12 e12 => ?_
  refine qiN 168 X12 hx hby d3_167 rfl rfl ?_
  obtain ⟨T13, h13, X13, e13, W13, st13⟩ := own_iastore X12 hx hZ e12 F_b3 1 (by decide) (by decide) (g := (mkF m 168 #[(vr a), (vi 1), (vi 1), un, un] [(.int 1), (.int 1), (.ref b3)])) rfl rfl (hb hby d3_168)
  have F13 : FA Z h13 b3 .int 16 (fun i => .int ((updI g3 1 (1 : Int32)) i)) := F_b3.setI W13
  have N13 := Fr.snoc X13 N0 g_b3
  have Z13 := Nat.le_trans Z0 (Keep.of_wr W13).1
  have K13 := K0.wr W13 (wi 2 rfl)
  refine qat 169 #[(vr a), (vi 1), (vi 1), un, un] [] st13 ?_
  refine qaN 170 X13 hx hby d3_169 rfl rfl ?_
  have O15 := (O0.other W13 (o03 hord))
  refine qg 173 X13 hx hZ hown (tw17 hw) e13 (O15.fld 3 rfl rfl) hby d3_170 rfl fun T14 X14 e14 => ?_
  refine qaN 174 X14 hx hby d3_173 rfl rfl ?_
  refine qg 177 X14 hx hZ hown (tw30 hw) e14 (O15.fld 7 rfl rfl) hby d3_174 rfl fun T16 X16 e16 => ?_
  refine qaN 178 X16 hx hby d3_177 rfl rfl ?_
  refine qg 181 X16 hx hZ hown (tw32 hw) e16 (O15.fld 8 rfl rfl) hby d3_178 rfl fun T17 X17 e17 => ?_
  have F19 := (F_b4.other W13 (Ne.symm (o34 hord)))
  obtain ⟨T18, h18, X18, e18, W18, st18⟩ := own_iastore X17 hx hZ e17 F19 1 (by decide) (by decide) (g := (mkF m 181 #[(vr a), (vi 1), (vi 1), un, un] [(.int sz), (.int 1), (.ref b4)])) rfl rfl (hb hby d3_181)
  have F18 : FA Z h18 b4 .int 16 (fun i => .int ((updI g4 1 sz) i)) := F19.setI W18
  have N18 := Fr.snoc X18 N13 g_b4
  have Z18 := Nat.le_trans Z13 (Keep.of_wr W18).1
  have K18 := K13.wr W18 (wi 3 rfl)
  refine qat 182 #[(vr a), (vi 1), (vi 1), un, un] [] st18 ?_
  refine qaN 183 X18 hx hby d3_182 rfl rfl ?_
  have O21 := (O15.other W18 (o04 hord))
  refine qg 186 X18 hx hZ hown (tw19 hw) e18 (O21.fld 4 rfl rfl) hby d3_183 rfl fun T20 X20 e20 => ?_
  refine qaN 187 X20 hx hby d3_186 rfl rfl ?_
  refine qg 190 X20 hx hZ hown (tw30 hw) e20 (O21.fld 7 rfl rfl) hby d3_187 rfl fun T22 X22 e22 => ?_
  refine qaN 191 X22 hx hby d3_190 rfl rfl ?_
  refine qg 194 X22 hx hZ hown (tw34 hw) e22 (O21.fld 9 rfl rfl) hby d3_191 rfl fun T23 X23 e23 => ?_
  have F25 := ((F_b5.other W13 (Ne.symm (o35 hord))).other W18 (Ne.symm (o45 hord)))
  obtain ⟨T24, h24, X24, e24, W24, st24⟩ := own_iastore X23 hx hZ e23 F25 1 (by decide) (by decide) (g := (mkF m 194 #[(vr a), (vi 1), (vi 1), un, un] [(.int 2), (.int 1), (.ref b5)])) rfl rfl (hb hby d3_194)
  have F24 : FA Z h24 b5 .int 16 (fun i => .int ((updI g5 1 (2 : Int32)) i)) := F25.setI W24
  have N24 := Fr.snoc X24 N18 g_b5
  have Z24 := Nat.le_trans Z18 (Keep.of_wr W24).1
  have K24 := K18.wr W24 (wi 4 rfl)
  refine qat 195 #[(vr a), (vi 1), (vi 1), un, un] [] st24 ?_
  refine qaN 196 X24 hx hby d3_195 rfl rfl ?_
  have O27 := (O21.other W24 (o05 hord))
  refine qg 199 X24 hx hZ hown (tw12 hw) e24 (O27.fld 1 rfl rfl) hby d3_196 rfl fun T26 X26 e26 => ?_
  refine qaN 200 X26 hx hby d3_199 rfl rfl ?_
  refine qg 203 X26 hx hZ hown (tw34 hw) e26 (O27.fld 9 rfl rfl) hby d3_200 rfl fun T28 X28 e28 => ?_
  refine qiN 204 X28 hx hby d3_203 rfl rfl ?_
  refine q_iadd 205 X28 hx hby d3_204 rfl ?_
  show OEnds p e below s _ _ _ (T28.setTop (mkF m 205 #[(vr a), (vi 1), (vi 1), un, un] [(.int 3), (.ref b2)]))
  refine qaN 206 X28 hx hby d3_205 rfl rfl ?_
  refine qg 209 X28 hx hZ hown (tw34 hw) e28 (O27.fld 9 rfl rfl) hby d3_206 rfl fun T29 X29 e29 => ?_
  refine qc1 210 2 X29 hx hby d3_209 rfl rfl ?_
  refine qiN 211 X29 hx hby d3_210 rfl rfl ?_
  refine q_imul 212 X29 hx hby d3_211 rfl ?_
  show OEnds p e below s _ _ _ (T29.setTop (mkF m 212 #[(vr a), (vi 1), (vi 1), un, un] [(.int 2), (.int 2), (.int 3), (.ref b2)]))
  refine q_iadd 213 X29 hx hby d3_212 rfl ?_
  show OEnds p e below s _ _ _ (T29.setTop (mkF m 213 #[(vr a), (vi 1), (vi 1), un, un] [(.int 4), (.int 3), (.ref b2)]))
  refine own_by (X29.ldc2Long hx hown (mvT hZ (tw36 hw)) (g := (mkF m 213 #[(vr a), (vi 1), (vi 1), un, un] [(.int 4), (.int 3), (.ref b2)])) rfl (hb hby d3_213)) ?_
  show OEnds p e below s _ _ _ (T29.setTop (mkF m 216 #[(vr a), (vi 1), (vi 1), un, un] [(.long (-9223372036854775808)), (.int 4), (.int 3), (.ref b2)]))
  have F31 := (((F_b2.other W13 (o23 hord)).other W18 (o24 hord)).other W24 (o25 hord))
  obtain ⟨v30, T30, L30, h30, X30, e30, hQ30, st30⟩ := own_callS X29 hx hZ (y := mn4) hown (tw37 hw) (tw38 hw) (tw39 hw) (tw40 hw) (by decide) (rm_fill_3_4 l Z a0 hw [] b2 (-9223372036854775808 : Int64) g2 h24 n0 Z24 F31 g_b2) e29 (g := (mkF m 216 #[(vr a), (vi 1), (vi 1), un, un] [(.long (-9223372036854775808)), (.int 4), (.int 3), (.ref b2)])) rfl (by rw [hml]; rfl) (argsL := [(.ref b2), (.int 3), (.int 4), (.long (-9223372036854775808))]) (rest := []) (lenOf pd_paJIIJrV rfl) rfl (W := 0) (by show 2 * 0 + _ ≤ _; exact Nat.le_of_eq rfl) (hb hby d3_216) (by decide) (by decide) (by decide) (by decide)
  obtain ⟨rfl, Nq30, Kq30, F30_b2⟩ := hQ30
  have N30 := Fr.app N24 Nq30
  have K30 := K24.trans Kq30 (allS (wi 1 rfl) all0)
  have Z30 := Nat.le_trans Z24 Kq30.1
  refine qtr 219 #[(vr a), (vi 1), (vi 1), un, un] [] st30 ?_
  refine qiN 220 X30 hx hby d3_219 rfl rfl ?_
  refine qsiN 221 #[(vr a), (vi 1), (vi 1), (vi 1), un] X30 hx hby d3_220 rfl rfl ?_
  have fin : ∀ (T : State) (lo : List Loc) (iv : Int32) (c2 : Nat → Int64) (ii : Nat) (s4 : Slot) (h_fin : Heap) (Zz_fin : n0 ≤ h_fin.size) (X_fin : Stand p l e ({ frames := 2, cells := 0, slots := 0, locals := 31 } : Room) s m #[(.ref a)] below meth c T lo 0 0) (e_fin : T.heap = h_fin) (N_fin : Fr n0 lo) (Kp_fin : Keep h0 h_fin [a, b2, b3, b4, b5]) (Ob_fin_a : Obj Z h_fin a "com/example/graphweft/graphweft/RangeMaxTree" sch_rt [(.ref b1), (.ref b2), (.ref b3), (.ref b4), (.ref b5), (.ref b6), (.ref b7), (.int 1), (.int sz), (.int 2), (.long bd), (.int ss), (.int bs), (.int bc), (.int pn), (.int se), (.int sa), (.int ta), (.int te)]) (Fa_fin_b1 : FA Z h_fin b1 .long 64 (fun i => .long (g1 i))) (Fa_fin_b2 : FA Z h_fin b2 .long 64 (fun i => .long (c2 i))) (Fa_fin_b3 : FA Z h_fin b3 .int 16 (fun i => .int ((updI g3 1 (1 : Int32)) i))) (Fa_fin_b4 : FA Z h_fin b4 .int 16 (fun i => .int ((updI g4 1 sz) i))) (Fa_fin_b5 : FA Z h_fin b5 .int 16 (fun i => .int ((updI g5 1 (2 : Int32)) i))) (hi : ii = 1 + n) (hMX : ∀ bd, c2 3 < bd → ∀ j, j < 8 → 1 + j < ii → g1 (1 + j) < bd), OEnds p e below s (Q_index2_1_1 Z a b1 b2 b3 b4 b5 b6 b7 sz bd ss bs bc pn se sa ta te g1 g2 g3 g4 g5 n h0 n0) 0 0 (T.setTop (mkF m 273 #[(vr a), (vi 1), (vi 1), (vi iv), s4] [])) := by
    intro T lo iv c2 ii s4 h_fin Zz_fin X_fin e_fin N_fin Kp_fin Ob_fin_a Fa_fin_b1 Fa_fin_b2 Fa_fin_b3 Fa_fin_b4 Fa_fin_b5 hi hMX
    show OEnds p e below s _ _ _ (T.setTop (mkF m 273 #[(vr a), (vi 1), (vi 1), (vi iv), s4] []))
    show OEnds p e below s _ _ _ (T.setTop (mkF m 273 #[(vr a), (vi 1), (vi 1), (vi iv), s4] []))
    refine qiN 274 X_fin hx hby d3_273 rfl rfl ?_
    refine qc1 275 1 X_fin hx hby d3_274 rfl rfl ?_
    refine q_isub 276 X_fin hx hby d3_275 rfl ?_
    show OEnds p e below s _ _ _ (T.setTop (mkF m 276 #[(vr a), (vi 1), (vi 1), (vi iv), s4] [(.int 0)]))
    refine qsiN 277 #[(vr a), (vi 1), (vi 1), (vi 0), s4] X_fin hx hby d3_276 rfl rfl ?_
    refine qiN 278 X_fin hx hby d3_277 rfl rfl ?_
    refine q_ify 329 X_fin hx hby d3_278 rfl ((if0 _ _).trans (flt (by decide : ¬ ((0 : Int32) < (0 : Int32)))).2.2.2) ?_
    refine qaN 330 X_fin hx hby d3_329 rfl rfl ?_
    refine q_dup 331 X_fin hx hby d3_330 rfl rfl ?_
    refine qg 334 X_fin hx hZ hown (tw34 hw) e_fin (Ob_fin_a.fld 9 rfl rfl) hby d3_331 rfl fun T32 X32 e32 => ?_
    refine qc1 335 2 X32 hx hby d3_334 rfl rfl ?_
    refine qiN 336 X32 hx hby d3_335 rfl rfl ?_
    refine q_imul 337 X32 hx hby d3_336 rfl ?_
    show OEnds p e below s _ _ _ (T32.setTop (mkF m 337 #[(vr a), (vi 1), (vi 1), (vi 0), s4] [(.int 2), (.int 2), (.ref a)]))
    refine q_iadd 338 X32 hx hby d3_337 rfl ?_
    show OEnds p e below s _ _ _ (T32.setTop (mkF m 338 #[(vr a), (vi 1), (vi 1), (vi 0), s4] [(.int 4), (.ref a)]))
    obtain ⟨T33, h33, X33, e33, W33, st33⟩ := putF X32 hx hZ hown (host := "") (Or.inl (tw34 hw)) Via.refl e32 (Ob_fin_a.fld 9 rfl rfl) Ob_fin_a.exa (Or.inl (tw35 hw)) (tw2 hw) (ty := .int) (by decide) rfl rfl (g := (mkF m 338 #[(vr a), (vi 1), (vi 1), (vi 0), s4] [(.int 4), (.ref a)])) rfl rfl (hb hby d3_338)
    have O33 : Obj Z h33 a "com/example/graphweft/graphweft/RangeMaxTree" sch_rt [(.ref b1), (.ref b2), (.ref b3), (.ref b4), (.ref b5), (.ref b6), (.ref b7), (.int 1), (.int sz), (.int 4), (.long bd), (.int ss), (.int bs), (.int bc), (.int pn), (.int se), (.int sa), (.int ta), (.int te)] := Ob_fin_a.set (so_sch_rt hw) W33 9 rfl (Nat.le_of_ble_eq_true rfl)
    have N33 := Fr.snoc X33 N_fin g_a
    have Z33 := Nat.le_trans Zz_fin (Keep.of_wr W33).1
    have K33 := Kp_fin.wr W33 (wi 0 rfl)
    refine qat 341 #[(vr a), (vi 1), (vi 1), (vi 0), s4] [] st33 ?_
    refine qaN 342 X33 hx hby d3_341 rfl rfl ?_
    refine q_dup 343 X33 hx hby d3_342 rfl rfl ?_
    refine qg 346 X33 hx hZ hown (tw30 hw) e33 (O33.fld 7 rfl rfl) hby d3_343 rfl fun T34 X34 e34 => ?_
    refine own_by (fun _ k => XS.dupX1 X34.here hx rfl (hb hby d3_346) rfl rfl rfl k) ?_
    show OEnds p e below s _ _ _ (T34.setTop (mkF m 347 #[(vr a), (vi 1), (vi 1), (vi 0), s4] [(.int 1), (.ref a), (.int 1)]))
    refine qc1 348 1 X34 hx hby d3_347 rfl rfl ?_
    refine q_iadd 349 X34 hx hby d3_348 rfl ?_
    show OEnds p e below s _ _ _ (T34.setTop (mkF m 349 #[(vr a), (vi 1), (vi 1), (vi 0), s4] [(.int 2), (.ref a), (.int 1)]))
    obtain ⟨T35, h35, X35, e35, W35, st35⟩ := putF X34 hx hZ hown (host := "") (Or.inl (tw30 hw)) Via.refl e34 (O33.fld 7 rfl rfl) O33.exa (Or.inl (tw31 hw)) (tw2 hw) (ty := .int) (by decide) rfl rfl (g := (mkF m 349 #[(vr a), (vi 1), (vi 1), (vi 0), s4] [(.int 2), (.ref a), (.int 1)])) rfl rfl (hb hby d3_349)
    have O35 : Obj Z h35 a "com/example/graphweft/graphweft/RangeMaxTree" sch_rt [(.ref b1), (.ref b2), (.ref b3), (.ref b4), (.ref b5), (.ref b6), (.ref b7), (.int 2), (.int sz), (.int 4), (.long bd), (.int ss), (.int bs), (.int bc), (.int pn), (.int se), (.int sa), (.int ta), (.int te)] := O33.set (so_sch_rt hw) W35 7 rfl (Nat.le_of_ble_eq_true rfl)
    have N35 := Fr.snoc X35 N33 g_a
    have Z35 := Nat.le_trans Z33 (Keep.of_wr W35).1
    have K35 := K33.wr W35 (wi 0 rfl)
    refine qat 352 #[(vr a), (vi 1), (vi 1), (vi 0), s4] [(.int 1)] st35 ?_
    have hfin : ∀ bd, c2 3 < bd → ∀ j, j < 8 → j < n → g1 (1 + j) < bd := by exact fun bd hb j hj hjn => hMX bd hb j hj (by omega)
    have F36 := ((Fa_fin_b2.other W33 (Ne.symm (o02 hord))).other W35 (Ne.symm (o02 hord)))
    have F37 := ((Fa_fin_b3.other W33 (Ne.symm (o03 hord))).other W35 (Ne.symm (o03 hord)))
    have F38 := ((Fa_fin_b4.other W33 (Ne.symm (o04 hord))).other W35 (Ne.symm (o04 hord)))
    have F39 := ((Fa_fin_b5.other W33 (Ne.symm (o05 hord))).other W35 (Ne.symm (o05 hord)))
    exact own_retI X35 hx hlk Bd.returns (hb hby d3_352) (by rw [e35]; exact ⟨rfl, N35, K35, _, hfin, O35, F36, F37, F38, F39⟩) (by decide) (by decide)
  have lp : ∀ (dd : Nat) (T : State) (lo : List Loc) (iv : Int32) (d4 : Int32) (c2 : Nat → Int64) (ii : Nat) (h_lp : Heap) (Zz_lp : n0 ≤ h_lp.size) (X_lp : Stand p l e ({ frames := 2, cells := 0, slots := 0, locals := 31 } : Room) s m #[(.ref a)] below meth c T lo 0 0) (e_lp : T.heap = h_lp) (N_lp : Fr n0 lo) (Kp_lp : Keep h0 h_lp [a, b2, b3, b4, b5]) (Ob_lp_a : Obj Z h_lp a "com/example/graphweft/graphweft/RangeMaxTree" sch_rt [(.ref b1), (.ref b2), (.ref b3), (.ref b4), (.ref b5), (.ref b6), (.ref b7), (.int 1), (.int sz), (.int 2), (.long bd), (.int ss), (.int bs), (.int bc), (.int pn), (.int se), (.int sa), (.int ta), (.int te)]) (Fa_lp_b1 : FA Z h_lp b1 .long 64 (fun i => .long (g1 i))) (Fa_lp_b2 : FA Z h_lp b2 .long 64 (fun i => .long (c2 i))) (Fa_lp_b3 : FA Z h_lp b3 .int 16 (fun i => .int ((updI g3 1 (1 : Int32)) i))) (Fa_lp_b4 : FA Z h_lp b4 .int 16 (fun i => .int ((updI g4 1 sz) i))) (Fa_lp_b5 : FA Z h_lp b5 .int 16 (fun i => .int ((updI g5 1 (2 : Int32)) i))) (hiv : iv.toInt = (ii : Int)) (hid : ii + dd = 1 + n) (hip : 1 ≤ ii) (hMX : ∀ bd, c2 3 < bd → ∀ j, j < 8 → 1 + j < ii → g1 (1 + j) < bd), OEnds p e below s (Q_index2_1_1 Z a b1 b2 b3 b4 b5 b6 b7 sz bd ss bs bc pn se sa ta te g1 g2 g3 g4 g5 n h0 n0) 0 0 (T.setTop (mkF m 221 #[(vr a), (vi 1), (vi 1), (vi iv), (vi d4)] [])) := by
    intro dd
    induction dd with
    | zero =>
      intro T lo iv d4 c2 ii h_lp Zz_lp X_lp e_lp N_lp Kp_lp Ob_lp_a Fa_lp_b1 Fa_lp_b2 Fa_lp_b3 Fa_lp_b4 Fa_lp_b5 hiv hid hip hMX
      show OEnds p e below s _ _ _ (T.setTop (mkF m 221 #[(vr a), (vi 1), (vi 1), (vi iv), (vi d4)] []))
      refine qiN 222 X_lp hx hby d3_221 rfl rfl ?_
      refine qaN 223 X_lp hx hby d3_222 rfl rfl ?_
      refine qg 226 X_lp hx hZ hown (tw32 hw) e_lp (Ob_lp_a.fld 8 rfl rfl) hby d3_223 rfl fun T40 X40 e40 => ?_
      refine q_cmy 273 X40 hx hby d3_226 rfl (flt (nlt_i hiv hsz (by omega))).2.1 ?_
      exact fin T40 _ iv c2 ii ((vi d4)) h_lp Zz_lp X40 e40 N_lp Kp_lp Ob_lp_a Fa_lp_b1 Fa_lp_b2 Fa_lp_b3 Fa_lp_b4 Fa_lp_b5 (by omega) hMX
    | succ dd ih_lp =>
      intro T lo iv d4 c2 ii h_lp Zz_lp X_lp e_lp N_lp Kp_lp Ob_lp_a Fa_lp_b1 Fa_lp_b2 Fa_lp_b3 Fa_lp_b4 Fa_lp_b5 hiv hid hip hMX
      show OEnds p e below s _ _ _ (T.setTop (mkF m 221 #[(vr a), (vi 1), (vi 1), (vi iv), (vi d4)] []))
      have hlt0 : ii < 1 + n := by omega
      show OEnds p e below s _ _ _ (T.setTop (mkF m 221 #[(vr a), (vi 1), (vi 1), (vi iv), (vi d4)] []))
      refine qiN 222 X_lp hx hby d3_221 rfl rfl ?_
      refine qaN 223 X_lp hx hby d3_222 rfl rfl ?_
      refine qg 226 X_lp hx hZ hown (tw32 hw) e_lp (Ob_lp_a.fld 8 rfl rfl) hby d3_223 rfl fun T41 X41 e41 => ?_
      refine q_cmn 229 X41 hx hby d3_226 rfl (tlt (lt_of_i hiv hsz hlt0)).2.1 ?_
      refine qaN 230 X41 hx hby d3_229 rfl rfl ?_
      refine qg 233 X41 hx hZ hown (tw34 hw) e41 (Ob_lp_a.fld 9 rfl rfl) hby d3_230 rfl fun T42 X42 e42 => ?_
      refine qiN 234 X42 hx hby d3_233 rfl rfl ?_
      refine q_iadd 235 X42 hx hby d3_234 rfl ?_
      show OEnds p e below s _ _ _ (T42.setTop (mkF m 235 #[(vr a), (vi 1), (vi 1), (vi iv), (vi d4)] [(.int 3)]))
      refine qiN 236 X42 hx hby d3_235 rfl rfl ?_
      refine qiN 237 X42 hx hby d3_236 rfl rfl ?_
      refine q_isub 238 X42 hx hby d3_237 rfl ?_
      refine qc2 240 8 X42 hx hby d3_238 rfl rfl ?_
      refine q_idiv 241 X42 hx hby d3_240 rfl (by decide) ?_
      refine q_iadd 242 X42 hx hby d3_241 rfl ?_
      refine qsi 244 #[(vr a), (vi 1), (vi 1), (vi iv), (vi ((3 : Int32) + ((iv - (1 : Int32)) / (8 : Int32))))] X42 hx hby d3_242 rfl rfl ?_
      refine qaN 245 X42 hx hby d3_244 rfl rfl ?_
      refine qg 248 X42 hx hZ hown (tw12 hw) e42 (Ob_lp_a.fld 1 rfl rfl) hby d3_245 rfl fun T43 X43 e43 => ?_
      refine qi 250 X43 hx hby d3_248 rfl rfl ?_
      refine qaN 251 X43 hx hby d3_250 rfl rfl ?_
      refine qg 254 X43 hx hZ hown (tw12 hw) e43 (Ob_lp_a.fld 1 rfl rfl) hby d3_251 rfl fun T44 X44 e44 => ?_
      refine qi 256 X44 hx hby d3_254 rfl rfl ?_
      refine qJ 257 X44 hx hZ e44 Fa_lp_b2 (3 + (ii - 1) / 8) (ix_i (p := 1) hiv hip (by omega) (by decide)) (by omega) (v := (.long (c2 (3 + (ii - 1) / 8)))) rfl hby d3_256 rfl ?_
      refine qaN 258 X44 hx hby d3_257 rfl rfl ?_
      refine qg 261 X44 hx hZ hown (tw10 hw) e44 (Ob_lp_a.fld 0 rfl rfl) hby d3_258 rfl fun T45 X45 e45 => ?_
      refine qiN 262 X45 hx hby d3_261 rfl rfl ?_
      refine qJ 263 X45 hx hZ e45 Fa_lp_b1 ii hiv (by omega) (v := (.long (g1 ii))) rfl hby d3_262 rfl ?_
      obtain ⟨T46, X46, e46, st46⟩ := own_callP X45 hx hZ (y := mn0) hown (tw81 hw) (tw82 hw) (tw83 hw) (tw84 hw) (by decide) (rm_jmax l Z a0 hw [] (c2 (3 + (ii - 1) / 8)) (g1 ii) h_lp) e45 (g := (mkF m 263 #[(vr a), (vi 1), (vi 1), (vi iv), (vi ((3 : Int32) + ((iv - (1 : Int32)) / (8 : Int32))))] [(.long (g1 ii)), (.long (c2 (3 + (ii - 1) / 8))), (.int ((3 : Int32) + ((iv - (1 : Int32)) / (8 : Int32)))), (.ref b2)])) rfl (by rw [hml]; rfl) (argsL := [(.long (c2 (3 + (ii - 1) / 8))), (.long (g1 ii))]) (rest := [(.int ((3 : Int32) + ((iv - (1 : Int32)) / (8 : Int32)))), (.ref b2)]) (lenOf pd_pJJrJ rfl) rfl (W := 2) (by show 2 * 0 + _ ≤ _; exact Nat.le_of_eq rfl) (hb hby d3_263) (by decide) (by decide) (by decide) (by decide)
      refine qat 266 #[(vr a), (vi 1), (vi 1), (vi iv), (vi ((3 : Int32) + ((iv - (1 : Int32)) / (8 : Int32))))] [(.long (jmax (c2 (3 + (ii - 1) / 8)) (g1 ii))), (.int ((3 : Int32) + ((iv - (1 : Int32)) / (8 : Int32)))), (.ref b2)] st46 ?_
      obtain ⟨T47, h47, X47, e47, W47, st47⟩ := own_lastore X46 hx hZ e46 Fa_lp_b2 (3 + (ii - 1) / 8) (ix_i (p := 1) hiv hip (by omega) (by decide)) (by omega) (g := (mkF m 266 #[(vr a), (vi 1), (vi 1), (vi iv), (vi ((3 : Int32) + ((iv - (1 : Int32)) / (8 : Int32))))] [(.long (jmax (c2 (3 + (ii - 1) / 8)) (g1 ii))), (.int ((3 : Int32) + ((iv - (1 : Int32)) / (8 : Int32)))), (.ref b2)])) rfl rfl (hb hby d3_266)
      have F47 : FA Z h47 b2 .long 64 (fun i => .long ((updL c2 (3 + (ii - 1) / 8) (jmax (c2 (3 + (ii - 1) / 8)) (g1 ii))) i)) := Fa_lp_b2.setL W47
      obtain ⟨f47, ef47⟩ : ∃ fz_ : Nat → Int64, fz_ = (updL c2 (3 + (ii - 1) / 8) (jmax (c2 (3 + (ii - 1) / 8)) (g1 ii))) := ⟨_, rfl⟩
      rw [← ef47] at F47
      have N47 := Fr.snoc X47 N_lp g_b2
      have Z47 := Nat.le_trans Zz_lp (Keep.of_wr W47).1
      have K47 := Kp_lp.wr W47 (wi 1 rfl)
      refine qat 267 #[(vr a), (vi 1), (vi 1), (vi iv), (vi ((3 : Int32) + ((iv - (1 : Int32)) / (8 : Int32))))] [] st47 ?_
      refine q_inc 270 #[(vr a), (vi 1), (vi 1), (vi (iv + (1 : Int32))), (vi ((3 : Int32) + ((iv - (1 : Int32)) / (8 : Int32))))] X47 hx hby d3_267 rfl rfl rfl ?_
      refine q_goto 221 X47 hx hby d3_270 rfl ?_
      have O48 := (Ob_lp_a.other W47 (o02 hord))
      have F49 := (Fa_lp_b1.other W47 (o12 hord))
      have F50 := (Fa_lp_b3.other W47 (Ne.symm (o23 hord)))
      have F51 := (Fa_lp_b4.other W47 (Ne.symm (o24 hord)))
      have F52 := (Fa_lp_b5.other W47 (Ne.symm (o25 hord)))
      exact ih_lp T47 _ (iv + (1 : Int32)) ((3 : Int32) + ((iv - (1 : Int32)) / (8 : Int32))) _ (ii + 1) h47 Z47 X47 e47 N47 K47 O48 F49 F47 F50 F51 F52 (inc_i hiv (by omega)) (by omega) (by omega) (by subst ef47; exact mx_step hMX hip)
  have lpU : ∀ (dd : Nat) (T : State) (lo : List Loc) (iv : Int32) (c2 : Nat → Int64) (ii : Nat) (h_lpU : Heap) (Zz_lpU : n0 ≤ h_lpU.size) (X_lpU : Stand p l e ({ frames := 2, cells := 0, slots := 0, locals := 31 } : Room) s m #[(.ref a)] below meth c T lo 0 0) (e_lpU : T.heap = h_lpU) (N_lpU : Fr n0 lo) (Kp_lpU : Keep h0 h_lpU [a, b2, b3, b4, b5]) (Ob_lpU_a : Obj Z h_lpU a "com/example/graphweft/graphweft/RangeMaxTree" sch_rt [(.ref b1), (.ref b2), (.ref b3), (.ref b4), (.ref b5), (.ref b6), (.ref b7), (.int 1), (.int sz), (.int 2), (.long bd), (.int ss), (.int bs), (.int bc), (.int pn), (.int se), (.int sa), (.int ta), (.int te)]) (Fa_lpU_b1 : FA Z h_lpU b1 .long 64 (fun i => .long (g1 i))) (Fa_lpU_b2 : FA Z h_lpU b2 .long 64 (fun i => .long (c2 i))) (Fa_lpU_b3 : FA Z h_lpU b3 .int 16 (fun i => .int ((updI g3 1 (1 : Int32)) i))) (Fa_lpU_b4 : FA Z h_lpU b4 .int 16 (fun i => .int ((updI g4 1 sz) i))) (Fa_lpU_b5 : FA Z h_lpU b5 .int 16 (fun i => .int ((updI g5 1 (2 : Int32)) i))) (hiv : iv.toInt = (ii : Int)) (hid : ii + dd = 1 + n) (hip : 1 ≤ ii) (hMX : ∀ bd, c2 3 < bd → ∀ j, j < 8 → 1 + j < ii → g1 (1 + j) < bd), OEnds p e below s (Q_index2_1_1 Z a b1 b2 b3 b4 b5 b6 b7 sz bd ss bs bc pn se sa ta te g1 g2 g3 g4 g5 n h0 n0) 0 0 (T.setTop (mkF m 221 #[(vr a), (vi 1), (vi 1), (vi iv), un] [])) := by
    intro dd
    induction dd with
    | zero =>
      intro T lo iv c2 ii h_lpU Zz_lpU X_lpU e_lpU N_lpU Kp_lpU Ob_lpU_a Fa_lpU_b1 Fa_lpU_b2 Fa_lpU_b3 Fa_lpU_b4 Fa_lpU_b5 hiv hid hip hMX
      show OEnds p e below s _ _ _ (T.setTop (mkF m 221 #[(vr a), (vi 1), (vi 1), (vi iv), un] []))
      refine qiN 222 X_lpU hx hby d3_221 rfl rfl ?_
      refine qaN 223 X_lpU hx hby d3_222 rfl rfl ?_
      refine qg 226 X_lpU hx hZ hown (tw32 hw) e_lpU (Ob_lpU_a.fld 8 rfl rfl) hby d3_223 rfl fun T53 X53 e53 => ?_
      refine q_cmy 273 X53 hx hby d3_226 rfl (flt (nlt_i hiv hsz (by omega))).2.1 ?_
      exact fin T53 _ iv c2 ii (.unset) h_lpU Zz_lpU X53 e53 N_lpU Kp_lpU Ob_lpU_a Fa_lpU_b1 Fa_lpU_b2 Fa_lpU_b3 Fa_lpU_b4 Fa_lpU_b5 (by omega) hMX
    | succ dd ih_lpU =>
      intro T lo iv c2 ii h_lpU Zz_lpU X_lpU e_lpU N_lpU Kp_lpU Ob_lpU_a Fa_lpU_b1 Fa_lpU_b2 Fa_lpU_b3 Fa_lpU_b4 Fa_lpU_b5 hiv hid hip hMX
      show OEnds p e below s _ _ _ (T.setTop (mkF m 221 #[(vr a), (vi 1), (vi 1), (vi iv), un] []))
      have hlt0 : ii < 1 + n := by omega
      show OEnds p e below s _ _ _ (T.setTop (mkF m 221 #[(vr a), (vi 1), (vi 1), (vi iv), un] []))
      refine qiN 222 X_lpU hx hby d3_221 rfl rfl ?_
      refine qaN 223 X_lpU hx hby d3_222 rfl rfl ?_
      refine qg 226 X_lpU hx hZ hown (tw32 hw) e_lpU (Ob_lpU_a.fld 8 rfl rfl) hby d3_223 rfl fun T54 X54 e54 => ?_
      refine q_cmn 229 X54 hx hby d3_226 rfl (tlt (lt_of_i hiv hsz hlt0)).2.1 ?_
      refine qaN 230 X54 hx hby d3_229 rfl rfl ?_
      refine qg 233 X54 hx hZ hown (tw34 hw) e54 (Ob_lpU_a.fld 9 rfl rfl) hby d3_230 rfl fun T55 X55 e55 => ?_
      refine qiN 234 X55 hx hby d3_233 rfl rfl ?_
      refine q_iadd 235 X55 hx hby d3_234 rfl ?_
      show OEnds p e below s _ _ _ (T55.setTop (mkF m 235 #[(vr a), (vi 1), (vi 1), (vi iv), un] [(.int 3)]))
      refine qiN 236 X55 hx hby d3_235 rfl rfl ?_
      refine qiN 237 X55 hx hby d3_236 rfl rfl ?_
      refine q_isub 238 X55 hx hby d3_237 rfl ?_
      refine qc2 240 8 X55 hx hby d3_238 rfl rfl ?_
      refine q_idiv 241 X55 hx hby d3_240 rfl (by decide) ?_
      refine q_iadd 242 X55 hx hby d3_241 rfl ?_
      refine qsi 244 #[(vr a), (vi 1), (vi 1), (vi iv), (vi ((3 : Int32) + ((iv - (1 : Int32)) / (8 : Int32))))] X55 hx hby d3_242 rfl rfl ?_
      refine qaN 245 X55 hx hby d3_244 rfl rfl ?_
      refine qg 248 X55 hx hZ hown (tw12 hw) e55 (Ob_lpU_a.fld 1 rfl rfl) hby d3_245 rfl fun T56 X56 e56 => ?_
      refine qi 250 X56 hx hby d3_248 rfl rfl ?_
      refine qaN 251 X56 hx hby d3_250 rfl rfl ?_
      refine qg 254 X56 hx hZ hown (tw12 hw) e56 (Ob_lpU_a.fld 1 rfl rfl) hby d3_251 rfl fun T57 X57 e57 => ?_
      refine qi 256 X57 hx hby d3_254 rfl rfl ?_
      refine qJ 257 X57 hx hZ e57 Fa_lpU_b2 (3 + (ii - 1) / 8) (ix_i (p := 1) hiv hip (by omega) (by decide)) (by omega) (v := (.long (c2 (3 + (ii - 1) / 8)))) rfl hby d3_256 rfl ?_
      refine qaN 258 X57 hx hby d3_257 rfl rfl ?_
      refine qg 261 X57 hx hZ hown (tw10 hw) e57 (Ob_lpU_a.fld 0 rfl rfl) hby d3_258 rfl fun T58 X58 e58 => ?_
      refine qiN 262 X58 hx hby d3_261 rfl rfl ?_
      refine qJ 263 X58 hx hZ e58 Fa_lpU_b1 ii hiv (by omega) (v := (.long (g1 ii))) rfl hby d3_262 rfl ?_
      obtain ⟨T59, X59, e59, st59⟩ := own_callP X58 hx hZ (y := mn0) hown (tw81 hw) (tw82 hw) (tw83 hw) (tw84 hw) (by decide) (rm_jmax l Z a0 hw [] (c2 (3 + (ii - 1) / 8)) (g1 ii) h_lpU) e58 (g := (mkF m 263 #[(vr a), (vi 1), (vi 1), (vi iv), (vi ((3 : Int32) + ((iv - (1 : Int32)) / (8 : Int32))))] [(.long (g1 ii)), (.long (c2 (3 + (ii - 1) / 8))), (.int ((3 : Int32) + ((iv - (1 : Int32)) / (8 : Int32)))), (.ref b2)])) rfl (by rw [hml]; rfl) (argsL := [(.long (c2 (3 + (ii - 1) / 8))), (.long (g1 ii))]) (rest := [(.int ((3 : Int32) + ((iv - (1 : Int32)) / (8 : Int32)))), (.ref b2)]) (lenOf pd_pJJrJ rfl) rfl (W := 2) (by show 2 * 0 + _ ≤ _; exact Nat.le_of_eq rfl) (hb hby d3_263) (by decide) (by decide) (by decide) (by decide)
      refine qat 266 #[(vr a), (vi 1), (vi 1), (vi iv), (vi ((3 : Int32) + ((iv - (1 : Int32)) / (8 : Int32))))] [(.long (jmax (c2 (3 + (ii - 1) / 8)) (g1 ii))), (.int ((3 : Int32) + ((iv - (1 : Int32)) / (8 : Int32)))), (.ref b2)] st59 ?_
      obtain ⟨T60, h60, X60, e60, W60, st60⟩ := own_lastore X59 hx hZ e59 Fa_lpU_b2 (3 + (ii - 1) / 8) (ix_i (p := 1) hiv hip (by omega) (by decide)) (by omega) (g := (mkF m 266 #[(vr a), (vi 1), (vi 1), (vi iv), (vi ((3 : Int32) + ((iv - (1 : Int32)) / (8 : Int32))))] [(.long (jmax (c2 (3 + (ii - 1) / 8)) (g1 ii))), (.int ((3 : Int32) + ((iv - (1 : Int32)) / (8 : Int32)))), (.ref b2)])) rfl rfl (hb hby d3_266)
      have F60 : FA Z h60 b2 .long 64 (fun i => .long ((updL c2 (3 + (ii - 1) / 8) (jmax (c2 (3 + (ii - 1) / 8)) (g1 ii))) i)) := Fa_lpU_b2.setL W60
      obtain ⟨f60, ef60⟩ : ∃ fz_ : Nat → Int64, fz_ = (updL c2 (3 + (ii - 1) / 8) (jmax (c2 (3 + (ii - 1) / 8)) (g1 ii))) := ⟨_, rfl⟩
      rw [← ef60] at F60
      have N60 := Fr.snoc X60 N_lpU g_b2
      have Z60 := Nat.le_trans Zz_lpU (Keep.of_wr W60).1
      have K60 := Kp_lpU.wr W60 (wi 1 rfl)
      refine qat 267 #[(vr a), (vi 1), (vi 1), (vi iv), (vi ((3 : Int32) + ((iv - (1 : Int32)) / (8 : Int32))))] [] st60 ?_
      refine q_inc 270 #[(vr a), (vi 1), (vi 1), (vi (iv + (1 : Int32))), (vi ((3 : Int32) + ((iv - (1 : Int32)) / (8 : Int32))))] X60 hx hby d3_267 rfl rfl rfl ?_
      refine q_goto 221 X60 hx hby d3_270 rfl ?_
      have O61 := (Ob_lpU_a.other W60 (o02 hord))
      have F62 := (Fa_lpU_b1.other W60 (o12 hord))
      have F63 := (Fa_lpU_b3.other W60 (Ne.symm (o23 hord)))
      have F64 := (Fa_lpU_b4.other W60 (Ne.symm (o24 hord)))
      have F65 := (Fa_lpU_b5.other W60 (Ne.symm (o25 hord)))
      exact lp dd T60 _ (iv + (1 : Int32)) ((3 : Int32) + ((iv - (1 : Int32)) / (8 : Int32))) _ (ii + 1) h60 Z60 X60 e60 N60 K60 O61 F62 F60 F63 F64 F65 (inc_i hiv (by omega)) (by omega) (by omega) (by subst ef60; exact mx_step hMX hip)
  have O66 := (O27.keep Kq30 (ninS (o02 hord) nin0))
  have F67 := ((((F_b1.other W13 (o13 hord)).other W18 (o14 hord)).other W24 (o15 hord)).keep Kq30 (ninS (o12 hord) nin0))
  have F68 := (((F13.other W18 (o34 hord)).other W24 (o35 hord)).keep Kq30 (ninS (Ne.symm (o23 hord)) nin0))
  have F69 := ((F18.other W24 (o45 hord)).keep Kq30 (ninS (Ne.symm (o24 hord)) nin0))
  have F70 := (F24.keep Kq30 (ninS (Ne.symm (o25 hord)) nin0))
  exact lpU n T30 _ (1 : Int32) _ 1 h30 Z30 X30 e30 N30 K30 O66 F67 F30_b2 F68 F69 F70 (by decide) rfl (Nat.le_refl _) (fun _ _ j _ hj => absurd hj (by omega))
def Q_index2_1_2 (Z : State) (a : Addr) (b1 : Addr) (b2 : Addr) (b3 : Addr) (b4 : Addr) (b5 : Addr) (b6 : Addr) (b7 : Addr) (sz : Int32) (bd : Int64) (ss : Int32) (bs : Int32) (bc : Int32) (pn : Int32) (se : Int32) (sa : Int32) (ta : Int32) (te : Int32) (g1 : Nat → Int64) (g2 : Nat → Int64) (g3 : Nat → Int32) (g4 : Nat → Int32) (g5 : Nat → Int32) (n : Nat) (h0 : Heap) (n0 : Nat) (r : Option Value) (h : Heap) (L : List Loc) : Prop := r = some (.int 1) ∧ Fr n0 L ∧ Keep h0 h [a, b2, b3, b4, b5] ∧ ∃ c2 : Nat → Int64, (∀ bd, c2 4 < bd → ∀ j, j < 8 → j < n → g1 (1 + j) < bd) ∧ Obj Z h a "com/example/graphweft/graphweft/RangeMaxTree" sch_rt [(.ref b1), (.ref b2), (.ref b3), (.ref b4), (.ref b5), (.ref b6), (.ref b7), (.int 2), (.int sz), (.int 6), (.long bd), (.int ss), (.int bs), (.int bc), (.int pn), (.int se), (.int sa), (.int ta), (.int te)] ∧ FA Z h b2 .long 64 (fun i => .long (c2 i)) ∧ FA Z h b3 .int 16 (fun i => .int ((updI g3 1 (1 : Int32)) i)) ∧ FA Z h b4 .int 16 (fun i => .int ((updI g4 1 sz) i)) ∧ FA Z h b5 .int 16 (fun i => .int ((updI g5 1 (2 : Int32)) i))
set_option maxRecDepth 65536 in
set_option maxHeartbeats 40000000 in
theorem rm_index2_1_2 (l : Launch) (Z : State) (a0 : Array Value) (hw : ∀ d ∈ tables_1, d.before a0 Z = true) (ws : List Jvm.Cond) (a : Addr) (b1 : Addr) (b2 : Addr) (b3 : Addr) (b4 : Addr) (b5 : Addr) (b6 : Addr) (b7 : Addr) (sz : Int32) (bd : Int64) (ss : Int32) (bs : Int32) (bc : Int32) (pn : Int32) (se : Int32) (sa : Int32) (ta : Int32) (te : Int32) (g1 : Nat → Int64) (g2 : Nat → Int64) (g3 : Nat → Int32) (g4 : Nat → Int32) (g5 : Nat → Int32) (n : Nat) (h0 : Heap) (n0 : Nat) (Z0 : n0 ≤ h0.size) (O0 : Obj Z h0 a "com/example/graphweft/graphweft/RangeMaxTree" sch_rt [(.ref b1), (.ref b2), (.ref b3), (.ref b4), (.ref b5), (.ref b6), (.ref b7), (.int 1), (.int sz), (.int 2), (.long bd), (.int ss), (.int bs), (.int bc), (.int pn), (.int se), (.int sa), (.int ta), (.int te)]) (F_b1 : FA Z h0 b1 .long 64 (fun i => .long (g1 i))) (F_b2 : FA Z h0 b2 .long 64 (fun i => .long (g2 i))) (F_b3 : FA Z h0 b3 .int 16 (fun i => .int (g3 i))) (F_b4 : FA Z h0 b4 .int 16 (fun i => .int (g4 i))) (F_b5 : FA Z h0 b5 .int 16 (fun i => .int (g5 i))) (g_a : n0 ≤ a) (g_b2 : n0 ≤ b2) (g_b3 : n0 ≤ b3) (g_b4 : n0 ≤ b4) (g_b5 : n0 ≤ b5) (hord : @LT.lt Nat instLTNat a b1 ∧ @LT.lt Nat instLTNat b1 b2 ∧ @LT.lt Nat instLTNat b2 b3 ∧ @LT.lt Nat instLTNat b3 b4 ∧ @LT.lt Nat instLTNat b4 b5 ∧ @LT.lt Nat instLTNat b5 b6 ∧ @LT.lt Nat instLTNat b6 b7) (he : g4 0 = (1 : Int32)) (hsz : sz.toInt = ((1 + n : Nat) : Int)) (hn9 : n ≤ 9) (hnb : ((((sz - (1 : Int32)) / (8 : Int32))) + (if ((sz - (1 : Int32)) % (8 : Int32)) = (0 : Int32) then (0 : Int32) else (1 : Int32))) = (2 : Int32)) :
    MetFree l mn5 (head1 (Jvm.Cond.code mn5 prog_32_method_5_code 5 (some .int) :: ws) ({ frames := 2, cells := 0, slots := 0, locals := 31 } : Room)) (fun a_ U => a_ = #[(.ref a)] ∧ Z.Warmed39 U.vm ∧ U.heap = h0) (fun _ _ _ _ _ => True) (fun _ U o U' => ∃ v_ L_, o = .returned v_ ∧ Q_index2_1_2 Z a b1 b2 b3 b4 b5 b6 b7 sz bd ss bs bc pn se sa ta te g1 g2 g3 g4 g5 n h0 n0 v_ U'.heap L_ ∧ FrameEnd U o U' L_ ({ frames := 2, cells := 0, slots := 0, locals := 31 } : Room).cells ({ frames := 2, cells := 0, slots := 0, locals := 31 } : Room).slots) := by
  refine MetFree.of_bodySF (plainFor_of_name pn_3) hisR ?_
  intro p e s m args below meth c s₁ Bd hml0 hP hK
  obtain ⟨rfl, hZ, hh⟩ := hP
  have hx := Bd.exec
  have hby := Bd.bytes
  have hlk : meth.locks = false := Bd.notSynchronized
  have hml : c.maxLocals = 5 := hml0
  have hown : s.vm.findClass "com/example/graphweft/graphweft/RangeMaxTree" = some m.cls := findClass_of_methodNamed Bd.named
  have hnm := (name_of_methodNamed Bd.named Bd.method).1
  have X0 : Stand p l e ({ frames := 2, cells := 0, slots := 0, locals := 31 } : Room) s m #[(.ref a)] below meth c s₁ [] 0 0 := Stand.of_body Bd
  have e0 : s₁.heap = h0 := by rw [← hh, Bd.state]; rfl
  have N0 := Fr.nil n0
  have K0 : Keep h0 h0 [a, b2, b3, b4, b5] := Keep.refl _ _
  show OEnds p e below s (Q_index2_1_2 Z a b1 b2 b3 b4 b5 b6 b7 sz bd ss bs bc pn se sa ta te g1 g2 g3 g4 g5 n h0 n0) _ _ _
  refine own_by (fun t k => castTop (ef_3 m a) k) ?_
  show OEnds p e below s _ _ _ (s₁.setTop (mkF m 0 #[(vr a), un, un, un, un] []))
  refine qaN 1 X0 hx hby d3_0 rfl rfl ?_
  refine qg 4 X0 hx hZ hown (tw30 hw) e0 (O0.fld 7 rfl rfl) hby d3_1 rfl fun T1 X1 e1 => ?_
  refine q_ify 11 X1 hx hby d3_4 rfl ((if0 _ _).trans (feq (by decide : ¬ ((1 : Int32) = (0 : Int32)))).2) ?_
  refine qaN 12 X1 hx hby d3_11 rfl rfl ?_
  refine qg 15 X1 hx hZ hown (tw17 hw) e1 (O0.fld 3 rfl rfl) hby d3_12 rfl fun T2 X2 e2 => ?_
  refine qaN 16 X2 hx hby d3_15 rfl rfl ?_
  refine qg 19 X2 hx hZ hown (tw30 hw) e2 (O0.fld 7 rfl rfl) hby d3_16 rfl fun T3 X3 e3 => ?_
  refine qc1 20 1 X3 hx hby d3_19 rfl rfl ?_
  refine q_isub 21 X3 hx hby d3_20 rfl ?_
  show OEnds p e below s _ _ _ (T3.setTop (mkF m 21 #[(vr a), un, un, un, un] [(.int 0), (.ref b4)]))
  refine qI 22 X3 hx hZ e3 F_b4 0 (by decide) (by decide) (v := (.int 1)) (congrArg Value.int he) hby d3_21 rfl ?_
  refine qsiN 23 #[(vr a), (vi 1), un, un, un] X3 hx hby d3_22 rfl rfl ?_
  refine qaN 24 X3 hx hby d3_23 rfl rfl ?_
  refine qg 27 X3 hx hZ hown (tw32 hw) e3 (O0.fld 8 rfl rfl) hby d3_24 rfl fun T4 X4 e4 => ?_
  refine qiN 28 X4 hx hby d3_27 rfl rfl ?_
  refine q_isub 29 X4 hx hby d3_28 rfl ?_
  refine qc2 31 8 X4 hx hby d3_29 rfl rfl ?_
  refine q_idiv 32 X4 hx hby d3_31 rfl (by decide) ?_
  refine qaN 33 X4 hx hby d3_32 rfl rfl ?_
  refine qg 36 X4 hx hZ hown (tw32 hw) e4 (O0.fld 8 rfl rfl) hby d3_33 rfl fun T5 X5 e5 => ?_
  refine qiN 37 X5 hx hby d3_36 rfl rfl ?_
  refine q_isub 38 X5 hx hby d3_37 rfl ?_
  refine qc2 40 8 X5 hx hby d3_38 rfl rfl ?_
  refine own_by (fun _ k => iremM X5 hx rfl (hb hby d3_40) rfl (by decide) k) ?_
  show OEnds p e below s _ _ _ (T5.setTop (mkF m 41 #[(vr a), (vi 1), un, un, un] [(.int ((sz - (1 : Int32)) % (8 : Int32))), (.int ((sz - (1 : Int32)) / (8 : Int32)))]))
  refine own_by (S' := T5.setTop (mkF m 49 #[(vr a), (vi 1), un, un, un] [(.int (if ((sz - (1 : Int32)) % (8 : Int32)) = (0 : Int32) then (0 : Int32) else (1 : Int32))), (.int ((sz - (1 : Int32)) / (8 : Int32)))])) (fun t k => ?_) ?_
  · by_cases hc41_6 : ((sz - (1 : Int32)) % (8 : Int32)) = (0 : Int32)
    · rw [if_pos hc41_6] at k
      refine XS.ifNo X5.here hx rfl (hb hby d3_41) rfl ((if0 _ _).trans (teq hc41_6).2) ?_
      show Steps p.tables e below (T5.setTop (mkF m 44 #[(vr a), (vi 1), un, un, un] [(.int ((sz - (1 : Int32)) / (8 : Int32)))])) t
      refine XS.iconst X5.here hx rfl (hb hby d3_44) ?_
      show Steps p.tables e below (T5.setTop (mkF m 45 #[(vr a), (vi 1), un, un, un] [(.int 0), (.int ((sz - (1 : Int32)) / (8 : Int32)))])) t
      refine XS.goto X5.here hx rfl (pc0 := 45) (pc' := 49) rfl (hb hby d3_45) (by decide) (by decide) ?_
      show Steps p.tables e below (T5.setTop (mkF m 49 #[(vr a), (vi 1), un, un, un] [(.int 0), (.int ((sz - (1 : Int32)) / (8 : Int32)))])) t
      exact k
    · rw [if_neg hc41_6] at k
      refine XS.ifYes X5.here hx rfl (pc0 := 41) (pc' := 48) rfl (hb hby d3_41) rfl ((if0 _ _).trans (feq hc41_6).2) (by decide) (by decide) ?_
      show Steps p.tables e below (T5.setTop (mkF m 48 #[(vr a), (vi 1), un, un, un] [(.int ((sz - (1 : Int32)) / (8 : Int32)))])) t
      refine XS.iconst X5.here hx rfl (hb hby d3_48) ?_
      show Steps p.tables e below (T5.setTop (mkF m 49 #[(vr a), (vi 1), un, un, un] [(.int 1), (.int ((sz - (1 : Int32)) / (8 : Int32)))])) t
      exact k
  show OEnds p e below s _ _ _ (T5.setTop (mkF m 49 #[(vr a), (vi 1), un, un, un] [(.int (if ((sz - (1 : Int32)) % (8 : Int32)) = (0 : Int32) then (0 : Int32) else (1 : Int32))), (.int ((sz - (1 : Int32)) / (8 : Int32)))]))
  refine q_iadd 50 X5 hx hby d3_49 rfl ?_
  rw [hnb]
  show OEnds p e below s _ _ _ (T5.setTop (mkF m 50 #[(vr a), (vi 1), un, un, un] [(.int 2)]))
  refine qsiN 51 #[(vr a), (vi 1), (vi 2), un, un] X5 hx hby d3_50 rfl rfl ?_
  refine qaN 52 X5 hx hby d3_51 rfl rfl ?_
  refine qg 55 X5 hx hZ hown (tw12 hw) e5 (O0.fld 1 rfl rfl) hby d3_52 rfl fun T7 X7 e7 => ?_
  refine qn 56 (64 : Int32) X7 hx hZ e7 F_b2 (by decide) hby d3_55 rfl ?_
  refine qaN 57 X7 hx hby d3_56 rfl rfl ?_
  refine qg 60 X7 hx hZ hown (tw34 hw) e7 (O0.fld 9 rfl rfl) hby d3_57 rfl fun T8 X8 e8 => ?_
  refine q_isub 61 X8 hx hby d3_60 rfl ?_
  show OEnds p e below s _ _ _ (T8.setTop (mkF m 61 #[(vr a), (vi 1), (vi 2), un, un] [(.int 62)]))
  refine qc1 62 2 X8 hx hby d3_61 rfl rfl ?_
  refine qiN 63 X8 hx hby d3_62 rfl rfl ?_
  refine q_imul 64 X8 hx hby d3_63 rfl ?_
  show OEnds p e below s _ _ _ (T8.setTop (mkF m 64 #[(vr a), (vi 1), (vi 2), un, un] [(.int 4), (.int 62)]))
  refine q_cmy 96 X8 hx hby d3_64 rfl (flt (by decide : ¬ ((62 : Int32) < (4 : Int32)))).2.1 ?_
  refine qaN 97 X8 hx hby d3_96 rfl rfl ?_
  refine qg 100 X8 hx hZ hown (tw30 hw) e8 (O0.fld 7 rfl rfl) hby d3_97 rfl fun T9 X9 e9 => ?_
  refine qaN 101 X9 hx hby d3_100 rfl rfl ?_
  refine qg 104 X9 hx hZ hown (tw15 hw) e9 (O0.fld 2 rfl rfl) hby d3_101 rfl fun T10 X10 e10 => ?_
  refine qn 105 (16 : Int32) X10 hx hZ e10 F_b3 (by decide) hby d3_104 rfl ?_
  refine q_cmy 159 X10 hx hby d3_105 rfl (feq (by decide : ¬ ((1 : Int32) = (16 : Int32)))).2 ?_
  refine qaN 160 X10 hx hby d3_159 rfl rfl ?_
  refine qg 163 X10 hx hZ hown (tw15 hw) e10 (O0.fld 2 rfl rfl) hby d3_160 rfl fun T11 X11 e11 => ?_
  refine qaN 164 X11 hx hby d3_163 rfl rfl ?_
  refine qg 167 X11 hx hZ hown (tw30 hw) e11 (O0.fld 7 rfl rfl) hby d3_164 rfl fun T12 X12 e12 => ?_
  refine qiN 168 X12 hx hby d3_167 rfl rfl ?_
  obtain ⟨T13, h13, X13, e13, W13, st13⟩ := own_iastore X12 hx hZ e12 F_b3 1 (by decide) (by decide) (g := (mkF m 168 #[(vr a), (vi 1), (vi 2), un, un] [(.int 1), (.int 1), (.ref b3)])) rfl rfl (hb hby d3_168)
  have F13 : FA Z h13 b3 .int 16 (fun i => .int ((updI g3 1 (1 : Int32)) i)) := F_b3.setI W13
  have N13 := Fr.snoc X13 N0 g_b3
  have Z13 := Nat.le_trans Z0 (Keep.of_wr W13).1
  have K13 := K0.wr W13 (wi 2 rfl)
  refine qat 169 #[(vr a), (vi 1), (vi 2), un, un] [] st13 ?_
  refine qaN 170 X13 hx hby d3_169 rfl rfl ?_
  have O15 := (O0.other W13 (o03 hord))
  refine qg 173 X13 hx hZ hown (tw17 hw) e13 (O15.fld 3 rfl rfl) hby d3_170 rfl fun T14 X14 e14 => ?_
  refine qaN 174 X14 hx hby d3_173 rfl rfl ?_
  refine qg 177 X14 hx hZ hown (tw30 hw) e14 (O15.fld 7 rfl rfl) hby d3_174 rfl fun T16 X16 e16 => ?_
  refine qaN 178 X16 hx hby d3_177 rfl rfl ?_
  refine qg 181 X16 hx hZ hown (tw32 hw) e16 (O15.fld 8 rfl rfl) hby d3_178 rfl fun T17 X17 e17 => ?_
  have F19 := (F_b4.other W13 (Ne.symm (o34 hord)))
  obtain ⟨T18, h18, X18, e18, W18, st18⟩ := own_iastore X17 hx hZ e17 F19 1 (by decide) (by decide) (g := (mkF m 181 #[(vr a), (vi 1), (vi 2), un, un] [(.int sz), (.int 1), (.ref b4)])) rfl rfl (hb hby d3_181)
  have F18 : FA Z h18 b4 .int 16 (fun i => .int ((updI g4 1 sz) i)) := F19.setI W18
  have N18 := Fr.snoc X18 N13 g_b4
  have Z18 := Nat.le_trans Z13 (Keep.of_wr W18).1
  have K18 := K13.wr W18 (wi 3 rfl)
  refine qat 182 #[(vr a), (vi 1), (vi 2), un, un] [] st18 ?_
  refine qaN 183 X18 hx hby d3_182 rfl rfl ?_
  have O21 := (O15.other W18 (o04 hord))
  refine qg 186 X18 hx hZ hown (tw19 hw) e18 (O21.fld 4 rfl rfl) hby d3_183 rfl fun T20 X20 e20 => ?_
  refine qaN 187 X20 hx hby d3_186 rfl rfl ?_
  refine qg 190 X20 hx hZ hown (tw30 hw) e20 (O21.fld 7 rfl rfl) hby d3_187 rfl fun T22 X22 e22 => ?_
  refine qaN 191 X22 hx hby d3_190 rfl rfl ?_
  refine qg 194 X22 hx hZ hown (tw34 hw) e22 (O21.fld 9 rfl rfl) hby d3_191 rfl fun T23 X23 e23 => ?_
  have F25 := ((F_b5.other W13 (Ne.symm (o35 hord))).other W18 (Ne.symm (o45 hord)))
  obtain ⟨T24, h24, X24, e24, W24, st24⟩ := own_iastore X23 hx hZ e23 F25 1 (by decide) (by decide) (g := (mkF m 194 #[(vr a), (vi 1), (vi 2), un, un] [(.int 2), (.int 1), (.ref b5)])) rfl rfl (hb hby d3_194)
  have F24 : FA Z h24 b5 .int 16 (fun i => .int ((updI g5 1 (2 : Int32)) i)) := F25.setI W24
  have N24 := Fr.snoc X24 N18 g_b5
  have Z24 := Nat.le_trans Z18 (Keep.of_wr W24).1
  have K24 := K18.wr W24 (wi 4 rfl)
  refine qat 195 #[(vr a), (vi 1), (vi 2), un, un] [] st24 ?_
  refine qaN 196 X24 hx hby d3_195 rfl rfl ?_
  have O27 := (O21.other W24 (o05 hord))
  refine qg 199 X24 hx hZ hown (tw12 hw) e24 (O27.fld 1 rfl rfl) hby d3_196 rfl fun T26 X26 e26 => ?_
  refine qaN 200 X26 hx hby d3_199 rfl rfl ?_
  refine qg 203 X26 hx hZ hown (tw34 hw) e26 (O27.fld 9 rfl rfl) hby d3_200 rfl fun T28 X28 e28 => ?_
  refine qiN 204 X28 hx hby d3_203 rfl rfl ?_
  refine q_iadd 205 X28 hx hby d3_204 rfl ?_
  show OEnds p e below s _ _ _ (T28.setTop (mkF m 205 #[(vr a), (vi 1), (vi 2), un, un] [(.int 4), (.ref b2)]))
  refine qaN 206 X28 hx hby d3_205 rfl rfl ?_
  refine qg 209 X28 hx hZ hown (tw34 hw) e28 (O27.fld 9 rfl rfl) hby d3_206 rfl fun T29 X29 e29 => ?_
  refine qc1 210 2 X29 hx hby d3_209 rfl rfl ?_
  refine qiN 211 X29 hx hby d3_210 rfl rfl ?_
  refine q_imul 212 X29 hx hby d3_211 rfl ?_
  show OEnds p e below s _ _ _ (T29.setTop (mkF m 212 #[(vr a), (vi 1), (vi 2), un, un] [(.int 4), (.int 2), (.int 4), (.ref b2)]))
  refine q_iadd 213 X29 hx hby d3_212 rfl ?_
  show OEnds p e below s _ _ _ (T29.setTop (mkF m 213 #[(vr a), (vi 1), (vi 2), un, un] [(.int 6), (.int 4), (.ref b2)]))
  refine own_by (X29.ldc2Long hx hown (mvT hZ (tw36 hw)) (g := (mkF m 213 #[(vr a), (vi 1), (vi 2), un, un] [(.int 6), (.int 4), (.ref b2)])) rfl (hb hby d3_213)) ?_
  show OEnds p e below s _ _ _ (T29.setTop (mkF m 216 #[(vr a), (vi 1), (vi 2), un, un] [(.long (-9223372036854775808)), (.int 6), (.int 4), (.ref b2)]))
  have F31 := (((F_b2.other W13 (o23 hord)).other W18 (o24 hord)).other W24 (o25 hord))
  obtain ⟨v30, T30, L30, h30, X30, e30, hQ30, st30⟩ := own_callS X29 hx hZ (y := mn4) hown (tw37 hw) (tw38 hw) (tw39 hw) (tw40 hw) (by decide) (rm_fill_4_6 l Z a0 hw [] b2 (-9223372036854775808 : Int64) g2 h24 n0 Z24 F31 g_b2) e29 (g := (mkF m 216 #[(vr a), (vi 1), (vi 2), un, un] [(.long (-9223372036854775808)), (.int 6), (.int 4), (.ref b2)])) rfl (by rw [hml]; rfl) (argsL := [(.ref b2), (.int 4), (.int 6), (.long (-9223372036854775808))]) (rest := []) (lenOf pd_paJIIJrV rfl) rfl (W := 0) (by show 2 * 0 + _ ≤ _; exact Nat.le_of_eq rfl) (hb hby d3_216) (by decide) (by decide) (by decide) (by decide)
  obtain ⟨rfl, Nq30, Kq30, F30_b2⟩ := hQ30
  have N30 := Fr.app N24 Nq30
  have K30 := K24.trans Kq30 (allS (wi 1 rfl) all0)
  have Z30 := Nat.le_trans Z24 Kq30.1
  obtain ⟨f30_b2, ef30_b2⟩ : ∃ fz_ : Nat → Int64, fz_ = (updL (updL g2 4 (-9223372036854775808 : Int64)) 5 (-9223372036854775808 : Int64)) := ⟨_, rfl⟩
  rw [← ef30_b2] at F30_b2
  refine qtr 219 #[(vr a), (vi 1), (vi 2), un, un] [] st30 ?_
  refine qiN 220 X30 hx hby d3_219 rfl rfl ?_
  refine qsiN 221 #[(vr a), (vi 1), (vi 2), (vi 1), un] X30 hx hby d3_220 rfl rfl ?_
  have fin : ∀ (T : State) (lo : List Loc) (iv : Int32) (c2 : Nat → Int64) (ii : Nat) (s4 : Slot) (h_fin : Heap) (Zz_fin : n0 ≤ h_fin.size) (X_fin : Stand p l e ({ frames := 2, cells := 0, slots := 0, locals := 31 } : Room) s m #[(.ref a)] below meth c T lo 0 0) (e_fin : T.heap = h_fin) (N_fin : Fr n0 lo) (Kp_fin : Keep h0 h_fin [a, b2, b3, b4, b5]) (Ob_fin_a : Obj Z h_fin a "com/example/graphweft/graphweft/RangeMaxTree" sch_rt [(.ref b1), (.ref b2), (.ref b3), (.ref b4), (.ref b5), (.ref b6), (.ref b7), (.int 1), (.int sz), (.int 2), (.long bd), (.int ss), (.int bs), (.int bc), (.int pn), (.int se), (.int sa), (.int ta), (.int te)]) (Fa_fin_b1 : FA Z h_fin b1 .long 64 (fun i => .long (g1 i))) (Fa_fin_b2 : FA Z h_fin b2 .long 64 (fun i => .long (c2 i))) (Fa_fin_b3 : FA Z h_fin b3 .int 16 (fun i => .int ((updI g3 1 (1 : Int32)) i))) (Fa_fin_b4 : FA Z h_fin b4 .int 16 (fun i => .int ((updI g4 1 sz) i))) (Fa_fin_b5 : FA Z h_fin b5 .int 16 (fun i => .int ((updI g5 1 (2 : Int32)) i))) (hi : ii = 1 + n) (hMX : ∀ bd, c2 4 < bd → ∀ j, j < 8 → 1 + j < ii → g1 (1 + j) < bd), OEnds p e below s (Q_index2_1_2 Z a b1 b2 b3 b4 b5 b6 b7 sz bd ss bs bc pn se sa ta te g1 g2 g3 g4 g5 n h0 n0) 0 0 (T.setTop (mkF m 273 #[(vr a), (vi 1), (vi 2), (vi iv), s4] [])) := by
    intro T lo iv c2 ii s4 h_fin Zz_fin X_fin e_fin N_fin Kp_fin Ob_fin_a Fa_fin_b1 Fa_fin_b2 Fa_fin_b3 Fa_fin_b4 Fa_fin_b5 hi hMX
    show OEnds p e below s _ _ _ (T.setTop (mkF m 273 #[(vr a), (vi 1), (vi 2), (vi iv), s4] []))
    show OEnds p e below s _ _ _ (T.setTop (mkF m 273 #[(vr a), (vi 1), (vi 2), (vi iv), s4] []))
    refine qiN 274 X_fin hx hby d3_273 rfl rfl ?_
    refine qc1 275 1 X_fin hx hby d3_274 rfl rfl ?_
    refine q_isub 276 X_fin hx hby d3_275 rfl ?_
    show OEnds p e below s _ _ _ (T.setTop (mkF m 276 #[(vr a), (vi 1), (vi 2), (vi iv), s4] [(.int 1)]))
    refine qsiN 277 #[(vr a), (vi 1), (vi 2), (vi 1), s4] X_fin hx hby d3_276 rfl rfl ?_
    refine qiN 278 X_fin hx hby d3_277 rfl rfl ?_
    refine q_ifn 281 X_fin hx hby d3_278 rfl ((if0 _ _).trans (tlt (by decide : (0 : Int32) < (1 : Int32))).2.2.2) ?_
    refine qaN 282 X_fin hx hby d3_281 rfl rfl ?_
    refine qg 285 X_fin hx hZ hown (tw12 hw) e_fin (Ob_fin_a.fld 1 rfl rfl) hby d3_282 rfl fun T32 X32 e32 => ?_
    refine qaN 286 X32 hx hby d3_285 rfl rfl ?_
    refine qg 289 X32 hx hZ hown (tw34 hw) e32 (Ob_fin_a.fld 9 rfl rfl) hby d3_286 rfl fun T33 X33 e33 => ?_
    refine qiN 290 X33 hx hby d3_289 rfl rfl ?_
    refine q_iadd 291 X33 hx hby d3_290 rfl ?_
    show OEnds p e below s _ _ _ (T33.setTop (mkF m 291 #[(vr a), (vi 1), (vi 2), (vi 1), s4] [(.int 3), (.ref b2)]))
    refine qaN 292 X33 hx hby d3_291 rfl rfl ?_
    refine qg 295 X33 hx hZ hown (tw12 hw) e33 (Ob_fin_a.fld 1 rfl rfl) hby d3_292 rfl fun T34 X34 e34 => ?_
    refine qaN 296 X34 hx hby d3_295 rfl rfl ?_
    refine qg 299 X34 hx hZ hown (tw34 hw) e34 (Ob_fin_a.fld 9 rfl rfl) hby d3_296 rfl fun T35 X35 e35 => ?_
    refine qc1 300 2 X35 hx hby d3_299 rfl rfl ?_
    refine qiN 301 X35 hx hby d3_300 rfl rfl ?_
    refine q_imul 302 X35 hx hby d3_301 rfl ?_
    show OEnds p e below s _ _ _ (T35.setTop (mkF m 302 #[(vr a), (vi 1), (vi 2), (vi 1), s4] [(.int 2), (.int 2), (.ref b2), (.int 3), (.ref b2)]))
    refine q_iadd 303 X35 hx hby d3_302 rfl ?_
    show OEnds p e below s _ _ _ (T35.setTop (mkF m 303 #[(vr a), (vi 1), (vi 2), (vi 1), s4] [(.int 4), (.ref b2), (.int 3), (.ref b2)]))
    refine qJ 304 X35 hx hZ e35 Fa_fin_b2 4 (by decide) (by decide) (v := (.long (c2 4))) rfl hby d3_303 rfl ?_
    refine qaN 305 X35 hx hby d3_304 rfl rfl ?_
    refine qg 308 X35 hx hZ hown (tw12 hw) e35 (Ob_fin_a.fld 1 rfl rfl) hby d3_305 rfl fun T36 X36 e36 => ?_
    refine qaN 309 X36 hx hby d3_308 rfl rfl ?_
    refine qg 312 X36 hx hZ hown (tw34 hw) e36 (Ob_fin_a.fld 9 rfl rfl) hby d3_309 rfl fun T37 X37 e37 => ?_
    refine qc1 313 2 X37 hx hby d3_312 rfl rfl ?_
    refine qiN 314 X37 hx hby d3_313 rfl rfl ?_
    refine q_imul 315 X37 hx hby d3_314 rfl ?_
    show OEnds p e below s _ _ _ (T37.setTop (mkF m 315 #[(vr a), (vi 1), (vi 2), (vi 1), s4] [(.int 2), (.int 2), (.ref b2), (.long (c2 4)), (.int 3), (.ref b2)]))
    refine q_iadd 316 X37 hx hby d3_315 rfl ?_
    show OEnds p e below s _ _ _ (T37.setTop (mkF m 316 #[(vr a), (vi 1), (vi 2), (vi 1), s4] [(.int 4), (.ref b2), (.long (c2 4)), (.int 3), (.ref b2)]))
    refine qc1 317 1 X37 hx hby d3_316 rfl rfl ?_
    refine q_iadd 318 X37 hx hby d3_317 rfl ?_
    show OEnds p e below s _ _ _ (T37.setTop (mkF m 318 #[(vr a), (vi 1), (vi 2), (vi 1), s4] [(.int 5), (.ref b2), (.long (c2 4)), (.int 3), (.ref b2)]))
    refine qJ 319 X37 hx hZ e37 Fa_fin_b2 5 (by decide) (by decide) (v := (.long (c2 5))) rfl hby d3_318 rfl ?_
    obtain ⟨T38, X38, e38, st38⟩ := own_callP X37 hx hZ (y := mn0) hown (tw81 hw) (tw82 hw) (tw83 hw) (tw84 hw) (by decide) (rm_jmax l Z a0 hw [] (c2 4) (c2 5) h_fin) e37 (g := (mkF m 319 #[(vr a), (vi 1), (vi 2), (vi 1), s4] [(.long (c2 5)), (.long (c2 4)), (.int 3), (.ref b2)])) rfl (by rw [hml]; rfl) (argsL := [(.long (c2 4)), (.long (c2 5))]) (rest := [(.int 3), (.ref b2)]) (lenOf pd_pJJrJ rfl) rfl (W := 2) (by show 2 * 0 + _ ≤ _; exact Nat.le_of_eq rfl) (hb hby d3_319) (by decide) (by decide) (by decide) (by decide)
    refine qat 322 #[(vr a), (vi 1), (vi 2), (vi 1), s4] [(.long (jmax (c2 4) (c2 5))), (.int 3), (.ref b2)] st38 ?_
    obtain ⟨T39, h39, X39, e39, W39, st39⟩ := own_lastore X38 hx hZ e38 Fa_fin_b2 3 (by decide) (by decide) (g := (mkF m 322 #[(vr a), (vi 1), (vi 2), (vi 1), s4] [(.long (jmax (c2 4) (c2 5))), (.int 3), (.ref b2)])) rfl rfl (hb hby d3_322)
    have F39 : FA Z h39 b2 .long 64 (fun i => .long ((updL c2 3 (jmax (c2 4) (c2 5))) i)) := Fa_fin_b2.setL W39
    have N39 := Fr.snoc X39 N_fin g_b2
    have Z39 := Nat.le_trans Zz_fin (Keep.of_wr W39).1
    have K39 := Kp_fin.wr W39 (wi 1 rfl)
    refine qat 323 #[(vr a), (vi 1), (vi 2), (vi 1), s4] [] st39 ?_
    refine q_inc 326 #[(vr a), (vi 1), (vi 2), (vi 0), s4] X39 hx hby d3_323 rfl rfl rfl ?_
    refine q_goto 277 X39 hx hby d3_326 rfl ?_
    refine qiN 278 X39 hx hby d3_277 rfl rfl ?_
    refine q_ify 329 X39 hx hby d3_278 rfl ((if0 _ _).trans (flt (by decide : ¬ ((0 : Int32) < (0 : Int32)))).2.2.2) ?_
    refine qaN 330 X39 hx hby d3_329 rfl rfl ?_
    refine q_dup 331 X39 hx hby d3_330 rfl rfl ?_
    have O41 := (Ob_fin_a.other W39 (o02 hord))
    refine qg 334 X39 hx hZ hown (tw34 hw) e39 (O41.fld 9 rfl rfl) hby d3_331 rfl fun T40 X40 e40 => ?_
    refine qc1 335 2 X40 hx hby d3_334 rfl rfl ?_
    refine qiN 336 X40 hx hby d3_335 rfl rfl ?_
    refine q_imul 337 X40 hx hby d3_336 rfl ?_
    show OEnds p e below s _ _ _ (T40.setTop (mkF m 337 #[(vr a), (vi 1), (vi 2), (vi 0), s4] [(.int 4), (.int 2), (.ref a)]))
    refine q_iadd 338 X40 hx hby d3_337 rfl ?_
    show OEnds p e below s _ _ _ (T40.setTop (mkF m 338 #[(vr a), (vi 1), (vi 2), (vi 0), s4] [(.int 6), (.ref a)]))
    obtain ⟨T42, h42, X42, e42, W42, st42⟩ := putF X40 hx hZ hown (host := "") (Or.inl (tw34 hw)) Via.refl e40 (O41.fld 9 rfl rfl) O41.exa (Or.inl (tw35 hw)) (tw2 hw) (ty := .int) (by decide) rfl rfl (g := (mkF m 338 #[(vr a), (vi 1), (vi 2), (vi 0), s4] [(.int 6), (.ref a)])) rfl rfl (hb hby d3_338)
    have O42 : Obj Z h42 a "com/example/graphweft/graphweft/RangeMaxTree" sch_rt [(.ref b1), (.ref b2), (.ref b3), (.ref b4), (.ref b5), (.ref b6), (.ref b7), (.int 1), (.int sz), (.int 6), (.long bd), (.int ss), (.int bs), (.int bc), (.int pn), (.int se), (.int sa), (.int ta), (.int te)] := O41.set (so_sch_rt hw) W42 9 rfl (Nat.le_of_ble_eq_true rfl)
    have N42 := Fr.snoc X42 N39 g_a
    have Z42 := Nat.le_trans Z39 (Keep.of_wr W42).1
    have K42 := K39.wr W42 (wi 0 rfl)
    refine qat 341 #[(vr a), (vi 1), (vi 2), (vi 0), s4] [] st42 ?_
    refine qaN 342 X42 hx hby d3_341 rfl rfl ?_
    refine q_dup 343 X42 hx hby d3_342 rfl rfl ?_
    refine qg 346 X42 hx hZ hown (tw30 hw) e42 (O42.fld 7 rfl rfl) hby d3_343 rfl fun T43 X43 e43 => ?_
    refine own_by (fun _ k => XS.dupX1 X43.here hx rfl (hb hby d3_346) rfl rfl rfl k) ?_
    show OEnds p e below s _ _ _ (T43.setTop (mkF m 347 #[(vr a), (vi 1), (vi 2), (vi 0), s4] [(.int 1), (.ref a), (.int 1)]))
    refine qc1 348 1 X43 hx hby d3_347 rfl rfl ?_
    refine q_iadd 349 X43 hx hby d3_348 rfl ?_
    show OEnds p e below s _ _ _ (T43.setTop (mkF m 349 #[(vr a), (vi 1), (vi 2), (vi 0), s4] [(.int 2), (.ref a), (.int 1)]))
    obtain ⟨T44, h44, X44, e44, W44, st44⟩ := putF X43 hx hZ hown (host := "") (Or.inl (tw30 hw)) Via.refl e43 (O42.fld 7 rfl rfl) O42.exa (Or.inl (tw31 hw)) (tw2 hw) (ty := .int) (by decide) rfl rfl (g := (mkF m 349 #[(vr a), (vi 1), (vi 2), (vi 0), s4] [(.int 2), (.ref a), (.int 1)])) rfl rfl (hb hby d3_349)
    have O44 : Obj Z h44 a "com/example/graphweft/graphweft/RangeMaxTree" sch_rt [(.ref b1), (.ref b2), (.ref b3), (.ref b4), (.ref b5), (.ref b6), (.ref b7), (.int 2), (.int sz), (.int 6), (.long bd), (.int ss), (.int bs), (.int bc), (.int pn), (.int se), (.int sa), (.int ta), (.int te)] := O42.set (so_sch_rt hw) W44 7 rfl (Nat.le_of_ble_eq_true rfl)
    have N44 := Fr.snoc X44 N42 g_a
    have Z44 := Nat.le_trans Z42 (Keep.of_wr W44).1
    have K44 := K42.wr W44 (wi 0 rfl)
    refine qat 352 #[(vr a), (vi 1), (vi 2), (vi 0), s4] [(.int 1)] st44 ?_
    have hfin : ∀ bd, (updL c2 3 (jmax (c2 4) (c2 5))) 4 < bd → ∀ j, j < 8 → j < n → g1 (1 + j) < bd := by exact fun bd hb j hj hjn => hMX bd hb j hj (by omega)
    have F45 := ((F39.other W42 (Ne.symm (o02 hord))).other W44 (Ne.symm (o02 hord)))
    have F46 := (((Fa_fin_b3.other W39 (Ne.symm (o23 hord))).other W42 (Ne.symm (o03 hord))).other W44 (Ne.symm (o03 hord)))
    have F47 := (((Fa_fin_b4.other W39 (Ne.symm (o24 hord))).other W42 (Ne.symm (o04 hord))).other W44 (Ne.symm (o04 hord)))
    have F48 := (((Fa_fin_b5.other W39 (Ne.symm (o25 hord))).other W42 (Ne.symm (o05 hord))).other W44 (Ne.symm (o05 hord)))
    exact own_retI X44 hx hlk Bd.returns (hb hby d3_352) (by rw [e44]; exact ⟨rfl, N44, K44, _, hfin, O44, F45, F46, F47, F48⟩) (by decide) (by decide)
  have lp : ∀ (dd : Nat) (T : State) (lo : List Loc) (iv : Int32) (d4 : Int32) (c2 : Nat → Int64) (ii : Nat) (h_lp : Heap) (Zz_lp : n0 ≤ h_lp.size) (X_lp : Stand p l e ({ frames := 2, cells := 0, slots := 0, locals := 31 } : Room) s m #[(.ref a)] below meth c T lo 0 0) (e_lp : T.heap = h_lp) (N_lp : Fr n0 lo) (Kp_lp : Keep h0 h_lp [a, b2, b3, b4, b5]) (Ob_lp_a : Obj Z h_lp a "com/example/graphweft/graphweft/RangeMaxTree" sch_rt [(.ref b1), (.ref b2), (.ref b3), (.ref b4), (.ref b5), (.ref b6), (.ref b7), (.int 1), (.int sz), (.int 2), (.long bd), (.int ss), (.int bs), (.int bc), (.int pn), (.int se), (.int sa), (.int ta), (.int te)]) (Fa_lp_b1 : FA Z h_lp b1 .long 64 (fun i => .long (g1 i))) (Fa_lp_b2 : FA Z h_lp b2 .long 64 (fun i => .long (c2 i))) (Fa_lp_b3 : FA Z h_lp b3 .int 16 (fun i => .int ((updI g3 1 (1 : Int32)) i))) (Fa_lp_b4 : FA Z h_lp b4 .int 16 (fun i => .int ((updI g4 1 sz) i))) (Fa_lp_b5 : FA Z h_lp b5 .int 16 (fun i => .int ((updI g5 1 (2 : Int32)) i))) (hiv : iv.toInt = (ii : Int)) (hid : ii + dd = 1 + n) (hip : 1 ≤ ii) (hMX : ∀ bd, c2 4 < bd → ∀ j, j < 8 → 1 + j < ii → g1 (1 + j) < bd), OEnds p e below s (Q_index2_1_2 Z a b1 b2 b3 b4 b5 b6 b7 sz bd ss bs bc pn se sa ta te g1 g2 g3 g4 g5 n h0 n0) 0 0 (T.setTop (mkF m 221 #[(vr a), (vi 1), (vi 2), (vi iv), (vi d4)] [])) := by
    intro dd
    induction dd with
    | zero =>
      intro T lo iv d4 c2 ii h_lp Zz_lp X_lp e_lp N_lp Kp_lp Ob_lp_a Fa_lp_b1 Fa_lp_b2 Fa_lp_b3 Fa_lp_b4 Fa_lp_b5 hiv hid hip hMX
      show OEnds p e below s _ _ _ (T.setTop (mkF m 221 #[(vr a), (vi 1), (vi 2), (vi iv), (vi d4)] []))
      refine qiN 222 X_lp hx hby d3_221 rfl rfl ?_
      refine qaN 223 X_lp hx hby d3_222 rfl rfl ?_
      refine qg 226 X_lp hx hZ hown (tw32 hw) e_lp (Ob_lp_a.fld 8 rfl rfl) hby d3_223 rfl fun T49 X49 e49 => ?_
      refine q_cmy 273 X49 hx hby d3_226 rfl (flt (nlt_i hiv hsz (by omega))).2.1 ?_
      exact fin T49 _ iv c2 ii ((vi d4)) h_lp Zz_lp X49 e49 N_lp Kp_lp Ob_lp_a Fa_lp_b1 Fa_lp_b2 Fa_lp_b3 Fa_lp_b4 Fa_lp_b5 (by omega) hMX
    | succ dd ih_lp =>
      intro T lo iv d4 c2 ii h_lp Zz_lp X_lp e_lp N_lp Kp_lp Ob_lp_a Fa_lp_b1 Fa_lp_b2 Fa_lp_b3 Fa_lp_b4 Fa_lp_b5 hiv hid hip hMX
      show OEnds p e below s _ _ _ (T.setTop (mkF m 221 #[(vr a), (vi 1), (vi 2), (vi iv), (vi d4)] []))
      have hlt0 : ii < 1 + n := by omega
      show OEnds p e below s _ _ _ (T.setTop (mkF m 221 #[(vr a), (vi 1), (vi 2), (vi iv), (vi d4)] []))
      refine qiN 222 X_lp hx hby d3_221 rfl rfl ?_
      refine qaN 223 X_lp hx hby d3_222 rfl rfl ?_
      refine qg 226 X_lp hx hZ hown (tw32 hw) e_lp (Ob_lp_a.fld 8 rfl rfl) hby d3_223 rfl fun T50 X50 e50 => ?_
      refine q_cmn 229 X50 hx hby d3_226 rfl (tlt (lt_of_i hiv hsz hlt0)).2.1 ?_
      refine qaN 230 X50 hx hby d3_229 rfl rfl ?_
      refine qg 233 X50 hx hZ hown (tw34 hw) e50 (Ob_lp_a.fld 9 rfl rfl) hby d3_230 rfl fun T51 X51 e51 => ?_
      refine qiN 234 X51 hx hby d3_233 rfl rfl ?_
      refine q_iadd 235 X51 hx hby d3_234 rfl ?_
      show OEnds p e below s _ _ _ (T51.setTop (mkF m 235 #[(vr a), (vi 1), (vi 2), (vi iv), (vi d4)] [(.int 4)]))
      refine qiN 236 X51 hx hby d3_235 rfl rfl ?_
      refine qiN 237 X51 hx hby d3_236 rfl rfl ?_
      refine q_isub 238 X51 hx hby d3_237 rfl ?_
      refine qc2 240 8 X51 hx hby d3_238 rfl rfl ?_
      refine q_idiv 241 X51 hx hby d3_240 rfl (by decide) ?_
      refine q_iadd 242 X51 hx hby d3_241 rfl ?_
      refine qsi 244 #[(vr a), (vi 1), (vi 2), (vi iv), (vi ((4 : Int32) + ((iv - (1 : Int32)) / (8 : Int32))))] X51 hx hby d3_242 rfl rfl ?_
      refine qaN 245 X51 hx hby d3_244 rfl rfl ?_
      refine qg 248 X51 hx hZ hown (tw12 hw) e51 (Ob_lp_a.fld 1 rfl rfl) hby d3_245 rfl fun T52 X52 e52 => ?_
      refine qi 250 X52 hx hby d3_248 rfl rfl ?_
      refine qaN 251 X52 hx hby d3_250 rfl rfl ?_
      refine qg 254 X52 hx hZ hown (tw12 hw) e52 (Ob_lp_a.fld 1 rfl rfl) hby d3_251 rfl fun T53 X53 e53 => ?_
      refine qi 256 X53 hx hby d3_254 rfl rfl ?_
      refine qJ 257 X53 hx hZ e53 Fa_lp_b2 (4 + (ii - 1) / 8) (ix_i (p := 1) hiv hip (by omega) (by decide)) (by omega) (v := (.long (c2 (4 + (ii - 1) / 8)))) rfl hby d3_256 rfl ?_
      refine qaN 258 X53 hx hby d3_257 rfl rfl ?_
      refine qg 261 X53 hx hZ hown (tw10 hw) e53 (Ob_lp_a.fld 0 rfl rfl) hby d3_258 rfl fun T54 X54 e54 => ?_
      refine qiN 262 X54 hx hby d3_261 rfl rfl ?_
      refine qJ 263 X54 hx hZ e54 Fa_lp_b1 ii hiv (by omega) (v := (.long (g1 ii))) rfl hby d3_262 rfl ?_
      obtain ⟨T55, X55, e55, st55⟩ := own_callP X54 hx hZ (y := mn0) hown (tw81 hw) (tw82 hw) (tw83 hw) (tw84 hw) (by decide) (rm_jmax l Z a0 hw [] (c2 (4 + (ii - 1) / 8)) (g1 ii) h_lp) e54 (g := (mkF m 263 #[(vr a), (vi 1), (vi 2), (vi iv), (vi ((4 : Int32) + ((iv - (1 : Int32)) / (8 : Int32))))] [(.long (g1 ii)), (.long (c2 (4 + (ii - 1) / 8))), (.int ((4 : Int32) + ((iv - (1 : Int32)) / (8 : Int32)))), (.ref b2)])) rfl (by rw [hml]; rfl) (argsL := [(.long (c2 (4 + (ii - 1) / 8))), (.long (g1 ii))]) (rest := [(.int ((4 : Int32) + ((iv - (1 : Int32)) / (8 : Int32)))), (.ref b2)]) (lenOf pd_pJJrJ rfl) rfl (W := 2) (by show 2 * 0 + _ ≤ _; exact Nat.le_of_eq rfl) (hb hby d3_263) (by decide) (by decide) (by decide) (by decide)
      refine qat 266 #[(vr a), (vi 1), (vi 2), (vi iv), (vi ((4 : Int32) + ((iv - (1 : Int32)) / (8 : Int32))))] [(.long (jmax (c2 (4 + (ii - 1) / 8)) (g1 ii))), (.int ((4 : Int32) + ((iv - (1 : Int32)) / (8 : Int32)))), (.ref b2)] st55 ?_
      obtain ⟨T56, h56, X56, e56, W56, st56⟩ := own_lastore X55 hx hZ e55 Fa_lp_b2 (4 + (ii - 1) / 8) (ix_i (p := 1) hiv hip (by omega) (by decide)) (by omega) (g := (mkF m 266 #[(vr a), (vi 1), (vi 2), (vi iv), (vi ((4 : Int32) + ((iv - (1 : Int32)) / (8 : Int32))))] [(.long (jmax (c2 (4 + (ii - 1) / 8)) (g1 ii))), (.int ((4 : Int32) + ((iv - (1 : Int32)) / (8 : Int32)))), (.ref b2)])) rfl rfl (hb hby d3_266)
      have F56 : FA Z h56 b2 .long 64 (fun i => .long ((updL c2 (4 + (ii - 1) / 8) (jmax (c2 (4 + (ii - 1) / 8)) (g1 ii))) i)) := Fa_lp_b2.setL W56
      obtain ⟨f56, ef56⟩ : ∃ fz_ : Nat → Int64, fz_ = (updL c2 (4 + (ii - 1) / 8) (jmax (c2 (4 + (ii - 1) / 8)) (g1 ii))) := ⟨_, rfl⟩
      rw [← ef56] at F56
      have N56 := Fr.snoc X56 N_lp g_b2
      have Z56 := Nat.le_trans Zz_lp (Keep.of_wr W56).1
      have K56 := Kp_lp.wr W56 (wi 1 rfl)
      refine qat 267 #[(vr a), (vi 1), (vi 2), (vi iv), (vi ((4 : Int32) + ((iv - (1 : Int32)) / (8 : Int32))))] [] st56 ?_
      refine q_inc 270 #[(vr a), (vi 1), (vi 2), (vi (iv + (1 : Int32))), (vi ((4 : Int32) + ((iv - (1 : Int32)) / (8 : Int32))))] X56 hx hby d3_267 rfl rfl rfl ?_
      refine q_goto 221 X56 hx hby d3_270 rfl ?_
      have O57 := (Ob_lp_a.other W56 (o02 hord))
      have F58 := (Fa_lp_b1.other W56 (o12 hord))
      have F59 := (Fa_lp_b3.other W56 (Ne.symm (o23 hord)))
      have F60 := (Fa_lp_b4.other W56 (Ne.symm (o24 hord)))
      have F61 := (Fa_lp_b5.other W56 (Ne.symm (o25 hord)))
      exact ih_lp T56 _ (iv + (1 : Int32)) ((4 : Int32) + ((iv - (1 : Int32)) / (8 : Int32))) _ (ii + 1) h56 Z56 X56 e56 N56 K56 O57 F58 F56 F59 F60 F61 (inc_i hiv (by omega)) (by omega) (by omega) (by subst ef56; exact mx_step hMX hip)
  have lpU : ∀ (dd : Nat) (T : State) (lo : List Loc) (iv : Int32) (c2 : Nat → Int64) (ii : Nat) (h_lpU : Heap) (Zz_lpU : n0 ≤ h_lpU.size) (X_lpU : Stand p l e ({ frames := 2, cells := 0, slots := 0, locals := 31 } : Room) s m #[(.ref a)] below meth c T lo 0 0) (e_lpU : T.heap = h_lpU) (N_lpU : Fr n0 lo) (Kp_lpU : Keep h0 h_lpU [a, b2, b3, b4, b5]) (Ob_lpU_a : Obj Z h_lpU a "com/example/graphweft/graphweft/RangeMaxTree" sch_rt [(.ref b1), (.ref b2), (.ref b3), (.ref b4), (.ref b5), (.ref b6), (.ref b7), (.int 1), (.int sz), (.int 2), (.long bd), (.int ss), (.int bs), (.int bc), (.int pn), (.int se), (.int sa), (.int ta), (.int te)]) (Fa_lpU_b1 : FA Z h_lpU b1 .long 64 (fun i => .long (g1 i))) (Fa_lpU_b2 : FA Z h_lpU b2 .long 64 (fun i => .long (c2 i))) (Fa_lpU_b3 : FA Z h_lpU b3 .int 16 (fun i => .int ((updI g3 1 (1 : Int32)) i))) (Fa_lpU_b4 : FA Z h_lpU b4 .int 16 (fun i => .int ((updI g4 1 sz) i))) (Fa_lpU_b5 : FA Z h_lpU b5 .int 16 (fun i => .int ((updI g5 1 (2 : Int32)) i))) (hiv : iv.toInt = (ii : Int)) (hid : ii + dd = 1 + n) (hip : 1 ≤ ii) (hMX : ∀ bd, c2 4 < bd → ∀ j, j < 8 → 1 + j < ii → g1 (1 + j) < bd), OEnds p e below s (Q_index2_1_2 Z a b1 b2 b3 b4 b5 b6 b7 sz bd ss bs bc pn se sa ta te g1 g2 g3 g4 g5 n h0 n0) 0 0 (T.setTop (mkF m 221 #[(vr a), (vi 1), (vi 2), (vi iv), un] [])) := by
    intro dd
    induction dd with
    | zero =>
      intro T lo iv c2 ii h_lpU Zz_lpU X_lpU e_lpU N_lpU Kp_lpU Ob_lpU_a Fa_lpU_b1 Fa_lpU_b2 Fa_lpU_b3 Fa_lpU_b4 Fa_lpU_b5 hiv hid hip hMX
      show OEnds p e below s _ _ _ (T.setTop (mkF m 221 #[(vr a), (vi 1), (vi 2), (vi iv), un] []))
      refine qiN 222 X_lpU hx hby d3_221 rfl rfl ?_
      refine qaN 223 X_lpU hx hby d3_222 rfl rfl ?_
      refine qg 226 X_lpU hx hZ hown (tw32 hw) e_lpU (Ob_lpU_a.fld 8 rfl rfl) hby d3_223 rfl fun T62 X62 e62 => ?_
      refine q_cmy 273 X62 hx hby d3_226 rfl (flt (nlt_i hiv hsz (by omega))).2.1 ?_
      exact fin T62 _ iv c2 ii (.unset) h_lpU Zz_lpU X62 e62 N_lpU Kp_lpU Ob_lpU_a Fa_lpU_b1 Fa_lpU_b2 Fa_lpU_b3 Fa_lpU_b4 Fa_lpU_b5 (by omega) hMX
    | succ dd ih_lpU =>
      intro T lo iv c2 ii h_lpU Zz_lpU X_lpU e_lpU N_lpU Kp_lpU Ob_lpU_a Fa_lpU_b1 Fa_lpU_b2 Fa_lpU_b3 Fa_lpU_b4 Fa_lpU_b5 hiv hid hip hMX
      show OEnds p e below s _ _ _ (T.setTop (mkF m 221 #[(vr a), (vi 1), (vi 2), (vi iv), un] []))
      have hlt0 : ii < 1 + n := by omega
      show OEnds p e below s _ _ _ (T.setTop (mkF m 221 #[(vr a), (vi 1), (vi 2), (vi iv), un] []))
      refine qiN 222 X_lpU hx hby d3_221 rfl rfl ?_
      refine qaN 223 X_lpU hx hby d3_222 rfl rfl ?_
      refine qg 226 X_lpU hx hZ hown (tw32 hw) e_lpU (Ob_lpU_a.fld 8 rfl rfl) hby d3_223 rfl fun T63 X63 e63 => ?_
      refine q_cmn 229 X63 hx hby d3_226 rfl (tlt (lt_of_i hiv hsz hlt0)).2.1 ?_
      refine qaN 230 X63 hx hby d3_229 rfl rfl ?_
      refine qg 233 X63 hx hZ hown (tw34 hw) e63 (Ob_lpU_a.fld 9 rfl rfl) hby d3_230 rfl fun T64 X64 e64 => ?_
      refine qiN 234 X64 hx hby d3_233 rfl rfl ?_
      refine q_iadd 235 X64 hx hby d3_234 rfl ?_
      show OEnds p e below s _ _ _ (T64.setTop (mkF m 235 #[(vr a), (vi 1), (vi 2), (vi iv), un] [(.int 4)]))
      refine qiN 236 X64 hx hby d3_235 rfl rfl ?_
      refine qiN 237 X64 hx hby d3_236 rfl rfl ?_
      refine q_isub 238 X64 hx hby d3_237 rfl ?_
      refine qc2 240 8 X64 hx hby d3_238 rfl rfl ?_
      refine q_idiv 241 X64 hx hby d3_240 rfl (by decide) ?_
      refine q_iadd 242 X64 hx hby d3_241 rfl ?_
      refine qsi 244 #[(vr a), (vi 1), (vi 2), (vi iv), (vi ((4 : Int32) + ((iv - (1 : Int32)) / (8 : Int32))))] X64 hx hby d3_242 rfl rfl ?_
      refine qaN 245 X64 hx hby d3_244 rfl rfl ?_
      refine qg 248 X64 hx hZ hown (tw12 hw) e64 (Ob_lpU_a.fld 1 rfl rfl) hby d3_245 rfl fun T65 X65 e65 => ?_
      refine qi 250 X65 hx hby d3_248 rfl rfl ?_
      refine qaN 251 X65 hx hby d3_250 rfl rfl ?_
      refine qg 254 X65 hx hZ hown (tw12 hw) e65 (Ob_lpU_a.fld 1 rfl rfl) hby d3_251 rfl fun T66 X66 e66 => ?_
      refine qi 256 X66 hx hby d3_254 rfl rfl ?_
      refine qJ 257 X66 hx hZ e66 Fa_lpU_b2 (4 + (ii - 1) / 8) (ix_i (p := 1) hiv hip (by omega) (by decide)) (by omega) (v := (.long (c2 (4 + (ii - 1) / 8)))) rfl hby d3_256 rfl ?_
      refine qaN 258 X66 hx hby d3_257 rfl rfl ?_
      refine qg 261 X66 hx hZ hown (tw10 hw) e66 (Ob_lpU_a.fld 0 rfl rfl) hby d3_258 rfl fun T67 X67 e67 => ?_
      refine qiN 262 X67 hx hby d3_261 rfl rfl ?_
      refine qJ 263 X67 hx hZ e67 Fa_lpU_b1 ii hiv (by omega) (v := (.long (g1 ii))) rfl hby d3_262 rfl ?_
      obtain ⟨T68, X68, e68, st68⟩ := own_callP X67 hx hZ (y := mn0) hown (tw81 hw) (tw82 hw) (tw83 hw) (tw84 hw) (by decide) (rm_jmax l Z a0 hw [] (c2 (4 + (ii - 1) / 8)) (g1 ii) h_lpU) e67 (g := (mkF m 263 #[(vr a), (vi 1), (vi 2), (vi iv), (vi ((4 : Int32) + ((iv - (1 : Int32)) / (8 : Int32))))] [(.long (g1 ii)), (.long (c2 (4 + (ii - 1) / 8))), (.int ((4 : Int32) + ((iv - (1 : Int32)) / (8 : Int32)))), (.ref b2)])) rfl (by rw [hml]; rfl) (argsL := [(.long (c2 (4 + (ii - 1) / 8))), (.long (g1 ii))]) (rest := [(.int ((4 : Int32) + ((iv - (1 : Int32)) / (8 : Int32)))), (.ref b2)]) (lenOf pd_pJJrJ rfl) rfl (W := 2) (by show 2 * 0 + _ ≤ _; exact Nat.le_of_eq rfl) (hb hby d3_263) (by decide) (by decide) (by decide) (by decide)
      refine qat 266 #[(vr a), (vi 1), (vi 2), (vi iv), (vi ((4 : Int32) + ((iv - (1 : Int32)) / (8 : Int32))))] [(.long (jmax (c2 (4 + (ii - 1) / 8)) (g1 ii))), (.int ((4 : Int32) + ((iv - (1 : Int32)) / (8 : Int32)))), (.ref b2)] st68 ?_
      obtain ⟨T69, h69, X69, e69, W69, st69⟩ := own_lastore X68 hx hZ e68 Fa_lpU_b2 (4 + (ii - 1) / 8) (ix_i (p := 1) hiv hip (by omega) (by decide)) (by omega) (g := (mkF m 266 #[(vr a), (vi 1), (vi 2), (vi iv), (vi ((4 : Int32) + ((iv - (1 : Int32)) / (8 : Int32))))] [(.long (jmax (c2 (4 + (ii - 1) / 8)) (g1 ii))), (.int ((4 : Int32) + ((iv - (1 : Int32)) / (8 : Int32)))), (.ref b2)])) rfl rfl (hb hby d3_266)
      have F69 : FA Z h69 b2 .long 64 (fun i => .long ((updL c2 (4 + (ii - 1) / 8) (jmax (c2 (4 + (ii - 1) / 8)) (g1 ii))) i)) := Fa_lpU_b2.setL W69
      obtain ⟨f69, ef69⟩ : ∃ fz_ : Nat → Int64, fz_ = (updL c2 (4 + (ii - 1) / 8) (jmax (c2 (4 + (ii - 1) / 8)) (g1 ii))) := ⟨_, rfl⟩
      rw [← ef69] at F69
      have N69 := Fr.snoc X69 N_lpU g_b2
      have Z69 := Nat.le_trans Zz_lpU (Keep.of_wr W69).1
      have K69 := Kp_lpU.wr W69 (wi 1 rfl)
      refine qat 267 #[(vr a), (vi 1), (vi 2), (vi iv), (vi ((4 : Int32) + ((iv - (1 : Int32)) / (8 : Int32))))] [] st69 ?_
      refine q_inc 270 #[(vr a), (vi 1), (vi 2), (vi (iv + (1 : Int32))), (vi ((4 : Int32) + ((iv - (1 : Int32)) / (8 : Int32))))] X69 hx hby d3_267 rfl rfl rfl ?_
      refine q_goto 221 X69 hx hby d3_270 rfl ?_
      have O70 := (Ob_lpU_a.other W69 (o02 hord))
      have F71 := (Fa_lpU_b1.other W69 (o12 hord))
      have F72 := (Fa_lpU_b3.other W69 (Ne.symm (o23 hord)))
      have F73 := (Fa_lpU_b4.other W69 (Ne.symm (o24 hord)))
      have F74 := (Fa_lpU_b5.other W69 (Ne.symm (o25 hord)))
      exact lp dd T69 _ (iv + (1 : Int32)) ((4 : Int32) + ((iv - (1 : Int32)) / (8 : Int32))) _ (ii + 1) h69 Z69 X69 e69 N69 K69 O70 F71 F69 F72 F73 F74 (inc_i hiv (by omega)) (by omega) (by omega) (by subst ef69; exact mx_step hMX hip)
  subst ef30_b2
  have O75 := (O27.keep Kq30 (ninS (o02 hord) nin0))
  have F76 := ((((F_b1.other W13 (o13 hord)).other W18 (o14 hord)).other W24 (o15 hord)).keep Kq30 (ninS (o12 hord) nin0))
  have F77 := (((F13.other W18 (o34 hord)).other W24 (o35 hord)).keep Kq30 (ninS (Ne.symm (o23 hord)) nin0))
  have F78 := ((F18.other W24 (o45 hord)).keep Kq30 (ninS (Ne.symm (o24 hord)) nin0))
  have F79 := (F24.keep Kq30 (ninS (Ne.symm (o25 hord)) nin0))
  exact lpU n T30 _ (1 : Int32) _ 1 h30 Z30 X30 e30 N30 K30 O75 F76 F30_b2 F77 F78 F79 (by decide) rfl (Nat.le_refl _) (fun _ _ j _ hj => absurd hj (by omega))
theorem d6_0 : decode prog_32_method_8_code 0 = .ok (.aload_n 0, 1) := by decide +kernel
theorem d6_1 : decode prog_32_method_8_code 1 = .ok (.lload_n 3, 1) := by decide +kernel
theorem d6_2 : decode prog_32_method_8_code 2 = .ok (.putfield 83, 3) := by decide +kernel
theorem d6_5 : decode prog_32_method_8_code 5 = .ok (.aload_n 0, 1) := by decide +kernel
theorem d6_6 : decode prog_32_method_8_code 6 = .ok (.aload_n 0, 1) := by decide +kernel
theorem d6_7 : decode prog_32_method_8_code 7 = .ok (.getfield 16, 3) := by decide +kernel
theorem d6_10 : decode prog_32_method_8_code 10 = .ok (.iload_n 1, 1) := by decide +kernel
theorem d6_11 : decode prog_32_method_8_code 11 = .ok (.iaload, 1) := by decide +kernel
theorem d6_12 : decode prog_32_method_8_code 12 = .ok (.putfield 87, 3) := by decide +kernel
theorem d6_15 : decode prog_32_method_8_code 15 = .ok (.aload_n 0, 1) := by decide +kernel
theorem d6_16 : decode prog_32_method_8_code 16 = .ok (.aload_n 0, 1) := by decide +kernel
theorem d6_17 : decode prog_32_method_8_code 17 = .ok (.getfield 23, 3) := by decide +kernel
theorem d6_20 : decode prog_32_method_8_code 20 = .ok (.iload_n 1, 1) := by decide +kernel
theorem d6_21 : decode prog_32_method_8_code 21 = .ok (.iaload, 1) := by decide +kernel
theorem d6_22 : decode prog_32_method_8_code 22 = .ok (.putfield 90, 3) := by decide +kernel
theorem d6_25 : decode prog_32_method_8_code 25 = .ok (.aload_n 0, 1) := by decide +kernel
theorem d6_26 : decode prog_32_method_8_code 26 = .ok (.getfield 20, 3) := by decide +kernel
theorem d6_29 : decode prog_32_method_8_code 29 = .ok (.iload_n 1, 1) := by decide +kernel
theorem d6_30 : decode prog_32_method_8_code 30 = .ok (.iaload, 1) := by decide +kernel
theorem d6_31 : decode prog_32_method_8_code 31 = .ok (.aload_n 0, 1) := by decide +kernel
theorem d6_32 : decode prog_32_method_8_code 32 = .ok (.getfield 87, 3) := by decide +kernel
theorem d6_35 : decode prog_32_method_8_code 35 = .ok (.isub, 1) := by decide +kernel
theorem d6_36 : decode prog_32_method_8_code 36 = .ok (.istore 5, 2) := by decide +kernel
theorem d6_38 : decode prog_32_method_8_code 38 = .ok (.aload_n 0, 1) := by decide +kernel
theorem d6_39 : decode prog_32_method_8_code 39 = .ok (.iload 5, 2) := by decide +kernel
theorem d6_41 : decode prog_32_method_8_code 41 = .ok (.bipush 8, 2) := by decide +kernel
theorem d6_43 : decode prog_32_method_8_code 43 = .ok (.idiv, 1) := by decide +kernel
theorem d6_44 : decode prog_32_method_8_code 44 = .ok (.iload 5, 2) := by decide +kernel
theorem d6_46 : decode prog_32_method_8_code 46 = .ok (.bipush 8, 2) := by decide +kernel
theorem d6_48 : decode prog_32_method_8_code 48 = .ok (.irem, 1) := by decide +kernel
theorem d6_49 : decode prog_32_method_8_code 49 = .ok (.ifCond .ne 7, 3) := by decide +kernel
theorem d6_52 : decode prog_32_method_8_code 52 = .ok (.iconst 0, 1) := by decide +kernel
theorem d6_53 : decode prog_32_method_8_code 53 = .ok (.goto 4, 3) := by decide +kernel
theorem d6_56 : decode prog_32_method_8_code 56 = .ok (.iconst 1, 1) := by decide +kernel
theorem d6_57 : decode prog_32_method_8_code 57 = .ok (.iadd, 1) := by decide +kernel
theorem d6_58 : decode prog_32_method_8_code 58 = .ok (.putfield 93, 3) := by decide +kernel
theorem d6_61 : decode prog_32_method_8_code 61 = .ok (.aload_n 0, 1) := by decide +kernel
theorem d6_62 : decode prog_32_method_8_code 62 = .ok (.iconst 0, 1) := by decide +kernel
theorem d6_63 : decode prog_32_method_8_code 63 = .ok (.putfield 54, 3) := by decide +kernel
theorem d6_66 : decode prog_32_method_8_code 66 = .ok (.aload_n 0, 1) := by decide +kernel
theorem d6_67 : decode prog_32_method_8_code 67 = .ok (.aload_n 0, 1) := by decide +kernel
theorem d6_68 : decode prog_32_method_8_code 68 = .ok (.iconst 0, 1) := by decide +kernel
theorem d6_69 : decode prog_32_method_8_code 69 = .ok (.dup_x1, 1) := by decide +kernel
theorem d6_70 : decode prog_32_method_8_code 70 = .ok (.putfield 48, 3) := by decide +kernel
theorem d6_73 : decode prog_32_method_8_code 73 = .ok (.putfield 51, 3) := by decide +kernel
theorem d6_76 : decode prog_32_method_8_code 76 = .ok (.iload_n 2, 1) := by decide +kernel
theorem d6_77 : decode prog_32_method_8_code 77 = .ok (.aload_n 0, 1) := by decide +kernel
theorem d6_78 : decode prog_32_method_8_code 78 = .ok (.getfield 87, 3) := by decide +kernel
theorem d6_81 : decode prog_32_method_8_code 81 = .ok (.isub, 1) := by decide +kernel
theorem d6_82 : decode prog_32_method_8_code 82 = .ok (.bipush 8, 2) := by decide +kernel
theorem d6_84 : decode prog_32_method_8_code 84 = .ok (.idiv, 1) := by decide +kernel
theorem d6_85 : decode prog_32_method_8_code 85 = .ok (.istore 6, 2) := by decide +kernel
theorem d6_87 : decode prog_32_method_8_code 87 = .ok (.aload_n 0, 1) := by decide +kernel
theorem d6_88 : decode prog_32_method_8_code 88 = .ok (.aload_n 0, 1) := by decide +kernel
theorem d6_89 : decode prog_32_method_8_code 89 = .ok (.getfield 87, 3) := by decide +kernel
theorem d6_92 : decode prog_32_method_8_code 92 = .ok (.iload 6, 2) := by decide +kernel
theorem d6_94 : decode prog_32_method_8_code 94 = .ok (.bipush 8, 2) := by decide +kernel
theorem d6_96 : decode prog_32_method_8_code 96 = .ok (.imul, 1) := by decide +kernel
theorem d6_97 : decode prog_32_method_8_code 97 = .ok (.iadd, 1) := by decide +kernel
theorem d6_98 : decode prog_32_method_8_code 98 = .ok (.putfield 45, 3) := by decide +kernel
theorem d6_101 : decode prog_32_method_8_code 101 = .ok (.aload_n 0, 1) := by decide +kernel
theorem d6_102 : decode prog_32_method_8_code 102 = .ok (.iload_n 2, 1) := by decide +kernel
theorem d6_103 : decode prog_32_method_8_code 103 = .ok (.putfield 42, 3) := by decide +kernel
theorem d6_106 : decode prog_32_method_8_code 106 = .ok (.iconst 0, 1) := by decide +kernel
theorem d6_107 : decode prog_32_method_8_code 107 = .ok (.istore 7, 2) := by decide +kernel
theorem d6_109 : decode prog_32_method_8_code 109 = .ok (.aload_n 0, 1) := by decide +kernel
theorem d6_110 : decode prog_32_method_8_code 110 = .ok (.getfield 93, 3) := by decide +kernel
theorem d6_113 : decode prog_32_method_8_code 113 = .ok (.istore 8, 2) := by decide +kernel
theorem d6_115 : decode prog_32_method_8_code 115 = .ok (.iload 6, 2) := by decide +kernel
theorem d6_117 : decode prog_32_method_8_code 117 = .ok (.aload_n 0, 1) := by decide +kernel
theorem d6_118 : decode prog_32_method_8_code 118 = .ok (.getfield 93, 3) := by decide +kernel
theorem d6_121 : decode prog_32_method_8_code 121 = .ok (.iadd, 1) := by decide +kernel
theorem d6_122 : decode prog_32_method_8_code 122 = .ok (.istore 9, 2) := by decide +kernel
theorem d6_124 : decode prog_32_method_8_code 124 = .ok (.iload 8, 2) := by decide +kernel
theorem d6_126 : decode prog_32_method_8_code 126 = .ok (.iload 9, 2) := by decide +kernel
theorem d6_128 : decode prog_32_method_8_code 128 = .ok (.if_icmp .ge 70, 3) := by decide +kernel
theorem d6_198 : decode prog_32_method_8_code 198 = .ok (.iload 7, 2) := by decide +kernel
theorem d6_200 : decode prog_32_method_8_code 200 = .ok (.ifCond .le 32, 3) := by decide +kernel
theorem d6_232 : decode prog_32_method_8_code 232 = .ok (.return_, 1) := by decide +kernel
theorem pn_6 : plainName "com/example/graphweft/graphweft/RangeMaxTree" = true := by first | (simp [plainName, overriddenIn]; done) | decide +kernel
theorem ef_6 (m : MethodId) (x0 : Addr) (x1 : Int32) (x2 : Int32) (x3 : Int64) : entryFrame m #[(.ref x0), (.int x1), (.int x2), (.long x3)] 10 = mkF m 0 #[.val (.ref x0), .val (.int x1), .val (.int x2), .val (.long x3), .second, .unset, .unset, .unset, .unset, .unset] [] := by first | (simp [entryFrame, mkF, argsToLocals, Value.category]; done) | rfl
def Q_findS (Z : State) (a : Addr) (tq : Int32) (vv : Int64) (b1 : Addr) (b2 : Addr) (b3 : Addr) (b4 : Addr) (b5 : Addr) (b6 : Addr) (b7 : Addr) (sc : Int32) (sz : Int32) (nc : Int32) (bd : Int64) (ss : Int32) (bs : Int32) (bc : Int32) (pn : Int32) (se : Int32) (sa : Int32) (ta : Int32) (te : Int32) (g3 : Nat → Int32) (g4 : Nat → Int32) (g5 : Nat → Int32) (h0 : Heap) (n0 : Nat) (r : Option Value) (h : Heap) (L : List Loc) : Prop := r = none ∧ Fr n0 L ∧ Keep h0 h [a] ∧ Obj Z h a "com/example/graphweft/graphweft/RangeMaxTree" sch_rt [(.ref b1), (.ref b2), (.ref b3), (.ref b4), (.ref b5), (.ref b6), (.ref b7), (.int sc), (.int sz), (.int nc), (.long vv), (.int (g3 1)), (.int (g5 1)), (.int ((((g4 1) - (g3 1)) / (8 : Int32)) + (if (((g4 1) - (g3 1)) % (8 : Int32)) = (0 : Int32) then (0 : Int32) else (1 : Int32)))), (.int 0), (.int 0), (.int 0), (.int ((g3 1) + (0 : Int32))), (.int tq)]
set_option maxRecDepth 65536 in
set_option maxHeartbeats 40000000 in
theorem rm_findS (l : Launch) (Z : State) (a0 : Array Value) (hw : ∀ d ∈ tables_1, d.before a0 Z = true) (ws : List Jvm.Cond) (a : Addr) (tq : Int32) (vv : Int64) (b1 : Addr) (b2 : Addr) (b3 : Addr) (b4 : Addr) (b5 : Addr) (b6 : Addr) (b7 : Addr) (sc : Int32) (sz : Int32) (nc : Int32) (bd : Int64) (ss : Int32) (bs : Int32) (bc : Int32) (pn : Int32) (se : Int32) (sa : Int32) (ta : Int32) (te : Int32) (g3 : Nat → Int32) (g4 : Nat → Int32) (g5 : Nat → Int32) (h0 : Heap) (n0 : Nat) (Z0 : n0 ≤ h0.size) (O0 : Obj Z h0 a "com/example/graphweft/graphweft/RangeMaxTree" sch_rt [(.ref b1), (.ref b2), (.ref b3), (.ref b4), (.ref b5), (.ref b6), (.ref b7), (.int sc), (.int sz), (.int nc), (.long bd), (.int ss), (.int bs), (.int bc), (.int pn), (.int se), (.int sa), (.int ta), (.int te)]) (F_b3 : FA Z h0 b3 .int 16 (fun i => .int (g3 i))) (F_b4 : FA Z h0 b4 .int 16 (fun i => .int (g4 i))) (F_b5 : FA Z h0 b5 .int 16 (fun i => .int (g5 i))) (g_a : n0 ≤ a) (hord : @LT.lt Nat instLTNat a b1 ∧ @LT.lt Nat instLTNat b1 b2 ∧ @LT.lt Nat instLTNat b2 b3 ∧ @LT.lt Nat instLTNat b3 b4 ∧ @LT.lt Nat instLTNat b4 b5 ∧ @LT.lt Nat instLTNat b5 b6 ∧ @LT.lt Nat instLTNat b6 b7) (hfull : ((tq - (g3 1)) / (8 : Int32)) = (0 : Int32)) :
    MetFree l mn6 (head1 (Jvm.Cond.code mn6 prog_32_method_8_code 10 none :: ws) ({ frames := 0, cells := 0, slots := 0, locals := 0 } : Room)) (fun a_ U => a_ = #[(.ref a), (.int 1), (.int tq), (.long vv)] ∧ Z.Warmed39 U.vm ∧ U.heap = h0) (fun _ _ _ _ _ => True) (fun _ U o U' => ∃ v_ L_, o = .returned v_ ∧ Q_findS Z a tq vv b1 b2 b3 b4 b5 b6 b7 sc sz nc bd ss bs bc pn se sa ta te g3 g4 g5 h0 n0 v_ U'.heap L_ ∧ FrameEnd U o U' L_ ({ frames := 0, cells := 0, slots := 0, locals := 0 } : Room).cells ({ frames := 0, cells := 0, slots := 0, locals := 0 } : Room).slots) := by
  refine MetFree.of_bodySF (plainFor_of_name pn_6) hisR ?_
  intro p e s m args below meth c s₁ Bd hml0 hP hK
  obtain ⟨rfl, hZ, hh⟩ := hP
  have hx := Bd.exec
  have hby := Bd.bytes
  have hlk : meth.locks = false := Bd.notSynchronized
  have hml : c.maxLocals = 10 := hml0
  have hown : s.vm.findClass "com/example/graphweft/graphweft/RangeMaxTree" = some m.cls := findClass_of_methodNamed Bd.named
  have hnm := (name_of_methodNamed Bd.named Bd.method).1
  have X0 : Stand p l e ({ frames := 0, cells := 0, slots := 0, locals := 0 } : Room) s m #[(.ref a), (.int 1), (.int tq), (.long vv)] below meth c s₁ [] 0 0 := Stand.of_body Bd
  have e0 : s₁.heap = h0 := by rw [← hh, Bd.state]; rfl
  have N0 := Fr.nil n0
  have K0 : Keep h0 h0 [a] := Keep.refl _ _
  show OEnds p e below s (Q_findS Z a tq vv b1 b2 b3 b4 b5 b6 b7 sc sz nc bd ss bs bc pn se sa ta te g3 g4 g5 h0 n0) _ _ _
  refine own_by (fun t k => castTop (ef_6 m a (1 : Int32) tq vv) k) ?_
  show OEnds p e below s _ _ _ (s₁.setTop (mkF m 0 #[(vr a), (vi 1), (vi tq), (vj vv), sd, un, un, un, un, un] []))
  refine qaN 1 X0 hx hby d6_0 rfl rfl ?_
  refine qlN 2 X0 hx hby d6_1 rfl rfl ?_
  obtain ⟨T1, h1, X1, e1, W1, st1⟩ := putF X0 hx hZ hown (host := "") (Or.inl (tw49 hw)) Via.refl e0 (O0.fld 10 rfl rfl) O0.exa (Or.inl (tw50 hw)) (tw2 hw) (ty := .long) (by decide) rfl rfl (g := (mkF m 2 #[(vr a), (vi 1), (vi tq), (vj vv), sd, un, un, un, un, un] [(.long vv), (.ref a)])) rfl rfl (hb hby d6_2)
  have O1 : Obj Z h1 a "com/example/graphweft/graphweft/RangeMaxTree" sch_rt [(.ref b1), (.ref b2), (.ref b3), (.ref b4), (.ref b5), (.ref b6), (.ref b7), (.int sc), (.int sz), (.int nc), (.long vv), (.int ss), (.int bs), (.int bc), (.int pn), (.int se), (.int sa), (.int ta), (.int te)] := O0.set (so_sch_rt hw) W1 10 rfl (Nat.le_of_ble_eq_true rfl)
  have N1 := Fr.snoc X1 N0 g_a
  have Z1 := Nat.le_trans Z0 (Keep.of_wr W1).1
  have K1 := K0.wr W1 (wi 0 rfl)
  refine qat 5 #[(vr a), (vi 1), (vi tq), (vj vv), sd, un, un, un, un, un] [] st1 ?_
  refine qaN 6 X1 hx hby d6_5 rfl rfl ?_
  refine qaN 7 X1 hx hby d6_6 rfl rfl ?_
  refine qg 10 X1 hx hZ hown (tw15 hw) e1 (O1.fld 2 rfl rfl) hby d6_7 rfl fun T2 X2 e2 => ?_
  refine qiN 11 X2 hx hby d6_10 rfl rfl ?_
  have F3 := (F_b3.other W1 (Ne.symm (o03 hord)))
  refine qI 12 X2 hx hZ e2 F3 1 (by decide) (by decide) (v := (.int (g3 1))) rfl hby d6_11 rfl ?_
  obtain ⟨T4, h4, X4, e4, W4, st4⟩ := putF X2 hx hZ hown (host := "") (Or.inl (tw51 hw)) Via.refl e2 (O1.fld 11 rfl rfl) O1.exa (Or.inl (tw52 hw)) (tw2 hw) (ty := .int) (by decide) rfl rfl (g := (mkF m 12 #[(vr a), (vi 1), (vi tq), (vj vv), sd, un, un, un, un, un] [(.int (g3 1)), (.ref a)])) rfl rfl (hb hby d6_12)
  have O4 : Obj Z h4 a "com/example/graphweft/graphweft/RangeMaxTree" sch_rt [(.ref b1), (.ref b2), (.ref b3), (.ref b4), (.ref b5), (.ref b6), (.ref b7), (.int sc), (.int sz), (.int nc), (.long vv), (.int (g3 1)), (.int bs), (.int bc), (.int pn), (.int se), (.int sa), (.int ta), (.int te)] := O1.set (so_sch_rt hw) W4 11 rfl (Nat.le_of_ble_eq_true rfl)
  have N4 := Fr.snoc X4 N1 g_a
  have Z4 := Nat.le_trans Z1 (Keep.of_wr W4).1
  have K4 := K1.wr W4 (wi 0 rfl)
  refine qat 15 #[(vr a), (vi 1), (vi tq), (vj vv), sd, un, un, un, un, un] [] st4 ?_
  refine qaN 16 X4 hx hby d6_15 rfl rfl ?_
  refine qaN 17 X4 hx hby d6_16 rfl rfl ?_
  refine qg 20 X4 hx hZ hown (tw19 hw) e4 (O4.fld 4 rfl rfl) hby d6_17 rfl fun T5 X5 e5 => ?_
  refine qiN 21 X5 hx hby d6_20 rfl rfl ?_
  have F6 := ((F_b5.other W1 (Ne.symm (o05 hord))).other W4 (Ne.symm (o05 hord)))
  refine qI 22 X5 hx hZ e5 F6 1 (by decide) (by decide) (v := (.int (g5 1))) rfl hby d6_21 rfl ?_
  obtain ⟨T7, h7, X7, e7, W7, st7⟩ := putF X5 hx hZ hown (host := "") (Or.inl (tw53 hw)) Via.refl e5 (O4.fld 12 rfl rfl) O4.exa (Or.inl (tw54 hw)) (tw2 hw) (ty := .int) (by decide) rfl rfl (g := (mkF m 22 #[(vr a), (vi 1), (vi tq), (vj vv), sd, un, un, un, un, un] [(.int (g5 1)), (.ref a)])) rfl rfl (hb hby d6_22)
  have O7 : Obj Z h7 a "com/example/graphweft/graphweft/RangeMaxTree" sch_rt [(.ref b1), (.ref b2), (.ref b3), (.ref b4), (.ref b5), (.ref b6), (.ref b7), (.int sc), (.int sz), (.int nc), (.long vv), (.int (g3 1)), (.int (g5 1)), (.int bc), (.int pn), (.int se), (.int sa), (.int ta), (.int te)] := O4.set (so_sch_rt hw) W7 12 rfl (Nat.le_of_ble_eq_true rfl)
  have N7 := Fr.snoc X7 N4 g_a
  have Z7 := Nat.le_trans Z4 (Keep.of_wr W7).1
  have K7 := K4.wr W7 (wi 0 rfl)
  refine qat 25 #[(vr a), (vi 1), (vi tq), (vj vv), sd, un, un, un, un, un] [] st7 ?_
  refine qaN 26 X7 hx hby d6_25 rfl rfl ?_
  refine qg 29 X7 hx hZ hown (tw17 hw) e7 (O7.fld 3 rfl rfl) hby d6_26 rfl fun T8 X8 e8 => ?_
  refine qiN 30 X8 hx hby d6_29 rfl rfl ?_
  have F9 := (((F_b4.other W1 (Ne.symm (o04 hord))).other W4 (Ne.symm (o04 hord))).other W7 (Ne.symm (o04 hord)))
  refine qI 31 X8 hx hZ e8 F9 1 (by decide) (by decide) (v := (.int (g4 1))) rfl hby d6_30 rfl ?_
  refine qaN 32 X8 hx hby d6_31 rfl rfl ?_
  refine qg 35 X8 hx hZ hown (tw51 hw) e8 (O7.fld 11 rfl rfl) hby d6_32 rfl fun T10 X10 e10 => ?_
  refine q_isub 36 X10 hx hby d6_35 rfl ?_
  refine qsi 38 #[(vr a), (vi 1), (vi tq), (vj vv), sd, (vi ((g4 1) - (g3 1))), un, un, un, un] X10 hx hby d6_36 rfl rfl ?_
  refine qaN 39 X10 hx hby d6_38 rfl rfl ?_
  refine qi 41 X10 hx hby d6_39 rfl rfl ?_
  refine qc2 43 8 X10 hx hby d6_41 rfl rfl ?_
  refine q_idiv 44 X10 hx hby d6_43 rfl (by decide) ?_
  refine qi 46 X10 hx hby d6_44 rfl rfl ?_
  refine qc2 48 8 X10 hx hby d6_46 rfl rfl ?_
  refine own_by (fun _ k => iremM X10 hx rfl (hb hby d6_48) rfl (by decide) k) ?_
  show OEnds p e below s _ _ _ (T10.setTop (mkF m 49 #[(vr a), (vi 1), (vi tq), (vj vv), sd, (vi ((g4 1) - (g3 1))), un, un, un, un] [(.int (((g4 1) - (g3 1)) % (8 : Int32))), (.int (((g4 1) - (g3 1)) / (8 : Int32))), (.ref a)]))
  refine own_by (S' := T10.setTop (mkF m 57 #[(vr a), (vi 1), (vi tq), (vj vv), sd, (vi ((g4 1) - (g3 1))), un, un, un, un] [(.int (if (((g4 1) - (g3 1)) % (8 : Int32)) = (0 : Int32) then (0 : Int32) else (1 : Int32))), (.int (((g4 1) - (g3 1)) / (8 : Int32))), (.ref a)])) (fun t k => ?_) ?_
  · by_cases hc49_11 : (((g4 1) - (g3 1)) % (8 : Int32)) = (0 : Int32)
    · rw [if_pos hc49_11] at k
      refine XS.ifNo X10.here hx rfl (hb hby d6_49) rfl ((if0 _ _).trans (teq hc49_11).2) ?_
      show Steps p.tables e below (T10.setTop (mkF m 52 #[(vr a), (vi 1), (vi tq), (vj vv), sd, (vi ((g4 1) - (g3 1))), un, un, un, un] [(.int (((g4 1) - (g3 1)) / (8 : Int32))), (.ref a)])) t
      refine XS.iconst X10.here hx rfl (hb hby d6_52) ?_
      show Steps p.tables e below (T10.setTop (mkF m 53 #[(vr a), (vi 1), (vi tq), (vj vv), sd, (vi ((g4 1) - (g3 1))), un, un, un, un] [(.int 0), (.int (((g4 1) - (g3 1)) / (8 : Int32))), (.ref a)])) t
      refine XS.goto X10.here hx rfl (pc0 := 53) (pc' := 57) rfl (hb hby d6_53) (by decide) (by decide) ?_
      show Steps p.tables e below (T10.setTop (mkF m 57 #[(vr a), (vi 1), (vi tq), (vj vv), sd, (vi ((g4 1) - (g3 1))), un, un, un, un] [(.int 0), (.int (((g4 1) - (g3 1)) / (8 : Int32))), (.ref a)])) t
      exact k
    · rw [if_neg hc49_11] at k
      refine XS.ifYes X10.here hx rfl (pc0 := 49) (pc' := 56) rfl (hb hby d6_49) rfl ((if0 _ _).trans (feq hc49_11).2) (by decide) (by decide) ?_
      show Steps p.tables e below (T10.setTop (mkF m 56 #[(vr a), (vi 1), (vi tq), (vj vv), sd, (vi ((g4 1) - (g3 1))), un, un, un, un] [(.int (((g4 1) - (g3 1)) / (8 : Int32))), (.ref a)])) t
      refine XS.iconst X10.here hx rfl (hb hby d6_56) ?_
      show Steps p.tables e below (T10.setTop (mkF m 57 #[(vr a), (vi 1), (vi tq), (vj vv), sd, (vi ((g4 1) - (g3 1))), un, un, un, un] [(.int 1), (.int (((g4 1) - (g3 1)) / (8 : Int32))), (.ref a)])) t
      exact k
  show OEnds p e below s _ _ _ (T10.setTop (mkF m 57 #[(vr a), (vi 1), (vi tq), (vj vv), sd, (vi ((g4 1) - (g3 1))), un, un, un, un] [(.int (if (((g4 1) - (g3 1)) % (8 : Int32)) = (0 : Int32) then (0 : Int32) else (1 : Int32))), (.int (((g4 1) - (g3 1)) / (8 : Int32))), (.ref a)]))
  refine q_iadd 58 X10 hx hby d6_57 rfl ?_
  obtain ⟨T12, h12, X12, e12, W12, st12⟩ := putF X10 hx hZ hown (host := "") (Or.inl (tw55 hw)) Via.refl e10 (O7.fld 13 rfl rfl) O7.exa (Or.inl (tw56 hw)) (tw2 hw) (ty := .int) (by decide) rfl rfl (g := (mkF m 58 #[(vr a), (vi 1), (vi tq), (vj vv), sd, (vi ((g4 1) - (g3 1))), un, un, un, un] [(.int ((((g4 1) - (g3 1)) / (8 : Int32)) + (if (((g4 1) - (g3 1)) % (8 : Int32)) = (0 : Int32) then (0 : Int32) else (1 : Int32)))), (.ref a)])) rfl rfl (hb hby d6_58)
  have O12 : Obj Z h12 a "com/example/graphweft/graphweft/RangeMaxTree" sch_rt [(.ref b1), (.ref b2), (.ref b3), (.ref b4), (.ref b5), (.ref b6), (.ref b7), (.int sc), (.int sz), (.int nc), (.long vv), (.int (g3 1)), (.int (g5 1)), (.int ((((g4 1) - (g3 1)) / (8 : Int32)) + (if (((g4 1) - (g3 1)) % (8 : Int32)) = (0 : Int32) then (0 : Int32) else (1 : Int32)))), (.int pn), (.int se), (.int sa), (.int ta), (.int te)] := O7.set (so_sch_rt hw) W12 13 rfl (Nat.le_of_ble_eq_true rfl)
  have N12 := Fr.snoc X12 N7 g_a
  have Z12 := Nat.le_trans Z7 (Keep.of_wr W12).1
  have K12 := K7.wr W12 (wi 0 rfl)
  refine qat 61 #[(vr a), (vi 1), (vi tq), (vj vv), sd, (vi ((g4 1) - (g3 1))), un, un, un, un] [] st12 ?_
  refine qaN 62 X12 hx hby d6_61 rfl rfl ?_
  refine qc1 63 0 X12 hx hby d6_62 rfl rfl ?_
  obtain ⟨T13, h13, X13, e13, W13, st13⟩ := putF X12 hx hZ hown (host := "") (Or.inl (tw57 hw)) Via.refl e12 (O12.fld 14 rfl rfl) O12.exa (Or.inl (tw58 hw)) (tw2 hw) (ty := .int) (by decide) rfl rfl (g := (mkF m 63 #[(vr a), (vi 1), (vi tq), (vj vv), sd, (vi ((g4 1) - (g3 1))), un, un, un, un] [(.int 0), (.ref a)])) rfl rfl (hb hby d6_63)
  have O13 : Obj Z h13 a "com/example/graphweft/graphweft/RangeMaxTree" sch_rt [(.ref b1), (.ref b2), (.ref b3), (.ref b4), (.ref b5), (.ref b6), (.ref b7), (.int sc), (.int sz), (.int nc), (.long vv), (.int (g3 1)), (.int (g5 1)), (.int ((((g4 1) - (g3 1)) / (8 : Int32)) + (if (((g4 1) - (g3 1)) % (8 : Int32)) = (0 : Int32) then (0 : Int32) else (1 : Int32)))), (.int 0), (.int se), (.int sa), (.int ta), (.int te)] := O12.set (so_sch_rt hw) W13 14 rfl (Nat.le_of_ble_eq_true rfl)
  have N13 := Fr.snoc X13 N12 g_a
  have Z13 := Nat.le_trans Z12 (Keep.of_wr W13).1
  have K13 := K12.wr W13 (wi 0 rfl)
  refine qat 66 #[(vr a), (vi 1), (vi tq), (vj vv), sd, (vi ((g4 1) - (g3 1))), un, un, un, un] [] st13 ?_
  refine qaN 67 X13 hx hby d6_66 rfl rfl ?_
  refine qaN 68 X13 hx hby d6_67 rfl rfl ?_
  refine qc1 69 0 X13 hx hby d6_68 rfl rfl ?_
  refine own_by (fun _ k => XS.dupX1 X13.here hx rfl (hb hby d6_69) rfl rfl rfl k) ?_
  show OEnds p e below s _ _ _ (T13.setTop (mkF m 70 #[(vr a), (vi 1), (vi tq), (vj vv), sd, (vi ((g4 1) - (g3 1))), un, un, un, un] [(.int 0), (.ref a), (.int 0), (.ref a)]))
  obtain ⟨T14, h14, X14, e14, W14, st14⟩ := putF X13 hx hZ hown (host := "") (Or.inl (tw59 hw)) Via.refl e13 (O13.fld 15 rfl rfl) O13.exa (Or.inl (tw60 hw)) (tw2 hw) (ty := .int) (by decide) rfl rfl (g := (mkF m 70 #[(vr a), (vi 1), (vi tq), (vj vv), sd, (vi ((g4 1) - (g3 1))), un, un, un, un] [(.int 0), (.ref a), (.int 0), (.ref a)])) rfl rfl (hb hby d6_70)
  have O14 : Obj Z h14 a "com/example/graphweft/graphweft/RangeMaxTree" sch_rt [(.ref b1), (.ref b2), (.ref b3), (.ref b4), (.ref b5), (.ref b6), (.ref b7), (.int sc), (.int sz), (.int nc), (.long vv), (.int (g3 1)), (.int (g5 1)), (.int ((((g4 1) - (g3 1)) / (8 : Int32)) + (if (((g4 1) - (g3 1)) % (8 : Int32)) = (0 : Int32) then (0 : Int32) else (1 : Int32)))), (.int 0), (.int 0), (.int sa), (.int ta), (.int te)] := O13.set (so_sch_rt hw) W14 15 rfl (Nat.le_of_ble_eq_true rfl)
  have N14 := Fr.snoc X14 N13 g_a
  have Z14 := Nat.le_trans Z13 (Keep.of_wr W14).1
  have K14 := K13.wr W14 (wi 0 rfl)
  refine qat 73 #[(vr a), (vi 1), (vi tq), (vj vv), sd, (vi ((g4 1) - (g3 1))), un, un, un, un] [(.int 0), (.ref a)] st14 ?_
  obtain ⟨T15, h15, X15, e15, W15, st15⟩ := putF X14 hx hZ hown (host := "") (Or.inl (tw61 hw)) Via.refl e14 (O14.fld 16 rfl rfl) O14.exa (Or.inl (tw62 hw)) (tw2 hw) (ty := .int) (by decide) rfl rfl (g := (mkF m 73 #[(vr a), (vi 1), (vi tq), (vj vv), sd, (vi ((g4 1) - (g3 1))), un, un, un, un] [(.int 0), (.ref a)])) rfl rfl (hb hby d6_73)
  have O15 : Obj Z h15 a "com/example/graphweft/graphweft/RangeMaxTree" sch_rt [(.ref b1), (.ref b2), (.ref b3), (.ref b4), (.ref b5), (.ref b6), (.ref b7), (.int sc), (.int sz), (.int nc), (.long vv), (.int (g3 1)), (.int (g5 1)), (.int ((((g4 1) - (g3 1)) / (8 : Int32)) + (if (((g4 1) - (g3 1)) % (8 : Int32)) = (0 : Int32) then (0 : Int32) else (1 : Int32)))), (.int 0), (.int 0), (.int 0), (.int ta), (.int te)] := O14.set (so_sch_rt hw) W15 16 rfl (Nat.le_of_ble_eq_true rfl)
  have N15 := Fr.snoc X15 N14 g_a
  have Z15 := Nat.le_trans Z14 (Keep.of_wr W15).1
  have K15 := K14.wr W15 (wi 0 rfl)
  refine qat 76 #[(vr a), (vi 1), (vi tq), (vj vv), sd, (vi ((g4 1) - (g3 1))), un, un, un, un] [] st15 ?_
  refine qiN 77 X15 hx hby d6_76 rfl rfl ?_
  refine qaN 78 X15 hx hby d6_77 rfl rfl ?_
  refine qg 81 X15 hx hZ hown (tw51 hw) e15 (O15.fld 11 rfl rfl) hby d6_78 rfl fun T16 X16 e16 => ?_
  refine q_isub 82 X16 hx hby d6_81 rfl ?_
  refine qc2 84 8 X16 hx hby d6_82 rfl rfl ?_
  refine q_idiv 85 X16 hx hby d6_84 rfl (by decide) ?_
  refine qsi 87 #[(vr a), (vi 1), (vi tq), (vj vv), sd, (vi ((g4 1) - (g3 1))), (vi ((tq - (g3 1)) / (8 : Int32))), un, un, un] X16 hx hby d6_85 rfl rfl ?_
  rw [hfull]
  show OEnds p e below s _ _ _ (T16.setTop (mkF m 87 #[(vr a), (vi 1), (vi tq), (vj vv), sd, (vi ((g4 1) - (g3 1))), (vi 0), un, un, un] []))
  refine qaN 88 X16 hx hby d6_87 rfl rfl ?_
  refine qaN 89 X16 hx hby d6_88 rfl rfl ?_
  refine qg 92 X16 hx hZ hown (tw51 hw) e16 (O15.fld 11 rfl rfl) hby d6_89 rfl fun T17 X17 e17 => ?_
  refine qi 94 X17 hx hby d6_92 rfl rfl ?_
  refine qc2 96 8 X17 hx hby d6_94 rfl rfl ?_
  refine q_imul 97 X17 hx hby d6_96 rfl ?_
  show OEnds p e below s _ _ _ (T17.setTop (mkF m 97 #[(vr a), (vi 1), (vi tq), (vj vv), sd, (vi ((g4 1) - (g3 1))), (vi 0), un, un, un] [(.int 0), (.int (g3 1)), (.ref a)]))
  refine q_iadd 98 X17 hx hby d6_97 rfl ?_
  obtain ⟨T18, h18, X18, e18, W18, st18⟩ := putF X17 hx hZ hown (host := "") (Or.inl (tw63 hw)) Via.refl e17 (O15.fld 17 rfl rfl) O15.exa (Or.inl (tw64 hw)) (tw2 hw) (ty := .int) (by decide) rfl rfl (g := (mkF m 98 #[(vr a), (vi 1), (vi tq), (vj vv), sd, (vi ((g4 1) - (g3 1))), (vi 0), un, un, un] [(.int ((g3 1) + (0 : Int32))), (.ref a)])) rfl rfl (hb hby d6_98)
  have O18 : Obj Z h18 a "com/example/graphweft/graphweft/RangeMaxTree" sch_rt [(.ref b1), (.ref b2), (.ref b3), (.ref b4), (.ref b5), (.ref b6), (.ref b7), (.int sc), (.int sz), (.int nc), (.long vv), (.int (g3 1)), (.int (g5 1)), (.int ((((g4 1) - (g3 1)) / (8 : Int32)) + (if (((g4 1) - (g3 1)) % (8 : Int32)) = (0 : Int32) then (0 : Int32) else (1 : Int32)))), (.int 0), (.int 0), (.int 0), (.int ((g3 1) + (0 : Int32))), (.int te)] := O15.set (so_sch_rt hw) W18 17 rfl (Nat.le_of_ble_eq_true rfl)
  have N18 := Fr.snoc X18 N15 g_a
  have Z18 := Nat.le_trans Z15 (Keep.of_wr W18).1
  have K18 := K15.wr W18 (wi 0 rfl)
  refine qat 101 #[(vr a), (vi 1), (vi tq), (vj vv), sd, (vi ((g4 1) - (g3 1))), (vi 0), un, un, un] [] st18 ?_
  refine qaN 102 X18 hx hby d6_101 rfl rfl ?_
  refine qiN 103 X18 hx hby d6_102 rfl rfl ?_
  obtain ⟨T19, h19, X19, e19, W19, st19⟩ := putF X18 hx hZ hown (host := "") (Or.inl (tw65 hw)) Via.refl e18 (O18.fld 18 rfl rfl) O18.exa (Or.inl (tw66 hw)) (tw2 hw) (ty := .int) (by decide) rfl rfl (g := (mkF m 103 #[(vr a), (vi 1), (vi tq), (vj vv), sd, (vi ((g4 1) - (g3 1))), (vi 0), un, un, un] [(.int tq), (.ref a)])) rfl rfl (hb hby d6_103)
  have O19 : Obj Z h19 a "com/example/graphweft/graphweft/RangeMaxTree" sch_rt [(.ref b1), (.ref b2), (.ref b3), (.ref b4), (.ref b5), (.ref b6), (.ref b7), (.int sc), (.int sz), (.int nc), (.long vv), (.int (g3 1)), (.int (g5 1)), (.int ((((g4 1) - (g3 1)) / (8 : Int32)) + (if (((g4 1) - (g3 1)) % (8 : Int32)) = (0 : Int32) then (0 : Int32) else (1 : Int32)))), (.int 0), (.int 0), (.int 0), (.int ((g3 1) + (0 : Int32))), (.int tq)] := O18.set (so_sch_rt hw) W19 18 rfl (Nat.le_of_ble_eq_true rfl)
  have N19 := Fr.snoc X19 N18 g_a
  have Z19 := Nat.le_trans Z18 (Keep.of_wr W19).1
  have K19 := K18.wr W19 (wi 0 rfl)
  refine qat 106 #[(vr a), (vi 1), (vi tq), (vj vv), sd, (vi ((g4 1) - (g3 1))), (vi 0), un, un, un] [] st19 ?_
  refine qc1 107 0 X19 hx hby d6_106 rfl rfl ?_
  refine qsi 109 #[(vr a), (vi 1), (vi tq), (vj vv), sd, (vi ((g4 1) - (g3 1))), (vi 0), (vi 0), un, un] X19 hx hby d6_107 rfl rfl ?_
  refine qaN 110 X19 hx hby d6_109 rfl rfl ?_
  refine qg 113 X19 hx hZ hown (tw55 hw) e19 (O19.fld 13 rfl rfl) hby d6_110 rfl fun T20 X20 e20 => ?_
  refine qsi 115 #[(vr a), (vi 1), (vi tq), (vj vv), sd, (vi ((g4 1) - (g3 1))), (vi 0), (vi 0), (vi ((((g4 1) - (g3 1)) / (8 : Int32)) + (if (((g4 1) - (g3 1)) % (8 : Int32)) = (0 : Int32) then (0 : Int32) else (1 : Int32)))), un] X20 hx hby d6_113 rfl rfl ?_
  refine qi 117 X20 hx hby d6_115 rfl rfl ?_
  refine qaN 118 X20 hx hby d6_117 rfl rfl ?_
  refine qg 121 X20 hx hZ hown (tw55 hw) e20 (O19.fld 13 rfl rfl) hby d6_118 rfl fun T21 X21 e21 => ?_
  refine q_iadd 122 X21 hx hby d6_121 rfl ?_
  refine qsi 124 #[(vr a), (vi 1), (vi tq), (vj vv), sd, (vi ((g4 1) - (g3 1))), (vi 0), (vi 0), (vi ((((g4 1) - (g3 1)) / (8 : Int32)) + (if (((g4 1) - (g3 1)) % (8 : Int32)) = (0 : Int32) then (0 : Int32) else (1 : Int32)))), (vi ((0 : Int32) + ((((g4 1) - (g3 1)) / (8 : Int32)) + (if (((g4 1) - (g3 1)) % (8 : Int32)) = (0 : Int32) then (0 : Int32) else (1 : Int32)))))] X21 hx hby d6_122 rfl rfl ?_
  refine qi 126 X21 hx hby d6_124 rfl rfl ?_
  refine qi 128 X21 hx hby d6_126 rfl rfl ?_
  refine q_cmy 198 X21 hx hby d6_128 rfl (flt (own_nlt _)).2.1 ?_
  refine qi 200 X21 hx hby d6_198 rfl rfl ?_
  refine q_ify 232 X21 hx hby d6_200 rfl ((if0 _ _).trans (flt (by decide : ¬ ((0 : Int32) < (0 : Int32)))).2.2.2) ?_
  exact own_retV X21 hx hlk Bd.returns (hb hby d6_232) (by rw [e21]; exact ⟨rfl, N19, K19, O19⟩) (by decide) (by decide)
theorem d6_131 : decode prog_32_method_8_code 131 = .ok (.iload 8, 2) := by decide +kernel
theorem d6_133 : decode prog_32_method_8_code 133 = .ok (.iconst 1, 1) := by decide +kernel
theorem d6_134 : decode prog_32_method_8_code 134 = .ok (.iand, 1) := by decide +kernel
theorem d6_135 : decode prog_32_method_8_code 135 = .ok (.iconst 1, 1) := by decide +kernel
theorem d6_136 : decode prog_32_method_8_code 136 = .ok (.if_icmp .ne 18, 3) := by decide +kernel
theorem d6_139 : decode prog_32_method_8_code 139 = .ok (.aload_n 0, 1) := by decide +kernel
theorem d6_140 : decode prog_32_method_8_code 140 = .ok (.getfield 29, 3) := by decide +kernel
theorem d6_143 : decode prog_32_method_8_code 143 = .ok (.iload 7, 2) := by decide +kernel
theorem d6_145 : decode prog_32_method_8_code 145 = .ok (.iinc 7 1, 3) := by decide +kernel
theorem d6_148 : decode prog_32_method_8_code 148 = .ok (.iload 8, 2) := by decide +kernel
theorem d6_150 : decode prog_32_method_8_code 150 = .ok (.iinc 8 1, 3) := by decide +kernel
theorem d6_153 : decode prog_32_method_8_code 153 = .ok (.iastore, 1) := by decide +kernel
theorem d6_154 : decode prog_32_method_8_code 154 = .ok (.iload 9, 2) := by decide +kernel
theorem d6_156 : decode prog_32_method_8_code 156 = .ok (.iconst 1, 1) := by decide +kernel
theorem d6_157 : decode prog_32_method_8_code 157 = .ok (.iand, 1) := by decide +kernel
theorem d6_158 : decode prog_32_method_8_code 158 = .ok (.iconst 1, 1) := by decide +kernel
theorem d6_159 : decode prog_32_method_8_code 159 = .ok (.if_icmp .ne 24, 3) := by decide +kernel
theorem d6_183 : decode prog_32_method_8_code 183 = .ok (.iload 8, 2) := by decide +kernel
theorem d6_185 : decode prog_32_method_8_code 185 = .ok (.iconst 1, 1) := by decide +kernel
theorem d6_186 : decode prog_32_method_8_code 186 = .ok (.iushr, 1) := by decide +kernel
theorem d6_187 : decode prog_32_method_8_code 187 = .ok (.istore 8, 2) := by decide +kernel
theorem d6_189 : decode prog_32_method_8_code 189 = .ok (.iload 9, 2) := by decide +kernel
theorem d6_191 : decode prog_32_method_8_code 191 = .ok (.iconst 1, 1) := by decide +kernel
theorem d6_192 : decode prog_32_method_8_code 192 = .ok (.iushr, 1) := by decide +kernel
theorem d6_193 : decode prog_32_method_8_code 193 = .ok (.istore 9, 2) := by decide +kernel
theorem d6_195 : decode prog_32_method_8_code 195 = .ok (.goto (-71), 3) := by decide +kernel
theorem d6_203 : decode prog_32_method_8_code 203 = .ok (.aload_n 0, 1) := by decide +kernel
theorem d6_204 : decode prog_32_method_8_code 204 = .ok (.getfield 26, 3) := by decide +kernel
theorem d6_207 : decode prog_32_method_8_code 207 = .ok (.aload_n 0, 1) := by decide +kernel
theorem d6_208 : decode prog_32_method_8_code 208 = .ok (.dup, 1) := by decide +kernel
theorem d6_209 : decode prog_32_method_8_code 209 = .ok (.getfield 54, 3) := by decide +kernel
theorem d6_212 : decode prog_32_method_8_code 212 = .ok (.dup_x1, 1) := by decide +kernel
theorem d6_213 : decode prog_32_method_8_code 213 = .ok (.iconst 1, 1) := by decide +kernel
theorem d6_214 : decode prog_32_method_8_code 214 = .ok (.iadd, 1) := by decide +kernel
theorem d6_215 : decode prog_32_method_8_code 215 = .ok (.putfield 54, 3) := by decide +kernel
theorem d6_218 : decode prog_32_method_8_code 218 = .ok (.aload_n 0, 1) := by decide +kernel
theorem d6_219 : decode prog_32_method_8_code 219 = .ok (.getfield 29, 3) := by decide +kernel
theorem d6_222 : decode prog_32_method_8_code 222 = .ok (.iinc 7 (-1), 3) := by decide +kernel
theorem d6_225 : decode prog_32_method_8_code 225 = .ok (.iload 7, 2) := by decide +kernel
theorem d6_227 : decode prog_32_method_8_code 227 = .ok (.iaload, 1) := by decide +kernel
theorem d6_228 : decode prog_32_method_8_code 228 = .ok (.iastore, 1) := by decide +kernel
theorem d6_229 : decode prog_32_method_8_code 229 = .ok (.goto (-31), 3) := by decide +kernel
def Q_findL8 (Z : State) (a : Addr) (tq : Int32) (vv : Int64) (b1 : Addr) (b2 : Addr) (b3 : Addr) (b4 : Addr) (b5 : Addr) (b6 : Addr) (b7 : Addr) (sc : Int32) (sz : Int32) (nc : Int32) (bd : Int64) (ss : Int32) (bs : Int32) (bc : Int32) (pn : Int32) (se : Int32) (sa : Int32) (ta : Int32) (te : Int32) (g3 : Nat → Int32) (g4 : Nat → Int32) (g5 : Nat → Int32) (g6 : Nat → Int32) (g7 : Nat → Int32) (h0 : Heap) (n0 : Nat) (r : Option Value) (h : Heap) (L : List Loc) : Prop := r = none ∧ Fr n0 L ∧ Keep h0 h [a, b6, b7] ∧ Obj Z h a "com/example/graphweft/graphweft/RangeMaxTree" sch_rt [(.ref b1), (.ref b2), (.ref b3), (.ref b4), (.ref b5), (.ref b6), (.ref b7), (.int sc), (.int sz), (.int nc), (.long vv), (.int (g3 1)), (.int (g5 1)), (.int 1), (.int 1), (.int 0), (.int 0), (.int ((g3 1) + (8 : Int32))), (.int tq)] ∧ FA Z h b6 .int 96 (fun i => .int ((updI g6 0 (1 : Int32)) i)) ∧ FA Z h b7 .int 32 (fun i => .int ((updI g7 0 (1 : Int32)) i))
set_option maxRecDepth 65536 in
set_option maxHeartbeats 40000000 in
theorem rm_findL8 (l : Launch) (Z : State) (a0 : Array Value) (hw : ∀ d ∈ tables_1, d.before a0 Z = true) (ws : List Jvm.Cond) (a : Addr) (tq : Int32) (vv : Int64) (b1 : Addr) (b2 : Addr) (b3 : Addr) (b4 : Addr) (b5 : Addr) (b6 : Addr) (b7 : Addr) (sc : Int32) (sz : Int32) (nc : Int32) (bd : Int64) (ss : Int32) (bs : Int32) (bc : Int32) (pn : Int32) (se : Int32) (sa : Int32) (ta : Int32) (te : Int32) (g3 : Nat → Int32) (g4 : Nat → Int32) (g5 : Nat → Int32) (g6 : Nat → Int32) (g7 : Nat → Int32) (h0 : Heap) (n0 : Nat) (Z0 : n0 ≤ h0.size) (O0 : Obj Z h0 a "com/example/graphweft/graphweft/RangeMaxTree" sch_rt [(.ref b1), (.ref b2), (.ref b3), (.ref b4), (.ref b5), (.ref b6), (.ref b7), (.int sc), (.int sz), (.int nc), (.long bd), (.int ss), (.int bs), (.int bc), (.int pn), (.int se), (.int sa), (.int ta), (.int te)]) (F_b3 : FA Z h0 b3 .int 16 (fun i => .int (g3 i))) (F_b4 : FA Z h0 b4 .int 16 (fun i => .int (g4 i))) (F_b5 : FA Z h0 b5 .int 16 (fun i => .int (g5 i))) (F_b6 : FA Z h0 b6 .int 96 (fun i => .int (g6 i))) (F_b7 : FA Z h0 b7 .int 32 (fun i => .int (g7 i))) (g_a : n0 ≤ a) (g_b6 : n0 ≤ b6) (g_b7 : n0 ≤ b7) (hord : @LT.lt Nat instLTNat a b1 ∧ @LT.lt Nat instLTNat b1 b2 ∧ @LT.lt Nat instLTNat b2 b3 ∧ @LT.lt Nat instLTNat b3 b4 ∧ @LT.lt Nat instLTNat b4 b5 ∧ @LT.lt Nat instLTNat b5 b6 ∧ @LT.lt Nat instLTNat b6 b7) (hn5 : ((g4 1) - (g3 1)) = (8 : Int32)) (hfull : ((tq - (g3 1)) / (8 : Int32)) = (1 : Int32)) :
    MetFree l mn6 (head1 (Jvm.Cond.code mn6 prog_32_method_8_code 10 none :: ws) ({ frames := 0, cells := 0, slots := 0, locals := 0 } : Room)) (fun a_ U => a_ = #[(.ref a), (.int 1), (.int tq), (.long vv)] ∧ Z.Warmed39 U.vm ∧ U.heap = h0) (fun _ _ _ _ _ => True) (fun _ U o U' => ∃ v_ L_, o = .returned v_ ∧ Q_findL8 Z a tq vv b1 b2 b3 b4 b5 b6 b7 sc sz nc bd ss bs bc pn se sa ta te g3 g4 g5 g6 g7 h0 n0 v_ U'.heap L_ ∧ FrameEnd U o U' L_ ({ frames := 0, cells := 0, slots := 0, locals := 0 } : Room).cells ({ frames := 0, cells := 0, slots := 0, locals := 0 } : Room).slots) := by
  refine MetFree.of_bodySF (plainFor_of_name pn_6) hisR ?_
  intro p e s m args below meth c s₁ Bd hml0 hP hK
  obtain ⟨rfl, hZ, hh⟩ := hP
  have hx := Bd.exec
  have hby := Bd.bytes
  have hlk : meth.locks = false := Bd.notSynchronized
  have hml : c.maxLocals = 10 := hml0
  have hown : s.vm.findClass "com/example/graphweft/graphweft/RangeMaxTree" = some m.cls := findClass_of_methodNamed Bd.named
  have hnm := (name_of_methodNamed Bd.named Bd.method).1
  have X0 : Stand p l e ({ frames := 0, cells := 0, slots := 0, locals := 0 } : Room) s m #[(.ref a), (.int 1), (.int tq), (.long vv)] below meth c s₁ [] 0 0 := Stand.of_body Bd
  have e0 : s₁.heap = h0 := by rw [← hh, Bd.state]; rfl
  have N0 := Fr.nil n0
  have K0 : Keep h0 h0 [a, b6, b7] := Keep.refl _ _
  show OEnds p e below s (Q_findL8 Z a tq vv b1 b2 b3 b4 b5 b6 b7 sc sz nc bd ss bs bc pn se sa ta te g3 g4 g5 g6 g7 h0 n0) _ _ _
  refine own_by (fun t k => castTop (ef_6 m a (1 : Int32) tq vv) k) ?_
  show OEnds p e below s _ _ _ (s₁.setTop (mkF m 0 #[(vr a), (vi 1), (vi tq), (vj vv), sd, un, un, un, un, un] []))
  refine qaN 1 X0 hx hby d6_0 rfl rfl ?_
  refine qlN 2 X0 hx hby d6_1 rfl rfl ?_
  obtain ⟨T1, h1, X1, e1, W1, st1⟩ := putF X0 hx hZ hown (host := "") (Or.inl (tw49 hw)) Via.refl e0 (O0.fld 10 rfl rfl) O0.exa (Or.inl (tw50 hw)) (tw2 hw) (ty := .long) (by decide) rfl rfl (g := (mkF m 2 #[(vr a), (vi 1), (vi tq), (vj vv), sd, un, un, un, un, un] [(.long vv), (.ref a)])) rfl rfl (hb hby d6_2)
  have O1 : Obj Z h1 a "com/example/graphweft/graphweft/RangeMaxTree" sch_rt [(.ref b1), (.ref b2), (.ref b3), (.ref b4), (.ref b5), (.ref b6), (.ref b7), (.int sc), (.int sz), (.int nc), (.long vv), (.int ss), (.int bs), (.int bc), (.int pn), (.int se), (.int sa), (.int ta), (.int te)] := O0.set (so_sch_rt hw) W1 10 rfl (Nat.le_of_ble_eq_true rfl)
  have N1 := Fr.snoc X1 N0 g_a
  have Z1 := Nat.le_trans Z0 (Keep.of_wr W1).1
  have K1 := K0.wr W1 (wi 0 rfl)
  refine qat 5 #[(vr a), (vi 1), (vi tq), (vj vv), sd, un, un, un, un, un] [] st1 ?_
  refine qaN 6 X1 hx hby d6_5 rfl rfl ?_
  refine qaN 7 X1 hx hby d6_6 rfl rfl ?_
  refine qg 10 X1 hx hZ hown (tw15 hw) e1 (O1.fld 2 rfl rfl) hby d6_7 rfl fun T2 X2 e2 => ?_
  refine qiN 11 X2 hx hby d6_10 rfl rfl ?_
  have F3 := (F_b3.other W1 (Ne.symm (o03 hord)))
  refine qI 12 X2 hx hZ e2 F3 1 (by decide) (by decide) (v := (.int (g3 1))) rfl hby d6_11 rfl ?_
  obtain ⟨T4, h4, X4, e4, W4, st4⟩ := putF X2 hx hZ hown (host := "") (Or.inl (tw51 hw)) Via.refl e2 (O1.fld 11 rfl rfl) O1.exa (Or.inl (tw52 hw)) (tw2 hw) (ty := .int) (by decide) rfl rfl (g := (mkF m 12 #[(vr a), (vi 1), (vi tq), (vj vv), sd, un, un, un, un, un] [(.int (g3 1)), (.ref a)])) rfl rfl (hb hby d6_12)
  have O4 : Obj Z h4 a "com/example/graphweft/graphweft/RangeMaxTree" sch_rt [(.ref b1), (.ref b2), (.ref b3), (.ref b4), (.ref b5), (.ref b6), (.ref b7), (.int sc), (.int sz), (.int nc), (.long vv), (.int (g3 1)), (.int bs), (.int bc), (.int pn), (.int se), (.int sa), (.int ta), (.int te)] := O1.set (so_sch_rt hw) W4 11 rfl (Nat.le_of_ble_eq_true rfl)
  have N4 := Fr.snoc X4 N1 g_a
  have Z4 := Nat.le_trans Z1 (Keep.of_wr W4).1
  have K4 := K1.wr W4 (wi 0 rfl)
  refine qat 15 #[(vr a), (vi 1), (vi tq), (vj vv), sd, un, un, un, un, un] [] st4 ?_
  refine qaN 16 X4 hx hby d6_15 rfl rfl ?_
  refine qaN 17 X4 hx hby d6_16 rfl rfl ?_
  refine qg 20 X4 hx hZ hown (tw19 hw) e4 (O4.fld 4 rfl rfl) hby d6_17 rfl fun T5 X5 e5 => ?_
  refine qiN 21 X5 hx hby d6_20 rfl rfl ?_
  have F6 := ((F_b5.other W1 (Ne.symm (o05 hord))).other W4 (Ne.symm (o05 hord)))
  refine qI 22 X5 hx hZ e5 F6 1 (by decide) (by decide) (v := (.int (g5 1))) rfl hby d6_21 rfl ?_
  obtain ⟨T7, h7, X7, e7, W7, st7⟩ := putF X5 hx hZ hown (host := "") (Or.inl (tw53 hw)) Via.refl e5 (O4.fld 12 rfl rfl) O4.exa (Or.inl (tw54 hw)) (tw2 hw) (ty := .int) (by decide) rfl rfl (g := (mkF m 22 #[(vr a), (vi 1), (vi tq), (vj vv), sd, un, un, un, un, un] [(.int (g5 1)), (.ref a)])) rfl rfl (hb hby d6_22)
  have O7 : Obj Z h7 a "com/example/graphweft/graphweft/RangeMaxTree" sch_rt [(.ref b1), (.ref b2), (.ref b3), (.ref b4), (.ref b5), (.ref b6), (.ref b7), (.int sc), (.int sz), (.int nc), (.long vv), (.int (g3 1)), (.int (g5 1)), (.int bc), (.int pn), (.int se), (.int sa), (.int ta), (.int te)] := O4.set (so_sch_rt hw) W7 12 rfl (Nat.le_of_ble_eq_true rfl)
  have N7 := Fr.snoc X7 N4 g_a
  have Z7 := Nat.le_trans Z4 (Keep.of_wr W7).1
  have K7 := K4.wr W7 (wi 0 rfl)
  refine qat 25 #[(vr a), (vi 1), (vi tq), (vj vv), sd, un, un, un, un, un] [] st7 ?_
  refine qaN 26 X7 hx hby d6_25 rfl rfl ?_
  refine qg 29 X7 hx hZ hown (tw17 hw) e7 (O7.fld 3 rfl rfl) hby d6_26 rfl fun T8 X8 e8 => ?_
  refine qiN 30 X8 hx hby d6_29 rfl rfl ?_
  have F9 := (((F_b4.other W1 (Ne.symm (o04 hord))).other W4 (Ne.symm (o04 hord))).other W7 (Ne.symm (o04 hord)))
  refine qI 31 X8 hx hZ e8 F9 1 (by decide) (by decide) (v := (.int (g4 1))) rfl hby d6_30 rfl ?_
  refine qaN 32 X8 hx hby d6_31 rfl rfl ?_
  refine qg 35 X8 hx hZ hown (tw51 hw) e8 (O7.fld 11 rfl rfl) hby d6_32 rfl fun T10 X10 e10 => ?_
  refine q_isub 36 X10 hx hby d6_35 rfl ?_
  refine qsi 38 #[(vr a), (vi 1), (vi tq), (vj vv), sd, (vi ((g4 1) - (g3 1))), un, un, un, un] X10 hx hby d6_36 rfl rfl ?_
  rw [hn5]
  show OEnds p e below s _ _ _ (T10.setTop (mkF m 38 #[(vr a), (vi 1), (vi tq), (vj vv), sd, (vi 8), un, un, un, un] []))
  refine qaN 39 X10 hx hby d6_38 rfl rfl ?_
  refine qi 41 X10 hx hby d6_39 rfl rfl ?_
  refine qc2 43 8 X10 hx hby d6_41 rfl rfl ?_
  refine q_idiv 44 X10 hx hby d6_43 rfl (by decide) ?_
  show OEnds p e below s _ _ _ (T10.setTop (mkF m 44 #[(vr a), (vi 1), (vi tq), (vj vv), sd, (vi 8), un, un, un, un] [(.int 1), (.ref a)]))
  refine qi 46 X10 hx hby d6_44 rfl rfl ?_
  refine qc2 48 8 X10 hx hby d6_46 rfl rfl ?_
  refine own_by (fun _ k => iremM X10 hx rfl (hb hby d6_48) rfl (by decide) k) ?_
  show OEnds p e below s _ _ _ (T10.setTop (mkF m 49 #[(vr a), (vi 1), (vi tq), (vj vv), sd, (vi 8), un, un, un, un] [(.int 0), (.int 1), (.ref a)]))
  refine q_ifn 52 X10 hx hby d6_49 rfl ((if0 _ _).trans (teq (by decide : (0 : Int32) = (0 : Int32))).2) ?_
  refine qc1 53 0 X10 hx hby d6_52 rfl rfl ?_
  refine q_goto 57 X10 hx hby d6_53 rfl ?_
  refine q_iadd 58 X10 hx hby d6_57 rfl ?_
  show OEnds p e below s _ _ _ (T10.setTop (mkF m 58 #[(vr a), (vi 1), (vi tq), (vj vv), sd, (vi 8), un, un, un, un] [(.int 1), (.ref a)]))
  obtain ⟨T11, h11, X11, e11, W11, st11⟩ := putF X10 hx hZ hown (host := "") (Or.inl (tw55 hw)) Via.refl e10 (O7.fld 13 rfl rfl) O7.exa (Or.inl (tw56 hw)) (tw2 hw) (ty := .int) (by decide) rfl rfl (g := (mkF m 58 #[(vr a), (vi 1), (vi tq), (vj vv), sd, (vi 8), un, un, un, un] [(.int 1), (.ref a)])) rfl rfl (hb hby d6_58)
  have O11 : Obj Z h11 a "com/example/graphweft/graphweft/RangeMaxTree" sch_rt [(.ref b1), (.ref b2), (.ref b3), (.ref b4), (.ref b5), (.ref b6), (.ref b7), (.int sc), (.int sz), (.int nc), (.long vv), (.int (g3 1)), (.int (g5 1)), (.int 1), (.int pn), (.int se), (.int sa), (.int ta), (.int te)] := O7.set (so_sch_rt hw) W11 13 rfl (Nat.le_of_ble_eq_true rfl)
  have N11 := Fr.snoc X11 N7 g_a
  have Z11 := Nat.le_trans Z7 (Keep.of_wr W11).1
  have K11 := K7.wr W11 (wi 0 rfl)
  refine qat 61 #[(vr a), (vi 1), (vi tq), (vj vv), sd, (vi 8), un, un, un, un] [] st11 ?_
  refine qaN 62 X11 hx hby d6_61 rfl rfl ?_
  refine qc1 63 0 X11 hx hby d6_62 rfl rfl ?_
  obtain ⟨T12, h12, X12, e12, W12, st12⟩ := putF X11 hx hZ hown (host := "") (Or.inl (tw57 hw)) Via.refl e11 (O11.fld 14 rfl rfl) O11.exa (Or.inl (tw58 hw)) (tw2 hw) (ty := .int) (by decide) rfl rfl (g := (mkF m 63 #[(vr a), (vi 1), (vi tq), (vj vv), sd, (vi 8), un, un, un, un] [(.int 0), (.ref a)])) rfl rfl (hb hby d6_63)
  have O12 : Obj Z h12 a "com/example/graphweft/graphweft/RangeMaxTree" sch_rt [(.ref b1), (.ref b2), (.ref b3), (.ref b4), (.ref b5), (.ref b6), (.ref b7), (.int sc), (.int sz), (.int nc), (.long vv), (.int (g3 1)), (.int (g5 1)), (.int 1), (.int 0), (.int se), (.int sa), (.int ta), (.int te)] := O11.set (so_sch_rt hw) W12 14 rfl (Nat.le_of_ble_eq_true rfl)
  have N12 := Fr.snoc X12 N11 g_a
  have Z12 := Nat.le_trans Z11 (Keep.of_wr W12).1
  have K12 := K11.wr W12 (wi 0 rfl)
  refine qat 66 #[(vr a), (vi 1), (vi tq), (vj vv), sd, (vi 8), un, un, un, un] [] st12 ?_
  refine qaN 67 X12 hx hby d6_66 rfl rfl ?_
  refine qaN 68 X12 hx hby d6_67 rfl rfl ?_
  refine qc1 69 0 X12 hx hby d6_68 rfl rfl ?_
  refine own_by (fun _ k => XS.dupX1 X12.here hx rfl (hb hby d6_69) rfl rfl rfl k) ?_
  show OEnds p e below s _ _ _ (T12.setTop (mkF m 70 #[(vr a), (vi 1), (vi tq), (vj vv), sd, (vi 8), un, un, un, un] [(.int 0), (.ref a), (.int 0), (.ref a)]))
  obtain ⟨T13, h13, X13, e13, W13, st13⟩ := putF X12 hx hZ hown (host := "") (Or.inl (tw59 hw)) Via.refl e12 (O12.fld 15 rfl rfl) O12.exa (Or.inl (tw60 hw)) (tw2 hw) (ty := .int) (by decide) rfl rfl (g := (mkF m 70 #[(vr a), (vi 1), (vi tq), (vj vv), sd, (vi 8), un, un, un, un] [(.int 0), (.ref a), (.int 0), (.ref a)])) rfl rfl (hb hby d6_70)
  have O13 : Obj Z h13 a "com/example/graphweft/graphweft/RangeMaxTree" sch_rt [(.ref b1), (.ref b2), (.ref b3), (.ref b4), (.ref b5), (.ref b6), (.ref b7), (.int sc), (.int sz), (.int nc), (.long vv), (.int (g3 1)), (.int (g5 1)), (.int 1), (.int 0), (.int 0), (.int sa), (.int ta), (.int te)] := O12.set (so_sch_rt hw) W13 15 rfl (Nat.le_of_ble_eq_true rfl)
  have N13 := Fr.snoc X13 N12 g_a
  have Z13 := Nat.le_trans Z12 (Keep.of_wr W13).1
  have K13 := K12.wr W13 (wi 0 rfl)
  refine qat 73 #[(vr a), (vi 1), (vi tq), (vj vv), sd, (vi 8), un, un, un, un] [(.int 0), (.ref a)] st13 ?_
  obtain ⟨T14, h14, X14, e14, W14, st14⟩ := putF X13 hx hZ hown (host := "") (Or.inl (tw61 hw)) Via.refl e13 (O13.fld 16 rfl rfl) O13.exa (Or.inl (tw62 hw)) (tw2 hw) (ty := .int) (by decide) rfl rfl (g := (mkF m 73 #[(vr a), (vi 1), (vi tq), (vj vv), sd, (vi 8), un, un, un, un] [(.int 0), (.ref a)])) rfl rfl (hb hby d6_73)
  have O14 : Obj Z h14 a "com/example/graphweft/graphweft/RangeMaxTree" sch_rt [(.ref b1), (.ref b2), (.ref b3), (.ref b4), (.ref b5), (.ref b6), (.ref b7), (.int sc), (.int sz), (.int nc), (.long vv), (.int (g3 1)), (.int (g5 1)), (.int 1), (.int 0), (.int 0), (.int 0), (.int ta), (.int te)] := O13.set (so_sch_rt hw) W14 16 rfl (Nat.le_of_ble_eq_true rfl)
  have N14 := Fr.snoc X14 N13 g_a
  have Z14 := Nat.le_trans Z13 (Keep.of_wr W14).1
  have K14 := K13.wr W14 (wi 0 rfl)
  refine qat 76 #[(vr a), (vi 1), (vi tq), (vj vv), sd, (vi 8), un, un, un, un] [] st14 ?_
  refine qiN 77 X14 hx hby d6_76 rfl rfl ?_
  refine qaN 78 X14 hx hby d6_77 rfl rfl ?_
  refine qg 81 X14 hx hZ hown (tw51 hw) e14 (O14.fld 11 rfl rfl) hby d6_78 rfl fun T15 X15 e15 => ?_
  refine q_isub 82 X15 hx hby d6_81 rfl ?_
  refine qc2 84 8 X15 hx hby d6_82 rfl rfl ?_
  refine q_idiv 85 X15 hx hby d6_84 rfl (by decide) ?_
  refine qsi 87 #[(vr a), (vi 1), (vi tq), (vj vv), sd, (vi 8), (vi ((tq - (g3 1)) / (8 : Int32))), un, un, un] X15 hx hby d6_85 rfl rfl ?_
  rw [hfull]
  show OEnds p e below s _ _ _ (T15.setTop (mkF m 87 #[(vr a), (vi 1), (vi tq), (vj vv), sd, (vi 8), (vi 1), un, un, un] []))
  refine qaN 88 X15 hx hby d6_87 rfl rfl ?_
  refine qaN 89 X15 hx hby d6_88 rfl rfl ?_
  refine qg 92 X15 hx hZ hown (tw51 hw) e15 (O14.fld 11 rfl rfl) hby d6_89 rfl fun T16 X16 e16 => ?_
  refine qi 94 X16 hx hby d6_92 rfl rfl ?_
  refine qc2 96 8 X16 hx hby d6_94 rfl rfl ?_
  refine q_imul 97 X16 hx hby d6_96 rfl ?_
  show OEnds p e below s _ _ _ (T16.setTop (mkF m 97 #[(vr a), (vi 1), (vi tq), (vj vv), sd, (vi 8), (vi 1), un, un, un] [(.int 8), (.int (g3 1)), (.ref a)]))
  refine q_iadd 98 X16 hx hby d6_97 rfl ?_
  obtain ⟨T17, h17, X17, e17, W17, st17⟩ := putF X16 hx hZ hown (host := "") (Or.inl (tw63 hw)) Via.refl e16 (O14.fld 17 rfl rfl) O14.exa (Or.inl (tw64 hw)) (tw2 hw) (ty := .int) (by decide) rfl rfl (g := (mkF m 98 #[(vr a), (vi 1), (vi tq), (vj vv), sd, (vi 8), (vi 1), un, un, un] [(.int ((g3 1) + (8 : Int32))), (.ref a)])) rfl rfl (hb hby d6_98)
  have O17 : Obj Z h17 a "com/example/graphweft/graphweft/RangeMaxTree" sch_rt [(.ref b1), (.ref b2), (.ref b3), (.ref b4), (.ref b5), (.ref b6), (.ref b7), (.int sc), (.int sz), (.int nc), (.long vv), (.int (g3 1)), (.int (g5 1)), (.int 1), (.int 0), (.int 0), (.int 0), (.int ((g3 1) + (8 : Int32))), (.int te)] := O14.set (so_sch_rt hw) W17 17 rfl (Nat.le_of_ble_eq_true rfl)
  have N17 := Fr.snoc X17 N14 g_a
  have Z17 := Nat.le_trans Z14 (Keep.of_wr W17).1
  have K17 := K14.wr W17 (wi 0 rfl)
  refine qat 101 #[(vr a), (vi 1), (vi tq), (vj vv), sd, (vi 8), (vi 1), un, un, un] [] st17 ?_
  refine qaN 102 X17 hx hby d6_101 rfl rfl ?_
  refine qiN 103 X17 hx hby d6_102 rfl rfl ?_
  obtain ⟨T18, h18, X18, e18, W18, st18⟩ := putF X17 hx hZ hown (host := "") (Or.inl (tw65 hw)) Via.refl e17 (O17.fld 18 rfl rfl) O17.exa (Or.inl (tw66 hw)) (tw2 hw) (ty := .int) (by decide) rfl rfl (g := (mkF m 103 #[(vr a), (vi 1), (vi tq), (vj vv), sd, (vi 8), (vi 1), un, un, un] [(.int tq), (.ref a)])) rfl rfl (hb hby d6_103)
  have O18 : Obj Z h18 a "com/example/graphweft/graphweft/RangeMaxTree" sch_rt [(.ref b1), (.ref b2), (.ref b3), (.ref b4), (.ref b5), (.ref b6), (.ref b7), (.int sc), (.int sz), (.int nc), (.long vv), (.int (g3 1)), (.int (g5 1)), (.int 1), (.int 0), (.int 0), (.int 0), (.int ((g3 1) + (8 : Int32))), (.int tq)] := O17.set (so_sch_rt hw) W18 18 rfl (Nat.le_of_ble_eq_true rfl)
  have N18 := Fr.snoc X18 N17 g_a
  have Z18 := Nat.le_trans Z17 (Keep.of_wr W18).1
  have K18 := K17.wr W18 (wi 0 rfl)
  refine qat 106 #[(vr a), (vi 1), (vi tq), (vj vv), sd, (vi 8), (vi 1), un, un, un] [] st18 ?_
  refine qc1 107 0 X18 hx hby d6_106 rfl rfl ?_
  refine qsi 109 #[(vr a), (vi 1), (vi tq), (vj vv), sd, (vi 8), (vi 1), (vi 0), un, un] X18 hx hby d6_107 rfl rfl ?_
  refine qaN 110 X18 hx hby d6_109 rfl rfl ?_
  refine qg 113 X18 hx hZ hown (tw55 hw) e18 (O18.fld 13 rfl rfl) hby d6_110 rfl fun T19 X19 e19 => ?_
  refine qsi 115 #[(vr a), (vi 1), (vi tq), (vj vv), sd, (vi 8), (vi 1), (vi 0), (vi 1), un] X19 hx hby d6_113 rfl rfl ?_
  refine qi 117 X19 hx hby d6_115 rfl rfl ?_
  refine qaN 118 X19 hx hby d6_117 rfl rfl ?_
  refine qg 121 X19 hx hZ hown (tw55 hw) e19 (O18.fld 13 rfl rfl) hby d6_118 rfl fun T20 X20 e20 => ?_
  refine q_iadd 122 X20 hx hby d6_121 rfl ?_
  show OEnds p e below s _ _ _ (T20.setTop (mkF m 122 #[(vr a), (vi 1), (vi tq), (vj vv), sd, (vi 8), (vi 1), (vi 0), (vi 1), un] [(.int 2)]))
  refine qsi 124 #[(vr a), (vi 1), (vi tq), (vj vv), sd, (vi 8), (vi 1), (vi 0), (vi 1), (vi 2)] X20 hx hby d6_122 rfl rfl ?_
  refine qi 126 X20 hx hby d6_124 rfl rfl ?_
  refine qi 128 X20 hx hby d6_126 rfl rfl ?_
  refine q_cmn 131 X20 hx hby d6_128 rfl (tlt (by decide : (1 : Int32) < (2 : Int32))).2.1 ?_
  refine qi 133 X20 hx hby d6_131 rfl rfl ?_
  refine qc1 134 1 X20 hx hby d6_133 rfl rfl ?_
  refine q_iand 135 X20 hx hby d6_134 rfl ?_
  show OEnds p e below s _ _ _ (T20.setTop (mkF m 135 #[(vr a), (vi 1), (vi tq), (vj vv), sd, (vi 8), (vi 1), (vi 0), (vi 1), (vi 2)] [(.int 1)]))
  refine qc1 136 1 X20 hx hby d6_135 rfl rfl ?_
  refine q_cmn 139 X20 hx hby d6_136 rfl (teq (by decide : (1 : Int32) = (1 : Int32))).2 ?_
  refine qaN 140 X20 hx hby d6_139 rfl rfl ?_
  refine qg 143 X20 hx hZ hown (tw23 hw) e20 (O18.fld 6 rfl rfl) hby d6_140 rfl fun T21 X21 e21 => ?_
  refine qi 145 X21 hx hby d6_143 rfl rfl ?_
  refine q_inc 148 #[(vr a), (vi 1), (vi tq), (vj vv), sd, (vi 8), (vi 1), (vi 1), (vi 1), (vi 2)] X21 hx hby d6_145 rfl rfl rfl ?_
  refine qi 150 X21 hx hby d6_148 rfl rfl ?_
  refine q_inc 153 #[(vr a), (vi 1), (vi tq), (vj vv), sd, (vi 8), (vi 1), (vi 1), (vi 2), (vi 2)] X21 hx hby d6_150 rfl rfl rfl ?_
  have F23 := (((((((((F_b7.other W1 (Ne.symm (o07 hord))).other W4 (Ne.symm (o07 hord))).other W7 (Ne.symm (o07 hord))).other W11 (Ne.symm (o07 hord))).other W12 (Ne.symm (o07 hord))).other W13 (Ne.symm (o07 hord))).other W14 (Ne.symm (o07 hord))).other W17 (Ne.symm (o07 hord))).other W18 (Ne.symm (o07 hord)))
  obtain ⟨T22, h22, X22, e22, W22, st22⟩ := own_iastore X21 hx hZ e21 F23 0 (by decide) (by decide) (g := (mkF m 153 #[(vr a), (vi 1), (vi tq), (vj vv), sd, (vi 8), (vi 1), (vi 1), (vi 2), (vi 2)] [(.int 1), (.int 0), (.ref b7)])) rfl rfl (hb hby d6_153)
  have F22 : FA Z h22 b7 .int 32 (fun i => .int ((updI g7 0 (1 : Int32)) i)) := F23.setI W22
  have N22 := Fr.snoc X22 N18 g_b7
  have Z22 := Nat.le_trans Z18 (Keep.of_wr W22).1
  have K22 := K18.wr W22 (wi 2 rfl)
  refine qat 154 #[(vr a), (vi 1), (vi tq), (vj vv), sd, (vi 8), (vi 1), (vi 1), (vi 2), (vi 2)] [] st22 ?_
  refine qi 156 X22 hx hby d6_154 rfl rfl ?_
  refine qc1 157 1 X22 hx hby d6_156 rfl rfl ?_
  refine q_iand 158 X22 hx hby d6_157 rfl ?_
  show OEnds p e below s _ _ _ (T22.setTop (mkF m 158 #[(vr a), (vi 1), (vi tq), (vj vv), sd, (vi 8), (vi 1), (vi 1), (vi 2), (vi 2)] [(.int 0)]))
  refine qc1 159 1 X22 hx hby d6_158 rfl rfl ?_
  refine q_cmy 183 X22 hx hby d6_159 rfl (feq (by decide : ¬ ((0 : Int32) = (1 : Int32)))).2 ?_
  refine qi 185 X22 hx hby d6_183 rfl rfl ?_
  refine qc1 186 1 X22 hx hby d6_185 rfl rfl ?_
  refine own_by (fun _ k => XS.iushr X22.here hx rfl (hb hby d6_186) rfl k) ?_
  show OEnds p e below s _ _ _ (T22.setTop (mkF m 187 #[(vr a), (vi 1), (vi tq), (vj vv), sd, (vi 8), (vi 1), (vi 1), (vi 2), (vi 2)] [(.int 1)]))
  refine qsi 189 #[(vr a), (vi 1), (vi tq), (vj vv), sd, (vi 8), (vi 1), (vi 1), (vi 1), (vi 2)] X22 hx hby d6_187 rfl rfl ?_
  refine qi 191 X22 hx hby d6_189 rfl rfl ?_
  refine qc1 192 1 X22 hx hby d6_191 rfl rfl ?_
  refine own_by (fun _ k => XS.iushr X22.here hx rfl (hb hby d6_192) rfl k) ?_
  show OEnds p e below s _ _ _ (T22.setTop (mkF m 193 #[(vr a), (vi 1), (vi tq), (vj vv), sd, (vi 8), (vi 1), (vi 1), (vi 1), (vi 2)] [(.int 1)]))
  refine qsi 195 #[(vr a), (vi 1), (vi tq), (vj vv), sd, (vi 8), (vi 1), (vi 1), (vi 1), (vi 1)] X22 hx hby d6_193 rfl rfl ?_
  refine q_goto 124 X22 hx hby d6_195 rfl ?_
  refine qi 126 X22 hx hby d6_124 rfl rfl ?_
  refine qi 128 X22 hx hby d6_126 rfl rfl ?_
  refine q_cmy 198 X22 hx hby d6_128 rfl (flt (by decide : ¬ ((1 : Int32) < (1 : Int32)))).2.1 ?_
  refine qi 200 X22 hx hby d6_198 rfl rfl ?_
  refine q_ifn 203 X22 hx hby d6_200 rfl ((if0 _ _).trans (tlt (by decide : (0 : Int32) < (1 : Int32))).2.2.2) ?_
  refine qaN 204 X22 hx hby d6_203 rfl rfl ?_
  have O25 := (O18.other W22 (o07 hord))
  refine qg 207 X22 hx hZ hown (tw21 hw) e22 (O25.fld 5 rfl rfl) hby d6_204 rfl fun T24 X24 e24 => ?_
  refine qaN 208 X24 hx hby d6_207 rfl rfl ?_
  refine q_dup 209 X24 hx hby d6_208 rfl rfl ?_
  refine qg 212 X24 hx hZ hown (tw57 hw) e24 (O25.fld 14 rfl rfl) hby d6_209 rfl fun T26 X26 e26 => ?_
  refine own_by (fun _ k => XS.dupX1 X26.here hx rfl (hb hby d6_212) rfl rfl rfl k) ?_
  show OEnds p e below s _ _ _ (T26.setTop (mkF m 213 #[(vr a), (vi 1), (vi tq), (vj vv), sd, (vi 8), (vi 1), (vi 1), (vi 1), (vi 1)] [(.int 0), (.ref a), (.int 0), (.ref b6)]))
  refine qc1 214 1 X26 hx hby d6_213 rfl rfl ?_
  refine q_iadd 215 X26 hx hby d6_214 rfl ?_
  show OEnds p e below s _ _ _ (T26.setTop (mkF m 215 #[(vr a), (vi 1), (vi tq), (vj vv), sd, (vi 8), (vi 1), (vi 1), (vi 1), (vi 1)] [(.int 1), (.ref a), (.int 0), (.ref b6)]))
  obtain ⟨T27, h27, X27, e27, W27, st27⟩ := putF X26 hx hZ hown (host := "") (Or.inl (tw57 hw)) Via.refl e26 (O25.fld 14 rfl rfl) O25.exa (Or.inl (tw58 hw)) (tw2 hw) (ty := .int) (by decide) rfl rfl (g := (mkF m 215 #[(vr a), (vi 1), (vi tq), (vj vv), sd, (vi 8), (vi 1), (vi 1), (vi 1), (vi 1)] [(.int 1), (.ref a), (.int 0), (.ref b6)])) rfl rfl (hb hby d6_215)
  have O27 : Obj Z h27 a "com/example/graphweft/graphweft/RangeMaxTree" sch_rt [(.ref b1), (.ref b2), (.ref b3), (.ref b4), (.ref b5), (.ref b6), (.ref b7), (.int sc), (.int sz), (.int nc), (.long vv), (.int (g3 1)), (.int (g5 1)), (.int 1), (.int 1), (.int 0), (.int 0), (.int ((g3 1) + (8 : Int32))), (.int tq)] := O25.set (so_sch_rt hw) W27 14 rfl (Nat.le_of_ble_eq_true rfl)
  have N27 := Fr.snoc X27 N22 g_a
  have Z27 := Nat.le_trans Z22 (Keep.of_wr W27).1
  have K27 := K22.wr W27 (wi 0 rfl)
  refine qat 218 #[(vr a), (vi 1), (vi tq), (vj vv), sd, (vi 8), (vi 1), (vi 1), (vi 1), (vi 1)] [(.int 0), (.ref b6)] st27 ?_
  refine qaN 219 X27 hx hby d6_218 rfl rfl ?_
  refine qg 222 X27 hx hZ hown (tw23 hw) e27 (O27.fld 6 rfl rfl) hby d6_219 rfl fun T28 X28 e28 => ?_
  refine q_inc 225 #[(vr a), (vi 1), (vi tq), (vj vv), sd, (vi 8), (vi 1), (vi 0), (vi 1), (vi 1)] X28 hx hby d6_222 rfl rfl rfl ?_
  refine qi 227 X28 hx hby d6_225 rfl rfl ?_
  have F29 := (F22.other W27 (Ne.symm (o07 hord)))
  refine qI 228 X28 hx hZ e28 F29 0 (by decide) (by decide) (v := (.int 1)) rfl hby d6_227 rfl ?_
  have F31 := (((((((((((F_b6.other W1 (Ne.symm (o06 hord))).other W4 (Ne.symm (o06 hord))).other W7 (Ne.symm (o06 hord))).other W11 (Ne.symm (o06 hord))).other W12 (Ne.symm (o06 hord))).other W13 (Ne.symm (o06 hord))).other W14 (Ne.symm (o06 hord))).other W17 (Ne.symm (o06 hord))).other W18 (Ne.symm (o06 hord))).other W22 (o67 hord)).other W27 (Ne.symm (o06 hord)))
  obtain ⟨T30, h30, X30, e30, W30, st30⟩ := own_iastore X28 hx hZ e28 F31 0 (by decide) (by decide) (g := (mkF m 228 #[(vr a), (vi 1), (vi tq), (vj vv), sd, (vi 8), (vi 1), (vi 0), (vi 1), (vi 1)] [(.int 1), (.int 0), (.ref b6)])) rfl rfl (hb hby d6_228)
  have F30 : FA Z h30 b6 .int 96 (fun i => .int ((updI g6 0 (1 : Int32)) i)) := F31.setI W30
  have N30 := Fr.snoc X30 N27 g_b6
  have Z30 := Nat.le_trans Z27 (Keep.of_wr W30).1
  have K30 := K27.wr W30 (wi 1 rfl)
  refine qat 229 #[(vr a), (vi 1), (vi tq), (vj vv), sd, (vi 8), (vi 1), (vi 0), (vi 1), (vi 1)] [] st30 ?_
  refine q_goto 198 X30 hx hby d6_229 rfl ?_
  refine qi 200 X30 hx hby d6_198 rfl rfl ?_
  refine q_ify 232 X30 hx hby d6_200 rfl ((if0 _ _).trans (flt (by decide : ¬ ((0 : Int32) < (0 : Int32)))).2.2.2) ?_
  have O32 := (O27.other W30 (o06 hord))
  have F33 := (F29.other W30 (Ne.symm (o67 hord)))
  exact own_retV X30 hx hlk Bd.returns (hb hby d6_232) (by rw [e30]; exact ⟨rfl, N30, K30, O32, F30, F33⟩) (by decide) (by decide)
theorem d6_162 : decode prog_32_method_8_code 162 = .ok (.aload_n 0, 1) := by decide +kernel
theorem d6_163 : decode prog_32_method_8_code 163 = .ok (.getfield 26, 3) := by decide +kernel
theorem d6_166 : decode prog_32_method_8_code 166 = .ok (.aload_n 0, 1) := by decide +kernel
theorem d6_167 : decode prog_32_method_8_code 167 = .ok (.dup, 1) := by decide +kernel
theorem d6_168 : decode prog_32_method_8_code 168 = .ok (.getfield 54, 3) := by decide +kernel
theorem d6_171 : decode prog_32_method_8_code 171 = .ok (.dup_x1, 1) := by decide +kernel
theorem d6_172 : decode prog_32_method_8_code 172 = .ok (.iconst 1, 1) := by decide +kernel
theorem d6_173 : decode prog_32_method_8_code 173 = .ok (.iadd, 1) := by decide +kernel
theorem d6_174 : decode prog_32_method_8_code 174 = .ok (.putfield 54, 3) := by decide +kernel
theorem d6_177 : decode prog_32_method_8_code 177 = .ok (.iinc 9 (-1), 3) := by decide +kernel
theorem d6_180 : decode prog_32_method_8_code 180 = .ok (.iload 9, 2) := by decide +kernel
theorem d6_182 : decode prog_32_method_8_code 182 = .ok (.iastore, 1) := by decide +kernel
def Q_findL9 (Z : State) (a : Addr) (tq : Int32) (vv : Int64) (b1 : Addr) (b2 : Addr) (b3 : Addr) (b4 : Addr) (b5 : Addr) (b6 : Addr) (b7 : Addr) (sc : Int32) (sz : Int32) (nc : Int32) (bd : Int64) (ss : Int32) (bs : Int32) (bc : Int32) (pn : Int32) (se : Int32) (sa : Int32) (ta : Int32) (te : Int32) (g3 : Nat → Int32) (g4 : Nat → Int32) (g5 : Nat → Int32) (g6 : Nat → Int32) (g7 : Nat → Int32) (h0 : Heap) (n0 : Nat) (r : Option Value) (h : Heap) (L : List Loc) : Prop := r = none ∧ Fr n0 L ∧ Keep h0 h [a, b6] ∧ Obj Z h a "com/example/graphweft/graphweft/RangeMaxTree" sch_rt [(.ref b1), (.ref b2), (.ref b3), (.ref b4), (.ref b5), (.ref b6), (.ref b7), (.int sc), (.int sz), (.int nc), (.long vv), (.int (g3 1)), (.int (g5 1)), (.int 2), (.int 1), (.int 0), (.int 0), (.int ((g3 1) + (8 : Int32))), (.int tq)] ∧ FA Z h b6 .int 96 (fun i => .int ((updI g6 0 (2 : Int32)) i))
set_option maxRecDepth 65536 in
set_option maxHeartbeats 40000000 in
theorem rm_findL9 (l : Launch) (Z : State) (a0 : Array Value) (hw : ∀ d ∈ tables_1, d.before a0 Z = true) (ws : List Jvm.Cond) (a : Addr) (tq : Int32) (vv : Int64) (b1 : Addr) (b2 : Addr) (b3 : Addr) (b4 : Addr) (b5 : Addr) (b6 : Addr) (b7 : Addr) (sc : Int32) (sz : Int32) (nc : Int32) (bd : Int64) (ss : Int32) (bs : Int32) (bc : Int32) (pn : Int32) (se : Int32) (sa : Int32) (ta : Int32) (te : Int32) (g3 : Nat → Int32) (g4 : Nat → Int32) (g5 : Nat → Int32) (g6 : Nat → Int32) (g7 : Nat → Int32) (h0 : Heap) (n0 : Nat) (Z0 : n0 ≤ h0.size) (O0 : Obj Z h0 a "com/example/graphweft/graphweft/RangeMaxTree" sch_rt [(.ref b1), (.ref b2), (.ref b3), (.ref b4), (.ref b5), (.ref b6), (.ref b7), (.int sc), (.int sz), (.int nc), (.long bd), (.int ss), (.int bs), (.int bc), (.int pn), (.int se), (.int sa), (.int ta), (.int te)]) (F_b3 : FA Z h0 b3 .int 16 (fun i => .int (g3 i))) (F_b4 : FA Z h0 b4 .int 16 (fun i => .int (g4 i))) (F_b5 : FA Z h0 b5 .int 16 (fun i => .int (g5 i))) (F_b6 : FA Z h0 b6 .int 96 (fun i => .int (g6 i))) (F_b7 : FA Z h0 b7 .int 32 (fun i => .int (g7 i))) (g_a : n0 ≤ a) (g_b6 : n0 ≤ b6) (hord : @LT.lt Nat instLTNat a b1 ∧ @LT.lt Nat instLTNat b1 b2 ∧ @LT.lt Nat instLTNat b2 b3 ∧ @LT.lt Nat instLTNat b3 b4 ∧ @LT.lt Nat instLTNat b4 b5 ∧ @LT.lt Nat instLTNat b5 b6 ∧ @LT.lt Nat instLTNat b6 b7) (hn5 : ((g4 1) - (g3 1)) = (9 : Int32)) (hfull : ((tq - (g3 1)) / (8 : Int32)) = (1 : Int32)) :
    MetFree l mn6 (head1 (Jvm.Cond.code mn6 prog_32_method_8_code 10 none :: ws) ({ frames := 0, cells := 0, slots := 0, locals := 0 } : Room)) (fun a_ U => a_ = #[(.ref a), (.int 1), (.int tq), (.long vv)] ∧ Z.Warmed39 U.vm ∧ U.heap = h0) (fun _ _ _ _ _ => True) (fun _ U o U' => ∃ v_ L_, o = .returned v_ ∧ Q_findL9 Z a tq vv b1 b2 b3 b4 b5 b6 b7 sc sz nc bd ss bs bc pn se sa ta te g3 g4 g5 g6 g7 h0 n0 v_ U'.heap L_ ∧ FrameEnd U o U' L_ ({ frames := 0, cells := 0, slots := 0, locals := 0 } : Room).cells ({ frames := 0, cells := 0, slots := 0, locals := 0 } : Room).slots) := by
  refine MetFree.of_bodySF (plainFor_of_name pn_6) hisR ?_
  intro p e s m args below meth c s₁ Bd hml0 hP hK
  obtain ⟨rfl, hZ, hh⟩ := hP
  have hx := Bd.exec
  have hby := Bd.bytes
  have hlk : meth.locks = false := Bd.notSynchronized
  have hml : c.maxLocals = 10 := hml0
  have hown : s.vm.findClass "com/example/graphweft/graphweft/RangeMaxTree" = some m.cls := findClass_of_methodNamed Bd.named
  have hnm := (name_of_methodNamed Bd.named Bd.method).1
  have X0 : Stand p l e ({ frames := 0, cells := 0, slots := 0, locals := 0 } : Room) s m #[(.ref a), (.int 1), (.int tq), (.long vv)] below meth c s₁ [] 0 0 := Stand.of_body Bd
  have e0 : s₁.heap = h0 := by rw [← hh, Bd.state]; rfl
  have N0 := Fr.nil n0
  have K0 : Keep h0 h0 [a, b6] := Keep.refl _ _
  show OEnds p e below s (Q_findL9 Z a tq vv b1 b2 b3 b4 b5 b6 b7 sc sz nc bd ss bs bc pn se sa ta te g3 g4 g5 g6 g7 h0 n0) _ _ _
  refine own_by (fun t k => castTop (ef_6 m a (1 : Int32) tq vv) k) ?_
  show OEnds p e below s _ _ _ (s₁.setTop (mkF m 0 #[(vr a), (vi 1), (vi tq), (vj vv), sd, un, un, un, un, un] []))
  refine qaN 1 X0 hx hby d6_0 rfl rfl ?_
  refine qlN 2 X0 hx hby d6_1 rfl rfl ?_
  obtain ⟨T1, h1, X1, e1, W1, st1⟩ := putF X0 hx hZ hown (host := "") (Or.inl (tw49 hw)) Via.refl e0 (O0.fld 10 rfl rfl) O0.exa (Or.inl (tw50 hw)) (tw2 hw) (ty := .long) (by decide) rfl rfl (g := (mkF m 2 #[(vr a), (vi 1), (vi tq), (vj vv), sd, un, un, un, un, un] [(.long vv), (.ref a)])) rfl rfl (hb hby d6_2)
  have O1 : Obj Z h1 a "com/example/graphweft/graphweft/RangeMaxTree" sch_rt [(.ref b1), (.ref b2), (.ref b3), (.ref b4), (.ref b5), (.ref b6), (.ref b7), (.int sc), (.int sz), (.int nc), (.long vv), (.int ss), (.int bs), (.int bc), (.int pn), (.int se), (.int sa), (.int ta), (.int te)] := O0.set (so_sch_rt hw) W1 10 rfl (Nat.le_of_ble_eq_true rfl)
  have N1 := Fr.snoc X1 N0 g_a
  have Z1 := Nat.le_trans Z0 (Keep.of_wr W1).1
  have K1 := K0.wr W1 (wi 0 rfl)
  refine qat 5 #[(vr a), (vi 1), (vi tq), (vj vv), sd, un, un, un, un, un] [] st1 ?_
  refine qaN 6 X1 hx hby d6_5 rfl rfl ?_
  refine qaN 7 X1 hx hby d6_6 rfl rfl ?_
  refine qg 10 X1 hx hZ hown (tw15 hw) e1 (O1.fld 2 rfl rfl) hby d6_7 rfl fun T2 X2 e2 => ?_
  refine qiN 11 X2 hx hby d6_10 rfl rfl ?_
  have F3 := (F_b3.other W1 (Ne.symm (o03 hord)))
  refine qI 12 X2 hx hZ e2 F3 1 (by decide) (by decide) (v := (.int (g3 1))) rfl hby d6_11 rfl ?_
  obtain ⟨T4, h4, X4, e4, W4, st4⟩ := putF X2 hx hZ hown (host := "") (Or.inl (tw51 hw)) Via.refl e2 (O1.fld 11 rfl rfl) O1.exa (Or.inl (tw52 hw)) (tw2 hw) (ty := .int) (by decide) rfl rfl (g := (mkF m 12 #[(vr a), (vi 1), (vi tq), (vj vv), sd, un, un, un, un, un] [(.int (g3 1)), (.ref a)])) rfl rfl (hb hby d6_12)
  have O4 : Obj Z h4 a "com/example/graphweft/graphweft/RangeMaxTree" sch_rt [(.ref b1), (.ref b2), (.ref b3), (.ref b4), (.ref b5), (.ref b6), (.ref b7), (.int sc), (.int sz), (.int nc), (.long vv), (.int (g3 1)), (.int bs), (.int bc), (.int pn), (.int se), (.int sa), (.int ta), (.int te)] := O1.set (so_sch_rt hw) W4 11 rfl (Nat.le_of_ble_eq_true rfl)
  have N4 := Fr.snoc X4 N1 g_a
  have Z4 := Nat.le_trans Z1 (Keep.of_wr W4).1
  have K4 := K1.wr W4 (wi 0 rfl)
  refine qat 15 #[(vr a), (vi 1), (vi tq), (vj vv), sd, un, un, un, un, un] [] st4 ?_
  refine qaN 16 X4 hx hby d6_15 rfl rfl ?_
  refine qaN 17 X4 hx hby d6_16 rfl rfl ?_
  refine qg 20 X4 hx hZ hown (tw19 hw) e4 (O4.fld 4 rfl rfl) hby d6_17 rfl fun T5 X5 e5 => ?_
  refine qiN 21 X5 hx hby d6_20 rfl rfl ?_
  have F6 := ((F_b5.other W1 (Ne.symm (o05 hord))).other W4 (Ne.symm (o05 hord)))
  refine qI 22 X5 hx hZ e5 F6 1 (by decide) (by decide) (v := (.int (g5 1))) rfl hby d6_21 rfl ?_
  obtain ⟨T7, h7, X7, e7, W7, st7⟩ := putF X5 hx hZ hown (host := "") (Or.inl (tw53 hw)) Via.refl e5 (O4.fld 12 rfl rfl) O4.exa (Or.inl (tw54 hw)) (tw2 hw) (ty := .int) (by decide) rfl rfl (g := (mkF m 22 #[(vr a), (vi 1), (vi tq), (vj vv), sd, un, un, un, un, un] [(.int (g5 1)), (.ref a)])) rfl rfl (hb hby d6_22)
  have O7 : Obj Z h7 a "com/example/graphweft/graphweft/RangeMaxTree" sch_rt [(.ref b1), (.ref b2), (.ref b3), (.ref b4), (.ref b5), (.ref b6), (.ref b7), (.int sc), (.int sz), (.int nc), (.long vv), (.int (g3 1)), (.int (g5 1)), (.int bc), (.int pn), (.int se), (.int sa), (.int ta), (.int te)] := O4.set (so_sch_rt hw) W7 12 rfl (Nat.le_of_ble_eq_true rfl)
  have N7 := Fr.snoc X7 N4 g_a
  have Z7 := Nat.le_trans Z4 (Keep.of_wr W7).1
  have K7 := K4.wr W7 (wi 0 rfl)
  refine qat 25 #[(vr a), (vi 1), (vi tq), (vj vv), sd, un, un, un, un, un] [] st7 ?_
  refine qaN 26 X7 hx hby d6_25 rfl rfl ?_
  refine qg 29 X7 hx hZ hown (tw17 hw) e7 (O7.fld 3 rfl rfl) hby d6_26 rfl fun T8 X8 e8 => ?_
  refine qiN 30 X8 hx hby d6_29 rfl rfl ?_
  have F9 := (((F_b4.other W1 (Ne.symm (o04 hord))).other W4 (Ne.symm (o04 hord))).other W7 (Ne.symm (o04 hord)))
  refine qI 31 X8 hx hZ e8 F9 1 (by decide) (by decide) (v := (.int (g4 1))) rfl hby d6_30 rfl ?_
  refine qaN 32 X8 hx hby d6_31 rfl rfl ?_
  refine qg 35 X8 hx hZ hown (tw51 hw) e8 (O7.fld 11 rfl rfl) hby d6_32 rfl fun T10 X10 e10 => ?_
  refine q_isub 36 X10 hx hby d6_35 rfl ?_
  refine qsi 38 #[(vr a), (vi 1), (vi tq), (vj vv), sd, (vi ((g4 1) - (g3 1))), un, un, un, un] X10 hx hby d6_36 rfl rfl ?_
  rw [hn5]
  show OEnds p e below s _ _ _ (T10.setTop (mkF m 38 #[(vr a), (vi 1), (vi tq), (vj vv), sd, (vi 9), un, un, un, un] []))
  refine qaN 39 X10 hx hby d6_38 rfl rfl ?_
  refine qi 41 X10 hx hby d6_39 rfl rfl ?_
  refine qc2 43 8 X10 hx hby d6_41 rfl rfl ?_
  refine q_idiv 44 X10 hx hby d6_43 rfl (by decide) ?_
  show OEnds p e below s _ _ _ (T10.setTop (mkF m 44 #[(vr a), (vi 1), (vi tq), (vj vv), sd, (vi 9), un, un, un, un] [(.int 1), (.ref a)]))
  refine qi 46 X10 hx hby d6_44 rfl rfl ?_
  refine qc2 48 8 X10 hx hby d6_46 rfl rfl ?_
  refine own_by (fun _ k => iremM X10 hx rfl (hb hby d6_48) rfl (by decide) k) ?_
  show OEnds p e below s _ _ _ (T10.setTop (mkF m 49 #[(vr a), (vi 1), (vi tq), (vj vv), sd, (vi 9), un, un, un, un] [(.int 1), (.int 1), (.ref a)]))
  refine q_ify 56 X10 hx hby d6_49 rfl ((if0 _ _).trans (feq (by decide : ¬ ((1 : Int32) = (0 : Int32)))).2) ?_
  refine qc1 57 1 X10 hx hby d6_56 rfl rfl ?_
  refine q_iadd 58 X10 hx hby d6_57 rfl ?_
  show OEnds p e below s _ _ _ (T10.setTop (mkF m 58 #[(vr a), (vi 1), (vi tq), (vj vv), sd, (vi 9), un, un, un, un] [(.int 2), (.ref a)]))
  obtain ⟨T11, h11, X11, e11, W11, st11⟩ := putF X10 hx hZ hown (host := "") (Or.inl (tw55 hw)) Via.refl e10 (O7.fld 13 rfl rfl) O7.exa (Or.inl (tw56 hw)) (tw2 hw) (ty := .int) (by decide) rfl rfl (g := (mkF m 58 #[(vr a), (vi 1), (vi tq), (vj vv), sd, (vi 9), un, un, un, un] [(.int 2), (.ref a)])) rfl rfl (hb hby d6_58)
  have O11 : Obj Z h11 a "com/example/graphweft/graphweft/RangeMaxTree" sch_rt [(.ref b1), (.ref b2), (.ref b3), (.ref b4), (.ref b5), (.ref b6), (.ref b7), (.int sc), (.int sz), (.int nc), (.long vv), (.int (g3 1)), (.int (g5 1)), (.int 2), (.int pn), (.int se), (.int sa), (.int ta), (.int te)] := O7.set (so_sch_rt hw) W11 13 rfl (Nat.le_of_ble_eq_true rfl)
  have N11 := Fr.snoc X11 N7 g_a
  have Z11 := Nat.le_trans Z7 (Keep.of_wr W11).1
  have K11 := K7.wr W11 (wi 0 rfl)
  refine qat 61 #[(vr a), (vi 1), (vi tq), (vj vv), sd, (vi 9), un, un, un, un] [] st11 ?_
  refine qaN 62 X11 hx hby d6_61 rfl rfl ?_
  refine qc1 63 0 X11 hx hby d6_62 rfl rfl ?_
  obtain ⟨T12, h12, X12, e12, W12, st12⟩ := putF X11 hx hZ hown (host := "") (Or.inl (tw57 hw)) Via.refl e11 (O11.fld 14 rfl rfl) O11.exa (Or.inl (tw58 hw)) (tw2 hw) (ty := .int) (by decide) rfl rfl (g := (mkF m 63 #[(vr a), (vi 1), (vi tq), (vj vv), sd, (vi 9), un, un, un, un] [(.int 0), (.ref a)])) rfl rfl (hb hby d6_63)
  have O12 : Obj Z h12 a "com/example/graphweft/graphweft/RangeMaxTree" sch_rt [(.ref b1), (.ref b2), (.ref b3), (.ref b4), (.ref b5), (.ref b6), (.ref b7), (.int sc), (.int sz), (.int nc), (.long vv), (.int (g3 1)), (.int (g5 1)), (.int 2), (.int 0), (.int se), (.int sa), (.int ta), (.int te)] := O11.set (so_sch_rt hw) W12 14 rfl (Nat.le_of_ble_eq_true rfl)
  have N12 := Fr.snoc X12 N11 g_a
  have Z12 := Nat.le_trans Z11 (Keep.of_wr W12).1
  have K12 := K11.wr W12 (wi 0 rfl)
  refine qat 66 #[(vr a), (vi 1), (vi tq), (vj vv), sd, (vi 9), un, un, un, un] [] st12 ?_
  refine qaN 67 X12 hx hby d6_66 rfl rfl ?_
  refine qaN 68 X12 hx hby d6_67 rfl rfl ?_
  refine qc1 69 0 X12 hx hby d6_68 rfl rfl ?_
  refine own_by (fun _ k => XS.dupX1 X12.here hx rfl (hb hby d6_69) rfl rfl rfl k) ?_
  show OEnds p e below s _ _ _ (T12.setTop (mkF m 70 #[(vr a), (vi 1), (vi tq), (vj vv), sd, (vi 9), un, un, un, un] [(.int 0), (.ref a), (.int 0), (.ref a)]))
  obtain ⟨T13, h13, X13, e13, W13, st13⟩ := putF X12 hx hZ hown (host := "") (Or.inl (tw59 hw)) Via.refl e12 (O12.fld 15 rfl rfl) O12.exa (Or.inl (tw60 hw)) (tw2 hw) (ty := .int) (by decide) rfl rfl (g := (mkF m 70 #[(vr a), (vi 1), (vi tq), (vj vv), sd, (vi 9), un, un, un, un] [(.int 0), (.ref a), (.int 0), (.ref a)])) rfl rfl (hb hby d6_70)
  have O13 : Obj Z h13 a "com/example/graphweft/graphweft/RangeMaxTree" sch_rt [(.ref b1), (.ref b2), (.ref b3), (.ref b4), (.ref b5), (.ref b6), (.ref b7), (.int sc), (.int sz), (.int nc), (.long vv), (.int (g3 1)), (.int (g5 1)), (.int 2), (.int 0), (.int 0), (.int sa), (.int ta), (.int te)] := O12.set (so_sch_rt hw) W13 15 rfl (Nat.le_of_ble_eq_true rfl)
  have N13 := Fr.snoc X13 N12 g_a
  have Z13 := Nat.le_trans Z12 (Keep.of_wr W13).1
  have K13 := K12.wr W13 (wi 0 rfl)
  refine qat 73 #[(vr a), (vi 1), (vi tq), (vj vv), sd, (vi 9), un, un, un, un] [(.int 0), (.ref a)] st13 ?_
  obtain ⟨T14, h14, X14, e14, W14, st14⟩ := putF X13 hx hZ hown (host := "") (Or.inl (tw61 hw)) Via.refl e13 (O13.fld 16 rfl rfl) O13.exa (Or.inl (tw62 hw)) (tw2 hw) (ty := .int) (by decide) rfl rfl (g := (mkF m 73 #[(vr a), (vi 1), (vi tq), (vj vv), sd, (vi 9), un, un, un, un] [(.int 0), (.ref a)])) rfl rfl (hb hby d6_73)
  have O14 : Obj Z h14 a "com/example/graphweft/graphweft/RangeMaxTree" sch_rt [(.ref b1), (.ref b2), (.ref b3), (.ref b4), (.ref b5), (.ref b6), (.ref b7), (.int sc), (.int sz), (.int nc), (.long vv), (.int (g3 1)), (.int (g5 1)), (.int 2), (.int 0), (.int 0), (.int 0), (.int ta), (.int te)] := O13.set (so_sch_rt hw) W14 16 rfl (Nat.le_of_ble_eq_true rfl)
  have N14 := Fr.snoc X14 N13 g_a
  have Z14 := Nat.le_trans Z13 (Keep.of_wr W14).1
  have K14 := K13.wr W14 (wi 0 rfl)
  refine qat 76 #[(vr a), (vi 1), (vi tq), (vj vv), sd, (vi 9), un, un, un, un] [] st14 ?_
  refine qiN 77 X14 hx hby d6_76 rfl rfl ?_
  refine qaN 78 X14 hx hby d6_77 rfl rfl ?_
  refine qg 81 X14 hx hZ hown (tw51 hw) e14 (O14.fld 11 rfl rfl) hby d6_78 rfl fun T15 X15 e15 => ?_
  refine q_isub 82 X15 hx hby d6_81 rfl ?_
  refine qc2 84 8 X15 hx hby d6_82 rfl rfl ?_
  refine q_idiv 85 X15 hx hby d6_84 rfl (by decide) ?_
  refine qsi 87 #[(vr a), (vi 1), (vi tq), (vj vv), sd, (vi 9), (vi ((tq - (g3 1)) / (8 : Int32))), un, un, un] X15 hx hby d6_85 rfl rfl ?_
  rw [hfull]
  show OEnds p e below s _ _ _ (T15.setTop (mkF m 87 #[(vr a), (vi 1), (vi tq), (vj vv), sd, (vi 9), (vi 1), un, un, un] []))
  refine qaN 88 X15 hx hby d6_87 rfl rfl ?_
  refine qaN 89 X15 hx hby d6_88 rfl rfl ?_
  refine qg 92 X15 hx hZ hown (tw51 hw) e15 (O14.fld 11 rfl rfl) hby d6_89 rfl fun T16 X16 e16 => ?_
  refine qi 94 X16 hx hby d6_92 rfl rfl ?_
  refine qc2 96 8 X16 hx hby d6_94 rfl rfl ?_
  refine q_imul 97 X16 hx hby d6_96 rfl ?_
  show OEnds p e below s _ _ _ (T16.setTop (mkF m 97 #[(vr a), (vi 1), (vi tq), (vj vv), sd, (vi 9), (vi 1), un, un, un] [(.int 8), (.int (g3 1)), (.ref a)]))
  refine q_iadd 98 X16 hx hby d6_97 rfl ?_
  obtain ⟨T17, h17, X17, e17, W17, st17⟩ := putF X16 hx hZ hown (host := "") (Or.inl (tw63 hw)) Via.refl e16 (O14.fld 17 rfl rfl) O14.exa (Or.inl (tw64 hw)) (tw2 hw) (ty := .int) (by decide) rfl rfl (g := (mkF m 98 #[(vr a), (vi 1), (vi tq), (vj vv), sd, (vi 9), (vi 1), un, un, un] [(.int ((g3 1) + (8 : Int32))), (.ref a)])) rfl rfl (hb hby d6_98)
  have O17 : Obj Z h17 a "com/example/graphweft/graphweft/RangeMaxTree" sch_rt [(.ref b1), (.ref b2), (.ref b3), (.ref b4), (.ref b5), (.ref b6), (.ref b7), (.int sc), (.int sz), (.int nc), (.long vv), (.int (g3 1)), (.int (g5 1)), (.int 2), (.int 0), (.int 0), (.int 0), (.int ((g3 1) + (8 : Int32))), (.int te)] := O14.set (so_sch_rt hw) W17 17 rfl (Nat.le_of_ble_eq_true rfl)
  have N17 := Fr.snoc X17 N14 g_a
  have Z17 := Nat.le_trans Z14 (Keep.of_wr W17).1
  have K17 := K14.wr W17 (wi 0 rfl)
  refine qat 101 #[(vr a), (vi 1), (vi tq), (vj vv), sd, (vi 9), (vi 1), un, un, un] [] st17 ?_
  refine qaN 102 X17 hx hby d6_101 rfl rfl ?_
  refine qiN 103 X17 hx hby d6_102 rfl rfl ?_
  obtain ⟨T18, h18, X18, e18, W18, st18⟩ := putF X17 hx hZ hown (host := "") (Or.inl (tw65 hw)) Via.refl e17 (O17.fld 18 rfl rfl) O17.exa (Or.inl (tw66 hw)) (tw2 hw) (ty := .int) (by decide) rfl rfl (g := (mkF m 103 #[(vr a), (vi 1), (vi tq), (vj vv), sd, (vi 9), (vi 1), un, un, un] [(.int tq), (.ref a)])) rfl rfl (hb hby d6_103)
  have O18 : Obj Z h18 a "com/example/graphweft/graphweft/RangeMaxTree" sch_rt [(.ref b1), (.ref b2), (.ref b3), (.ref b4), (.ref b5), (.ref b6), (.ref b7), (.int sc), (.int sz), (.int nc), (.long vv), (.int (g3 1)), (.int (g5 1)), (.int 2), (.int 0), (.int 0), (.int 0), (.int ((g3 1) + (8 : Int32))), (.int tq)] := O17.set (so_sch_rt hw) W18 18 rfl (Nat.le_of_ble_eq_true rfl)
  have N18 := Fr.snoc X18 N17 g_a
  have Z18 := Nat.le_trans Z17 (Keep.of_wr W18).1
  have K18 := K17.wr W18 (wi 0 rfl)
  refine qat 106 #[(vr a), (vi 1), (vi tq), (vj vv), sd, (vi 9), (vi 1), un, un, un] [] st18 ?_
  refine qc1 107 0 X18 hx hby d6_106 rfl rfl ?_
  refine qsi 109 #[(vr a), (vi 1), (vi tq), (vj vv), sd, (vi 9), (vi 1), (vi 0), un, un] X18 hx hby d6_107 rfl rfl ?_
  refine qaN 110 X18 hx hby d6_109 rfl rfl ?_
  refine qg 113 X18 hx hZ hown (tw55 hw) e18 (O18.fld 13 rfl rfl) hby d6_110 rfl fun T19 X19 e19 => ?_
  refine qsi 115 #[(vr a), (vi 1), (vi tq), (vj vv), sd, (vi 9), (vi 1), (vi 0), (vi 2), un] X19 hx hby d6_113 rfl rfl ?_
  refine qi 117 X19 hx hby d6_115 rfl rfl ?_
  refine qaN 118 X19 hx hby d6_117 rfl rfl ?_
  refine qg 121 X19 hx hZ hown (tw55 hw) e19 (O18.fld 13 rfl rfl) hby d6_118 rfl fun T20 X20 e20 => ?_
  refine q_iadd 122 X20 hx hby d6_121 rfl ?_
  show OEnds p e below s _ _ _ (T20.setTop (mkF m 122 #[(vr a), (vi 1), (vi tq), (vj vv), sd, (vi 9), (vi 1), (vi 0), (vi 2), un] [(.int 3)]))
  refine qsi 124 #[(vr a), (vi 1), (vi tq), (vj vv), sd, (vi 9), (vi 1), (vi 0), (vi 2), (vi 3)] X20 hx hby d6_122 rfl rfl ?_
  refine qi 126 X20 hx hby d6_124 rfl rfl ?_
  refine qi 128 X20 hx hby d6_126 rfl rfl ?_
  refine q_cmn 131 X20 hx hby d6_128 rfl (tlt (by decide : (2 : Int32) < (3 : Int32))).2.1 ?_
  refine qi 133 X20 hx hby d6_131 rfl rfl ?_
  refine qc1 134 1 X20 hx hby d6_133 rfl rfl ?_
  refine q_iand 135 X20 hx hby d6_134 rfl ?_
  show OEnds p e below s _ _ _ (T20.setTop (mkF m 135 #[(vr a), (vi 1), (vi tq), (vj vv), sd, (vi 9), (vi 1), (vi 0), (vi 2), (vi 3)] [(.int 0)]))
  refine qc1 136 1 X20 hx hby d6_135 rfl rfl ?_
  refine q_cmy 154 X20 hx hby d6_136 rfl (feq (by decide : ¬ ((0 : Int32) = (1 : Int32)))).2 ?_
  refine qi 156 X20 hx hby d6_154 rfl rfl ?_
  refine qc1 157 1 X20 hx hby d6_156 rfl rfl ?_
  refine q_iand 158 X20 hx hby d6_157 rfl ?_
  show OEnds p e below s _ _ _ (T20.setTop (mkF m 158 #[(vr a), (vi 1), (vi tq), (vj vv), sd, (vi 9), (vi 1), (vi 0), (vi 2), (vi 3)] [(.int 1)]))
  refine qc1 159 1 X20 hx hby d6_158 rfl rfl ?_
  refine q_cmn 162 X20 hx hby d6_159 rfl (teq (by decide : (1 : Int32) = (1 : Int32))).2 ?_
  refine qaN 163 X20 hx hby d6_162 rfl rfl ?_
  refine qg 166 X20 hx hZ hown (tw21 hw) e20 (O18.fld 5 rfl rfl) hby d6_163 rfl fun T21 X21 e21 => ?_
  refine qaN 167 X21 hx hby d6_166 rfl rfl ?_
  refine q_dup 168 X21 hx hby d6_167 rfl rfl ?_
  refine qg 171 X21 hx hZ hown (tw57 hw) e21 (O18.fld 14 rfl rfl) hby d6_168 rfl fun T22 X22 e22 => ?_
  refine own_by (fun _ k => XS.dupX1 X22.here hx rfl (hb hby d6_171) rfl rfl rfl k) ?_
  show OEnds p e below s _ _ _ (T22.setTop (mkF m 172 #[(vr a), (vi 1), (vi tq), (vj vv), sd, (vi 9), (vi 1), (vi 0), (vi 2), (vi 3)] [(.int 0), (.ref a), (.int 0), (.ref b6)]))
  refine qc1 173 1 X22 hx hby d6_172 rfl rfl ?_
  refine q_iadd 174 X22 hx hby d6_173 rfl ?_
  show OEnds p e below s _ _ _ (T22.setTop (mkF m 174 #[(vr a), (vi 1), (vi tq), (vj vv), sd, (vi 9), (vi 1), (vi 0), (vi 2), (vi 3)] [(.int 1), (.ref a), (.int 0), (.ref b6)]))
  obtain ⟨T23, h23, X23, e23, W23, st23⟩ := putF X22 hx hZ hown (host := "") (Or.inl (tw57 hw)) Via.refl e22 (O18.fld 14 rfl rfl) O18.exa (Or.inl (tw58 hw)) (tw2 hw) (ty := .int) (by decide) rfl rfl (g := (mkF m 174 #[(vr a), (vi 1), (vi tq), (vj vv), sd, (vi 9), (vi 1), (vi 0), (vi 2), (vi 3)] [(.int 1), (.ref a), (.int 0), (.ref b6)])) rfl rfl (hb hby d6_174)
  have O23 : Obj Z h23 a "com/example/graphweft/graphweft/RangeMaxTree" sch_rt [(.ref b1), (.ref b2), (.ref b3), (.ref b4), (.ref b5), (.ref b6), (.ref b7), (.int sc), (.int sz), (.int nc), (.long vv), (.int (g3 1)), (.int (g5 1)), (.int 2), (.int 1), (.int 0), (.int 0), (.int ((g3 1) + (8 : Int32))), (.int tq)] := O18.set (so_sch_rt hw) W23 14 rfl (Nat.le_of_ble_eq_true rfl)
  have N23 := Fr.snoc X23 N18 g_a
  have Z23 := Nat.le_trans Z18 (Keep.of_wr W23).1
  have K23 := K18.wr W23 (wi 0 rfl)
  refine qat 177 #[(vr a), (vi 1), (vi tq), (vj vv), sd, (vi 9), (vi 1), (vi 0), (vi 2), (vi 3)] [(.int 0), (.ref b6)] st23 ?_
  refine q_inc 180 #[(vr a), (vi 1), (vi tq), (vj vv), sd, (vi 9), (vi 1), (vi 0), (vi 2), (vi 2)] X23 hx hby d6_177 rfl rfl rfl ?_
  refine qi 182 X23 hx hby d6_180 rfl rfl ?_
  have F25 := ((((((((((F_b6.other W1 (Ne.symm (o06 hord))).other W4 (Ne.symm (o06 hord))).other W7 (Ne.symm (o06 hord))).other W11 (Ne.symm (o06 hord))).other W12 (Ne.symm (o06 hord))).other W13 (Ne.symm (o06 hord))).other W14 (Ne.symm (o06 hord))).other W17 (Ne.symm (o06 hord))).other W18 (Ne.symm (o06 hord))).other W23 (Ne.symm (o06 hord)))
  obtain ⟨T24, h24, X24, e24, W24, st24⟩ := own_iastore X23 hx hZ e23 F25 0 (by decide) (by decide) (g := (mkF m 182 #[(vr a), (vi 1), (vi tq), (vj vv), sd, (vi 9), (vi 1), (vi 0), (vi 2), (vi 2)] [(.int 2), (.int 0), (.ref b6)])) rfl rfl (hb hby d6_182)
  have F24 : FA Z h24 b6 .int 96 (fun i => .int ((updI g6 0 (2 : Int32)) i)) := F25.setI W24
  have N24 := Fr.snoc X24 N23 g_b6
  have Z24 := Nat.le_trans Z23 (Keep.of_wr W24).1
  have K24 := K23.wr W24 (wi 1 rfl)
  refine qat 183 #[(vr a), (vi 1), (vi tq), (vj vv), sd, (vi 9), (vi 1), (vi 0), (vi 2), (vi 2)] [] st24 ?_
  refine qi 185 X24 hx hby d6_183 rfl rfl ?_
  refine qc1 186 1 X24 hx hby d6_185 rfl rfl ?_
  refine own_by (fun _ k => XS.iushr X24.here hx rfl (hb hby d6_186) rfl k) ?_
  show OEnds p e below s _ _ _ (T24.setTop (mkF m 187 #[(vr a), (vi 1), (vi tq), (vj vv), sd, (vi 9), (vi 1), (vi 0), (vi 2), (vi 2)] [(.int 1)]))
  refine qsi 189 #[(vr a), (vi 1), (vi tq), (vj vv), sd, (vi 9), (vi 1), (vi 0), (vi 1), (vi 2)] X24 hx hby d6_187 rfl rfl ?_
  refine qi 191 X24 hx hby d6_189 rfl rfl ?_
  refine qc1 192 1 X24 hx hby d6_191 rfl rfl ?_
  refine own_by (fun _ k => XS.iushr X24.here hx rfl (hb hby d6_192) rfl k) ?_
  show OEnds p e below s _ _ _ (T24.setTop (mkF m 193 #[(vr a), (vi 1), (vi tq), (vj vv), sd, (vi 9), (vi 1), (vi 0), (vi 1), (vi 2)] [(.int 1)]))
  refine qsi 195 #[(vr a), (vi 1), (vi tq), (vj vv), sd, (vi 9), (vi 1), (vi 0), (vi 1), (vi 1)] X24 hx hby d6_193 rfl rfl ?_
  refine q_goto 124 X24 hx hby d6_195 rfl ?_
  refine qi 126 X24 hx hby d6_124 rfl rfl ?_
  refine qi 128 X24 hx hby d6_126 rfl rfl ?_
  refine q_cmy 198 X24 hx hby d6_128 rfl (flt (by decide : ¬ ((1 : Int32) < (1 : Int32)))).2.1 ?_
  refine qi 200 X24 hx hby d6_198 rfl rfl ?_
  refine q_ify 232 X24 hx hby d6_200 rfl ((if0 _ _).trans (flt (by decide : ¬ ((0 : Int32) < (0 : Int32)))).2.2.2) ?_
  have O26 := (O23.other W24 (o06 hord))
  exact own_retV X24 hx hlk Bd.returns (hb hby d6_232) (by rw [e24]; exact ⟨rfl, N24, K24, O26, F24⟩) (by decide) (by decide)
theorem d11_0 : decode prog_32_method_10_code 0 = .ok (.aload_n 0, 1) := by decide +kernel
theorem d11_1 : decode prog_32_method_10_code 1 = .ok (.getfield 13, 3) := by decide +kernel
theorem d11_4 : decode prog_32_method_10_code 4 = .ok (.aload_n 0, 1) := by decide +kernel
theorem d11_5 : decode prog_32_method_10_code 5 = .ok (.getfield 90, 3) := by decide +kernel
theorem d11_8 : decode prog_32_method_10_code 8 = .ok (.iload_n 1, 1) := by decide +kernel
theorem d11_9 : decode prog_32_method_10_code 9 = .ok (.iadd, 1) := by decide +kernel
theorem d11_10 : decode prog_32_method_10_code 10 = .ok (.laload, 1) := by decide +kernel
theorem d11_11 : decode prog_32_method_10_code 11 = .ok (.aload_n 0, 1) := by decide +kernel
theorem d11_12 : decode prog_32_method_10_code 12 = .ok (.getfield 83, 3) := by decide +kernel
theorem d11_15 : decode prog_32_method_10_code 15 = .ok (.lcmp, 1) := by decide +kernel
theorem d11_16 : decode prog_32_method_10_code 16 = .ok (.ifCond .ge 4, 3) := by decide +kernel
theorem d11_19 : decode prog_32_method_10_code 19 = .ok (.return_, 1) := by decide +kernel
theorem pn_11 : plainName "com/example/graphweft/graphweft/RangeMaxTree" = true := by first | (simp [plainName, overriddenIn]; done) | decide +kernel
theorem ef_11 (m : MethodId) (x0 : Addr) (x1 : Int32) : entryFrame m #[(.ref x0), (.int x1)] 2 = mkF m 0 #[.val (.ref x0), .val (.int x1)] [] := by first | (simp [entryFrame, mkF, argsToLocals, Value.category]; done) | rfl
def Q_look1_0 (Z : State) (a : Addr) (b1 : Addr) (b2 : Addr) (b3 : Addr) (b4 : Addr) (b5 : Addr) (b6 : Addr) (b7 : Addr) (sc : Int32) (sz : Int32) (nc : Int32) (bd : Int64) (ss : Int32) (bs : Int32) (pn : Int32) (se : Int32) (sa : Int32) (ta : Int32) (te : Int32) (g2 : Nat → Int64) (h0 : Heap) (n0 : Nat) (r : Option Value) (h : Heap) (L : List Loc) : Prop := r = none ∧ Fr n0 L ∧ Keep h0 h []
set_option maxRecDepth 65536 in
set_option maxHeartbeats 40000000 in
theorem rm_look1_0 (l : Launch) (Z : State) (a0 : Array Value) (hw : ∀ d ∈ tables_1, d.before a0 Z = true) (ws : List Jvm.Cond) (a : Addr) (b1 : Addr) (b2 : Addr) (b3 : Addr) (b4 : Addr) (b5 : Addr) (b6 : Addr) (b7 : Addr) (sc : Int32) (sz : Int32) (nc : Int32) (bd : Int64) (ss : Int32) (bs : Int32) (pn : Int32) (se : Int32) (sa : Int32) (ta : Int32) (te : Int32) (g2 : Nat → Int64) (h0 : Heap) (n0 : Nat) (Z0 : n0 ≤ h0.size) (O0 : Obj Z h0 a "com/example/graphweft/graphweft/RangeMaxTree" sch_rt [(.ref b1), (.ref b2), (.ref b3), (.ref b4), (.ref b5), (.ref b6), (.ref b7), (.int sc), (.int sz), (.int nc), (.long bd), (.int ss), (.int bs), (.int 1), (.int pn), (.int se), (.int sa), (.int ta), (.int te)]) (F_b2 : FA Z h0 b2 .long 64 (fun i => .long (g2 i))) (hkb : 0 ≤ (bs + (1 : Int32)).toInt ∧ (bs + (1 : Int32)).toInt < 64) (hlok : (g2 ((bs + (1 : Int32)).toInt.toNat)) < bd) :
    MetFree l mn7 (head1 (Jvm.Cond.code mn7 prog_32_method_10_code 2 none :: ws) ({ frames := 0, cells := 0, slots := 0, locals := 0 } : Room)) (fun a_ U => a_ = #[(.ref a), (.int 1)] ∧ Z.Warmed39 U.vm ∧ U.heap = h0) (fun _ _ _ _ _ => True) (fun _ U o U' => ∃ v_ L_, o = .returned v_ ∧ Q_look1_0 Z a b1 b2 b3 b4 b5 b6 b7 sc sz nc bd ss bs pn se sa ta te g2 h0 n0 v_ U'.heap L_ ∧ FrameEnd U o U' L_ ({ frames := 0, cells := 0, slots := 0, locals := 0 } : Room).cells ({ frames := 0, cells := 0, slots := 0, locals := 0 } : Room).slots) := by
  refine MetFree.of_bodySF (plainFor_of_name pn_11) hisR ?_
  intro p e s m args below meth c s₁ Bd hml0 hP hK
  obtain ⟨rfl, hZ, hh⟩ := hP
  have hx := Bd.exec
  have hby := Bd.bytes
  have hlk : meth.locks = false := Bd.notSynchronized
  have hml : c.maxLocals = 2 := hml0
  have hown : s.vm.findClass "com/example/graphweft/graphweft/RangeMaxTree" = some m.cls := findClass_of_methodNamed Bd.named
  have hnm := (name_of_methodNamed Bd.named Bd.method).1
  have X0 : Stand p l e ({ frames := 0, cells := 0, slots := 0, locals := 0 } : Room) s m #[(.ref a), (.int 1)] below meth c s₁ [] 0 0 := Stand.of_body Bd
  have e0 : s₁.heap = h0 := by rw [← hh, Bd.state]; rfl
  have N0 := Fr.nil n0
  have K0 : Keep h0 h0 [] := Keep.refl _ _
  show OEnds p e below s (Q_look1_0 Z a b1 b2 b3 b4 b5 b6 b7 sc sz nc bd ss bs pn se sa ta te g2 h0 n0) _ _ _
  refine own_by (fun t k => castTop (ef_11 m a (1 : Int32)) k) ?_
  show OEnds p e below s _ _ _ (s₁.setTop (mkF m 0 #[(vr a), (vi 1)] []))
  refine qaN 1 X0 hx hby d11_0 rfl rfl ?_
  refine qg 4 X0 hx hZ hown (tw12 hw) e0 (O0.fld 1 rfl rfl) hby d11_1 rfl fun T1 X1 e1 => ?_
  refine qaN 5 X1 hx hby d11_4 rfl rfl ?_
  refine qg 8 X1 hx hZ hown (tw53 hw) e1 (O0.fld 12 rfl rfl) hby d11_5 rfl fun T2 X2 e2 => ?_
  refine qiN 9 X2 hx hby d11_8 rfl rfl ?_
  refine q_iadd 10 X2 hx hby d11_9 rfl ?_
  refine qJ 11 X2 hx hZ e2 F_b2 ((bs + (1 : Int32)).toInt.toNat) (by omega) (by omega) (v := (.long (g2 ((bs + (1 : Int32)).toInt.toNat)))) rfl hby d11_10 rfl ?_
  refine qaN 12 X2 hx hby d11_11 rfl rfl ?_
  refine qg 15 X2 hx hZ hown (tw49 hw) e2 (O0.fld 10 rfl rfl) hby d11_12 rfl fun T3 X3 e3 => ?_
  refine own_by (fun _ k => XS.lcmp X3.here hx rfl (hb hby d11_15) rfl k) ?_
  show OEnds p e below s _ _ _ (T3.setTop (mkF m 16 #[(vr a), (vi 1)] [(.int (lcmpW (g2 ((bs + (1 : Int32)).toInt.toNat)) bd))]))
  refine q_ifn 19 X3 hx hby d11_16 rfl ((if0 _ _).trans (tlt ((lw_lt _ _).mpr hlok)).2.1) ?_
  exact own_retV X3 hx hlk Bd.returns (hb hby d11_19) (by rw [e3]; exact ⟨rfl, N0, K0⟩) (by decide) (by decide)
theorem d11_20 : decode prog_32_method_10_code 20 = .ok (.iload_n 1, 1) := by decide +kernel
theorem d11_21 : decode prog_32_method_10_code 21 = .ok (.aload_n 0, 1) := by decide +kernel
theorem d11_22 : decode prog_32_method_10_code 22 = .ok (.getfield 93, 3) := by decide +kernel
theorem d11_25 : decode prog_32_method_10_code 25 = .ok (.if_icmp .lt 35, 3) := by decide +kernel
theorem d11_28 : decode prog_32_method_10_code 28 = .ok (.aload_n 0, 1) := by decide +kernel
theorem d11_29 : decode prog_32_method_10_code 29 = .ok (.aload_n 0, 1) := by decide +kernel
theorem d11_30 : decode prog_32_method_10_code 30 = .ok (.getfield 87, 3) := by decide +kernel
theorem d11_33 : decode prog_32_method_10_code 33 = .ok (.iload_n 1, 1) := by decide +kernel
theorem d11_34 : decode prog_32_method_10_code 34 = .ok (.aload_n 0, 1) := by decide +kernel
theorem d11_35 : decode prog_32_method_10_code 35 = .ok (.getfield 93, 3) := by decide +kernel
theorem d11_38 : decode prog_32_method_10_code 38 = .ok (.isub, 1) := by decide +kernel
theorem d11_39 : decode prog_32_method_10_code 39 = .ok (.bipush 8, 2) := by decide +kernel
theorem d11_41 : decode prog_32_method_10_code 41 = .ok (.imul, 1) := by decide +kernel
theorem d11_42 : decode prog_32_method_10_code 42 = .ok (.iadd, 1) := by decide +kernel
theorem d11_43 : decode prog_32_method_10_code 43 = .ok (.putfield 51, 3) := by decide +kernel
theorem d11_46 : decode prog_32_method_10_code 46 = .ok (.aload_n 0, 1) := by decide +kernel
theorem d11_47 : decode prog_32_method_10_code 47 = .ok (.aload_n 0, 1) := by decide +kernel
theorem d11_48 : decode prog_32_method_10_code 48 = .ok (.getfield 51, 3) := by decide +kernel
theorem d11_51 : decode prog_32_method_10_code 51 = .ok (.bipush 8, 2) := by decide +kernel
theorem d11_53 : decode prog_32_method_10_code 53 = .ok (.iadd, 1) := by decide +kernel
theorem d11_54 : decode prog_32_method_10_code 54 = .ok (.putfield 48, 3) := by decide +kernel
theorem d11_57 : decode prog_32_method_10_code 57 = .ok (.goto 43, 3) := by decide +kernel
theorem d11_100 : decode prog_32_method_10_code 100 = .ok (.return_, 1) := by decide +kernel
def Q_look1_1 (Z : State) (a : Addr) (b1 : Addr) (b2 : Addr) (b3 : Addr) (b4 : Addr) (b5 : Addr) (b6 : Addr) (b7 : Addr) (sc : Int32) (sz : Int32) (nc : Int32) (bd : Int64) (ss : Int32) (bs : Int32) (pn : Int32) (se : Int32) (sa : Int32) (ta : Int32) (te : Int32) (g2 : Nat → Int64) (h0 : Heap) (n0 : Nat) (r : Option Value) (h : Heap) (L : List Loc) : Prop := r = none ∧ Fr n0 L ∧ Keep h0 h [a] ∧ Obj Z h a "com/example/graphweft/graphweft/RangeMaxTree" sch_rt [(.ref b1), (.ref b2), (.ref b3), (.ref b4), (.ref b5), (.ref b6), (.ref b7), (.int sc), (.int sz), (.int nc), (.long bd), (.int ss), (.int bs), (.int 1), (.int pn), (.int ((ss + (0 : Int32)) + (8 : Int32))), (.int (ss + (0 : Int32))), (.int ta), (.int te)]
set_option maxRecDepth 65536 in
set_option maxHeartbeats 40000000 in
theorem rm_look1_1 (l : Launch) (Z : State) (a0 : Array Value) (hw : ∀ d ∈ tables_1, d.before a0 Z = true) (ws : List Jvm.Cond) (a : Addr) (b1 : Addr) (b2 : Addr) (b3 : Addr) (b4 : Addr) (b5 : Addr) (b6 : Addr) (b7 : Addr) (sc : Int32) (sz : Int32) (nc : Int32) (bd : Int64) (ss : Int32) (bs : Int32) (pn : Int32) (se : Int32) (sa : Int32) (ta : Int32) (te : Int32) (g2 : Nat → Int64) (h0 : Heap) (n0 : Nat) (Z0 : n0 ≤ h0.size) (O0 : Obj Z h0 a "com/example/graphweft/graphweft/RangeMaxTree" sch_rt [(.ref b1), (.ref b2), (.ref b3), (.ref b4), (.ref b5), (.ref b6), (.ref b7), (.int sc), (.int sz), (.int nc), (.long bd), (.int ss), (.int bs), (.int 1), (.int pn), (.int se), (.int sa), (.int ta), (.int te)]) (F_b2 : FA Z h0 b2 .long 64 (fun i => .long (g2 i))) (g_a : n0 ≤ a) (hkb : 0 ≤ (bs + (1 : Int32)).toInt ∧ (bs + (1 : Int32)).toInt < 64) (hlok : ¬ (g2 ((bs + (1 : Int32)).toInt.toNat)) < bd) :
    MetFree l mn7 (head1 (Jvm.Cond.code mn7 prog_32_method_10_code 2 none :: ws) ({ frames := 0, cells := 0, slots := 0, locals := 0 } : Room)) (fun a_ U => a_ = #[(.ref a), (.int 1)] ∧ Z.Warmed39 U.vm ∧ U.heap = h0) (fun _ _ _ _ _ => True) (fun _ U o U' => ∃ v_ L_, o = .returned v_ ∧ Q_look1_1 Z a b1 b2 b3 b4 b5 b6 b7 sc sz nc bd ss bs pn se sa ta te g2 h0 n0 v_ U'.heap L_ ∧ FrameEnd U o U' L_ ({ frames := 0, cells := 0, slots := 0, locals := 0 } : Room).cells ({ frames := 0, cells := 0, slots := 0, locals := 0 } : Room).slots) := by
  refine MetFree.of_bodySF (plainFor_of_name pn_11) hisR ?_
  intro p e s m args below meth c s₁ Bd hml0 hP hK
  obtain ⟨rfl, hZ, hh⟩ := hP
  have hx := Bd.exec
  have hby := Bd.bytes
  have hlk : meth.locks = false := Bd.notSynchronized
  have hml : c.maxLocals = 2 := hml0
  have hown : s.vm.findClass "com/example/graphweft/graphweft/RangeMaxTree" = some m.cls := findClass_of_methodNamed Bd.named
  have hnm := (name_of_methodNamed Bd.named Bd.method).1
  have X0 : Stand p l e ({ frames := 0, cells := 0, slots := 0, locals := 0 } : Room) s m #[(.ref a), (.int 1)] below meth c s₁ [] 0 0 := Stand.of_body Bd
  have e0 : s₁.heap = h0 := by rw [← hh, Bd.state]; rfl
  have N0 := Fr.nil n0
  have K0 : Keep h0 h0 [a] := Keep.refl _ _
  show OEnds p e below s (Q_look1_1 Z a b1 b2 b3 b4 b5 b6 b7 sc sz nc bd ss bs pn se sa ta te g2 h0 n0) _ _ _
  refine own_by (fun t k => castTop (ef_11 m a (1 : Int32)) k) ?_
  show OEnds p e below s _ _ _ (s₁.setTop (mkF m 0 #[(vr a), (vi 1)] []))
  refine qaN 1 X0 hx hby d11_0 rfl rfl ?_
  refine qg 4 X0 hx hZ hown (tw12 hw) e0 (O0.fld 1 rfl rfl) hby d11_1 rfl fun T1 X1 e1 => ?_
  refine qaN 5 X1 hx hby d11_4 rfl rfl ?_
  refine qg 8 X1 hx hZ hown (tw53 hw) e1 (O0.fld 12 rfl rfl) hby d11_5 rfl fun T2 X2 e2 => ?_
  refine qiN 9 X2 hx hby d11_8 rfl rfl ?_
  refine q_iadd 10 X2 hx hby d11_9 rfl ?_
  refine qJ 11 X2 hx hZ e2 F_b2 ((bs + (1 : Int32)).toInt.toNat) (by omega) (by omega) (v := (.long (g2 ((bs + (1 : Int32)).toInt.toNat)))) rfl hby d11_10 rfl ?_
  refine qaN 12 X2 hx hby d11_11 rfl rfl ?_
  refine qg 15 X2 hx hZ hown (tw49 hw) e2 (O0.fld 10 rfl rfl) hby d11_12 rfl fun T3 X3 e3 => ?_
  refine own_by (fun _ k => XS.lcmp X3.here hx rfl (hb hby d11_15) rfl k) ?_
  show OEnds p e below s _ _ _ (T3.setTop (mkF m 16 #[(vr a), (vi 1)] [(.int (lcmpW (g2 ((bs + (1 : Int32)).toInt.toNat)) bd))]))
  refine q_ify 20 X3 hx hby d11_16 rfl ((if0 _ _).trans (flt (fun q => hlok ((lw_lt _ _).mp q))).2.1) ?_
  refine qiN 21 X3 hx hby d11_20 rfl rfl ?_
  refine qaN 22 X3 hx hby d11_21 rfl rfl ?_
  refine qg 25 X3 hx hZ hown (tw55 hw) e3 (O0.fld 13 rfl rfl) hby d11_22 rfl fun T4 X4 e4 => ?_
  refine q_cmn 28 X4 hx hby d11_25 rfl (flt (by decide : ¬ ((1 : Int32) < (1 : Int32)))).1 ?_
  refine qaN 29 X4 hx hby d11_28 rfl rfl ?_
  refine qaN 30 X4 hx hby d11_29 rfl rfl ?_
  refine qg 33 X4 hx hZ hown (tw51 hw) e4 (O0.fld 11 rfl rfl) hby d11_30 rfl fun T5 X5 e5 => ?_
  refine qiN 34 X5 hx hby d11_33 rfl rfl ?_
  refine qaN 35 X5 hx hby d11_34 rfl rfl ?_
  refine qg 38 X5 hx hZ hown (tw55 hw) e5 (O0.fld 13 rfl rfl) hby d11_35 rfl fun T6 X6 e6 => ?_
  refine q_isub 39 X6 hx hby d11_38 rfl ?_
  show OEnds p e below s _ _ _ (T6.setTop (mkF m 39 #[(vr a), (vi 1)] [(.int 0), (.int ss), (.ref a)]))
  refine qc2 41 8 X6 hx hby d11_39 rfl rfl ?_
  refine q_imul 42 X6 hx hby d11_41 rfl ?_
  show OEnds p e below s _ _ _ (T6.setTop (mkF m 42 #[(vr a), (vi 1)] [(.int 0), (.int ss), (.ref a)]))
  refine q_iadd 43 X6 hx hby d11_42 rfl ?_
  obtain ⟨T7, h7, X7, e7, W7, st7⟩ := putF X6 hx hZ hown (host := "") (Or.inl (tw61 hw)) Via.refl e6 (O0.fld 16 rfl rfl) O0.exa (Or.inl (tw62 hw)) (tw2 hw) (ty := .int) (by decide) rfl rfl (g := (mkF m 43 #[(vr a), (vi 1)] [(.int (ss + (0 : Int32))), (.ref a)])) rfl rfl (hb hby d11_43)
  have O7 : Obj Z h7 a "com/example/graphweft/graphweft/RangeMaxTree" sch_rt [(.ref b1), (.ref b2), (.ref b3), (.ref b4), (.ref b5), (.ref b6), (.ref b7), (.int sc), (.int sz), (.int nc), (.long bd), (.int ss), (.int bs), (.int 1), (.int pn), (.int se), (.int (ss + (0 : Int32))), (.int ta), (.int te)] := O0.set (so_sch_rt hw) W7 16 rfl (Nat.le_of_ble_eq_true rfl)
  have N7 := Fr.snoc X7 N0 g_a
  have Z7 := Nat.le_trans Z0 (Keep.of_wr W7).1
  have K7 := K0.wr W7 (wi 0 rfl)
  refine qat 46 #[(vr a), (vi 1)] [] st7 ?_
  refine qaN 47 X7 hx hby d11_46 rfl rfl ?_
  refine qaN 48 X7 hx hby d11_47 rfl rfl ?_
  refine qg 51 X7 hx hZ hown (tw61 hw) e7 (O7.fld 16 rfl rfl) hby d11_48 rfl fun T8 X8 e8 => ?_
  refine qc2 53 8 X8 hx hby d11_51 rfl rfl ?_
  refine q_iadd 54 X8 hx hby d11_53 rfl ?_
  obtain ⟨T9, h9, X9, e9, W9, st9⟩ := putF X8 hx hZ hown (host := "") (Or.inl (tw59 hw)) Via.refl e8 (O7.fld 15 rfl rfl) O7.exa (Or.inl (tw60 hw)) (tw2 hw) (ty := .int) (by decide) rfl rfl (g := (mkF m 54 #[(vr a), (vi 1)] [(.int ((ss + (0 : Int32)) + (8 : Int32))), (.ref a)])) rfl rfl (hb hby d11_54)
  have O9 : Obj Z h9 a "com/example/graphweft/graphweft/RangeMaxTree" sch_rt [(.ref b1), (.ref b2), (.ref b3), (.ref b4), (.ref b5), (.ref b6), (.ref b7), (.int sc), (.int sz), (.int nc), (.long bd), (.int ss), (.int bs), (.int 1), (.int pn), (.int ((ss + (0 : Int32)) + (8 : Int32))), (.int (ss + (0 : Int32))), (.int ta), (.int te)] := O7.set (so_sch_rt hw) W9 15 rfl (Nat.le_of_ble_eq_true rfl)
  have N9 := Fr.snoc X9 N7 g_a
  have Z9 := Nat.le_trans Z7 (Keep.of_wr W9).1
  have K9 := K7.wr W9 (wi 0 rfl)
  refine qat 57 #[(vr a), (vi 1)] [] st9 ?_
  refine q_goto 100 X9 hx hby d11_57 rfl ?_
  exact own_retV X9 hx hlk Bd.returns (hb hby d11_100) (by rw [e9]; exact ⟨rfl, N9, K9, O9⟩) (by decide) (by decide)
def Q_look2_0 (Z : State) (a : Addr) (b1 : Addr) (b2 : Addr) (b3 : Addr) (b4 : Addr) (b5 : Addr) (b6 : Addr) (b7 : Addr) (sc : Int32) (sz : Int32) (nc : Int32) (bd : Int64) (ss : Int32) (bs : Int32) (pn : Int32) (se : Int32) (sa : Int32) (ta : Int32) (te : Int32) (g2 : Nat → Int64) (h0 : Heap) (n0 : Nat) (r : Option Value) (h : Heap) (L : List Loc) : Prop := r = none ∧ Fr n0 L ∧ Keep h0 h []
set_option maxRecDepth 65536 in
set_option maxHeartbeats 40000000 in
theorem rm_look2_0 (l : Launch) (Z : State) (a0 : Array Value) (hw : ∀ d ∈ tables_1, d.before a0 Z = true) (ws : List Jvm.Cond) (a : Addr) (b1 : Addr) (b2 : Addr) (b3 : Addr) (b4 : Addr) (b5 : Addr) (b6 : Addr) (b7 : Addr) (sc : Int32) (sz : Int32) (nc : Int32) (bd : Int64) (ss : Int32) (bs : Int32) (pn : Int32) (se : Int32) (sa : Int32) (ta : Int32) (te : Int32) (g2 : Nat → Int64) (h0 : Heap) (n0 : Nat) (Z0 : n0 ≤ h0.size) (O0 : Obj Z h0 a "com/example/graphweft/graphweft/RangeMaxTree" sch_rt [(.ref b1), (.ref b2), (.ref b3), (.ref b4), (.ref b5), (.ref b6), (.ref b7), (.int sc), (.int sz), (.int nc), (.long bd), (.int ss), (.int bs), (.int 2), (.int pn), (.int se), (.int sa), (.int ta), (.int te)]) (F_b2 : FA Z h0 b2 .long 64 (fun i => .long (g2 i))) (hkb : 0 ≤ (bs + (2 : Int32)).toInt ∧ (bs + (2 : Int32)).toInt < 64) (hlok : (g2 ((bs + (2 : Int32)).toInt.toNat)) < bd) :
    MetFree l mn7 (head1 (Jvm.Cond.code mn7 prog_32_method_10_code 2 none :: ws) ({ frames := 0, cells := 0, slots := 0, locals := 0 } : Room)) (fun a_ U => a_ = #[(.ref a), (.int 2)] ∧ Z.Warmed39 U.vm ∧ U.heap = h0) (fun _ _ _ _ _ => True) (fun _ U o U' => ∃ v_ L_, o = .returned v_ ∧ Q_look2_0 Z a b1 b2 b3 b4 b5 b6 b7 sc sz nc bd ss bs pn se sa ta te g2 h0 n0 v_ U'.heap L_ ∧ FrameEnd U o U' L_ ({ frames := 0, cells := 0, slots := 0, locals := 0 } : Room).cells ({ frames := 0, cells := 0, slots := 0, locals := 0 } : Room).slots) := by
  refine MetFree.of_bodySF (plainFor_of_name pn_11) hisR ?_
  intro p e s m args below meth c s₁ Bd hml0 hP hK
  obtain ⟨rfl, hZ, hh⟩ := hP
  have hx := Bd.exec
  have hby := Bd.bytes
  have hlk : meth.locks = false := Bd.notSynchronized
  have hml : c.maxLocals = 2 := hml0
  have hown : s.vm.findClass "com/example/graphweft/graphweft/RangeMaxTree" = some m.cls := findClass_of_methodNamed Bd.named
  have hnm := (name_of_methodNamed Bd.named Bd.method).1
  have X0 : Stand p l e ({ frames := 0, cells := 0, slots := 0, locals := 0 } : Room) s m #[(.ref a), (.int 2)] below meth c s₁ [] 0 0 := Stand.of_body Bd
  have e0 : s₁.heap = h0 := by rw [← hh, Bd.state]; rfl
  have N0 := Fr.nil n0
  have K0 : Keep h0 h0 [] := Keep.refl _ _
  show OEnds p e below s (Q_look2_0 Z a b1 b2 b3 b4 b5 b6 b7 sc sz nc bd ss bs pn se sa ta te g2 h0 n0) _ _ _
  refine own_by (fun t k => castTop (ef_11 m a (2 : Int32)) k) ?_
  show OEnds p e below s _ _ _ (s₁.setTop (mkF m 0 #[(vr a), (vi 2)] []))
  refine qaN 1 X0 hx hby d11_0 rfl rfl ?_
  refine qg 4 X0 hx hZ hown (tw12 hw) e0 (O0.fld 1 rfl rfl) hby d11_1 rfl fun T1 X1 e1 => ?_
  refine qaN 5 X1 hx hby d11_4 rfl rfl ?_
  refine qg 8 X1 hx hZ hown (tw53 hw) e1 (O0.fld 12 rfl rfl) hby d11_5 rfl fun T2 X2 e2 => ?_
  refine qiN 9 X2 hx hby d11_8 rfl rfl ?_
  refine q_iadd 10 X2 hx hby d11_9 rfl ?_
  refine qJ 11 X2 hx hZ e2 F_b2 ((bs + (2 : Int32)).toInt.toNat) (by omega) (by omega) (v := (.long (g2 ((bs + (2 : Int32)).toInt.toNat)))) rfl hby d11_10 rfl ?_
  refine qaN 12 X2 hx hby d11_11 rfl rfl ?_
  refine qg 15 X2 hx hZ hown (tw49 hw) e2 (O0.fld 10 rfl rfl) hby d11_12 rfl fun T3 X3 e3 => ?_
  refine own_by (fun _ k => XS.lcmp X3.here hx rfl (hb hby d11_15) rfl k) ?_
  show OEnds p e below s _ _ _ (T3.setTop (mkF m 16 #[(vr a), (vi 2)] [(.int (lcmpW (g2 ((bs + (2 : Int32)).toInt.toNat)) bd))]))
  refine q_ifn 19 X3 hx hby d11_16 rfl ((if0 _ _).trans (tlt ((lw_lt _ _).mpr hlok)).2.1) ?_
  exact own_retV X3 hx hlk Bd.returns (hb hby d11_19) (by rw [e3]; exact ⟨rfl, N0, K0⟩) (by decide) (by decide)
def Q_look2_1 (Z : State) (a : Addr) (b1 : Addr) (b2 : Addr) (b3 : Addr) (b4 : Addr) (b5 : Addr) (b6 : Addr) (b7 : Addr) (sc : Int32) (sz : Int32) (nc : Int32) (bd : Int64) (ss : Int32) (bs : Int32) (pn : Int32) (se : Int32) (sa : Int32) (ta : Int32) (te : Int32) (g2 : Nat → Int64) (h0 : Heap) (n0 : Nat) (r : Option Value) (h : Heap) (L : List Loc) : Prop := r = none ∧ Fr n0 L ∧ Keep h0 h [a] ∧ Obj Z h a "com/example/graphweft/graphweft/RangeMaxTree" sch_rt [(.ref b1), (.ref b2), (.ref b3), (.ref b4), (.ref b5), (.ref b6), (.ref b7), (.int sc), (.int sz), (.int nc), (.long bd), (.int ss), (.int bs), (.int 2), (.int pn), (.int ((ss + (0 : Int32)) + (8 : Int32))), (.int (ss + (0 : Int32))), (.int ta), (.int te)]
set_option maxRecDepth 65536 in
set_option maxHeartbeats 40000000 in
theorem rm_look2_1 (l : Launch) (Z : State) (a0 : Array Value) (hw : ∀ d ∈ tables_1, d.before a0 Z = true) (ws : List Jvm.Cond) (a : Addr) (b1 : Addr) (b2 : Addr) (b3 : Addr) (b4 : Addr) (b5 : Addr) (b6 : Addr) (b7 : Addr) (sc : Int32) (sz : Int32) (nc : Int32) (bd : Int64) (ss : Int32) (bs : Int32) (pn : Int32) (se : Int32) (sa : Int32) (ta : Int32) (te : Int32) (g2 : Nat → Int64) (h0 : Heap) (n0 : Nat) (Z0 : n0 ≤ h0.size) (O0 : Obj Z h0 a "com/example/graphweft/graphweft/RangeMaxTree" sch_rt [(.ref b1), (.ref b2), (.ref b3), (.ref b4), (.ref b5), (.ref b6), (.ref b7), (.int sc), (.int sz), (.int nc), (.long bd), (.int ss), (.int bs), (.int 2), (.int pn), (.int se), (.int sa), (.int ta), (.int te)]) (F_b2 : FA Z h0 b2 .long 64 (fun i => .long (g2 i))) (g_a : n0 ≤ a) (hkb : 0 ≤ (bs + (2 : Int32)).toInt ∧ (bs + (2 : Int32)).toInt < 64) (hlok : ¬ (g2 ((bs + (2 : Int32)).toInt.toNat)) < bd) :
    MetFree l mn7 (head1 (Jvm.Cond.code mn7 prog_32_method_10_code 2 none :: ws) ({ frames := 0, cells := 0, slots := 0, locals := 0 } : Room)) (fun a_ U => a_ = #[(.ref a), (.int 2)] ∧ Z.Warmed39 U.vm ∧ U.heap = h0) (fun _ _ _ _ _ => True) (fun _ U o U' => ∃ v_ L_, o = .returned v_ ∧ Q_look2_1 Z a b1 b2 b3 b4 b5 b6 b7 sc sz nc bd ss bs pn se sa ta te g2 h0 n0 v_ U'.heap L_ ∧ FrameEnd U o U' L_ ({ frames := 0, cells := 0, slots := 0, locals := 0 } : Room).cells ({ frames := 0, cells := 0, slots := 0, locals := 0 } : Room).slots) := by
  refine MetFree.of_bodySF (plainFor_of_name pn_11) hisR ?_
  intro p e s m args below meth c s₁ Bd hml0 hP hK
  obtain ⟨rfl, hZ, hh⟩ := hP
  have hx := Bd.exec
  have hby := Bd.bytes
  have hlk : meth.locks = false := Bd.notSynchronized
  have hml : c.maxLocals = 2 := hml0
  have hown : s.vm.findClass "com/example/graphweft/graphweft/RangeMaxTree" = some m.cls := findClass_of_methodNamed Bd.named
  have hnm := (name_of_methodNamed Bd.named Bd.method).1
  have X0 : Stand p l e ({ frames := 0, cells := 0, slots := 0, locals := 0 } : Room) s m #[(.ref a), (.int 2)] below meth c s₁ [] 0 0 := Stand.of_body Bd
  have e0 : s₁.heap = h0 := by rw [← hh, Bd.state]; rfl
  have N0 := Fr.nil n0
  have K0 : Keep h0 h0 [a] := Keep.refl _ _
  show OEnds p e below s (Q_look2_1 Z a b1 b2 b3 b4 b5 b6 b7 sc sz nc bd ss bs pn se sa ta te g2 h0 n0) _ _ _
  refine own_by (fun t k => castTop (ef_11 m a (2 : Int32)) k) ?_
  show OEnds p e below s _ _ _ (s₁.setTop (mkF m 0 #[(vr a), (vi 2)] []))
  refine qaN 1 X0 hx hby d11_0 rfl rfl ?_
  refine qg 4 X0 hx hZ hown (tw12 hw) e0 (O0.fld 1 rfl rfl) hby d11_1 rfl fun T1 X1 e1 => ?_
  refine qaN 5 X1 hx hby d11_4 rfl rfl ?_
  refine qg 8 X1 hx hZ hown (tw53 hw) e1 (O0.fld 12 rfl rfl) hby d11_5 rfl fun T2 X2 e2 => ?_
  refine qiN 9 X2 hx hby d11_8 rfl rfl ?_
  refine q_iadd 10 X2 hx hby d11_9 rfl ?_
  refine qJ 11 X2 hx hZ e2 F_b2 ((bs + (2 : Int32)).toInt.toNat) (by omega) (by omega) (v := (.long (g2 ((bs + (2 : Int32)).toInt.toNat)))) rfl hby d11_10 rfl ?_
  refine qaN 12 X2 hx hby d11_11 rfl rfl ?_
  refine qg 15 X2 hx hZ hown (tw49 hw) e2 (O0.fld 10 rfl rfl) hby d11_12 rfl fun T3 X3 e3 => ?_
  refine own_by (fun _ k => XS.lcmp X3.here hx rfl (hb hby d11_15) rfl k) ?_
  show OEnds p e below s _ _ _ (T3.setTop (mkF m 16 #[(vr a), (vi 2)] [(.int (lcmpW (g2 ((bs + (2 : Int32)).toInt.toNat)) bd))]))
  refine q_ify 20 X3 hx hby d11_16 rfl ((if0 _ _).trans (flt (fun q => hlok ((lw_lt _ _).mp q))).2.1) ?_
  refine qiN 21 X3 hx hby d11_20 rfl rfl ?_
  refine qaN 22 X3 hx hby d11_21 rfl rfl ?_
  refine qg 25 X3 hx hZ hown (tw55 hw) e3 (O0.fld 13 rfl rfl) hby d11_22 rfl fun T4 X4 e4 => ?_
  refine q_cmn 28 X4 hx hby d11_25 rfl (flt (by decide : ¬ ((2 : Int32) < (2 : Int32)))).1 ?_
  refine qaN 29 X4 hx hby d11_28 rfl rfl ?_
  refine qaN 30 X4 hx hby d11_29 rfl rfl ?_
  refine qg 33 X4 hx hZ hown (tw51 hw) e4 (O0.fld 11 rfl rfl) hby d11_30 rfl fun T5 X5 e5 => ?_
  refine qiN 34 X5 hx hby d11_33 rfl rfl ?_
  refine qaN 35 X5 hx hby d11_34 rfl rfl ?_
  refine qg 38 X5 hx hZ hown (tw55 hw) e5 (O0.fld 13 rfl rfl) hby d11_35 rfl fun T6 X6 e6 => ?_
  refine q_isub 39 X6 hx hby d11_38 rfl ?_
  show OEnds p e below s _ _ _ (T6.setTop (mkF m 39 #[(vr a), (vi 2)] [(.int 0), (.int ss), (.ref a)]))
  refine qc2 41 8 X6 hx hby d11_39 rfl rfl ?_
  refine q_imul 42 X6 hx hby d11_41 rfl ?_
  show OEnds p e below s _ _ _ (T6.setTop (mkF m 42 #[(vr a), (vi 2)] [(.int 0), (.int ss), (.ref a)]))
  refine q_iadd 43 X6 hx hby d11_42 rfl ?_
  obtain ⟨T7, h7, X7, e7, W7, st7⟩ := putF X6 hx hZ hown (host := "") (Or.inl (tw61 hw)) Via.refl e6 (O0.fld 16 rfl rfl) O0.exa (Or.inl (tw62 hw)) (tw2 hw) (ty := .int) (by decide) rfl rfl (g := (mkF m 43 #[(vr a), (vi 2)] [(.int (ss + (0 : Int32))), (.ref a)])) rfl rfl (hb hby d11_43)
  have O7 : Obj Z h7 a "com/example/graphweft/graphweft/RangeMaxTree" sch_rt [(.ref b1), (.ref b2), (.ref b3), (.ref b4), (.ref b5), (.ref b6), (.ref b7), (.int sc), (.int sz), (.int nc), (.long bd), (.int ss), (.int bs), (.int 2), (.int pn), (.int se), (.int (ss + (0 : Int32))), (.int ta), (.int te)] := O0.set (so_sch_rt hw) W7 16 rfl (Nat.le_of_ble_eq_true rfl)
  have N7 := Fr.snoc X7 N0 g_a
  have Z7 := Nat.le_trans Z0 (Keep.of_wr W7).1
  have K7 := K0.wr W7 (wi 0 rfl)
  refine qat 46 #[(vr a), (vi 2)] [] st7 ?_
  refine qaN 47 X7 hx hby d11_46 rfl rfl ?_
  refine qaN 48 X7 hx hby d11_47 rfl rfl ?_
  refine qg 51 X7 hx hZ hown (tw61 hw) e7 (O7.fld 16 rfl rfl) hby d11_48 rfl fun T8 X8 e8 => ?_
  refine qc2 53 8 X8 hx hby d11_51 rfl rfl ?_
  refine q_iadd 54 X8 hx hby d11_53 rfl ?_
  obtain ⟨T9, h9, X9, e9, W9, st9⟩ := putF X8 hx hZ hown (host := "") (Or.inl (tw59 hw)) Via.refl e8 (O7.fld 15 rfl rfl) O7.exa (Or.inl (tw60 hw)) (tw2 hw) (ty := .int) (by decide) rfl rfl (g := (mkF m 54 #[(vr a), (vi 2)] [(.int ((ss + (0 : Int32)) + (8 : Int32))), (.ref a)])) rfl rfl (hb hby d11_54)
  have O9 : Obj Z h9 a "com/example/graphweft/graphweft/RangeMaxTree" sch_rt [(.ref b1), (.ref b2), (.ref b3), (.ref b4), (.ref b5), (.ref b6), (.ref b7), (.int sc), (.int sz), (.int nc), (.long bd), (.int ss), (.int bs), (.int 2), (.int pn), (.int ((ss + (0 : Int32)) + (8 : Int32))), (.int (ss + (0 : Int32))), (.int ta), (.int te)] := O7.set (so_sch_rt hw) W9 15 rfl (Nat.le_of_ble_eq_true rfl)
  have N9 := Fr.snoc X9 N7 g_a
  have Z9 := Nat.le_trans Z7 (Keep.of_wr W9).1
  have K9 := K7.wr W9 (wi 0 rfl)
  refine qat 57 #[(vr a), (vi 2)] [] st9 ?_
  refine q_goto 100 X9 hx hby d11_57 rfl ?_
  exact own_retV X9 hx hlk Bd.returns (hb hby d11_100) (by rw [e9]; exact ⟨rfl, N9, K9, O9⟩) (by decide) (by decide)
theorem d7_0 : decode prog_32_method_9_code 0 = .ok (.aload_n 0, 1) := by decide +kernel
theorem d7_1 : decode prog_32_method_9_code 1 = .ok (.getfield 51, 3) := by decide +kernel
theorem d7_4 : decode prog_32_method_9_code 4 = .ok (.aload_n 0, 1) := by decide +kernel
theorem d7_5 : decode prog_32_method_9_code 5 = .ok (.getfield 48, 3) := by decide +kernel
theorem d7_8 : decode prog_32_method_9_code 8 = .ok (.if_icmp .ge 34, 3) := by decide +kernel
theorem d7_11 : decode prog_32_method_9_code 11 = .ok (.aload_n 0, 1) := by decide +kernel
theorem d7_12 : decode prog_32_method_9_code 12 = .ok (.dup, 1) := by decide +kernel
theorem d7_13 : decode prog_32_method_9_code 13 = .ok (.getfield 51, 3) := by decide +kernel
theorem d7_16 : decode prog_32_method_9_code 16 = .ok (.dup_x1, 1) := by decide +kernel
theorem d7_17 : decode prog_32_method_9_code 17 = .ok (.iconst 1, 1) := by decide +kernel
theorem d7_18 : decode prog_32_method_9_code 18 = .ok (.iadd, 1) := by decide +kernel
theorem d7_19 : decode prog_32_method_9_code 19 = .ok (.putfield 51, 3) := by decide +kernel
theorem d7_22 : decode prog_32_method_9_code 22 = .ok (.istore_n 1, 1) := by decide +kernel
theorem d7_23 : decode prog_32_method_9_code 23 = .ok (.aload_n 0, 1) := by decide +kernel
theorem d7_24 : decode prog_32_method_9_code 24 = .ok (.getfield 7, 3) := by decide +kernel
theorem d7_27 : decode prog_32_method_9_code 27 = .ok (.iload_n 1, 1) := by decide +kernel
theorem d7_28 : decode prog_32_method_9_code 28 = .ok (.laload, 1) := by decide +kernel
theorem d7_29 : decode prog_32_method_9_code 29 = .ok (.aload_n 0, 1) := by decide +kernel
theorem d7_30 : decode prog_32_method_9_code 30 = .ok (.getfield 83, 3) := by decide +kernel
theorem d7_33 : decode prog_32_method_9_code 33 = .ok (.lcmp, 1) := by decide +kernel
theorem d7_34 : decode prog_32_method_9_code 34 = .ok (.ifCond .lt 5, 3) := by decide +kernel
theorem d7_37 : decode prog_32_method_9_code 37 = .ok (.iload_n 1, 1) := by decide +kernel
theorem d7_38 : decode prog_32_method_9_code 38 = .ok (.ireturn, 1) := by decide +kernel
theorem d7_39 : decode prog_32_method_9_code 39 = .ok (.goto (-39), 3) := by decide +kernel
theorem d7_42 : decode prog_32_method_9_code 42 = .ok (.aload_n 0, 1) := by decide +kernel
theorem d7_43 : decode prog_32_method_9_code 43 = .ok (.getfield 54, 3) := by decide +kernel
theorem d7_46 : decode prog_32_method_9_code 46 = .ok (.ifCond .le 26, 3) := by decide +kernel
theorem d7_72 : decode prog_32_method_9_code 72 = .ok (.aload_n 0, 1) := by decide +kernel
theorem d7_73 : decode prog_32_method_9_code 73 = .ok (.getfield 45, 3) := by decide +kernel
theorem d7_76 : decode prog_32_method_9_code 76 = .ok (.aload_n 0, 1) := by decide +kernel
theorem d7_77 : decode prog_32_method_9_code 77 = .ok (.getfield 42, 3) := by decide +kernel
theorem d7_80 : decode prog_32_method_9_code 80 = .ok (.if_icmp .ge 30, 3) := by decide +kernel
theorem d7_83 : decode prog_32_method_9_code 83 = .ok (.aload_n 0, 1) := by decide +kernel
theorem d7_84 : decode prog_32_method_9_code 84 = .ok (.aload_n 0, 1) := by decide +kernel
theorem d7_85 : decode prog_32_method_9_code 85 = .ok (.getfield 45, 3) := by decide +kernel
theorem d7_88 : decode prog_32_method_9_code 88 = .ok (.putfield 51, 3) := by decide +kernel
theorem d7_91 : decode prog_32_method_9_code 91 = .ok (.aload_n 0, 1) := by decide +kernel
theorem d7_92 : decode prog_32_method_9_code 92 = .ok (.aload_n 0, 1) := by decide +kernel
theorem d7_93 : decode prog_32_method_9_code 93 = .ok (.getfield 42, 3) := by decide +kernel
theorem d7_96 : decode prog_32_method_9_code 96 = .ok (.putfield 48, 3) := by decide +kernel
theorem d7_99 : decode prog_32_method_9_code 99 = .ok (.aload_n 0, 1) := by decide +kernel
theorem d7_100 : decode prog_32_method_9_code 100 = .ok (.aload_n 0, 1) := by decide +kernel
theorem d7_101 : decode prog_32_method_9_code 101 = .ok (.getfield 42, 3) := by decide +kernel
theorem d7_104 : decode prog_32_method_9_code 104 = .ok (.putfield 45, 3) := by decide +kernel
theorem d7_107 : decode prog_32_method_9_code 107 = .ok (.goto (-107), 3) := by decide +kernel
theorem d7_110 : decode prog_32_method_9_code 110 = .ok (.iconst (-1), 1) := by decide +kernel
theorem d7_111 : decode prog_32_method_9_code 111 = .ok (.ireturn, 1) := by decide +kernel
theorem pn_7 : plainName "com/example/graphweft/graphweft/RangeMaxTree" = true := by first | (simp [plainName, overriddenIn]; done) | decide +kernel
theorem ef_7 (m : MethodId) (x0 : Addr) : entryFrame m #[(.ref x0)] 2 = mkF m 0 #[.val (.ref x0), .unset] [] := by first | (simp [entryFrame, mkF, argsToLocals, Value.category]; done) | rfl
def Q_next (Z : State) (a : Addr) (b1 : Addr) (b2 : Addr) (b3 : Addr) (b4 : Addr) (b5 : Addr) (b6 : Addr) (b7 : Addr) (sc : Int32) (sz : Int32) (nc : Int32) (bd : Int64) (ss : Int32) (bs : Int32) (bc : Int32) (te : Int32) (g1 : Nat → Int64) (u : Nat) (CC : List Nat) (h0 : Heap) (n0 : Nat) (r : Option Value) (h : Heap) (L : List Loc) : Prop := ∃ rv : Int32, r = some (.int rv) ∧ Fr n0 L ∧ Keep h0 h [a] ∧ ∃ (sa se ta : Int32) (i e t : Nat) (rest : List Nat), sa.toInt = (i : Int) ∧ se.toInt = (e : Int) ∧ ta.toInt = (t : Int) ∧ i ≤ e ∧ e ≤ 64 ∧ t ≤ u ∧ cand g1 bd i e t u = rest ∧ Res CC rv rest ∧ Obj Z h a "com/example/graphweft/graphweft/RangeMaxTree" sch_rt [(.ref b1), (.ref b2), (.ref b3), (.ref b4), (.ref b5), (.ref b6), (.ref b7), (.int sc), (.int sz), (.int nc), (.long bd), (.int ss), (.int bs), (.int bc), (.int 0), (.int se), (.int sa), (.int ta), (.int te)]
set_option maxRecDepth 65536 in
set_option maxHeartbeats 40000000 in
theorem rm_nextS (l : Launch) (Z : State) (a0 : Array Value) (hw : ∀ d ∈ tables_1, d.before a0 Z = true) (ws : List Jvm.Cond) (a : Addr) (b1 : Addr) (b2 : Addr) (b3 : Addr) (b4 : Addr) (b5 : Addr) (b6 : Addr) (b7 : Addr) (sc : Int32) (sz : Int32) (nc : Int32) (bd : Int64) (ss : Int32) (bs : Int32) (bc : Int32) (se : Int32) (sa : Int32) (ta : Int32) (te : Int32) (g1 : Nat → Int64) (i : Nat) (e_ : Nat) (t : Nat) (u : Nat) (CC : List Nat) (h0 : Heap) (n0 : Nat) (Z0 : n0 ≤ h0.size) (O0 : Obj Z h0 a "com/example/graphweft/graphweft/RangeMaxTree" sch_rt [(.ref b1), (.ref b2), (.ref b3), (.ref b4), (.ref b5), (.ref b6), (.ref b7), (.int sc), (.int sz), (.int nc), (.long bd), (.int ss), (.int bs), (.int bc), (.int 0), (.int se), (.int sa), (.int ta), (.int te)]) (F_b1 : FA Z h0 b1 .long 64 (fun i => .long (g1 i))) (ga : n0 ≤ a) (hta : ta.toInt = (t : Int)) (hu : te.toInt = (u : Int)) (htu : t ≤ u) (hu64 : u ≤ 64) (hsa : sa.toInt = (i : Int)) (hse : se.toInt = (e_ : Int)) (hie : i ≤ e_) (he64 : e_ ≤ 64) (hcc : cand g1 bd i e_ t u = CC) :
    MetFree l mn8 (head1 (Jvm.Cond.code mn8 prog_32_method_9_code 2 (some .int) :: ws) ({ frames := 0, cells := 0, slots := 0, locals := 0 } : Room)) (fun a_ U => a_ = #[(.ref a)] ∧ Z.Warmed39 U.vm ∧ U.heap = h0) (fun _ _ _ _ _ => True) (fun _ U o U' => ∃ v_ L_, o = .returned v_ ∧ Q_next Z a b1 b2 b3 b4 b5 b6 b7 sc sz nc bd ss bs bc te g1 u CC h0 n0 v_ U'.heap L_ ∧ FrameEnd U o U' L_ ({ frames := 0, cells := 0, slots := 0, locals := 0 } : Room).cells ({ frames := 0, cells := 0, slots := 0, locals := 0 } : Room).slots) := by
  refine MetFree.of_bodySF (plainFor_of_name pn_7) hisR ?_
  intro p e s m args below meth c s₁ Bd hml0 hP hK
  obtain ⟨rfl, hZ, hh⟩ := hP
  have hx := Bd.exec
  have hby := Bd.bytes
  have hlk : meth.locks = false := Bd.notSynchronized
  have hml : c.maxLocals = 2 := hml0
  have hown : s.vm.findClass "com/example/graphweft/graphweft/RangeMaxTree" = some m.cls := findClass_of_methodNamed Bd.named
  have hnm := (name_of_methodNamed Bd.named Bd.method).1
  have X0 : Stand p l e ({ frames := 0, cells := 0, slots := 0, locals := 0 } : Room) s m #[(.ref a)] below meth c s₁ [] 0 0 := Stand.of_body Bd
  have e0 : s₁.heap = h0 := by rw [← hh, Bd.state]; rfl
  have N0 := Fr.nil n0
  have K0 : Keep h0 h0 [a] := Keep.refl _ _
  show OEnds p e below s (Q_next Z a b1 b2 b3 b4 b5 b6 b7 sc sz nc bd ss bs bc te g1 u CC h0 n0) _ _ _
  refine own_by (fun t k => castTop (ef_7 m a) k) ?_
  show OEnds p e below s _ _ _ (s₁.setTop (mkF m 0 #[(vr a), un] []))
  have lp : ∀ (dd : Nat) (T : State) (lo : List Loc) (d1 : Int32) (ca : Int32) (ce : Int32) (ct : Int32) (i : Nat) (e_ : Nat) (t : Nat) (h_lp : Heap) (Zz_lp : n0 ≤ h_lp.size) (X_lp : Stand p l e ({ frames := 0, cells := 0, slots := 0, locals := 0 } : Room) s m #[(.ref a)] below meth c T lo 0 0) (e_lp : T.heap = h_lp) (N_lp : Fr n0 lo) (Kp_lp : Keep h0 h_lp [a]) (Ob_lp_a : Obj Z h_lp a "com/example/graphweft/graphweft/RangeMaxTree" sch_rt [(.ref b1), (.ref b2), (.ref b3), (.ref b4), (.ref b5), (.ref b6), (.ref b7), (.int sc), (.int sz), (.int nc), (.long bd), (.int ss), (.int bs), (.int bc), (.int 0), (.int ce), (.int ca), (.int ct), (.int te)]) (Fa_lp_b1 : FA Z h_lp b1 .long 64 (fun i => .long (g1 i))) (hca : ca.toInt = (i : Int)) (hce : ce.toInt = (e_ : Int)) (hct : ct.toInt = (t : Int)) (hie : i ≤ e_) (he64 : e_ ≤ 64) (htu : t ≤ u) (hcc : cand g1 bd i e_ t u = CC) (hd : (e_ - i) + 2 * (u - t) ≤ dd), OEnds p e below s (Q_next Z a b1 b2 b3 b4 b5 b6 b7 sc sz nc bd ss bs bc te g1 u CC h0 n0) 0 0 (T.setTop (mkF m 0 #[(vr a), (vi d1)] [])) := by
    intro dd
    induction dd with
    | zero =>
      intro T lo d1 ca ce ct i e_ t h_lp Zz_lp X_lp e_lp N_lp Kp_lp Ob_lp_a Fa_lp_b1 hca hce hct hie he64 htu hcc hd
      show OEnds p e below s _ _ _ (T.setTop (mkF m 0 #[(vr a), (vi d1)] []))
      refine qaN 1 X_lp hx hby d7_0 rfl rfl ?_
      refine qg 4 X_lp hx hZ hown (tw61 hw) e_lp (Ob_lp_a.fld 16 rfl rfl) hby d7_1 rfl fun T1 X1 e1 => ?_
      refine qaN 5 X1 hx hby d7_4 rfl rfl ?_
      refine qg 8 X1 hx hZ hown (tw59 hw) e1 (Ob_lp_a.fld 15 rfl rfl) hby d7_5 rfl fun T2 X2 e2 => ?_
      refine q_cmy 42 X2 hx hby d7_8 rfl (flt (nlt_i hca hce (by omega))).2.1 ?_
      refine qaN 43 X2 hx hby d7_42 rfl rfl ?_
      refine qg 46 X2 hx hZ hown (tw57 hw) e2 (Ob_lp_a.fld 14 rfl rfl) hby d7_43 rfl fun T3 X3 e3 => ?_
      refine q_ify 72 X3 hx hby d7_46 rfl ((if0 _ _).trans (flt (by decide : ¬ ((0 : Int32) < (0 : Int32)))).2.2.2) ?_
      refine qaN 73 X3 hx hby d7_72 rfl rfl ?_
      refine qg 76 X3 hx hZ hown (tw63 hw) e3 (Ob_lp_a.fld 17 rfl rfl) hby d7_73 rfl fun T4 X4 e4 => ?_
      refine qaN 77 X4 hx hby d7_76 rfl rfl ?_
      refine qg 80 X4 hx hZ hown (tw65 hw) e4 (Ob_lp_a.fld 18 rfl rfl) hby d7_77 rfl fun T5 X5 e5 => ?_
      refine q_cmy 110 X5 hx hby d7_80 rfl (flt (nlt_i hct hu (by omega))).2.1 ?_
      refine qc1 111 (-1) X5 hx hby d7_110 rfl rfl ?_
      exact own_retI X5 hx hlk Bd.returns (hb hby d7_111) (by rw [e5]; exact ⟨_, rfl, N_lp, Kp_lp, _, _, _, i, e_, t, _, hca, hce, hct, hie, he64, htu, rfl, (Or.inl ⟨hcc.symm.trans (cand_end (by omega) (by omega)), rfl, cand_end (by omega) (by omega)⟩), Ob_lp_a⟩) (by decide) (by decide)
    | succ dd ih_lp =>
      intro T lo d1 ca ce ct i e_ t h_lp Zz_lp X_lp e_lp N_lp Kp_lp Ob_lp_a Fa_lp_b1 hca hce hct hie he64 htu hcc hd
      show OEnds p e below s _ _ _ (T.setTop (mkF m 0 #[(vr a), (vi d1)] []))
      refine qaN 1 X_lp hx hby d7_0 rfl rfl ?_
      refine qg 4 X_lp hx hZ hown (tw61 hw) e_lp (Ob_lp_a.fld 16 rfl rfl) hby d7_1 rfl fun T6 X6 e6 => ?_
      refine qaN 5 X6 hx hby d7_4 rfl rfl ?_
      refine qg 8 X6 hx hZ hown (tw59 hw) e6 (Ob_lp_a.fld 15 rfl rfl) hby d7_5 rfl fun T7 X7 e7 => ?_
      by_cases hc8_8 : ca < ce
      · refine q_cmn 11 X7 hx hby d7_8 rfl (tlt hc8_8).2.1 ?_
        refine qaN 12 X7 hx hby d7_11 rfl rfl ?_
        refine q_dup 13 X7 hx hby d7_12 rfl rfl ?_
        refine qg 16 X7 hx hZ hown (tw61 hw) e7 (Ob_lp_a.fld 16 rfl rfl) hby d7_13 rfl fun T9 X9 e9 => ?_
        refine own_by (fun _ k => XS.dupX1 X9.here hx rfl (hb hby d7_16) rfl rfl rfl k) ?_
        show OEnds p e below s _ _ _ (T9.setTop (mkF m 17 #[(vr a), (vi d1)] [(.int ca), (.ref a), (.int ca)]))
        refine qc1 18 1 X9 hx hby d7_17 rfl rfl ?_
        refine q_iadd 19 X9 hx hby d7_18 rfl ?_
        obtain ⟨T10, h10, X10, e10, W10, st10⟩ := putF X9 hx hZ hown (host := "") (Or.inl (tw61 hw)) Via.refl e9 (Ob_lp_a.fld 16 rfl rfl) Ob_lp_a.exa (Or.inl (tw62 hw)) (tw2 hw) (ty := .int) (by decide) rfl rfl (g := (mkF m 19 #[(vr a), (vi d1)] [(.int (ca + (1 : Int32))), (.ref a), (.int ca)])) rfl rfl (hb hby d7_19)
        have O10 : Obj Z h10 a "com/example/graphweft/graphweft/RangeMaxTree" sch_rt [(.ref b1), (.ref b2), (.ref b3), (.ref b4), (.ref b5), (.ref b6), (.ref b7), (.int sc), (.int sz), (.int nc), (.long bd), (.int ss), (.int bs), (.int bc), (.int 0), (.int ce), (.int (ca + (1 : Int32))), (.int ct), (.int te)] := Ob_lp_a.set (so_sch_rt hw) W10 16 rfl (Nat.le_of_ble_eq_true rfl)
        have N10 := Fr.snoc X10 N_lp ga
        have Z10 := Nat.le_trans Zz_lp (Keep.of_wr W10).1
        have K10 := Kp_lp.wr W10 (wi 0 rfl)
        refine qat 22 #[(vr a), (vi d1)] [(.int ca)] st10 ?_
        refine qsiN 23 #[(vr a), (vi ca)] X10 hx hby d7_22 rfl rfl ?_
        refine qaN 24 X10 hx hby d7_23 rfl rfl ?_
        refine qg 27 X10 hx hZ hown (tw10 hw) e10 (O10.fld 0 rfl rfl) hby d7_24 rfl fun T11 X11 e11 => ?_
        refine qiN 28 X11 hx hby d7_27 rfl rfl ?_
        have F12 := (Fa_lp_b1.other W10 (Ne.symm (Ob_lp_a.ne_fa (tw2 hw) Fa_lp_b1)))
        refine qJ 29 X11 hx hZ e11 F12 i hca (by have := lt_i hca hce hc8_8; omega) (v := (.long (g1 i))) rfl hby d7_28 rfl ?_
        refine qaN 30 X11 hx hby d7_29 rfl rfl ?_
        refine qg 33 X11 hx hZ hown (tw49 hw) e11 (O10.fld 10 rfl rfl) hby d7_30 rfl fun T13 X13 e13 => ?_
        refine own_by (fun _ k => XS.lcmp X13.here hx rfl (hb hby d7_33) rfl k) ?_
        show OEnds p e below s _ _ _ (T13.setTop (mkF m 34 #[(vr a), (vi ca)] [(.int (lcmpW (g1 i) bd))]))
        by_cases hc34_14 : (g1 i) < bd
        · refine q_ify 39 X13 hx hby d7_34 rfl ((if0 _ _).trans (tlt ((lw_lt _ _).mpr hc34_14)).1) ?_
          refine q_goto 0 X13 hx hby d7_39 rfl ?_
          have hlt := lt_i hca hce hc8_8
          exact ih_lp T13 _ ca (ca + (1 : Int32)) ce ct (i + 1) (e_) (t) h10 Z10 X13 e13 N10 K10 O10 F12 (inc_i hca (by omega)) hce hct hlt he64 htu ((cand_miss hlt hc34_14).symm.trans hcc) (by omega)
        · refine q_ifn 37 X13 hx hby d7_34 rfl ((if0 _ _).trans (flt (fun q => hc34_14 ((lw_lt _ _).mp q))).1) ?_
          refine qiN 38 X13 hx hby d7_37 rfl rfl ?_
          exact own_retI X13 hx hlk Bd.returns (hb hby d7_38) (by rw [e13]; exact ⟨_, rfl, N10, K10, _, _, _, (i + 1), e_, t, _, (inc_i hca (by omega)), hce, hct, (by have := lt_i hca hce hc8_8; omega), he64, htu, rfl, (Or.inr ⟨i, hcc.symm.trans (cand_hit (lt_i hca hce hc8_8) hc34_14), hca⟩), O10⟩) (by decide) (by decide)
      · refine q_cmy 42 X7 hx hby d7_8 rfl (flt hc8_8).2.1 ?_
        refine qaN 43 X7 hx hby d7_42 rfl rfl ?_
        refine qg 46 X7 hx hZ hown (tw57 hw) e7 (Ob_lp_a.fld 14 rfl rfl) hby d7_43 rfl fun T15 X15 e15 => ?_
        refine q_ify 72 X15 hx hby d7_46 rfl ((if0 _ _).trans (flt (by decide : ¬ ((0 : Int32) < (0 : Int32)))).2.2.2) ?_
        refine qaN 73 X15 hx hby d7_72 rfl rfl ?_
        refine qg 76 X15 hx hZ hown (tw63 hw) e15 (Ob_lp_a.fld 17 rfl rfl) hby d7_73 rfl fun T16 X16 e16 => ?_
        refine qaN 77 X16 hx hby d7_76 rfl rfl ?_
        refine qg 80 X16 hx hZ hown (tw65 hw) e16 (Ob_lp_a.fld 18 rfl rfl) hby d7_77 rfl fun T17 X17 e17 => ?_
        by_cases hc80_18 : ct < te
        · refine q_cmn 83 X17 hx hby d7_80 rfl (tlt hc80_18).2.1 ?_
          refine qaN 84 X17 hx hby d7_83 rfl rfl ?_
          refine qaN 85 X17 hx hby d7_84 rfl rfl ?_
          refine qg 88 X17 hx hZ hown (tw63 hw) e17 (Ob_lp_a.fld 17 rfl rfl) hby d7_85 rfl fun T19 X19 e19 => ?_
          obtain ⟨T20, h20, X20, e20, W20, st20⟩ := putF X19 hx hZ hown (host := "") (Or.inl (tw61 hw)) Via.refl e19 (Ob_lp_a.fld 16 rfl rfl) Ob_lp_a.exa (Or.inl (tw62 hw)) (tw2 hw) (ty := .int) (by decide) rfl rfl (g := (mkF m 88 #[(vr a), (vi d1)] [(.int ct), (.ref a)])) rfl rfl (hb hby d7_88)
          have O20 : Obj Z h20 a "com/example/graphweft/graphweft/RangeMaxTree" sch_rt [(.ref b1), (.ref b2), (.ref b3), (.ref b4), (.ref b5), (.ref b6), (.ref b7), (.int sc), (.int sz), (.int nc), (.long bd), (.int ss), (.int bs), (.int bc), (.int 0), (.int ce), (.int ct), (.int ct), (.int te)] := Ob_lp_a.set (so_sch_rt hw) W20 16 rfl (Nat.le_of_ble_eq_true rfl)
          have N20 := Fr.snoc X20 N_lp ga
          have Z20 := Nat.le_trans Zz_lp (Keep.of_wr W20).1
          have K20 := Kp_lp.wr W20 (wi 0 rfl)
          refine qat 91 #[(vr a), (vi d1)] [] st20 ?_
          refine qaN 92 X20 hx hby d7_91 rfl rfl ?_
          refine qaN 93 X20 hx hby d7_92 rfl rfl ?_
          refine qg 96 X20 hx hZ hown (tw65 hw) e20 (O20.fld 18 rfl rfl) hby d7_93 rfl fun T21 X21 e21 => ?_
          have F23 := (Fa_lp_b1.other W20 (Ne.symm (Ob_lp_a.ne_fa (tw2 hw) Fa_lp_b1)))
          obtain ⟨T22, h22, X22, e22, W22, st22⟩ := putF X21 hx hZ hown (host := "") (Or.inl (tw59 hw)) Via.refl e21 (O20.fld 15 rfl rfl) O20.exa (Or.inl (tw60 hw)) (tw2 hw) (ty := .int) (by decide) rfl rfl (g := (mkF m 96 #[(vr a), (vi d1)] [(.int te), (.ref a)])) rfl rfl (hb hby d7_96)
          have O22 : Obj Z h22 a "com/example/graphweft/graphweft/RangeMaxTree" sch_rt [(.ref b1), (.ref b2), (.ref b3), (.ref b4), (.ref b5), (.ref b6), (.ref b7), (.int sc), (.int sz), (.int nc), (.long bd), (.int ss), (.int bs), (.int bc), (.int 0), (.int te), (.int ct), (.int ct), (.int te)] := O20.set (so_sch_rt hw) W22 15 rfl (Nat.le_of_ble_eq_true rfl)
          have N22 := Fr.snoc X22 N20 ga
          have Z22 := Nat.le_trans Z20 (Keep.of_wr W22).1
          have K22 := K20.wr W22 (wi 0 rfl)
          refine qat 99 #[(vr a), (vi d1)] [] st22 ?_
          refine qaN 100 X22 hx hby d7_99 rfl rfl ?_
          refine qaN 101 X22 hx hby d7_100 rfl rfl ?_
          refine qg 104 X22 hx hZ hown (tw65 hw) e22 (O22.fld 18 rfl rfl) hby d7_101 rfl fun T24 X24 e24 => ?_
          have F26 := (F23.other W22 (Ne.symm (O20.ne_fa (tw2 hw) F23)))
          obtain ⟨T25, h25, X25, e25, W25, st25⟩ := putF X24 hx hZ hown (host := "") (Or.inl (tw63 hw)) Via.refl e24 (O22.fld 17 rfl rfl) O22.exa (Or.inl (tw64 hw)) (tw2 hw) (ty := .int) (by decide) rfl rfl (g := (mkF m 104 #[(vr a), (vi d1)] [(.int te), (.ref a)])) rfl rfl (hb hby d7_104)
          have O25 : Obj Z h25 a "com/example/graphweft/graphweft/RangeMaxTree" sch_rt [(.ref b1), (.ref b2), (.ref b3), (.ref b4), (.ref b5), (.ref b6), (.ref b7), (.int sc), (.int sz), (.int nc), (.long bd), (.int ss), (.int bs), (.int bc), (.int 0), (.int te), (.int ct), (.int te), (.int te)] := O22.set (so_sch_rt hw) W25 17 rfl (Nat.le_of_ble_eq_true rfl)
          have N25 := Fr.snoc X25 N22 ga
          have Z25 := Nat.le_trans Z22 (Keep.of_wr W25).1
          have K25 := K22.wr W25 (wi 0 rfl)
          refine qat 107 #[(vr a), (vi d1)] [] st25 ?_
          refine q_goto 0 X25 hx hby d7_107 rfl ?_
          have hge := ge_i hca hce hc8_8
          have hlt := lt_i hct hu hc80_18
          have F27 := (F26.other W25 (Ne.symm (O22.ne_fa (tw2 hw) F26)))
          exact ih_lp T25 _ d1 ct te te (t) (u) (u) h25 Z25 X25 e25 N25 K25 O25 F27 hct hu hu htu hu64 (Nat.le_refl u) ((cand_tail hge).symm.trans hcc) (by omega)
        · refine q_cmy 110 X17 hx hby d7_80 rfl (flt hc80_18).2.1 ?_
          refine qc1 111 (-1) X17 hx hby d7_110 rfl rfl ?_
          exact own_retI X17 hx hlk Bd.returns (hb hby d7_111) (by rw [e17]; exact ⟨_, rfl, N_lp, Kp_lp, _, _, _, i, e_, t, _, hca, hce, hct, hie, he64, htu, rfl, (Or.inl ⟨hcc.symm.trans (cand_end (ge_i hca hce hc8_8) (ge_i hct hu hc80_18)), rfl, cand_end (ge_i hca hce hc8_8) (ge_i hct hu hc80_18)⟩), Ob_lp_a⟩) (by decide) (by decide)
  have lq : ∀ (T : State) (lo : List Loc) (ca : Int32) (ce : Int32) (ct : Int32) (i : Nat) (e_ : Nat) (t : Nat) (h_lq : Heap) (Zz_lq : n0 ≤ h_lq.size) (X_lq : Stand p l e ({ frames := 0, cells := 0, slots := 0, locals := 0 } : Room) s m #[(.ref a)] below meth c T lo 0 0) (e_lq : T.heap = h_lq) (N_lq : Fr n0 lo) (Kp_lq : Keep h0 h_lq [a]) (Ob_lq_a : Obj Z h_lq a "com/example/graphweft/graphweft/RangeMaxTree" sch_rt [(.ref b1), (.ref b2), (.ref b3), (.ref b4), (.ref b5), (.ref b6), (.ref b7), (.int sc), (.int sz), (.int nc), (.long bd), (.int ss), (.int bs), (.int bc), (.int 0), (.int ce), (.int ca), (.int ct), (.int te)]) (Fa_lq_b1 : FA Z h_lq b1 .long 64 (fun i => .long (g1 i))) (hca : ca.toInt = (i : Int)) (hce : ce.toInt = (e_ : Int)) (hct : ct.toInt = (t : Int)) (hie : i ≤ e_) (he64 : e_ ≤ 64) (htu : t ≤ u) (hcc : cand g1 bd i e_ t u = CC) (htt : u ≤ t), OEnds p e below s (Q_next Z a b1 b2 b3 b4 b5 b6 b7 sc sz nc bd ss bs bc te g1 u CC h0 n0) 0 0 (T.setTop (mkF m 0 #[(vr a), un] [])) := by
    intro T lo ca ce ct i e_ t h_lq Zz_lq X_lq e_lq N_lq Kp_lq Ob_lq_a Fa_lq_b1 hca hce hct hie he64 htu hcc htt
    show OEnds p e below s _ _ _ (T.setTop (mkF m 0 #[(vr a), un] []))
    refine qaN 1 X_lq hx hby d7_0 rfl rfl ?_
    refine qg 4 X_lq hx hZ hown (tw61 hw) e_lq (Ob_lq_a.fld 16 rfl rfl) hby d7_1 rfl fun T28 X28 e28 => ?_
    refine qaN 5 X28 hx hby d7_4 rfl rfl ?_
    refine qg 8 X28 hx hZ hown (tw59 hw) e28 (Ob_lq_a.fld 15 rfl rfl) hby d7_5 rfl fun T29 X29 e29 => ?_
    by_cases hc8_30 : ca < ce
    · refine q_cmn 11 X29 hx hby d7_8 rfl (tlt hc8_30).2.1 ?_
      refine qaN 12 X29 hx hby d7_11 rfl rfl ?_
      refine q_dup 13 X29 hx hby d7_12 rfl rfl ?_
      refine qg 16 X29 hx hZ hown (tw61 hw) e29 (Ob_lq_a.fld 16 rfl rfl) hby d7_13 rfl fun T31 X31 e31 => ?_
      refine own_by (fun _ k => XS.dupX1 X31.here hx rfl (hb hby d7_16) rfl rfl rfl k) ?_
      show OEnds p e below s _ _ _ (T31.setTop (mkF m 17 #[(vr a), un] [(.int ca), (.ref a), (.int ca)]))
      refine qc1 18 1 X31 hx hby d7_17 rfl rfl ?_
      refine q_iadd 19 X31 hx hby d7_18 rfl ?_
      obtain ⟨T32, h32, X32, e32, W32, st32⟩ := putF X31 hx hZ hown (host := "") (Or.inl (tw61 hw)) Via.refl e31 (Ob_lq_a.fld 16 rfl rfl) Ob_lq_a.exa (Or.inl (tw62 hw)) (tw2 hw) (ty := .int) (by decide) rfl rfl (g := (mkF m 19 #[(vr a), un] [(.int (ca + (1 : Int32))), (.ref a), (.int ca)])) rfl rfl (hb hby d7_19)
      have O32 : Obj Z h32 a "com/example/graphweft/graphweft/RangeMaxTree" sch_rt [(.ref b1), (.ref b2), (.ref b3), (.ref b4), (.ref b5), (.ref b6), (.ref b7), (.int sc), (.int sz), (.int nc), (.long bd), (.int ss), (.int bs), (.int bc), (.int 0), (.int ce), (.int (ca + (1 : Int32))), (.int ct), (.int te)] := Ob_lq_a.set (so_sch_rt hw) W32 16 rfl (Nat.le_of_ble_eq_true rfl)
      have N32 := Fr.snoc X32 N_lq ga
      have Z32 := Nat.le_trans Zz_lq (Keep.of_wr W32).1
      have K32 := Kp_lq.wr W32 (wi 0 rfl)
      refine qat 22 #[(vr a), un] [(.int ca)] st32 ?_
      refine qsiN 23 #[(vr a), (vi ca)] X32 hx hby d7_22 rfl rfl ?_
      refine qaN 24 X32 hx hby d7_23 rfl rfl ?_
      refine qg 27 X32 hx hZ hown (tw10 hw) e32 (O32.fld 0 rfl rfl) hby d7_24 rfl fun T33 X33 e33 => ?_
      refine qiN 28 X33 hx hby d7_27 rfl rfl ?_
      have F34 := (Fa_lq_b1.other W32 (Ne.symm (Ob_lq_a.ne_fa (tw2 hw) Fa_lq_b1)))
      refine qJ 29 X33 hx hZ e33 F34 i hca (by have := lt_i hca hce hc8_30; omega) (v := (.long (g1 i))) rfl hby d7_28 rfl ?_
      refine qaN 30 X33 hx hby d7_29 rfl rfl ?_
      refine qg 33 X33 hx hZ hown (tw49 hw) e33 (O32.fld 10 rfl rfl) hby d7_30 rfl fun T35 X35 e35 => ?_
      refine own_by (fun _ k => XS.lcmp X35.here hx rfl (hb hby d7_33) rfl k) ?_
      show OEnds p e below s _ _ _ (T35.setTop (mkF m 34 #[(vr a), (vi ca)] [(.int (lcmpW (g1 i) bd))]))
      by_cases hc34_36 : (g1 i) < bd
      · refine q_ify 39 X35 hx hby d7_34 rfl ((if0 _ _).trans (tlt ((lw_lt _ _).mpr hc34_36)).1) ?_
        refine q_goto 0 X35 hx hby d7_39 rfl ?_
        have hlt := lt_i hca hce hc8_30
        exact lp 300 T35 _ ca (ca + (1 : Int32)) ce ct (i + 1) (e_) (t) h32 Z32 X35 e35 N32 K32 O32 F34 (inc_i hca (by omega)) hce hct hlt he64 htu ((cand_miss hlt hc34_36).symm.trans hcc) (by omega)
      · refine q_ifn 37 X35 hx hby d7_34 rfl ((if0 _ _).trans (flt (fun q => hc34_36 ((lw_lt _ _).mp q))).1) ?_
        refine qiN 38 X35 hx hby d7_37 rfl rfl ?_
        exact own_retI X35 hx hlk Bd.returns (hb hby d7_38) (by rw [e35]; exact ⟨_, rfl, N32, K32, _, _, _, (i + 1), e_, t, _, (inc_i hca (by omega)), hce, hct, (by have := lt_i hca hce hc8_30; omega), he64, htu, rfl, (Or.inr ⟨i, hcc.symm.trans (cand_hit (lt_i hca hce hc8_30) hc34_36), hca⟩), O32⟩) (by decide) (by decide)
    · refine q_cmy 42 X29 hx hby d7_8 rfl (flt hc8_30).2.1 ?_
      refine qaN 43 X29 hx hby d7_42 rfl rfl ?_
      refine qg 46 X29 hx hZ hown (tw57 hw) e29 (Ob_lq_a.fld 14 rfl rfl) hby d7_43 rfl fun T37 X37 e37 => ?_
      refine q_ify 72 X37 hx hby d7_46 rfl ((if0 _ _).trans (flt (by decide : ¬ ((0 : Int32) < (0 : Int32)))).2.2.2) ?_
      refine qaN 73 X37 hx hby d7_72 rfl rfl ?_
      refine qg 76 X37 hx hZ hown (tw63 hw) e37 (Ob_lq_a.fld 17 rfl rfl) hby d7_73 rfl fun T38 X38 e38 => ?_
      refine qaN 77 X38 hx hby d7_76 rfl rfl ?_
      refine qg 80 X38 hx hZ hown (tw65 hw) e38 (Ob_lq_a.fld 18 rfl rfl) hby d7_77 rfl fun T39 X39 e39 => ?_
      refine q_cmy 110 X39 hx hby d7_80 rfl (flt (nlt_i hct hu htt)).2.1 ?_
      refine qc1 111 (-1) X39 hx hby d7_110 rfl rfl ?_
      exact own_retI X39 hx hlk Bd.returns (hb hby d7_111) (by rw [e39]; exact ⟨_, rfl, N_lq, Kp_lq, _, _, _, i, e_, t, _, hca, hce, hct, hie, he64, htu, rfl, (Or.inl ⟨hcc.symm.trans (cand_end (ge_i hca hce hc8_30) htt), rfl, cand_end (ge_i hca hce hc8_30) htt⟩), Ob_lq_a⟩) (by decide) (by decide)
  have lr : ∀ (T : State) (lo : List Loc) (ca : Int32) (ce : Int32) (ct : Int32) (i : Nat) (e_ : Nat) (t : Nat) (h_lr : Heap) (Zz_lr : n0 ≤ h_lr.size) (X_lr : Stand p l e ({ frames := 0, cells := 0, slots := 0, locals := 0 } : Room) s m #[(.ref a)] below meth c T lo 0 0) (e_lr : T.heap = h_lr) (N_lr : Fr n0 lo) (Kp_lr : Keep h0 h_lr [a]) (Ob_lr_a : Obj Z h_lr a "com/example/graphweft/graphweft/RangeMaxTree" sch_rt [(.ref b1), (.ref b2), (.ref b3), (.ref b4), (.ref b5), (.ref b6), (.ref b7), (.int sc), (.int sz), (.int nc), (.long bd), (.int ss), (.int bs), (.int bc), (.int 0), (.int ce), (.int ca), (.int ct), (.int te)]) (Fa_lr_b1 : FA Z h_lr b1 .long 64 (fun i => .long (g1 i))) (hca : ca.toInt = (i : Int)) (hce : ce.toInt = (e_ : Int)) (hct : ct.toInt = (t : Int)) (hie : i ≤ e_) (he64 : e_ ≤ 64) (htu : t ≤ u) (hcc : cand g1 bd i e_ t u = CC), OEnds p e below s (Q_next Z a b1 b2 b3 b4 b5 b6 b7 sc sz nc bd ss bs bc te g1 u CC h0 n0) 0 0 (T.setTop (mkF m 0 #[(vr a), un] [])) := by
    intro T lo ca ce ct i e_ t h_lr Zz_lr X_lr e_lr N_lr Kp_lr Ob_lr_a Fa_lr_b1 hca hce hct hie he64 htu hcc
    show OEnds p e below s _ _ _ (T.setTop (mkF m 0 #[(vr a), un] []))
    refine qaN 1 X_lr hx hby d7_0 rfl rfl ?_
    refine qg 4 X_lr hx hZ hown (tw61 hw) e_lr (Ob_lr_a.fld 16 rfl rfl) hby d7_1 rfl fun T40 X40 e40 => ?_
    refine qaN 5 X40 hx hby d7_4 rfl rfl ?_
    refine qg 8 X40 hx hZ hown (tw59 hw) e40 (Ob_lr_a.fld 15 rfl rfl) hby d7_5 rfl fun T41 X41 e41 => ?_
    by_cases hc8_42 : ca < ce
    · refine q_cmn 11 X41 hx hby d7_8 rfl (tlt hc8_42).2.1 ?_
      refine qaN 12 X41 hx hby d7_11 rfl rfl ?_
      refine q_dup 13 X41 hx hby d7_12 rfl rfl ?_
      refine qg 16 X41 hx hZ hown (tw61 hw) e41 (Ob_lr_a.fld 16 rfl rfl) hby d7_13 rfl fun T43 X43 e43 => ?_
      refine own_by (fun _ k => XS.dupX1 X43.here hx rfl (hb hby d7_16) rfl rfl rfl k) ?_
      show OEnds p e below s _ _ _ (T43.setTop (mkF m 17 #[(vr a), un] [(.int ca), (.ref a), (.int ca)]))
      refine qc1 18 1 X43 hx hby d7_17 rfl rfl ?_
      refine q_iadd 19 X43 hx hby d7_18 rfl ?_
      obtain ⟨T44, h44, X44, e44, W44, st44⟩ := putF X43 hx hZ hown (host := "") (Or.inl (tw61 hw)) Via.refl e43 (Ob_lr_a.fld 16 rfl rfl) Ob_lr_a.exa (Or.inl (tw62 hw)) (tw2 hw) (ty := .int) (by decide) rfl rfl (g := (mkF m 19 #[(vr a), un] [(.int (ca + (1 : Int32))), (.ref a), (.int ca)])) rfl rfl (hb hby d7_19)
      have O44 : Obj Z h44 a "com/example/graphweft/graphweft/RangeMaxTree" sch_rt [(.ref b1), (.ref b2), (.ref b3), (.ref b4), (.ref b5), (.ref b6), (.ref b7), (.int sc), (.int sz), (.int nc), (.long bd), (.int ss), (.int bs), (.int bc), (.int 0), (.int ce), (.int (ca + (1 : Int32))), (.int ct), (.int te)] := Ob_lr_a.set (so_sch_rt hw) W44 16 rfl (Nat.le_of_ble_eq_true rfl)
      have N44 := Fr.snoc X44 N_lr ga
      have Z44 := Nat.le_trans Zz_lr (Keep.of_wr W44).1
      have K44 := Kp_lr.wr W44 (wi 0 rfl)
      refine qat 22 #[(vr a), un] [(.int ca)] st44 ?_
      refine qsiN 23 #[(vr a), (vi ca)] X44 hx hby d7_22 rfl rfl ?_
      refine qaN 24 X44 hx hby d7_23 rfl rfl ?_
      refine qg 27 X44 hx hZ hown (tw10 hw) e44 (O44.fld 0 rfl rfl) hby d7_24 rfl fun T45 X45 e45 => ?_
      refine qiN 28 X45 hx hby d7_27 rfl rfl ?_
      have F46 := (Fa_lr_b1.other W44 (Ne.symm (Ob_lr_a.ne_fa (tw2 hw) Fa_lr_b1)))
      refine qJ 29 X45 hx hZ e45 F46 i hca (by have := lt_i hca hce hc8_42; omega) (v := (.long (g1 i))) rfl hby d7_28 rfl ?_
      refine qaN 30 X45 hx hby d7_29 rfl rfl ?_
      refine qg 33 X45 hx hZ hown (tw49 hw) e45 (O44.fld 10 rfl rfl) hby d7_30 rfl fun T47 X47 e47 => ?_
      refine own_by (fun _ k => XS.lcmp X47.here hx rfl (hb hby d7_33) rfl k) ?_
      show OEnds p e below s _ _ _ (T47.setTop (mkF m 34 #[(vr a), (vi ca)] [(.int (lcmpW (g1 i) bd))]))
      by_cases hc34_48 : (g1 i) < bd
      · refine q_ify 39 X47 hx hby d7_34 rfl ((if0 _ _).trans (tlt ((lw_lt _ _).mpr hc34_48)).1) ?_
        refine q_goto 0 X47 hx hby d7_39 rfl ?_
        have hlt := lt_i hca hce hc8_42
        exact lp 300 T47 _ ca (ca + (1 : Int32)) ce ct (i + 1) (e_) (t) h44 Z44 X47 e47 N44 K44 O44 F46 (inc_i hca (by omega)) hce hct hlt he64 htu ((cand_miss hlt hc34_48).symm.trans hcc) (by omega)
      · refine q_ifn 37 X47 hx hby d7_34 rfl ((if0 _ _).trans (flt (fun q => hc34_48 ((lw_lt _ _).mp q))).1) ?_
        refine qiN 38 X47 hx hby d7_37 rfl rfl ?_
        exact own_retI X47 hx hlk Bd.returns (hb hby d7_38) (by rw [e47]; exact ⟨_, rfl, N44, K44, _, _, _, (i + 1), e_, t, _, (inc_i hca (by omega)), hce, hct, (by have := lt_i hca hce hc8_42; omega), he64, htu, rfl, (Or.inr ⟨i, hcc.symm.trans (cand_hit (lt_i hca hce hc8_42) hc34_48), hca⟩), O44⟩) (by decide) (by decide)
    · refine q_cmy 42 X41 hx hby d7_8 rfl (flt hc8_42).2.1 ?_
      refine qaN 43 X41 hx hby d7_42 rfl rfl ?_
      refine qg 46 X41 hx hZ hown (tw57 hw) e41 (Ob_lr_a.fld 14 rfl rfl) hby d7_43 rfl fun T49 X49 e49 => ?_
      refine q_ify 72 X49 hx hby d7_46 rfl ((if0 _ _).trans (flt (by decide : ¬ ((0 : Int32) < (0 : Int32)))).2.2.2) ?_
      refine qaN 73 X49 hx hby d7_72 rfl rfl ?_
      refine qg 76 X49 hx hZ hown (tw63 hw) e49 (Ob_lr_a.fld 17 rfl rfl) hby d7_73 rfl fun T50 X50 e50 => ?_
      refine qaN 77 X50 hx hby d7_76 rfl rfl ?_
      refine qg 80 X50 hx hZ hown (tw65 hw) e50 (Ob_lr_a.fld 18 rfl rfl) hby d7_77 rfl fun T51 X51 e51 => ?_
      by_cases hc80_52 : ct < te
      · refine q_cmn 83 X51 hx hby d7_80 rfl (tlt hc80_52).2.1 ?_
        refine qaN 84 X51 hx hby d7_83 rfl rfl ?_
        refine qaN 85 X51 hx hby d7_84 rfl rfl ?_
        refine qg 88 X51 hx hZ hown (tw63 hw) e51 (Ob_lr_a.fld 17 rfl rfl) hby d7_85 rfl fun T53 X53 e53 => ?_
        obtain ⟨T54, h54, X54, e54, W54, st54⟩ := putF X53 hx hZ hown (host := "") (Or.inl (tw61 hw)) Via.refl e53 (Ob_lr_a.fld 16 rfl rfl) Ob_lr_a.exa (Or.inl (tw62 hw)) (tw2 hw) (ty := .int) (by decide) rfl rfl (g := (mkF m 88 #[(vr a), un] [(.int ct), (.ref a)])) rfl rfl (hb hby d7_88)
        have O54 : Obj Z h54 a "com/example/graphweft/graphweft/RangeMaxTree" sch_rt [(.ref b1), (.ref b2), (.ref b3), (.ref b4), (.ref b5), (.ref b6), (.ref b7), (.int sc), (.int sz), (.int nc), (.long bd), (.int ss), (.int bs), (.int bc), (.int 0), (.int ce), (.int ct), (.int ct), (.int te)] := Ob_lr_a.set (so_sch_rt hw) W54 16 rfl (Nat.le_of_ble_eq_true rfl)
        have N54 := Fr.snoc X54 N_lr ga
        have Z54 := Nat.le_trans Zz_lr (Keep.of_wr W54).1
        have K54 := Kp_lr.wr W54 (wi 0 rfl)
        refine qat 91 #[(vr a), un] [] st54 ?_
        refine qaN 92 X54 hx hby d7_91 rfl rfl ?_
        refine qaN 93 X54 hx hby d7_92 rfl rfl ?_
        refine qg 96 X54 hx hZ hown (tw65 hw) e54 (O54.fld 18 rfl rfl) hby d7_93 rfl fun T55 X55 e55 => ?_
        have F57 := (Fa_lr_b1.other W54 (Ne.symm (Ob_lr_a.ne_fa (tw2 hw) Fa_lr_b1)))
        obtain ⟨T56, h56, X56, e56, W56, st56⟩ := putF X55 hx hZ hown (host := "") (Or.inl (tw59 hw)) Via.refl e55 (O54.fld 15 rfl rfl) O54.exa (Or.inl (tw60 hw)) (tw2 hw) (ty := .int) (by decide) rfl rfl (g := (mkF m 96 #[(vr a), un] [(.int te), (.ref a)])) rfl rfl (hb hby d7_96)
        have O56 : Obj Z h56 a "com/example/graphweft/graphweft/RangeMaxTree" sch_rt [(.ref b1), (.ref b2), (.ref b3), (.ref b4), (.ref b5), (.ref b6), (.ref b7), (.int sc), (.int sz), (.int nc), (.long bd), (.int ss), (.int bs), (.int bc), (.int 0), (.int te), (.int ct), (.int ct), (.int te)] := O54.set (so_sch_rt hw) W56 15 rfl (Nat.le_of_ble_eq_true rfl)
        have N56 := Fr.snoc X56 N54 ga
        have Z56 := Nat.le_trans Z54 (Keep.of_wr W56).1
        have K56 := K54.wr W56 (wi 0 rfl)
        refine qat 99 #[(vr a), un] [] st56 ?_
        refine qaN 100 X56 hx hby d7_99 rfl rfl ?_
        refine qaN 101 X56 hx hby d7_100 rfl rfl ?_
        refine qg 104 X56 hx hZ hown (tw65 hw) e56 (O56.fld 18 rfl rfl) hby d7_101 rfl fun T58 X58 e58 => ?_
        have F60 := (F57.other W56 (Ne.symm (O54.ne_fa (tw2 hw) F57)))
        obtain ⟨T59, h59, X59, e59, W59, st59⟩ := putF X58 hx hZ hown (host := "") (Or.inl (tw63 hw)) Via.refl e58 (O56.fld 17 rfl rfl) O56.exa (Or.inl (tw64 hw)) (tw2 hw) (ty := .int) (by decide) rfl rfl (g := (mkF m 104 #[(vr a), un] [(.int te), (.ref a)])) rfl rfl (hb hby d7_104)
        have O59 : Obj Z h59 a "com/example/graphweft/graphweft/RangeMaxTree" sch_rt [(.ref b1), (.ref b2), (.ref b3), (.ref b4), (.ref b5), (.ref b6), (.ref b7), (.int sc), (.int sz), (.int nc), (.long bd), (.int ss), (.int bs), (.int bc), (.int 0), (.int te), (.int ct), (.int te), (.int te)] := O56.set (so_sch_rt hw) W59 17 rfl (Nat.le_of_ble_eq_true rfl)
        have N59 := Fr.snoc X59 N56 ga
        have Z59 := Nat.le_trans Z56 (Keep.of_wr W59).1
        have K59 := K56.wr W59 (wi 0 rfl)
        refine qat 107 #[(vr a), un] [] st59 ?_
        refine q_goto 0 X59 hx hby d7_107 rfl ?_
        have hge := ge_i hca hce hc8_42
        have hlt := lt_i hct hu hc80_52
        have F61 := (F60.other W59 (Ne.symm (O56.ne_fa (tw2 hw) F60)))
        exact lq T59 _ ct te te (t) (u) (u) h59 Z59 X59 e59 N59 K59 O59 F61 hct hu hu htu hu64 (Nat.le_refl u) ((cand_tail hge).symm.trans hcc) (Nat.le_refl u)
      · refine q_cmy 110 X51 hx hby d7_80 rfl (flt hc80_52).2.1 ?_
        refine qc1 111 (-1) X51 hx hby d7_110 rfl rfl ?_
        exact own_retI X51 hx hlk Bd.returns (hb hby d7_111) (by rw [e51]; exact ⟨_, rfl, N_lr, Kp_lr, _, _, _, i, e_, t, _, hca, hce, hct, hie, he64, htu, rfl, (Or.inl ⟨hcc.symm.trans (cand_end (ge_i hca hce hc8_42) (ge_i hct hu hc80_52)), rfl, cand_end (ge_i hca hce hc8_42) (ge_i hct hu hc80_52)⟩), Ob_lr_a⟩) (by decide) (by decide)
  exact lr s₁ _ sa se ta i e_ t h0 Z0 X0 e0 N0 K0 O0 F_b1 hsa hse hta hie he64 htu hcc
theorem d7_49 : decode prog_32_method_9_code 49 = .ok (.aload_n 0, 1) := by decide +kernel
theorem d7_50 : decode prog_32_method_9_code 50 = .ok (.aload_n 0, 1) := by decide +kernel
theorem d7_51 : decode prog_32_method_9_code 51 = .ok (.getfield 26, 3) := by decide +kernel
theorem d7_54 : decode prog_32_method_9_code 54 = .ok (.aload_n 0, 1) := by decide +kernel
theorem d7_55 : decode prog_32_method_9_code 55 = .ok (.dup, 1) := by decide +kernel
theorem d7_56 : decode prog_32_method_9_code 56 = .ok (.getfield 54, 3) := by decide +kernel
theorem d7_59 : decode prog_32_method_9_code 59 = .ok (.iconst 1, 1) := by decide +kernel
theorem d7_60 : decode prog_32_method_9_code 60 = .ok (.isub, 1) := by decide +kernel
theorem d7_61 : decode prog_32_method_9_code 61 = .ok (.dup_x1, 1) := by decide +kernel
theorem d7_62 : decode prog_32_method_9_code 62 = .ok (.putfield 54, 3) := by decide +kernel
theorem d7_65 : decode prog_32_method_9_code 65 = .ok (.iaload, 1) := by decide +kernel
theorem d7_66 : decode prog_32_method_9_code 66 = .ok (.invokevirtual 96, 3) := by decide +kernel
theorem d7_69 : decode prog_32_method_9_code 69 = .ok (.goto (-69), 3) := by decide +kernel
set_option maxRecDepth 65536 in
set_option maxHeartbeats 40000000 in
theorem rm_nextP1 (l : Launch) (Z : State) (a0 : Array Value) (hw : ∀ d ∈ tables_1, d.before a0 Z = true) (ws : List Jvm.Cond) (a : Addr) (b1 : Addr) (b2 : Addr) (b3 : Addr) (b4 : Addr) (b5 : Addr) (b6 : Addr) (b7 : Addr) (sc : Int32) (sz : Int32) (nc : Int32) (bd : Int64) (ss : Int32) (bs : Int32) (ta : Int32) (te : Int32) (g1 : Nat → Int64) (g2 : Nat → Int64) (g6 : Nat → Int32) (s0 : Nat) (t : Nat) (u : Nat) (CC : List Nat) (h0 : Heap) (n0 : Nat) (Z0 : n0 ≤ h0.size) (O0 : Obj Z h0 a "com/example/graphweft/graphweft/RangeMaxTree" sch_rt [(.ref b1), (.ref b2), (.ref b3), (.ref b4), (.ref b5), (.ref b6), (.ref b7), (.int sc), (.int sz), (.int nc), (.long bd), (.int ss), (.int bs), (.int 1), (.int 1), (.int 0), (.int 0), (.int ta), (.int te)]) (F_b1 : FA Z h0 b1 .long 64 (fun i => .long (g1 i))) (F_b2 : FA Z h0 b2 .long 64 (fun i => .long (g2 i))) (F_b6 : FA Z h0 b6 .int 96 (fun i => .int (g6 i))) (ga : n0 ≤ a) (hta : ta.toInt = (t : Int)) (hu : te.toInt = (u : Int)) (htu : t ≤ u) (hu64 : u ≤ 64) (hkb : 0 ≤ (bs + (1 : Int32)).toInt ∧ (bs + (1 : Int32)).toInt < 64) (hnd : g6 0 = (1 : Int32)) (hss : ss.toInt = (s0 : Int)) (hs50 : s0 ≤ 50) (hmx : (g2 ((bs + (1 : Int32)).toInt.toNat)) < bd → ∀ j, j < 8 → g1 (s0 + j) < bd) (hcc : cand g1 bd s0 (s0 + 8) t u = CC) :
    MetFree l mn8 (head1 (Jvm.Cond.code mn8 prog_32_method_9_code 2 (some .int) :: ws) ({ frames := 1, cells := 0, slots := 0, locals := 13 } : Room)) (fun a_ U => a_ = #[(.ref a)] ∧ Z.Warmed39 U.vm ∧ U.heap = h0) (fun _ _ _ _ _ => True) (fun _ U o U' => ∃ v_ L_, o = .returned v_ ∧ Q_next Z a b1 b2 b3 b4 b5 b6 b7 sc sz nc bd ss bs (1 : Int32) te g1 u CC h0 n0 v_ U'.heap L_ ∧ FrameEnd U o U' L_ ({ frames := 1, cells := 0, slots := 0, locals := 13 } : Room).cells ({ frames := 1, cells := 0, slots := 0, locals := 13 } : Room).slots) := by
  refine MetFree.of_bodySF (plainFor_of_name pn_7) hisR ?_
  intro p e s m args below meth c s₁ Bd hml0 hP hK
  obtain ⟨rfl, hZ, hh⟩ := hP
  have hx := Bd.exec
  have hby := Bd.bytes
  have hlk : meth.locks = false := Bd.notSynchronized
  have hml : c.maxLocals = 2 := hml0
  have hown : s.vm.findClass "com/example/graphweft/graphweft/RangeMaxTree" = some m.cls := findClass_of_methodNamed Bd.named
  have hnm := (name_of_methodNamed Bd.named Bd.method).1
  have X0 : Stand p l e ({ frames := 1, cells := 0, slots := 0, locals := 13 } : Room) s m #[(.ref a)] below meth c s₁ [] 0 0 := Stand.of_body Bd
  have e0 : s₁.heap = h0 := by rw [← hh, Bd.state]; rfl
  have N0 := Fr.nil n0
  have K0 : Keep h0 h0 [a] := Keep.refl _ _
  show OEnds p e below s (Q_next Z a b1 b2 b3 b4 b5 b6 b7 sc sz nc bd ss bs (1 : Int32) te g1 u CC h0 n0) _ _ _
  refine own_by (fun t k => castTop (ef_7 m a) k) ?_
  show OEnds p e below s _ _ _ (s₁.setTop (mkF m 0 #[(vr a), un] []))
  have lp : ∀ (dd : Nat) (T : State) (lo : List Loc) (d1 : Int32) (ca : Int32) (ce : Int32) (ct : Int32) (i : Nat) (e_ : Nat) (t : Nat) (h_lp : Heap) (Zz_lp : n0 ≤ h_lp.size) (X_lp : Stand p l e ({ frames := 1, cells := 0, slots := 0, locals := 13 } : Room) s m #[(.ref a)] below meth c T lo 0 0) (e_lp : T.heap = h_lp) (N_lp : Fr n0 lo) (Kp_lp : Keep h0 h_lp [a]) (Ob_lp_a : Obj Z h_lp a "com/example/graphweft/graphweft/RangeMaxTree" sch_rt [(.ref b1), (.ref b2), (.ref b3), (.ref b4), (.ref b5), (.ref b6), (.ref b7), (.int sc), (.int sz), (.int nc), (.long bd), (.int ss), (.int bs), (.int 1), (.int 0), (.int ce), (.int ca), (.int ct), (.int te)]) (Fa_lp_b1 : FA Z h_lp b1 .long 64 (fun i => .long (g1 i))) (Fa_lp_b2 : FA Z h_lp b2 .long 64 (fun i => .long (g2 i))) (Fa_lp_b6 : FA Z h_lp b6 .int 96 (fun i => .int (g6 i))) (hca : ca.toInt = (i : Int)) (hce : ce.toInt = (e_ : Int)) (hct : ct.toInt = (t : Int)) (hie : i ≤ e_) (he64 : e_ ≤ 64) (htu : t ≤ u) (hcc : cand g1 bd i e_ t u = CC) (hd : (e_ - i) + 2 * (u - t) ≤ dd), OEnds p e below s (Q_next Z a b1 b2 b3 b4 b5 b6 b7 sc sz nc bd ss bs (1 : Int32) te g1 u CC h0 n0) 0 0 (T.setTop (mkF m 0 #[(vr a), (vi d1)] [])) := by
    intro dd
    induction dd with
    | zero =>
      intro T lo d1 ca ce ct i e_ t h_lp Zz_lp X_lp e_lp N_lp Kp_lp Ob_lp_a Fa_lp_b1 Fa_lp_b2 Fa_lp_b6 hca hce hct hie he64 htu hcc hd
      show OEnds p e below s _ _ _ (T.setTop (mkF m 0 #[(vr a), (vi d1)] []))
      refine qaN 1 X_lp hx hby d7_0 rfl rfl ?_
      refine qg 4 X_lp hx hZ hown (tw61 hw) e_lp (Ob_lp_a.fld 16 rfl rfl) hby d7_1 rfl fun T1 X1 e1 => ?_
      refine qaN 5 X1 hx hby d7_4 rfl rfl ?_
      refine qg 8 X1 hx hZ hown (tw59 hw) e1 (Ob_lp_a.fld 15 rfl rfl) hby d7_5 rfl fun T2 X2 e2 => ?_
      refine q_cmy 42 X2 hx hby d7_8 rfl (flt (nlt_i hca hce (by omega))).2.1 ?_
      refine qaN 43 X2 hx hby d7_42 rfl rfl ?_
      refine qg 46 X2 hx hZ hown (tw57 hw) e2 (Ob_lp_a.fld 14 rfl rfl) hby d7_43 rfl fun T3 X3 e3 => ?_
      refine q_ify 72 X3 hx hby d7_46 rfl ((if0 _ _).trans (flt (by decide : ¬ ((0 : Int32) < (0 : Int32)))).2.2.2) ?_
      refine qaN 73 X3 hx hby d7_72 rfl rfl ?_
      refine qg 76 X3 hx hZ hown (tw63 hw) e3 (Ob_lp_a.fld 17 rfl rfl) hby d7_73 rfl fun T4 X4 e4 => ?_
      refine qaN 77 X4 hx hby d7_76 rfl rfl ?_
      refine qg 80 X4 hx hZ hown (tw65 hw) e4 (Ob_lp_a.fld 18 rfl rfl) hby d7_77 rfl fun T5 X5 e5 => ?_
      refine q_cmy 110 X5 hx hby d7_80 rfl (flt (nlt_i hct hu (by omega))).2.1 ?_
      refine qc1 111 (-1) X5 hx hby d7_110 rfl rfl ?_
      exact own_retI X5 hx hlk Bd.returns (hb hby d7_111) (by rw [e5]; exact ⟨_, rfl, N_lp, Kp_lp, _, _, _, i, e_, t, _, hca, hce, hct, hie, he64, htu, rfl, (Or.inl ⟨hcc.symm.trans (cand_end (by omega) (by omega)), rfl, cand_end (by omega) (by omega)⟩), Ob_lp_a⟩) (by decide) (by decide)
    | succ dd ih_lp =>
      intro T lo d1 ca ce ct i e_ t h_lp Zz_lp X_lp e_lp N_lp Kp_lp Ob_lp_a Fa_lp_b1 Fa_lp_b2 Fa_lp_b6 hca hce hct hie he64 htu hcc hd
      show OEnds p e below s _ _ _ (T.setTop (mkF m 0 #[(vr a), (vi d1)] []))
      refine qaN 1 X_lp hx hby d7_0 rfl rfl ?_
      refine qg 4 X_lp hx hZ hown (tw61 hw) e_lp (Ob_lp_a.fld 16 rfl rfl) hby d7_1 rfl fun T6 X6 e6 => ?_
      refine qaN 5 X6 hx hby d7_4 rfl rfl ?_
      refine qg 8 X6 hx hZ hown (tw59 hw) e6 (Ob_lp_a.fld 15 rfl rfl) hby d7_5 rfl fun T7 X7 e7 => ?_
      by_cases hc8_8 : ca < ce
      · refine q_cmn 11 X7 hx hby d7_8 rfl (tlt hc8_8).2.1 ?_
        refine qaN 12 X7 hx hby d7_11 rfl rfl ?_
        refine q_dup 13 X7 hx hby d7_12 rfl rfl ?_
        refine qg 16 X7 hx hZ hown (tw61 hw) e7 (Ob_lp_a.fld 16 rfl rfl) hby d7_13 rfl fun T9 X9 e9 => ?_
        refine own_by (fun _ k => XS.dupX1 X9.here hx rfl (hb hby d7_16) rfl rfl rfl k) ?_
        show OEnds p e below s _ _ _ (T9.setTop (mkF m 17 #[(vr a), (vi d1)] [(.int ca), (.ref a), (.int ca)]))
        refine qc1 18 1 X9 hx hby d7_17 rfl rfl ?_
        refine q_iadd 19 X9 hx hby d7_18 rfl ?_
        obtain ⟨T10, h10, X10, e10, W10, st10⟩ := putF X9 hx hZ hown (host := "") (Or.inl (tw61 hw)) Via.refl e9 (Ob_lp_a.fld 16 rfl rfl) Ob_lp_a.exa (Or.inl (tw62 hw)) (tw2 hw) (ty := .int) (by decide) rfl rfl (g := (mkF m 19 #[(vr a), (vi d1)] [(.int (ca + (1 : Int32))), (.ref a), (.int ca)])) rfl rfl (hb hby d7_19)
        have O10 : Obj Z h10 a "com/example/graphweft/graphweft/RangeMaxTree" sch_rt [(.ref b1), (.ref b2), (.ref b3), (.ref b4), (.ref b5), (.ref b6), (.ref b7), (.int sc), (.int sz), (.int nc), (.long bd), (.int ss), (.int bs), (.int 1), (.int 0), (.int ce), (.int (ca + (1 : Int32))), (.int ct), (.int te)] := Ob_lp_a.set (so_sch_rt hw) W10 16 rfl (Nat.le_of_ble_eq_true rfl)
        have N10 := Fr.snoc X10 N_lp ga
        have Z10 := Nat.le_trans Zz_lp (Keep.of_wr W10).1
        have K10 := Kp_lp.wr W10 (wi 0 rfl)
        refine qat 22 #[(vr a), (vi d1)] [(.int ca)] st10 ?_
        refine qsiN 23 #[(vr a), (vi ca)] X10 hx hby d7_22 rfl rfl ?_
        refine qaN 24 X10 hx hby d7_23 rfl rfl ?_
        refine qg 27 X10 hx hZ hown (tw10 hw) e10 (O10.fld 0 rfl rfl) hby d7_24 rfl fun T11 X11 e11 => ?_
        refine qiN 28 X11 hx hby d7_27 rfl rfl ?_
        have F12 := (Fa_lp_b1.other W10 (Ne.symm (Ob_lp_a.ne_fa (tw2 hw) Fa_lp_b1)))
        refine qJ 29 X11 hx hZ e11 F12 i hca (by have := lt_i hca hce hc8_8; omega) (v := (.long (g1 i))) rfl hby d7_28 rfl ?_
        refine qaN 30 X11 hx hby d7_29 rfl rfl ?_
        refine qg 33 X11 hx hZ hown (tw49 hw) e11 (O10.fld 10 rfl rfl) hby d7_30 rfl fun T13 X13 e13 => ?_
        refine own_by (fun _ k => XS.lcmp X13.here hx rfl (hb hby d7_33) rfl k) ?_
        show OEnds p e below s _ _ _ (T13.setTop (mkF m 34 #[(vr a), (vi ca)] [(.int (lcmpW (g1 i) bd))]))
        by_cases hc34_14 : (g1 i) < bd
        · refine q_ify 39 X13 hx hby d7_34 rfl ((if0 _ _).trans (tlt ((lw_lt _ _).mpr hc34_14)).1) ?_
          refine q_goto 0 X13 hx hby d7_39 rfl ?_
          have hlt := lt_i hca hce hc8_8
          have F15 := (Fa_lp_b2.other W10 (Ne.symm (Ob_lp_a.ne_fa (tw2 hw) Fa_lp_b2)))
          have F16 := (Fa_lp_b6.other W10 (Ne.symm (Ob_lp_a.ne_fa (tw2 hw) Fa_lp_b6)))
          exact ih_lp T13 _ ca (ca + (1 : Int32)) ce ct (i + 1) (e_) (t) h10 Z10 X13 e13 N10 K10 O10 F12 F15 F16 (inc_i hca (by omega)) hce hct hlt he64 htu ((cand_miss hlt hc34_14).symm.trans hcc) (by omega)
        · refine q_ifn 37 X13 hx hby d7_34 rfl ((if0 _ _).trans (flt (fun q => hc34_14 ((lw_lt _ _).mp q))).1) ?_
          refine qiN 38 X13 hx hby d7_37 rfl rfl ?_
          exact own_retI X13 hx hlk Bd.returns (hb hby d7_38) (by rw [e13]; exact ⟨_, rfl, N10, K10, _, _, _, (i + 1), e_, t, _, (inc_i hca (by omega)), hce, hct, (by have := lt_i hca hce hc8_8; omega), he64, htu, rfl, (Or.inr ⟨i, hcc.symm.trans (cand_hit (lt_i hca hce hc8_8) hc34_14), hca⟩), O10⟩) (by decide) (by decide)
      · refine q_cmy 42 X7 hx hby d7_8 rfl (flt hc8_8).2.1 ?_
        refine qaN 43 X7 hx hby d7_42 rfl rfl ?_
        refine qg 46 X7 hx hZ hown (tw57 hw) e7 (Ob_lp_a.fld 14 rfl rfl) hby d7_43 rfl fun T17 X17 e17 => ?_
        refine q_ify 72 X17 hx hby d7_46 rfl ((if0 _ _).trans (flt (by decide : ¬ ((0 : Int32) < (0 : Int32)))).2.2.2) ?_
        refine qaN 73 X17 hx hby d7_72 rfl rfl ?_
        refine qg 76 X17 hx hZ hown (tw63 hw) e17 (Ob_lp_a.fld 17 rfl rfl) hby d7_73 rfl fun T18 X18 e18 => ?_
        refine qaN 77 X18 hx hby d7_76 rfl rfl ?_
        refine qg 80 X18 hx hZ hown (tw65 hw) e18 (Ob_lp_a.fld 18 rfl rfl) hby d7_77 rfl fun T19 X19 e19 => ?_
        by_cases hc80_20 : ct < te
        · refine q_cmn 83 X19 hx hby d7_80 rfl (tlt hc80_20).2.1 ?_
          refine qaN 84 X19 hx hby d7_83 rfl rfl ?_
          refine qaN 85 X19 hx hby d7_84 rfl rfl ?_
          refine qg 88 X19 hx hZ hown (tw63 hw) e19 (Ob_lp_a.fld 17 rfl rfl) hby d7_85 rfl fun T21 X21 e21 => ?_
          obtain ⟨T22, h22, X22, e22, W22, st22⟩ := putF X21 hx hZ hown (host := "") (Or.inl (tw61 hw)) Via.refl e21 (Ob_lp_a.fld 16 rfl rfl) Ob_lp_a.exa (Or.inl (tw62 hw)) (tw2 hw) (ty := .int) (by decide) rfl rfl (g := (mkF m 88 #[(vr a), (vi d1)] [(.int ct), (.ref a)])) rfl rfl (hb hby d7_88)
          have O22 : Obj Z h22 a "com/example/graphweft/graphweft/RangeMaxTree" sch_rt [(.ref b1), (.ref b2), (.ref b3), (.ref b4), (.ref b5), (.ref b6), (.ref b7), (.int sc), (.int sz), (.int nc), (.long bd), (.int ss), (.int bs), (.int 1), (.int 0), (.int ce), (.int ct), (.int ct), (.int te)] := Ob_lp_a.set (so_sch_rt hw) W22 16 rfl (Nat.le_of_ble_eq_true rfl)
          have N22 := Fr.snoc X22 N_lp ga
          have Z22 := Nat.le_trans Zz_lp (Keep.of_wr W22).1
          have K22 := Kp_lp.wr W22 (wi 0 rfl)
          refine qat 91 #[(vr a), (vi d1)] [] st22 ?_
          refine qaN 92 X22 hx hby d7_91 rfl rfl ?_
          refine qaN 93 X22 hx hby d7_92 rfl rfl ?_
          refine qg 96 X22 hx hZ hown (tw65 hw) e22 (O22.fld 18 rfl rfl) hby d7_93 rfl fun T23 X23 e23 => ?_
          have F25 := (Fa_lp_b1.other W22 (Ne.symm (Ob_lp_a.ne_fa (tw2 hw) Fa_lp_b1)))
          have F26 := (Fa_lp_b2.other W22 (Ne.symm (Ob_lp_a.ne_fa (tw2 hw) Fa_lp_b2)))
          have F27 := (Fa_lp_b6.other W22 (Ne.symm (Ob_lp_a.ne_fa (tw2 hw) Fa_lp_b6)))
          obtain ⟨T24, h24, X24, e24, W24, st24⟩ := putF X23 hx hZ hown (host := "") (Or.inl (tw59 hw)) Via.refl e23 (O22.fld 15 rfl rfl) O22.exa (Or.inl (tw60 hw)) (tw2 hw) (ty := .int) (by decide) rfl rfl (g := (mkF m 96 #[(vr a), (vi d1)] [(.int te), (.ref a)])) rfl rfl (hb hby d7_96)
          have O24 : Obj Z h24 a "com/example/graphweft/graphweft/RangeMaxTree" sch_rt [(.ref b1), (.ref b2), (.ref b3), (.ref b4), (.ref b5), (.ref b6), (.ref b7), (.int sc), (.int sz), (.int nc), (.long bd), (.int ss), (.int bs), (.int 1), (.int 0), (.int te), (.int ct), (.int ct), (.int te)] := O22.set (so_sch_rt hw) W24 15 rfl (Nat.le_of_ble_eq_true rfl)
          have N24 := Fr.snoc X24 N22 ga
          have Z24 := Nat.le_trans Z22 (Keep.of_wr W24).1
          have K24 := K22.wr W24 (wi 0 rfl)
          refine qat 99 #[(vr a), (vi d1)] [] st24 ?_
          refine qaN 100 X24 hx hby d7_99 rfl rfl ?_
          refine qaN 101 X24 hx hby d7_100 rfl rfl ?_
          refine qg 104 X24 hx hZ hown (tw65 hw) e24 (O24.fld 18 rfl rfl) hby d7_101 rfl fun T28 X28 e28 => ?_
          have F30 := (F25.other W24 (Ne.symm (O22.ne_fa (tw2 hw) F25)))
          have F31 := (F26.other W24 (Ne.symm (O22.ne_fa (tw2 hw) F26)))
          have F32 := (F27.other W24 (Ne.symm (O22.ne_fa (tw2 hw) F27)))
          obtain ⟨T29, h29, X29, e29, W29, st29⟩ := putF X28 hx hZ hown (host := "") (Or.inl (tw63 hw)) Via.refl e28 (O24.fld 17 rfl rfl) O24.exa (Or.inl (tw64 hw)) (tw2 hw) (ty := .int) (by decide) rfl rfl (g := (mkF m 104 #[(vr a), (vi d1)] [(.int te), (.ref a)])) rfl rfl (hb hby d7_104)
          have O29 : Obj Z h29 a "com/example/graphweft/graphweft/RangeMaxTree" sch_rt [(.ref b1), (.ref b2), (.ref b3), (.ref b4), (.ref b5), (.ref b6), (.ref b7), (.int sc), (.int sz), (.int nc), (.long bd), (.int ss), (.int bs), (.int 1), (.int 0), (.int te), (.int ct), (.int te), (.int te)] := O24.set (so_sch_rt hw) W29 17 rfl (Nat.le_of_ble_eq_true rfl)
          have N29 := Fr.snoc X29 N24 ga
          have Z29 := Nat.le_trans Z24 (Keep.of_wr W29).1
          have K29 := K24.wr W29 (wi 0 rfl)
          refine qat 107 #[(vr a), (vi d1)] [] st29 ?_
          refine q_goto 0 X29 hx hby d7_107 rfl ?_
          have hge := ge_i hca hce hc8_8
          have hlt := lt_i hct hu hc80_20
          have F33 := (F30.other W29 (Ne.symm (O24.ne_fa (tw2 hw) F30)))
          have F34 := (F31.other W29 (Ne.symm (O24.ne_fa (tw2 hw) F31)))
          have F35 := (F32.other W29 (Ne.symm (O24.ne_fa (tw2 hw) F32)))
          exact ih_lp T29 _ d1 ct te te (t) (u) (u) h29 Z29 X29 e29 N29 K29 O29 F33 F34 F35 hct hu hu htu hu64 (Nat.le_refl u) ((cand_tail hge).symm.trans hcc) (by omega)
        · refine q_cmy 110 X19 hx hby d7_80 rfl (flt hc80_20).2.1 ?_
          refine qc1 111 (-1) X19 hx hby d7_110 rfl rfl ?_
          exact own_retI X19 hx hlk Bd.returns (hb hby d7_111) (by rw [e19]; exact ⟨_, rfl, N_lp, Kp_lp, _, _, _, i, e_, t, _, hca, hce, hct, hie, he64, htu, rfl, (Or.inl ⟨hcc.symm.trans (cand_end (ge_i hca hce hc8_8) (ge_i hct hu hc80_20)), rfl, cand_end (ge_i hca hce hc8_8) (ge_i hct hu hc80_20)⟩), Ob_lp_a⟩) (by decide) (by decide)
  have lq : ∀ (T : State) (lo : List Loc) (ca : Int32) (ce : Int32) (ct : Int32) (i : Nat) (e_ : Nat) (t : Nat) (h_lq : Heap) (Zz_lq : n0 ≤ h_lq.size) (X_lq : Stand p l e ({ frames := 1, cells := 0, slots := 0, locals := 13 } : Room) s m #[(.ref a)] below meth c T lo 0 0) (e_lq : T.heap = h_lq) (N_lq : Fr n0 lo) (Kp_lq : Keep h0 h_lq [a]) (Ob_lq_a : Obj Z h_lq a "com/example/graphweft/graphweft/RangeMaxTree" sch_rt [(.ref b1), (.ref b2), (.ref b3), (.ref b4), (.ref b5), (.ref b6), (.ref b7), (.int sc), (.int sz), (.int nc), (.long bd), (.int ss), (.int bs), (.int 1), (.int 0), (.int ce), (.int ca), (.int ct), (.int te)]) (Fa_lq_b1 : FA Z h_lq b1 .long 64 (fun i => .long (g1 i))) (Fa_lq_b2 : FA Z h_lq b2 .long 64 (fun i => .long (g2 i))) (Fa_lq_b6 : FA Z h_lq b6 .int 96 (fun i => .int (g6 i))) (hca : ca.toInt = (i : Int)) (hce : ce.toInt = (e_ : Int)) (hct : ct.toInt = (t : Int)) (hie : i ≤ e_) (he64 : e_ ≤ 64) (htu : t ≤ u) (hcc : cand g1 bd i e_ t u = CC) (htt : u ≤ t), OEnds p e below s (Q_next Z a b1 b2 b3 b4 b5 b6 b7 sc sz nc bd ss bs (1 : Int32) te g1 u CC h0 n0) 0 0 (T.setTop (mkF m 0 #[(vr a), un] [])) := by
    intro T lo ca ce ct i e_ t h_lq Zz_lq X_lq e_lq N_lq Kp_lq Ob_lq_a Fa_lq_b1 Fa_lq_b2 Fa_lq_b6 hca hce hct hie he64 htu hcc htt
    show OEnds p e below s _ _ _ (T.setTop (mkF m 0 #[(vr a), un] []))
    refine qaN 1 X_lq hx hby d7_0 rfl rfl ?_
    refine qg 4 X_lq hx hZ hown (tw61 hw) e_lq (Ob_lq_a.fld 16 rfl rfl) hby d7_1 rfl fun T36 X36 e36 => ?_
    refine qaN 5 X36 hx hby d7_4 rfl rfl ?_
    refine qg 8 X36 hx hZ hown (tw59 hw) e36 (Ob_lq_a.fld 15 rfl rfl) hby d7_5 rfl fun T37 X37 e37 => ?_
    by_cases hc8_38 : ca < ce
    · refine q_cmn 11 X37 hx hby d7_8 rfl (tlt hc8_38).2.1 ?_
      refine qaN 12 X37 hx hby d7_11 rfl rfl ?_
      refine q_dup 13 X37 hx hby d7_12 rfl rfl ?_
      refine qg 16 X37 hx hZ hown (tw61 hw) e37 (Ob_lq_a.fld 16 rfl rfl) hby d7_13 rfl fun T39 X39 e39 => ?_
      refine own_by (fun _ k => XS.dupX1 X39.here hx rfl (hb hby d7_16) rfl rfl rfl k) ?_
      show OEnds p e below s _ _ _ (T39.setTop (mkF m 17 #[(vr a), un] [(.int ca), (.ref a), (.int ca)]))
      refine qc1 18 1 X39 hx hby d7_17 rfl rfl ?_
      refine q_iadd 19 X39 hx hby d7_18 rfl ?_
      obtain ⟨T40, h40, X40, e40, W40, st40⟩ := putF X39 hx hZ hown (host := "") (Or.inl (tw61 hw)) Via.refl e39 (Ob_lq_a.fld 16 rfl rfl) Ob_lq_a.exa (Or.inl (tw62 hw)) (tw2 hw) (ty := .int) (by decide) rfl rfl (g := (mkF m 19 #[(vr a), un] [(.int (ca + (1 : Int32))), (.ref a), (.int ca)])) rfl rfl (hb hby d7_19)
      have O40 : Obj Z h40 a "com/example/graphweft/graphweft/RangeMaxTree" sch_rt [(.ref b1), (.ref b2), (.ref b3), (.ref b4), (.ref b5), (.ref b6), (.ref b7), (.int sc), (.int sz), (.int nc), (.long bd), (.int ss), (.int bs), (.int 1), (.int 0), (.int ce), (.int (ca + (1 : Int32))), (.int ct), (.int te)] := Ob_lq_a.set (so_sch_rt hw) W40 16 rfl (Nat.le_of_ble_eq_true rfl)
      have N40 := Fr.snoc X40 N_lq ga
      have Z40 := Nat.le_trans Zz_lq (Keep.of_wr W40).1
      have K40 := Kp_lq.wr W40 (wi 0 rfl)
      refine qat 22 #[(vr a), un] [(.int ca)] st40 ?_
      refine qsiN 23 #[(vr a), (vi ca)] X40 hx hby d7_22 rfl rfl ?_
      refine qaN 24 X40 hx hby d7_23 rfl rfl ?_
      refine qg 27 X40 hx hZ hown (tw10 hw) e40 (O40.fld 0 rfl rfl) hby d7_24 rfl fun T41 X41 e41 => ?_
      refine qiN 28 X41 hx hby d7_27 rfl rfl ?_
      have F42 := (Fa_lq_b1.other W40 (Ne.symm (Ob_lq_a.ne_fa (tw2 hw) Fa_lq_b1)))
      refine qJ 29 X41 hx hZ e41 F42 i hca (by have := lt_i hca hce hc8_38; omega) (v := (.long (g1 i))) rfl hby d7_28 rfl ?_
      refine qaN 30 X41 hx hby d7_29 rfl rfl ?_
      refine qg 33 X41 hx hZ hown (tw49 hw) e41 (O40.fld 10 rfl rfl) hby d7_30 rfl fun T43 X43 e43 => ?_
      refine own_by (fun _ k => XS.lcmp X43.here hx rfl (hb hby d7_33) rfl k) ?_
      show OEnds p e below s _ _ _ (T43.setTop (mkF m 34 #[(vr a), (vi ca)] [(.int (lcmpW (g1 i) bd))]))
      by_cases hc34_44 : (g1 i) < bd
      · refine q_ify 39 X43 hx hby d7_34 rfl ((if0 _ _).trans (tlt ((lw_lt _ _).mpr hc34_44)).1) ?_
        refine q_goto 0 X43 hx hby d7_39 rfl ?_
        have hlt := lt_i hca hce hc8_38
        have F45 := (Fa_lq_b2.other W40 (Ne.symm (Ob_lq_a.ne_fa (tw2 hw) Fa_lq_b2)))
        have F46 := (Fa_lq_b6.other W40 (Ne.symm (Ob_lq_a.ne_fa (tw2 hw) Fa_lq_b6)))
        exact lp 300 T43 _ ca (ca + (1 : Int32)) ce ct (i + 1) (e_) (t) h40 Z40 X43 e43 N40 K40 O40 F42 F45 F46 (inc_i hca (by omega)) hce hct hlt he64 htu ((cand_miss hlt hc34_44).symm.trans hcc) (by omega)
      · refine q_ifn 37 X43 hx hby d7_34 rfl ((if0 _ _).trans (flt (fun q => hc34_44 ((lw_lt _ _).mp q))).1) ?_
        refine qiN 38 X43 hx hby d7_37 rfl rfl ?_
        exact own_retI X43 hx hlk Bd.returns (hb hby d7_38) (by rw [e43]; exact ⟨_, rfl, N40, K40, _, _, _, (i + 1), e_, t, _, (inc_i hca (by omega)), hce, hct, (by have := lt_i hca hce hc8_38; omega), he64, htu, rfl, (Or.inr ⟨i, hcc.symm.trans (cand_hit (lt_i hca hce hc8_38) hc34_44), hca⟩), O40⟩) (by decide) (by decide)
    · refine q_cmy 42 X37 hx hby d7_8 rfl (flt hc8_38).2.1 ?_
      refine qaN 43 X37 hx hby d7_42 rfl rfl ?_
      refine qg 46 X37 hx hZ hown (tw57 hw) e37 (Ob_lq_a.fld 14 rfl rfl) hby d7_43 rfl fun T47 X47 e47 => ?_
      refine q_ify 72 X47 hx hby d7_46 rfl ((if0 _ _).trans (flt (by decide : ¬ ((0 : Int32) < (0 : Int32)))).2.2.2) ?_
      refine qaN 73 X47 hx hby d7_72 rfl rfl ?_
      refine qg 76 X47 hx hZ hown (tw63 hw) e47 (Ob_lq_a.fld 17 rfl rfl) hby d7_73 rfl fun T48 X48 e48 => ?_
      refine qaN 77 X48 hx hby d7_76 rfl rfl ?_
      refine qg 80 X48 hx hZ hown (tw65 hw) e48 (Ob_lq_a.fld 18 rfl rfl) hby d7_77 rfl fun T49 X49 e49 => ?_
      refine q_cmy 110 X49 hx hby d7_80 rfl (flt (nlt_i hct hu htt)).2.1 ?_
      refine qc1 111 (-1) X49 hx hby d7_110 rfl rfl ?_
      exact own_retI X49 hx hlk Bd.returns (hb hby d7_111) (by rw [e49]; exact ⟨_, rfl, N_lq, Kp_lq, _, _, _, i, e_, t, _, hca, hce, hct, hie, he64, htu, rfl, (Or.inl ⟨hcc.symm.trans (cand_end (ge_i hca hce hc8_38) htt), rfl, cand_end (ge_i hca hce hc8_38) htt⟩), Ob_lq_a⟩) (by decide) (by decide)
  have lr : ∀ (T : State) (lo : List Loc) (ca : Int32) (ce : Int32) (ct : Int32) (i : Nat) (e_ : Nat) (t : Nat) (h_lr : Heap) (Zz_lr : n0 ≤ h_lr.size) (X_lr : Stand p l e ({ frames := 1, cells := 0, slots := 0, locals := 13 } : Room) s m #[(.ref a)] below meth c T lo 0 0) (e_lr : T.heap = h_lr) (N_lr : Fr n0 lo) (Kp_lr : Keep h0 h_lr [a]) (Ob_lr_a : Obj Z h_lr a "com/example/graphweft/graphweft/RangeMaxTree" sch_rt [(.ref b1), (.ref b2), (.ref b3), (.ref b4), (.ref b5), (.ref b6), (.ref b7), (.int sc), (.int sz), (.int nc), (.long bd), (.int ss), (.int bs), (.int 1), (.int 0), (.int ce), (.int ca), (.int ct), (.int te)]) (Fa_lr_b1 : FA Z h_lr b1 .long 64 (fun i => .long (g1 i))) (Fa_lr_b2 : FA Z h_lr b2 .long 64 (fun i => .long (g2 i))) (Fa_lr_b6 : FA Z h_lr b6 .int 96 (fun i => .int (g6 i))) (hca : ca.toInt = (i : Int)) (hce : ce.toInt = (e_ : Int)) (hct : ct.toInt = (t : Int)) (hie : i ≤ e_) (he64 : e_ ≤ 64) (htu : t ≤ u) (hcc : cand g1 bd i e_ t u = CC), OEnds p e below s (Q_next Z a b1 b2 b3 b4 b5 b6 b7 sc sz nc bd ss bs (1 : Int32) te g1 u CC h0 n0) 0 0 (T.setTop (mkF m 0 #[(vr a), un] [])) := by
    intro T lo ca ce ct i e_ t h_lr Zz_lr X_lr e_lr N_lr Kp_lr Ob_lr_a Fa_lr_b1 Fa_lr_b2 Fa_lr_b6 hca hce hct hie he64 htu hcc
    show OEnds p e below s _ _ _ (T.setTop (mkF m 0 #[(vr a), un] []))
    refine qaN 1 X_lr hx hby d7_0 rfl rfl ?_
    refine qg 4 X_lr hx hZ hown (tw61 hw) e_lr (Ob_lr_a.fld 16 rfl rfl) hby d7_1 rfl fun T50 X50 e50 => ?_
    refine qaN 5 X50 hx hby d7_4 rfl rfl ?_
    refine qg 8 X50 hx hZ hown (tw59 hw) e50 (Ob_lr_a.fld 15 rfl rfl) hby d7_5 rfl fun T51 X51 e51 => ?_
    by_cases hc8_52 : ca < ce
    · refine q_cmn 11 X51 hx hby d7_8 rfl (tlt hc8_52).2.1 ?_
      refine qaN 12 X51 hx hby d7_11 rfl rfl ?_
      refine q_dup 13 X51 hx hby d7_12 rfl rfl ?_
      refine qg 16 X51 hx hZ hown (tw61 hw) e51 (Ob_lr_a.fld 16 rfl rfl) hby d7_13 rfl fun T53 X53 e53 => ?_
      refine own_by (fun _ k => XS.dupX1 X53.here hx rfl (hb hby d7_16) rfl rfl rfl k) ?_
      show OEnds p e below s _ _ _ (T53.setTop (mkF m 17 #[(vr a), un] [(.int ca), (.ref a), (.int ca)]))
      refine qc1 18 1 X53 hx hby d7_17 rfl rfl ?_
      refine q_iadd 19 X53 hx hby d7_18 rfl ?_
      obtain ⟨T54, h54, X54, e54, W54, st54⟩ := putF X53 hx hZ hown (host := "") (Or.inl (tw61 hw)) Via.refl e53 (Ob_lr_a.fld 16 rfl rfl) Ob_lr_a.exa (Or.inl (tw62 hw)) (tw2 hw) (ty := .int) (by decide) rfl rfl (g := (mkF m 19 #[(vr a), un] [(.int (ca + (1 : Int32))), (.ref a), (.int ca)])) rfl rfl (hb hby d7_19)
      have O54 : Obj Z h54 a "com/example/graphweft/graphweft/RangeMaxTree" sch_rt [(.ref b1), (.ref b2), (.ref b3), (.ref b4), (.ref b5), (.ref b6), (.ref b7), (.int sc), (.int sz), (.int nc), (.long bd), (.int ss), (.int bs), (.int 1), (.int 0), (.int ce), (.int (ca + (1 : Int32))), (.int ct), (.int te)] := Ob_lr_a.set (so_sch_rt hw) W54 16 rfl (Nat.le_of_ble_eq_true rfl)
      have N54 := Fr.snoc X54 N_lr ga
      have Z54 := Nat.le_trans Zz_lr (Keep.of_wr W54).1
      have K54 := Kp_lr.wr W54 (wi 0 rfl)
      refine qat 22 #[(vr a), un] [(.int ca)] st54 ?_
      refine qsiN 23 #[(vr a), (vi ca)] X54 hx hby d7_22 rfl rfl ?_
      refine qaN 24 X54 hx hby d7_23 rfl rfl ?_
      refine qg 27 X54 hx hZ hown (tw10 hw) e54 (O54.fld 0 rfl rfl) hby d7_24 rfl fun T55 X55 e55 => ?_
      refine qiN 28 X55 hx hby d7_27 rfl rfl ?_
      have F56 := (Fa_lr_b1.other W54 (Ne.symm (Ob_lr_a.ne_fa (tw2 hw) Fa_lr_b1)))
      refine qJ 29 X55 hx hZ e55 F56 i hca (by have := lt_i hca hce hc8_52; omega) (v := (.long (g1 i))) rfl hby d7_28 rfl ?_
      refine qaN 30 X55 hx hby d7_29 rfl rfl ?_
      refine qg 33 X55 hx hZ hown (tw49 hw) e55 (O54.fld 10 rfl rfl) hby d7_30 rfl fun T57 X57 e57 => ?_
      refine own_by (fun _ k => XS.lcmp X57.here hx rfl (hb hby d7_33) rfl k) ?_
      show OEnds p e below s _ _ _ (T57.setTop (mkF m 34 #[(vr a), (vi ca)] [(.int (lcmpW (g1 i) bd))]))
      by_cases hc34_58 : (g1 i) < bd
      · refine q_ify 39 X57 hx hby d7_34 rfl ((if0 _ _).trans (tlt ((lw_lt _ _).mpr hc34_58)).1) ?_
        refine q_goto 0 X57 hx hby d7_39 rfl ?_
        have hlt := lt_i hca hce hc8_52
        have F59 := (Fa_lr_b2.other W54 (Ne.symm (Ob_lr_a.ne_fa (tw2 hw) Fa_lr_b2)))
        have F60 := (Fa_lr_b6.other W54 (Ne.symm (Ob_lr_a.ne_fa (tw2 hw) Fa_lr_b6)))
        exact lp 300 T57 _ ca (ca + (1 : Int32)) ce ct (i + 1) (e_) (t) h54 Z54 X57 e57 N54 K54 O54 F56 F59 F60 (inc_i hca (by omega)) hce hct hlt he64 htu ((cand_miss hlt hc34_58).symm.trans hcc) (by omega)
      · refine q_ifn 37 X57 hx hby d7_34 rfl ((if0 _ _).trans (flt (fun q => hc34_58 ((lw_lt _ _).mp q))).1) ?_
        refine qiN 38 X57 hx hby d7_37 rfl rfl ?_
        exact own_retI X57 hx hlk Bd.returns (hb hby d7_38) (by rw [e57]; exact ⟨_, rfl, N54, K54, _, _, _, (i + 1), e_, t, _, (inc_i hca (by omega)), hce, hct, (by have := lt_i hca hce hc8_52; omega), he64, htu, rfl, (Or.inr ⟨i, hcc.symm.trans (cand_hit (lt_i hca hce hc8_52) hc34_58), hca⟩), O54⟩) (by decide) (by decide)
    · refine q_cmy 42 X51 hx hby d7_8 rfl (flt hc8_52).2.1 ?_
      refine qaN 43 X51 hx hby d7_42 rfl rfl ?_
      refine qg 46 X51 hx hZ hown (tw57 hw) e51 (Ob_lr_a.fld 14 rfl rfl) hby d7_43 rfl fun T61 X61 e61 => ?_
      refine q_ify 72 X61 hx hby d7_46 rfl ((if0 _ _).trans (flt (by decide : ¬ ((0 : Int32) < (0 : Int32)))).2.2.2) ?_
      refine qaN 73 X61 hx hby d7_72 rfl rfl ?_
      refine qg 76 X61 hx hZ hown (tw63 hw) e61 (Ob_lr_a.fld 17 rfl rfl) hby d7_73 rfl fun T62 X62 e62 => ?_
      refine qaN 77 X62 hx hby d7_76 rfl rfl ?_
      refine qg 80 X62 hx hZ hown (tw65 hw) e62 (Ob_lr_a.fld 18 rfl rfl) hby d7_77 rfl fun T63 X63 e63 => ?_
      by_cases hc80_64 : ct < te
      · refine q_cmn 83 X63 hx hby d7_80 rfl (tlt hc80_64).2.1 ?_
        refine qaN 84 X63 hx hby d7_83 rfl rfl ?_
        refine qaN 85 X63 hx hby d7_84 rfl rfl ?_
        refine qg 88 X63 hx hZ hown (tw63 hw) e63 (Ob_lr_a.fld 17 rfl rfl) hby d7_85 rfl fun T65 X65 e65 => ?_
        obtain ⟨T66, h66, X66, e66, W66, st66⟩ := putF X65 hx hZ hown (host := "") (Or.inl (tw61 hw)) Via.refl e65 (Ob_lr_a.fld 16 rfl rfl) Ob_lr_a.exa (Or.inl (tw62 hw)) (tw2 hw) (ty := .int) (by decide) rfl rfl (g := (mkF m 88 #[(vr a), un] [(.int ct), (.ref a)])) rfl rfl (hb hby d7_88)
        have O66 : Obj Z h66 a "com/example/graphweft/graphweft/RangeMaxTree" sch_rt [(.ref b1), (.ref b2), (.ref b3), (.ref b4), (.ref b5), (.ref b6), (.ref b7), (.int sc), (.int sz), (.int nc), (.long bd), (.int ss), (.int bs), (.int 1), (.int 0), (.int ce), (.int ct), (.int ct), (.int te)] := Ob_lr_a.set (so_sch_rt hw) W66 16 rfl (Nat.le_of_ble_eq_true rfl)
        have N66 := Fr.snoc X66 N_lr ga
        have Z66 := Nat.le_trans Zz_lr (Keep.of_wr W66).1
        have K66 := Kp_lr.wr W66 (wi 0 rfl)
        refine qat 91 #[(vr a), un] [] st66 ?_
        refine qaN 92 X66 hx hby d7_91 rfl rfl ?_
        refine qaN 93 X66 hx hby d7_92 rfl rfl ?_
        refine qg 96 X66 hx hZ hown (tw65 hw) e66 (O66.fld 18 rfl rfl) hby d7_93 rfl fun T67 X67 e67 => ?_
        have F69 := (Fa_lr_b1.other W66 (Ne.symm (Ob_lr_a.ne_fa (tw2 hw) Fa_lr_b1)))
        have F70 := (Fa_lr_b2.other W66 (Ne.symm (Ob_lr_a.ne_fa (tw2 hw) Fa_lr_b2)))
        have F71 := (Fa_lr_b6.other W66 (Ne.symm (Ob_lr_a.ne_fa (tw2 hw) Fa_lr_b6)))
        obtain ⟨T68, h68, X68, e68, W68, st68⟩ := putF X67 hx hZ hown (host := "") (Or.inl (tw59 hw)) Via.refl e67 (O66.fld 15 rfl rfl) O66.exa (Or.inl (tw60 hw)) (tw2 hw) (ty := .int) (by decide) rfl rfl (g := (mkF m 96 #[(vr a), un] [(.int te), (.ref a)])) rfl rfl (hb hby d7_96)
        have O68 : Obj Z h68 a "com/example/graphweft/graphweft/RangeMaxTree" sch_rt [(.ref b1), (.ref b2), (.ref b3), (.ref b4), (.ref b5), (.ref b6), (.ref b7), (.int sc), (.int sz), (.int nc), (.long bd), (.int ss), (.int bs), (.int 1), (.int 0), (.int te), (.int ct), (.int ct), (.int te)] := O66.set (so_sch_rt hw) W68 15 rfl (Nat.le_of_ble_eq_true rfl)
        have N68 := Fr.snoc X68 N66 ga
        have Z68 := Nat.le_trans Z66 (Keep.of_wr W68).1
        have K68 := K66.wr W68 (wi 0 rfl)
        refine qat 99 #[(vr a), un] [] st68 ?_
        refine qaN 100 X68 hx hby d7_99 rfl rfl ?_
        refine qaN 101 X68 hx hby d7_100 rfl rfl ?_
        refine qg 104 X68 hx hZ hown (tw65 hw) e68 (O68.fld 18 rfl rfl) hby d7_101 rfl fun T72 X72 e72 => ?_
        have F74 := (F69.other W68 (Ne.symm (O66.ne_fa (tw2 hw) F69)))
        have F75 := (F70.other W68 (Ne.symm (O66.ne_fa (tw2 hw) F70)))
        have F76 := (F71.other W68 (Ne.symm (O66.ne_fa (tw2 hw) F71)))
        obtain ⟨T73, h73, X73, e73, W73, st73⟩ := putF X72 hx hZ hown (host := "") (Or.inl (tw63 hw)) Via.refl e72 (O68.fld 17 rfl rfl) O68.exa (Or.inl (tw64 hw)) (tw2 hw) (ty := .int) (by decide) rfl rfl (g := (mkF m 104 #[(vr a), un] [(.int te), (.ref a)])) rfl rfl (hb hby d7_104)
        have O73 : Obj Z h73 a "com/example/graphweft/graphweft/RangeMaxTree" sch_rt [(.ref b1), (.ref b2), (.ref b3), (.ref b4), (.ref b5), (.ref b6), (.ref b7), (.int sc), (.int sz), (.int nc), (.long bd), (.int ss), (.int bs), (.int 1), (.int 0), (.int te), (.int ct), (.int te), (.int te)] := O68.set (so_sch_rt hw) W73 17 rfl (Nat.le_of_ble_eq_true rfl)
        have N73 := Fr.snoc X73 N68 ga
        have Z73 := Nat.le_trans Z68 (Keep.of_wr W73).1
        have K73 := K68.wr W73 (wi 0 rfl)
        refine qat 107 #[(vr a), un] [] st73 ?_
        refine q_goto 0 X73 hx hby d7_107 rfl ?_
        have hge := ge_i hca hce hc8_52
        have hlt := lt_i hct hu hc80_64
        have F77 := (F74.other W73 (Ne.symm (O68.ne_fa (tw2 hw) F74)))
        have F78 := (F75.other W73 (Ne.symm (O68.ne_fa (tw2 hw) F75)))
        have F79 := (F76.other W73 (Ne.symm (O68.ne_fa (tw2 hw) F76)))
        exact lq T73 _ ct te te (t) (u) (u) h73 Z73 X73 e73 N73 K73 O73 F77 F78 F79 hct hu hu htu hu64 (Nat.le_refl u) ((cand_tail hge).symm.trans hcc) (Nat.le_refl u)
      · refine q_cmy 110 X63 hx hby d7_80 rfl (flt hc80_64).2.1 ?_
        refine qc1 111 (-1) X63 hx hby d7_110 rfl rfl ?_
        exact own_retI X63 hx hlk Bd.returns (hb hby d7_111) (by rw [e63]; exact ⟨_, rfl, N_lr, Kp_lr, _, _, _, i, e_, t, _, hca, hce, hct, hie, he64, htu, rfl, (Or.inl ⟨hcc.symm.trans (cand_end (ge_i hca hce hc8_52) (ge_i hct hu hc80_64)), rfl, cand_end (ge_i hca hce hc8_52) (ge_i hct hu hc80_64)⟩), Ob_lr_a⟩) (by decide) (by decide)
  show OEnds p e below s _ _ _ (s₁.setTop (mkF m 0 #[(vr a), un] []))
  refine qaN 1 X0 hx hby d7_0 rfl rfl ?_
  refine qg 4 X0 hx hZ hown (tw61 hw) e0 (O0.fld 16 rfl rfl) hby d7_1 rfl fun T80 X80 e80 => ?_
  refine qaN 5 X80 hx hby d7_4 rfl rfl ?_
  refine qg 8 X80 hx hZ hown (tw59 hw) e80 (O0.fld 15 rfl rfl) hby d7_5 rfl fun T81 X81 e81 => ?_
  refine q_cmy 42 X81 hx hby d7_8 rfl (flt (by decide : ¬ ((0 : Int32) < (0 : Int32)))).2.1 ?_
  refine qaN 43 X81 hx hby d7_42 rfl rfl ?_
  refine qg 46 X81 hx hZ hown (tw57 hw) e81 (O0.fld 14 rfl rfl) hby d7_43 rfl fun T82 X82 e82 => ?_
  refine q_ifn 49 X82 hx hby d7_46 rfl ((if0 _ _).trans (tlt (by decide : (0 : Int32) < (1 : Int32))).2.2.2) ?_
  refine qaN 50 X82 hx hby d7_49 rfl rfl ?_
  refine qaN 51 X82 hx hby d7_50 rfl rfl ?_
  refine qg 54 X82 hx hZ hown (tw21 hw) e82 (O0.fld 5 rfl rfl) hby d7_51 rfl fun T83 X83 e83 => ?_
  refine qaN 55 X83 hx hby d7_54 rfl rfl ?_
  refine q_dup 56 X83 hx hby d7_55 rfl rfl ?_
  refine qg 59 X83 hx hZ hown (tw57 hw) e83 (O0.fld 14 rfl rfl) hby d7_56 rfl fun T84 X84 e84 => ?_
  refine qc1 60 1 X84 hx hby d7_59 rfl rfl ?_
  refine q_isub 61 X84 hx hby d7_60 rfl ?_
  show OEnds p e below s _ _ _ (T84.setTop (mkF m 61 #[(vr a), un] [(.int 0), (.ref a), (.ref b6), (.ref a)]))
  refine own_by (fun _ k => XS.dupX1 X84.here hx rfl (hb hby d7_61) rfl rfl rfl k) ?_
  show OEnds p e below s _ _ _ (T84.setTop (mkF m 62 #[(vr a), un] [(.int 0), (.ref a), (.int 0), (.ref b6), (.ref a)]))
  obtain ⟨T85, h85, X85, e85, W85, st85⟩ := putF X84 hx hZ hown (host := "") (Or.inl (tw57 hw)) Via.refl e84 (O0.fld 14 rfl rfl) O0.exa (Or.inl (tw58 hw)) (tw2 hw) (ty := .int) (by decide) rfl rfl (g := (mkF m 62 #[(vr a), un] [(.int 0), (.ref a), (.int 0), (.ref b6), (.ref a)])) rfl rfl (hb hby d7_62)
  have O85 : Obj Z h85 a "com/example/graphweft/graphweft/RangeMaxTree" sch_rt [(.ref b1), (.ref b2), (.ref b3), (.ref b4), (.ref b5), (.ref b6), (.ref b7), (.int sc), (.int sz), (.int nc), (.long bd), (.int ss), (.int bs), (.int 1), (.int 0), (.int 0), (.int 0), (.int ta), (.int te)] := O0.set (so_sch_rt hw) W85 14 rfl (Nat.le_of_ble_eq_true rfl)
  have N85 := Fr.snoc X85 N0 ga
  have Z85 := Nat.le_trans Z0 (Keep.of_wr W85).1
  have K85 := K0.wr W85 (wi 0 rfl)
  refine qat 65 #[(vr a), un] [(.int 0), (.ref b6), (.ref a)] st85 ?_
  have F86 := (F_b6.other W85 (Ne.symm (O0.ne_fa (tw2 hw) F_b6)))
  refine qI 66 X85 hx hZ e85 F86 0 (by decide) (by decide) (v := (.int 1)) (congrArg Value.int hnd) hby d7_65 rfl ?_
  by_cases hlok : (g2 ((bs + (1 : Int32)).toInt.toNat)) < bd
  · show OEnds p e below s _ _ _ (T85.setTop (mkF m 66 #[(vr a), un] [(.int 1), (.ref a)]))
    have F88 := (F_b2.other W85 (Ne.symm (O0.ne_fa (tw2 hw) F_b2)))
    obtain ⟨v87, T87, L87, h87, X87, e87, hQ87, st87⟩ := own_callX X85 hx hZ (y := mn7) hown (tw85 hw) (tw86 hw) (tw87 hw) (tw88 hw) (tw3 hw) (tw2 hw) (by decide) O85.exa (rm_look1_0 l Z a0 hw [] a b1 b2 b3 b4 b5 b6 b7 sc sz nc bd ss bs (0 : Int32) (0 : Int32) (0 : Int32) ta te g2 h85 n0 Z85 O85 F88 hkb hlok) e85 (g := (mkF m 66 #[(vr a), un] [(.int 1), (.ref a)])) rfl (by rw [hml]; rfl) (argsL := [(.int 1)]) (rest := []) (lenOf pd_pIrV rfl) rfl (W := 0) (by show 2 * 0 + _ ≤ _; exact Nat.le_of_eq rfl) (hb hby d7_66) (by decide) (by decide) (by decide) (by decide)
    obtain ⟨rfl, Nq87, Kq87⟩ := hQ87
    have N87 := Fr.app N85 Nq87
    have K87 := K85.trans Kq87 all0
    have Z87 := Nat.le_trans Z85 Kq87.1
    refine qtr 69 #[(vr a), un] [] st87 ?_
    refine q_goto 0 X87 hx hby d7_69 rfl ?_
    have O89 := (O85.keep Kq87 nin0)
    have F90 := ((F_b1.other W85 (Ne.symm (O0.ne_fa (tw2 hw) F_b1))).keep Kq87 nin0)
    have F91 := (F88.keep Kq87 nin0)
    have F92 := (F86.keep Kq87 nin0)
    exact lr T87 _ (0 : Int32) (0 : Int32) ta 0 0 t h87 Z87 X87 e87 N87 K87 O89 F90 F91 F92 (by decide) (by decide) hta (Nat.le_refl 0) (by decide) htu ((cand_lo (hmx hlok)).trans hcc)
  · show OEnds p e below s _ _ _ (T85.setTop (mkF m 66 #[(vr a), un] [(.int 1), (.ref a)]))
    have F94 := (F_b2.other W85 (Ne.symm (O0.ne_fa (tw2 hw) F_b2)))
    obtain ⟨v93, T93, L93, h93, X93, e93, hQ93, st93⟩ := own_callX X85 hx hZ (y := mn7) hown (tw85 hw) (tw86 hw) (tw87 hw) (tw88 hw) (tw3 hw) (tw2 hw) (by decide) O85.exa (rm_look1_1 l Z a0 hw [] a b1 b2 b3 b4 b5 b6 b7 sc sz nc bd ss bs (0 : Int32) (0 : Int32) (0 : Int32) ta te g2 h85 n0 Z85 O85 F94 ga hkb hlok) e85 (g := (mkF m 66 #[(vr a), un] [(.int 1), (.ref a)])) rfl (by rw [hml]; rfl) (argsL := [(.int 1)]) (rest := []) (lenOf pd_pIrV rfl) rfl (W := 0) (by show 2 * 0 + _ ≤ _; exact Nat.le_of_eq rfl) (hb hby d7_66) (by decide) (by decide) (by decide) (by decide)
    obtain ⟨rfl, Nq93, Kq93, O93⟩ := hQ93
    have F95 := (F_b1.other W85 (Ne.symm (O0.ne_fa (tw2 hw) F_b1)))
    have N93 := Fr.app N85 Nq93
    have K93 := K85.trans Kq93 (allS (wi 0 rfl) all0)
    have Z93 := Nat.le_trans Z85 Kq93.1
    refine qtr 69 #[(vr a), un] [] st93 ?_
    refine q_goto 0 X93 hx hby d7_69 rfl ?_
    have F96 := (F95.keep Kq93 (ninS (Ne.symm (O85.ne_fa (tw2 hw) F95)) nin0))
    have F97 := (F94.keep Kq93 (ninS (Ne.symm (O85.ne_fa (tw2 hw) F94)) nin0))
    have F98 := (F86.keep Kq93 (ninS (Ne.symm (O85.ne_fa (tw2 hw) F86)) nin0))
    exact lr T93 _ (ss + (0 : Int32)) ((ss + (0 : Int32)) + (8 : Int32)) ta s0 (s0 + 8) t h93 Z93 X93 e93 N93 K93 O93 F96 F97 F98 (add0_i hss) (add8_i hss (by omega)) hta (by omega) (by omega) htu hcc
set_option maxRecDepth 65536 in
set_option maxHeartbeats 40000000 in
theorem rm_nextP2 (l : Launch) (Z : State) (a0 : Array Value) (hw : ∀ d ∈ tables_1, d.before a0 Z = true) (ws : List Jvm.Cond) (a : Addr) (b1 : Addr) (b2 : Addr) (b3 : Addr) (b4 : Addr) (b5 : Addr) (b6 : Addr) (b7 : Addr) (sc : Int32) (sz : Int32) (nc : Int32) (bd : Int64) (ss : Int32) (bs : Int32) (ta : Int32) (te : Int32) (g1 : Nat → Int64) (g2 : Nat → Int64) (g6 : Nat → Int32) (s0 : Nat) (t : Nat) (u : Nat) (CC : List Nat) (h0 : Heap) (n0 : Nat) (Z0 : n0 ≤ h0.size) (O0 : Obj Z h0 a "com/example/graphweft/graphweft/RangeMaxTree" sch_rt [(.ref b1), (.ref b2), (.ref b3), (.ref b4), (.ref b5), (.ref b6), (.ref b7), (.int sc), (.int sz), (.int nc), (.long bd), (.int ss), (.int bs), (.int 2), (.int 1), (.int 0), (.int 0), (.int ta), (.int te)]) (F_b1 : FA Z h0 b1 .long 64 (fun i => .long (g1 i))) (F_b2 : FA Z h0 b2 .long 64 (fun i => .long (g2 i))) (F_b6 : FA Z h0 b6 .int 96 (fun i => .int (g6 i))) (ga : n0 ≤ a) (hta : ta.toInt = (t : Int)) (hu : te.toInt = (u : Int)) (htu : t ≤ u) (hu64 : u ≤ 64) (hkb : 0 ≤ (bs + (2 : Int32)).toInt ∧ (bs + (2 : Int32)).toInt < 64) (hnd : g6 0 = (2 : Int32)) (hss : ss.toInt = (s0 : Int)) (hs50 : s0 ≤ 50) (hmx : (g2 ((bs + (2 : Int32)).toInt.toNat)) < bd → ∀ j, j < 8 → g1 (s0 + j) < bd) (hcc : cand g1 bd s0 (s0 + 8) t u = CC) :
    MetFree l mn8 (head1 (Jvm.Cond.code mn8 prog_32_method_9_code 2 (some .int) :: ws) ({ frames := 1, cells := 0, slots := 0, locals := 13 } : Room)) (fun a_ U => a_ = #[(.ref a)] ∧ Z.Warmed39 U.vm ∧ U.heap = h0) (fun _ _ _ _ _ => True) (fun _ U o U' => ∃ v_ L_, o = .returned v_ ∧ Q_next Z a b1 b2 b3 b4 b5 b6 b7 sc sz nc bd ss bs (2 : Int32) te g1 u CC h0 n0 v_ U'.heap L_ ∧ FrameEnd U o U' L_ ({ frames := 1, cells := 0, slots := 0, locals := 13 } : Room).cells ({ frames := 1, cells := 0, slots := 0, locals := 13 } : Room).slots) := by
  refine MetFree.of_bodySF (plainFor_of_name pn_7) hisR ?_
  intro p e s m args below meth c s₁ Bd hml0 hP hK
  obtain ⟨rfl, hZ, hh⟩ := hP
  have hx := Bd.exec
  have hby := Bd.bytes
  have hlk : meth.locks = false := Bd.notSynchronized
  have hml : c.maxLocals = 2 := hml0
  have hown : s.vm.findClass "com/example/graphweft/graphweft/RangeMaxTree" = some m.cls := findClass_of_methodNamed Bd.named
  have hnm := (name_of_methodNamed Bd.named Bd.method).1
  have X0 : Stand p l e ({ frames := 1, cells := 0, slots := 0, locals := 13 } : Room) s m #[(.ref a)] below meth c s₁ [] 0 0 := Stand.of_body Bd
  have e0 : s₁.heap = h0 := by rw [← hh, Bd.state]; rfl
  have N0 := Fr.nil n0
  have K0 : Keep h0 h0 [a] := Keep.refl _ _
  show OEnds p e below s (Q_next Z a b1 b2 b3 b4 b5 b6 b7 sc sz nc bd ss bs (2 : Int32) te g1 u CC h0 n0) _ _ _
  refine own_by (fun t k => castTop (ef_7 m a) k) ?_
  show OEnds p e below s _ _ _ (s₁.setTop (mkF m 0 #[(vr a), un] []))
  have lp : ∀ (dd : Nat) (T : State) (lo : List Loc) (d1 : Int32) (ca : Int32) (ce : Int32) (ct : Int32) (i : Nat) (e_ : Nat) (t : Nat) (h_lp : Heap) (Zz_lp : n0 ≤ h_lp.size) (X_lp : Stand p l e ({ frames := 1, cells := 0, slots := 0, locals := 13 } : Room) s m #[(.ref a)] below meth c T lo 0 0) (e_lp : T.heap = h_lp) (N_lp : Fr n0 lo) (Kp_lp : Keep h0 h_lp [a]) (Ob_lp_a : Obj Z h_lp a "com/example/graphweft/graphweft/RangeMaxTree" sch_rt [(.ref b1), (.ref b2), (.ref b3), (.ref b4), (.ref b5), (.ref b6), (.ref b7), (.int sc), (.int sz), (.int nc), (.long bd), (.int ss), (.int bs), (.int 2), (.int 0), (.int ce), (.int ca), (.int ct), (.int te)]) (Fa_lp_b1 : FA Z h_lp b1 .long 64 (fun i => .long (g1 i))) (Fa_lp_b2 : FA Z h_lp b2 .long 64 (fun i => .long (g2 i))) (Fa_lp_b6 : FA Z h_lp b6 .int 96 (fun i => .int (g6 i))) (hca : ca.toInt = (i : Int)) (hce : ce.toInt = (e_ : Int)) (hct : ct.toInt = (t : Int)) (hie : i ≤ e_) (he64 : e_ ≤ 64) (htu : t ≤ u) (hcc : cand g1 bd i e_ t u = CC) (hd : (e_ - i) + 2 * (u - t) ≤ dd), OEnds p e below s (Q_next Z a b1 b2 b3 b4 b5 b6 b7 sc sz nc bd ss bs (2 : Int32) te g1 u CC h0 n0) 0 0 (T.setTop (mkF m 0 #[(vr a), (vi d1)] [])) := by
    intro dd
    induction dd with
    | zero =>
      intro T lo d1 ca ce ct i e_ t h_lp Zz_lp X_lp e_lp N_lp Kp_lp Ob_lp_a Fa_lp_b1 Fa_lp_b2 Fa_lp_b6 hca hce hct hie he64 htu hcc hd
      show OEnds p e below s _ _ _ (T.setTop (mkF m 0 #[(vr a), (vi d1)] []))
      refine qaN 1 X_lp hx hby d7_0 rfl rfl ?_
      refine qg 4 X_lp hx hZ hown (tw61 hw) e_lp (Ob_lp_a.fld 16 rfl rfl) hby d7_1 rfl fun T1 X1 e1 => ?_
      refine qaN 5 X1 hx hby d7_4 rfl rfl ?_
      refine qg 8 X1 hx hZ hown (tw59 hw) e1 (Ob_lp_a.fld 15 rfl rfl) hby d7_5 rfl fun T2 X2 e2 => ?_
      refine q_cmy 42 X2 hx hby d7_8 rfl (flt (nlt_i hca hce (by omega))).2.1 ?_
      refine qaN 43 X2 hx hby d7_42 rfl rfl ?_
      refine qg 46 X2 hx hZ hown (tw57 hw) e2 (Ob_lp_a.fld 14 rfl rfl) hby d7_43 rfl fun T3 X3 e3 => ?_
      refine q_ify 72 X3 hx hby d7_46 rfl ((if0 _ _).trans (flt (by decide : ¬ ((0 : Int32) < (0 : Int32)))).2.2.2) ?_
      refine qaN 73 X3 hx hby d7_72 rfl rfl ?_
      refine qg 76 X3 hx hZ hown (tw63 hw) e3 (Ob_lp_a.fld 17 rfl rfl) hby d7_73 rfl fun T4 X4 e4 => ?_
      refine qaN 77 X4 hx hby d7_76 rfl rfl ?_
      refine qg 80 X4 hx hZ hown (tw65 hw) e4 (Ob_lp_a.fld 18 rfl rfl) hby d7_77 rfl fun T5 X5 e5 => ?_
      refine q_cmy 110 X5 hx hby d7_80 rfl (flt (nlt_i hct hu (by omega))).2.1 ?_
      refine qc1 111 (-1) X5 hx hby d7_110 rfl rfl ?_
      exact own_retI X5 hx hlk Bd.returns (hb hby d7_111) (by rw [e5]; exact ⟨_, rfl, N_lp, Kp_lp, _, _, _, i, e_, t, _, hca, hce, hct, hie, he64, htu, rfl, (Or.inl ⟨hcc.symm.trans (cand_end (by omega) (by omega)), rfl, cand_end (by omega) (by omega)⟩), Ob_lp_a⟩) (by decide) (by decide)
    | succ dd ih_lp =>
      intro T lo d1 ca ce ct i e_ t h_lp Zz_lp X_lp e_lp N_lp Kp_lp Ob_lp_a Fa_lp_b1 Fa_lp_b2 Fa_lp_b6 hca hce hct hie he64 htu hcc hd
      show OEnds p e below s _ _ _ (T.setTop (mkF m 0 #[(vr a), (vi d1)] []))
      refine qaN 1 X_lp hx hby d7_0 rfl rfl ?_
      refine qg 4 X_lp hx hZ hown (tw61 hw) e_lp (Ob_lp_a.fld 16 rfl rfl) hby d7_1 rfl fun T6 X6 e6 => ?_
      refine qaN 5 X6 hx hby d7_4 rfl rfl ?_
      refine qg 8 X6 hx hZ hown (tw59 hw) e6 (Ob_lp_a.fld 15 rfl rfl) hby d7_5 rfl fun T7 X7 e7 => ?_
      by_cases hc8_8 : ca < ce
      · refine q_cmn 11 X7 hx hby d7_8 rfl (tlt hc8_8).2.1 ?_
        refine qaN 12 X7 hx hby d7_11 rfl rfl ?_
        refine q_dup 13 X7 hx hby d7_12 rfl rfl ?_
        refine qg 16 X7 hx hZ hown (tw61 hw) e7 (Ob_lp_a.fld 16 rfl rfl) hby d7_13 rfl fun T9 X9 e9 => ?_
        refine own_by (fun _ k => XS.dupX1 X9.here hx rfl (hb hby d7_16) rfl rfl rfl k) ?_
        show OEnds p e below s _ _ _ (T9.setTop (mkF m 17 #[(vr a), (vi d1)] [(.int ca), (.ref a), (.int ca)]))
        refine qc1 18 1 X9 hx hby d7_17 rfl rfl ?_
        refine q_iadd 19 X9 hx hby d7_18 rfl ?_
        obtain ⟨T10, h10, X10, e10, W10, st10⟩ := putF X9 hx hZ hown (host := "") (Or.inl (tw61 hw)) Via.refl e9 (Ob_lp_a.fld 16 rfl rfl) Ob_lp_a.exa (Or.inl (tw62 hw)) (tw2 hw) (ty := .int) (by decide) rfl rfl (g := (mkF m 19 #[(vr a), (vi d1)] [(.int (ca + (1 : Int32))), (.ref a), (.int ca)])) rfl rfl (hb hby d7_19)
        have O10 : Obj Z h10 a "com/example/graphweft/graphweft/RangeMaxTree" sch_rt [(.ref b1), (.ref b2), (.ref b3), (.ref b4), (.ref b5), (.ref b6), (.ref b7), (.int sc), (.int sz), (.int nc), (.long bd), (.int ss), (.int bs), (.int 2), (.int 0), (.int ce), (.int (ca + (1 : Int32))), (.int ct), (.int te)] := Ob_lp_a.set (so_sch_rt hw) W10 16 rfl (Nat.le_of_ble_eq_true rfl)
        have N10 := Fr.snoc X10 N_lp ga
        have Z10 := Nat.le_trans Zz_lp (Keep.of_wr W10).1
        have K10 := Kp_lp.wr W10 (wi 0 rfl)
        refine qat 22 #[(vr a), (vi d1)] [(.int ca)] st10 ?_
        refine qsiN 23 #[(vr a), (vi ca)] X10 hx hby d7_22 rfl rfl ?_
        refine qaN 24 X10 hx hby d7_23 rfl rfl ?_
        refine qg 27 X10 hx hZ hown (tw10 hw) e10 (O10.fld 0 rfl rfl) hby d7_24 rfl fun T11 X11 e11 => ?_
        refine qiN 28 X11 hx hby d7_27 rfl rfl ?_
        have F12 := (Fa_lp_b1.other W10 (Ne.symm (Ob_lp_a.ne_fa (tw2 hw) Fa_lp_b1)))
        refine qJ 29 X11 hx hZ e11 F12 i hca (by have := lt_i hca hce hc8_8; omega) (v := (.long (g1 i))) rfl hby d7_28 rfl ?_
        refine qaN 30 X11 hx hby d7_29 rfl rfl ?_
        refine qg 33 X11 hx hZ hown (tw49 hw) e11 (O10.fld 10 rfl rfl) hby d7_30 rfl fun T13 X13 e13 => ?_
        refine own_by (fun _ k => XS.lcmp X13.here hx rfl (hb hby d7_33) rfl k) ?_
        show OEnds p e below s _ _ _ (T13.setTop (mkF m 34 #[(vr a), (vi ca)] [(.int (lcmpW (g1 i) bd))]))
        by_cases hc34_14 : (g1 i) < bd
        · refine q_ify 39 X13 hx hby d7_34 rfl ((if0 _ _).trans (tlt ((lw_lt _ _).mpr hc34_14)).1) ?_
          refine q_goto 0 X13 hx hby d7_39 rfl ?_
          have hlt := lt_i hca hce hc8_8
          have F15 := (Fa_lp_b2.other W10 (Ne.symm (Ob_lp_a.ne_fa (tw2 hw) Fa_lp_b2)))
          have F16 := (Fa_lp_b6.other W10 (Ne.symm (Ob_lp_a.ne_fa (tw2 hw) Fa_lp_b6)))
          exact ih_lp T13 _ ca (ca + (1 : Int32)) ce ct (i + 1) (e_) (t) h10 Z10 X13 e13 N10 K10 O10 F12 F15 F16 (inc_i hca (by omega)) hce hct hlt he64 htu ((cand_miss hlt hc34_14).symm.trans hcc) (by omega)
        · refine q_ifn 37 X13 hx hby d7_34 rfl ((if0 _ _).trans (flt (fun q => hc34_14 ((lw_lt _ _).mp q))).1) ?_
          refine qiN 38 X13 hx hby d7_37 rfl rfl ?_
          exact own_retI X13 hx hlk Bd.returns (hb hby d7_38) (by rw [e13]; exact ⟨_, rfl, N10, K10, _, _, _, (i + 1), e_, t, _, (inc_i hca (by omega)), hce, hct, (by have := lt_i hca hce hc8_8; omega), he64, htu, rfl, (Or.inr ⟨i, hcc.symm.trans (cand_hit (lt_i hca hce hc8_8) hc34_14), hca⟩), O10⟩) (by decide) (by decide)
      · refine q_cmy 42 X7 hx hby d7_8 rfl (flt hc8_8).2.1 ?_
        refine qaN 43 X7 hx hby d7_42 rfl rfl ?_
        refine qg 46 X7 hx hZ hown (tw57 hw) e7 (Ob_lp_a.fld 14 rfl rfl) hby d7_43 rfl fun T17 X17 e17 => ?_
        refine q_ify 72 X17 hx hby d7_46 rfl ((if0 _ _).trans (flt (by decide : ¬ ((0 : Int32) < (0 : Int32)))).2.2.2) ?_
        refine qaN 73 X17 hx hby d7_72 rfl rfl ?_
        refine qg 76 X17 hx hZ hown (tw63 hw) e17 (Ob_lp_a.fld 17 rfl rfl) hby d7_73 rfl fun T18 X18 e18 => ?_
        refine qaN 77 X18 hx hby d7_76 rfl rfl ?_
        refine qg 80 X18 hx hZ hown (tw65 hw) e18 (Ob_lp_a.fld 18 rfl rfl) hby d7_77 rfl fun T19 X19 e19 => ?_
        by_cases hc80_20 : ct < te
        · refine q_cmn 83 X19 hx hby d7_80 rfl (tlt hc80_20).2.1 ?_
          refine qaN 84 X19 hx hby d7_83 rfl rfl ?_
          refine qaN 85 X19 hx hby d7_84 rfl rfl ?_
          refine qg 88 X19 hx hZ hown (tw63 hw) e19 (Ob_lp_a.fld 17 rfl rfl) hby d7_85 rfl fun T21 X21 e21 => ?_
          obtain ⟨T22, h22, X22, e22, W22, st22⟩ := putF X21 hx hZ hown (host := "") (Or.inl (tw61 hw)) Via.refl e21 (Ob_lp_a.fld 16 rfl rfl) Ob_lp_a.exa (Or.inl (tw62 hw)) (tw2 hw) (ty := .int) (by decide) rfl rfl (g := (mkF m 88 #[(vr a), (vi d1)] [(.int ct), (.ref a)])) rfl rfl (hb hby d7_88)
          have O22 : Obj Z h22 a "com/example/graphweft/graphweft/RangeMaxTree" sch_rt [(.ref b1), (.ref b2), (.ref b3), (.ref b4), (.ref b5), (.ref b6), (.ref b7), (.int sc), (.int sz), (.int nc), (.long bd), (.int ss), (.int bs), (.int 2), (.int 0), (.int ce), (.int ct), (.int ct), (.int te)] := Ob_lp_a.set (so_sch_rt hw) W22 16 rfl (Nat.le_of_ble_eq_true rfl)
          have N22 := Fr.snoc X22 N_lp ga
          have Z22 := Nat.le_trans Zz_lp (Keep.of_wr W22).1
          have K22 := Kp_lp.wr W22 (wi 0 rfl)
          refine qat 91 #[(vr a), (vi d1)] [] st22 ?_
          refine qaN 92 X22 hx hby d7_91 rfl rfl ?_
          refine qaN 93 X22 hx hby d7_92 rfl rfl ?_
          refine qg 96 X22 hx hZ hown (tw65 hw) e22 (O22.fld 18 rfl rfl) hby d7_93 rfl fun T23 X23 e23 => ?_
          have F25 := (Fa_lp_b1.other W22 (Ne.symm (Ob_lp_a.ne_fa (tw2 hw) Fa_lp_b1)))
          have F26 := (Fa_lp_b2.other W22 (Ne.symm (Ob_lp_a.ne_fa (tw2 hw) Fa_lp_b2)))
          have F27 := (Fa_lp_b6.other W22 (Ne.symm (Ob_lp_a.ne_fa (tw2 hw) Fa_lp_b6)))
          obtain ⟨T24, h24, X24, e24, W24, st24⟩ := putF X23 hx hZ hown (host := "") (Or.inl (tw59 hw)) Via.refl e23 (O22.fld 15 rfl rfl) O22.exa (Or.inl (tw60 hw)) (tw2 hw) (ty := .int) (by decide) rfl rfl (g := (mkF m 96 #[(vr a), (vi d1)] [(.int te), (.ref a)])) rfl rfl (hb hby d7_96)
          have O24 : Obj Z h24 a "com/example/graphweft/graphweft/RangeMaxTree" sch_rt [(.ref b1), (.ref b2), (.ref b3), (.ref b4), (.ref b5), (.ref b6), (.ref b7), (.int sc), (.int sz), (.int nc), (.long bd), (.int ss), (.int bs), (.int 2), (.int 0), (.int te), (.int ct), (.int ct), (.int te)] := O22.set (so_sch_rt hw) W24 15 rfl (Nat.le_of_ble_eq_true rfl)
          have N24 := Fr.snoc X24 N22 ga
          have Z24 := Nat.le_trans Z22 (Keep.of_wr W24).1
          have K24 := K22.wr W24 (wi 0 rfl)
          refine qat 99 #[(vr a), (vi d1)] [] st24 ?_
          refine qaN 100 X24 hx hby d7_99 rfl rfl ?_
          refine qaN 101 X24 hx hby d7_100 rfl rfl ?_
          refine qg 104 X24 hx hZ hown (tw65 hw) e24 (O24.fld 18 rfl rfl) hby d7_101 rfl fun T28 X28 e28 => ?_
          have F30 := (F25.other W24 (Ne.symm (O22.ne_fa (tw2 hw) F25)))
          have F31 := (F26.other W24 (Ne.symm (O22.ne_fa (tw2 hw) F26)))
          have F32 := (F27.other W24 (Ne.symm (O22.ne_fa (tw2 hw) F27)))
          obtain ⟨T29, h29, X29, e29, W29, st29⟩ := putF X28 hx hZ hown (host := "") (Or.inl (tw63 hw)) Via.refl e28 (O24.fld 17 rfl rfl) O24.exa (Or.inl (tw64 hw)) (tw2 hw) (ty := .int) (by decide) rfl rfl (g := (mkF m 104 #[(vr a), (vi d1)] [(.int te), (.ref a)])) rfl rfl (hb hby d7_104)
          have O29 : Obj Z h29 a "com/example/graphweft/graphweft/RangeMaxTree" sch_rt [(.ref b1), (.ref b2), (.ref b3), (.ref b4), (.ref b5), (.ref b6), (.ref b7), (.int sc), (.int sz), (.int nc), (.long bd), (.int ss), (.int bs), (.int 2), (.int 0), (.int te), (.int ct), (.int te), (.int te)] := O24.set (so_sch_rt hw) W29 17 rfl (Nat.le_of_ble_eq_true rfl)
          have N29 := Fr.snoc X29 N24 ga
          have Z29 := Nat.le_trans Z24 (Keep.of_wr W29).1
          have K29 := K24.wr W29 (wi 0 rfl)
          refine qat 107 #[(vr a), (vi d1)] [] st29 ?_
          refine q_goto 0 X29 hx hby d7_107 rfl ?_
          have hge := ge_i hca hce hc8_8
          have hlt := lt_i hct hu hc80_20
          have F33 := (F30.other W29 (Ne.symm (O24.ne_fa (tw2 hw) F30)))
          have F34 := (F31.other W29 (Ne.symm (O24.ne_fa (tw2 hw) F31)))
          have F35 := (F32.other W29 (Ne.symm (O24.ne_fa (tw2 hw) F32)))
          exact ih_lp T29 _ d1 ct te te (t) (u) (u) h29 Z29 X29 e29 N29 K29 O29 F33 F34 F35 hct hu hu htu hu64 (Nat.le_refl u) ((cand_tail hge).symm.trans hcc) (by omega)
        · refine q_cmy 110 X19 hx hby d7_80 rfl (flt hc80_20).2.1 ?_
          refine qc1 111 (-1) X19 hx hby d7_110 rfl rfl ?_
          exact own_retI X19 hx hlk Bd.returns (hb hby d7_111) (by rw [e19]; exact ⟨_, rfl, N_lp, Kp_lp, _, _, _, i, e_, t, _, hca, hce, hct, hie, he64, htu, rfl, (Or.inl ⟨hcc.symm.trans (cand_end (ge_i hca hce hc8_8) (ge_i hct hu hc80_20)), rfl, cand_end (ge_i hca hce hc8_8) (ge_i hct hu hc80_20)⟩), Ob_lp_a⟩) (by decide) (by decide)
  have lq : ∀ (T : State) (lo : List Loc) (ca : Int32) (ce : Int32) (ct : Int32) (i : Nat) (e_ : Nat) (t : Nat) (h_lq : Heap) (Zz_lq : n0 ≤ h_lq.size) (X_lq : Stand p l e ({ frames := 1, cells := 0, slots := 0, locals := 13 } : Room) s m #[(.ref a)] below meth c T lo 0 0) (e_lq : T.heap = h_lq) (N_lq : Fr n0 lo) (Kp_lq : Keep h0 h_lq [a]) (Ob_lq_a : Obj Z h_lq a "com/example/graphweft/graphweft/RangeMaxTree" sch_rt [(.ref b1), (.ref b2), (.ref b3), (.ref b4), (.ref b5), (.ref b6), (.ref b7), (.int sc), (.int sz), (.int nc), (.long bd), (.int ss), (.int bs), (.int 2), (.int 0), (.int ce), (.int ca), (.int ct), (.int te)]) (Fa_lq_b1 : FA Z h_lq b1 .long 64 (fun i => .long (g1 i))) (Fa_lq_b2 : FA Z h_lq b2 .long 64 (fun i => .long (g2 i))) (Fa_lq_b6 : FA Z h_lq b6 .int 96 (fun i => .int (g6 i))) (hca : ca.toInt = (i : Int)) (hce : ce.toInt = (e_ : Int)) (hct : ct.toInt = (t : Int)) (hie : i ≤ e_) (he64 : e_ ≤ 64) (htu : t ≤ u) (hcc : cand g1 bd i e_ t u = CC) (htt : u ≤ t), OEnds p e below s (Q_next Z a b1 b2 b3 b4 b5 b6 b7 sc sz nc bd ss bs (2 : Int32) te g1 u CC h0 n0) 0 0 (T.setTop (mkF m 0 #[(vr a), un] [])) := by
    intro T lo ca ce ct i e_ t h_lq Zz_lq X_lq e_lq N_lq Kp_lq Ob_lq_a Fa_lq_b1 Fa_lq_b2 Fa_lq_b6 hca hce hct hie he64 htu hcc htt
    show OEnds p e below s _ _ _ (T.setTop (mkF m 0 #[(vr a), un] []))
    refine qaN 1 X_lq hx hby d7_0 rfl rfl ?_
    refine qg 4 X_lq hx hZ hown (tw61 hw) e_lq (Ob_lq_a.fld 16 rfl rfl) hby d7_1 rfl fun T36 X36 e36 => ?_
    refine qaN 5 X36 hx hby d7_4 rfl rfl ?_
    refine qg 8 X36 hx hZ hown (tw59 hw) e36 (Ob_lq_a.fld 15 rfl rfl) hby d7_5 rfl fun T37 X37 e37 => ?_
    by_cases hc8_38 : ca < ce
    · refine q_cmn 11 X37 hx hby d7_8 rfl (tlt hc8_38).2.1 ?_
      refine qaN 12 X37 hx hby d7_11 rfl rfl ?_
      refine q_dup 13 X37 hx hby d7_12 rfl rfl ?_
      refine qg 16 X37 hx hZ hown (tw61 hw) e37 (Ob_lq_a.fld 16 rfl rfl) hby d7_13 rfl fun T39 X39 e39 => ?_
      refine own_by (fun _ k => XS.dupX1 X39.here hx rfl (hb hby d7_16) rfl rfl rfl k) ?_
      show OEnds p e below s _ _ _ (T39.setTop (mkF m 17 #[(vr a), un] [(.int ca), (.ref a), (.int ca)]))
      refine qc1 18 1 X39 hx hby d7_17 rfl rfl ?_
      refine q_iadd 19 X39 hx hby d7_18 rfl ?_
      obtain ⟨T40, h40, X40, e40, W40, st40⟩ := putF X39 hx hZ hown (host := "") (Or.inl (tw61 hw)) Via.refl e39 (Ob_lq_a.fld 16 rfl rfl) Ob_lq_a.exa (Or.inl (tw62 hw)) (tw2 hw) (ty := .int) (by decide) rfl rfl (g := (mkF m 19 #[(vr a), un] [(.int (ca + (1 : Int32))), (.ref a), (.int ca)])) rfl rfl (hb hby d7_19)
      have O40 : Obj Z h40 a "com/example/graphweft/graphweft/RangeMaxTree" sch_rt [(.ref b1), (.ref b2), (.ref b3), (.ref b4), (.ref b5), (.ref b6), (.ref b7), (.int sc), (.int sz), (.int nc), (.long bd), (.int ss), (.int bs), (.int 2), (.int 0), (.int ce), (.int (ca + (1 : Int32))), (.int ct), (.int te)] := Ob_lq_a.set (so_sch_rt hw) W40 16 rfl (Nat.le_of_ble_eq_true rfl)
      have N40 := Fr.snoc X40 N_lq ga
      have Z40 := Nat.le_trans Zz_lq (Keep.of_wr W40).1
      have K40 := Kp_lq.wr W40 (wi 0 rfl)
      refine qat 22 #[(vr a), un] [(.int ca)] st40 ?_
      refine qsiN 23 #[(vr a), (vi ca)] X40 hx hby d7_22 rfl rfl ?_
      refine qaN 24 X40 hx hby d7_23 rfl rfl ?_
      refine qg 27 X40 hx hZ hown (tw10 hw) e40 (O40.fld 0 rfl rfl) hby d7_24 rfl fun T41 X41 e41 => ?_
      refine qiN 28 X41 hx hby d7_27 rfl rfl ?_
      have F42 := (Fa_lq_b1.other W40 (Ne.symm (Ob_lq_a.ne_fa (tw2 hw) Fa_lq_b1)))
      refine qJ 29 X41 hx hZ e41 F42 i hca (by have := lt_i hca hce hc8_38; omega) (v := (.long (g1 i))) rfl hby d7_28 rfl ?_
      refine qaN 30 X41 hx hby d7_29 rfl rfl ?_
      refine qg 33 X41 hx hZ hown (tw49 hw) e41 (O40.fld 10 rfl rfl) hby d7_30 rfl fun T43 X43 e43 => ?_
      refine own_by (fun _ k => XS.lcmp X43.here hx rfl (hb hby d7_33) rfl k) ?_
      show OEnds p e below s _ _ _ (T43.setTop (mkF m 34 #[(vr a), (vi ca)] [(.int (lcmpW (g1 i) bd))]))
      by_cases hc34_44 : (g1 i) < bd
      · refine q_ify 39 X43 hx hby d7_34 rfl ((if0 _ _).trans (tlt ((lw_lt _ _).mpr hc34_44)).1) ?_
        refine q_goto 0 X43 hx hby d7_39 rfl ?_
        have hlt := lt_i hca hce hc8_38
        have F45 := (Fa_lq_b2.other W40 (Ne.symm (Ob_lq_a.ne_fa (tw2 hw) Fa_lq_b2)))
        have F46 := (Fa_lq_b6.other W40 (Ne.symm (Ob_lq_a.ne_fa (tw2 hw) Fa_lq_b6)))
        exact lp 300 T43 _ ca (ca + (1 : Int32)) ce ct (i + 1) (e_) (t) h40 Z40 X43 e43 N40 K40 O40 F42 F45 F46 (inc_i hca (by omega)) hce hct hlt he64 htu ((cand_miss hlt hc34_44).symm.trans hcc) (by omega)
      · refine q_ifn 37 X43 hx hby d7_34 rfl ((if0 _ _).trans (flt (fun q => hc34_44 ((lw_lt _ _).mp q))).1) ?_
        refine qiN 38 X43 hx hby d7_37 rfl rfl ?_
        exact own_retI X43 hx hlk Bd.returns (hb hby d7_38) (by rw [e43]; exact ⟨_, rfl, N40, K40, _, _, _, (i + 1), e_, t, _, (inc_i hca (by omega)), hce, hct, (by have := lt_i hca hce hc8_38; omega), he64, htu, rfl, (Or.inr ⟨i, hcc.symm.trans (cand_hit (lt_i hca hce hc8_38) hc34_44), hca⟩), O40⟩) (by decide) (by decide)
    · refine q_cmy 42 X37 hx hby d7_8 rfl (flt hc8_38).2.1 ?_
      refine qaN 43 X37 hx hby d7_42 rfl rfl ?_
      refine qg 46 X37 hx hZ hown (tw57 hw) e37 (Ob_lq_a.fld 14 rfl rfl) hby d7_43 rfl fun T47 X47 e47 => ?_
      refine q_ify 72 X47 hx hby d7_46 rfl ((if0 _ _).trans (flt (by decide : ¬ ((0 : Int32) < (0 : Int32)))).2.2.2) ?_
      refine qaN 73 X47 hx hby d7_72 rfl rfl ?_
      refine qg 76 X47 hx hZ hown (tw63 hw) e47 (Ob_lq_a.fld 17 rfl rfl) hby d7_73 rfl fun T48 X48 e48 => ?_
      refine qaN 77 X48 hx hby d7_76 rfl rfl ?_
      refine qg 80 X48 hx hZ hown (tw65 hw) e48 (Ob_lq_a.fld 18 rfl rfl) hby d7_77 rfl fun T49 X49 e49 => ?_
      refine q_cmy 110 X49 hx hby d7_80 rfl (flt (nlt_i hct hu htt)).2.1 ?_
      refine qc1 111 (-1) X49 hx hby d7_110 rfl rfl ?_
      exact own_retI X49 hx hlk Bd.returns (hb hby d7_111) (by rw [e49]; exact ⟨_, rfl, N_lq, Kp_lq, _, _, _, i, e_, t, _, hca, hce, hct, hie, he64, htu, rfl, (Or.inl ⟨hcc.symm.trans (cand_end (ge_i hca hce hc8_38) htt), rfl, cand_end (ge_i hca hce hc8_38) htt⟩), Ob_lq_a⟩) (by decide) (by decide)
  have lr : ∀ (T : State) (lo : List Loc) (ca : Int32) (ce : Int32) (ct : Int32) (i : Nat) (e_ : Nat) (t : Nat) (h_lr : Heap) (Zz_lr : n0 ≤ h_lr.size) (X_lr : Stand p l e ({ frames := 1, cells := 0, slots := 0, locals := 13 } : Room) s m #[(.ref a)] below meth c T lo 0 0) (e_lr : T.heap = h_lr) (N_lr : Fr n0 lo) (Kp_lr : Keep h0 h_lr [a]) (Ob_lr_a : Obj Z h_lr a "com/example/graphweft/graphweft/RangeMaxTree" sch_rt [(.ref b1), (.ref b2), (.ref b3), (.ref b4), (.ref b5), (.ref b6), (.ref b7), (.int sc), (.int sz), (.int nc), (.long bd), (.int ss), (.int bs), (.int 2), (.int 0), (.int ce), (.int ca), (.int ct), (.int te)]) (Fa_lr_b1 : FA Z h_lr b1 .long 64 (fun i => .long (g1 i))) (Fa_lr_b2 : FA Z h_lr b2 .long 64 (fun i => .long (g2 i))) (Fa_lr_b6 : FA Z h_lr b6 .int 96 (fun i => .int (g6 i))) (hca : ca.toInt = (i : Int)) (hce : ce.toInt = (e_ : Int)) (hct : ct.toInt = (t : Int)) (hie : i ≤ e_) (he64 : e_ ≤ 64) (htu : t ≤ u) (hcc : cand g1 bd i e_ t u = CC), OEnds p e below s (Q_next Z a b1 b2 b3 b4 b5 b6 b7 sc sz nc bd ss bs (2 : Int32) te g1 u CC h0 n0) 0 0 (T.setTop (mkF m 0 #[(vr a), un] [])) := by
    intro T lo ca ce ct i e_ t h_lr Zz_lr X_lr e_lr N_lr Kp_lr Ob_lr_a Fa_lr_b1 Fa_lr_b2 Fa_lr_b6 hca hce hct hie he64 htu hcc
    show OEnds p e below s _ _ _ (T.setTop (mkF m 0 #[(vr a), un] []))
    refine qaN 1 X_lr hx hby d7_0 rfl rfl ?_
    refine qg 4 X_lr hx hZ hown (tw61 hw) e_lr (Ob_lr_a.fld 16 rfl rfl) hby d7_1 rfl fun T50 X50 e50 => ?_
    refine qaN 5 X50 hx hby d7_4 rfl rfl ?_
    refine qg 8 X50 hx hZ hown (tw59 hw) e50 (Ob_lr_a.fld 15 rfl rfl) hby d7_5 rfl fun T51 X51 e51 => ?_
    by_cases hc8_52 : ca < ce
    · refine q_cmn 11 X51 hx hby d7_8 rfl (tlt hc8_52).2.1 ?_
      refine qaN 12 X51 hx hby d7_11 rfl rfl ?_
      refine q_dup 13 X51 hx hby d7_12 rfl rfl ?_
      refine qg 16 X51 hx hZ hown (tw61 hw) e51 (Ob_lr_a.fld 16 rfl rfl) hby d7_13 rfl fun T53 X53 e53 => ?_
      refine own_by (fun _ k => XS.dupX1 X53.here hx rfl (hb hby d7_16) rfl rfl rfl k) ?_
      show OEnds p e below s _ _ _ (T53.setTop (mkF m 17 #[(vr a), un] [(.int ca), (.ref a), (.int ca)]))
      refine qc1 18 1 X53 hx hby d7_17 rfl rfl ?_
      refine q_iadd 19 X53 hx hby d7_18 rfl ?_
      obtain ⟨T54, h54, X54, e54, W54, st54⟩ := putF X53 hx hZ hown (host := "") (Or.inl (tw61 hw)) Via.refl e53 (Ob_lr_a.fld 16 rfl rfl) Ob_lr_a.exa (Or.inl (tw62 hw)) (tw2 hw) (ty := .int) (by decide) rfl rfl (g := (mkF m 19 #[(vr a), un] [(.int (ca + (1 : Int32))), (.ref a), (.int ca)])) rfl rfl (hb hby d7_19)
      have O54 : Obj Z h54 a "com/example/graphweft/graphweft/RangeMaxTree" sch_rt [(.ref b1), (.ref b2), (.ref b3), (.ref b4), (.ref b5), (.ref b6), (.ref b7), (.int sc), (.int sz), (.int nc), (.long bd), (.int ss), (.int bs), (.int 2), (.int 0), (.int ce), (.int (ca + (1 : Int32))), (.int ct), (.int te)] := Ob_lr_a.set (so_sch_rt hw) W54 16 rfl (Nat.le_of_ble_eq_true rfl)
      have N54 := Fr.snoc X54 N_lr ga
      have Z54 := Nat.le_trans Zz_lr (Keep.of_wr W54).1
      have K54 := Kp_lr.wr W54 (wi 0 rfl)
      refine qat 22 #[(vr a), un] [(.int ca)] st54 ?_
      refine qsiN 23 #[(vr a), (vi ca)] X54 hx hby d7_22 rfl rfl ?_
      refine qaN 24 X54 hx hby d7_23 rfl rfl ?_
      refine qg 27 X54 hx hZ hown (tw10 hw) e54 (O54.fld 0 rfl rfl) hby d7_24 rfl fun T55 X55 e55 => ?_
      refine qiN 28 X55 hx hby d7_27 rfl rfl ?_
      have F56 := (Fa_lr_b1.other W54 (Ne.symm (Ob_lr_a.ne_fa (tw2 hw) Fa_lr_b1)))
      refine qJ 29 X55 hx hZ e55 F56 i hca (by have := lt_i hca hce hc8_52; omega) (v := (.long (g1 i))) rfl hby d7_28 rfl ?_
      refine qaN 30 X55 hx hby d7_29 rfl rfl ?_
      refine qg 33 X55 hx hZ hown (tw49 hw) e55 (O54.fld 10 rfl rfl) hby d7_30 rfl fun T57 X57 e57 => ?_
      refine own_by (fun _ k => XS.lcmp X57.here hx rfl (hb hby d7_33) rfl k) ?_
      show OEnds p e below s _ _ _ (T57.setTop (mkF m 34 #[(vr a), (vi ca)] [(.int (lcmpW (g1 i) bd))]))
      by_cases hc34_58 : (g1 i) < bd
      · refine q_ify 39 X57 hx hby d7_34 rfl ((if0 _ _).trans (tlt ((lw_lt _ _).mpr hc34_58)).1) ?_
        refine q_goto 0 X57 hx hby d7_39 rfl ?_
        have hlt := lt_i hca hce hc8_52
        have F59 := (Fa_lr_b2.other W54 (Ne.symm (Ob_lr_a.ne_fa (tw2 hw) Fa_lr_b2)))
        have F60 := (Fa_lr_b6.other W54 (Ne.symm (Ob_lr_a.ne_fa (tw2 hw) Fa_lr_b6)))
        exact lp 300 T57 _ ca (ca + (1 : Int32)) ce ct (i + 1) (e_) (t) h54 Z54 X57 e57 N54 K54 O54 F56 F59 F60 (inc_i hca (by omega)) hce hct hlt he64 htu ((cand_miss hlt hc34_58).symm.trans hcc) (by omega)
      · refine q_ifn 37 X57 hx hby d7_34 rfl ((if0 _ _).trans (flt (fun q => hc34_58 ((lw_lt _ _).mp q))).1) ?_
        refine qiN 38 X57 hx hby d7_37 rfl rfl ?_
        exact own_retI X57 hx hlk Bd.returns (hb hby d7_38) (by rw [e57]; exact ⟨_, rfl, N54, K54, _, _, _, (i + 1), e_, t, _, (inc_i hca (by omega)), hce, hct, (by have := lt_i hca hce hc8_52; omega), he64, htu, rfl, (Or.inr ⟨i, hcc.symm.trans (cand_hit (lt_i hca hce hc8_52) hc34_58), hca⟩), O54⟩) (by decide) (by decide)
    · refine q_cmy 42 X51 hx hby d7_8 rfl (flt hc8_52).2.1 ?_
      refine qaN 43 X51 hx hby d7_42 rfl rfl ?_
      refine qg 46 X51 hx hZ hown (tw57 hw) e51 (Ob_lr_a.fld 14 rfl rfl) hby d7_43 rfl fun T61 X61 e61 => ?_
      refine q_ify 72 X61 hx hby d7_46 rfl ((if0 _ _).trans (flt (by decide : ¬ ((0 : Int32) < (0 : Int32)))).2.2.2) ?_
      refine qaN 73 X61 hx hby d7_72 rfl rfl ?_
      refine qg 76 X61 hx hZ hown (tw63 hw) e61 (Ob_lr_a.fld 17 rfl rfl) hby d7_73 rfl fun T62 X62 e62 => ?_
      refine qaN 77 X62 hx hby d7_76 rfl rfl ?_
      refine qg 80 X62 hx hZ hown (tw65 hw) e62 (Ob_lr_a.fld 18 rfl rfl) hby d7_77 rfl fun T63 X63 e63 => ?_
      by_cases hc80_64 : ct < te
      · refine q_cmn 83 X63 hx hby d7_80 rfl (tlt hc80_64).2.1 ?_
        refine qaN 84 X63 hx hby d7_83 rfl rfl ?_
        refine qaN 85 X63 hx hby d7_84 rfl rfl ?_
        refine qg 88 X63 hx hZ hown (tw63 hw) e63 (Ob_lr_a.fld 17 rfl rfl) hby d7_85 rfl fun T65 X65 e65 => ?_
        obtain ⟨T66, h66, X66, e66, W66, st66⟩ := putF X65 hx hZ hown (host := "") (Or.inl (tw61 hw)) Via.refl e65 (Ob_lr_a.fld 16 rfl rfl) Ob_lr_a.exa (Or.inl (tw62 hw)) (tw2 hw) (ty := .int) (by decide) rfl rfl (g := (mkF m 88 #[(vr a), un] [(.int ct), (.ref a)])) rfl rfl (hb hby d7_88)
        have O66 : Obj Z h66 a "com/example/graphweft/graphweft/RangeMaxTree" sch_rt [(.ref b1), (.ref b2), (.ref b3), (.ref b4), (.ref b5), (.ref b6), (.ref b7), (.int sc), (.int sz), (.int nc), (.long bd), (.int ss), (.int bs), (.int 2), (.int 0), (.int ce), (.int ct), (.int ct), (.int te)] := Ob_lr_a.set (so_sch_rt hw) W66 16 rfl (Nat.le_of_ble_eq_true rfl)
        have N66 := Fr.snoc X66 N_lr ga
        have Z66 := Nat.le_trans Zz_lr (Keep.of_wr W66).1
        have K66 := Kp_lr.wr W66 (wi 0 rfl)
        refine qat 91 #[(vr a), un] [] st66 ?_
        refine qaN 92 X66 hx hby d7_91 rfl rfl ?_
        refine qaN 93 X66 hx hby d7_92 rfl rfl ?_
        refine qg 96 X66 hx hZ hown (tw65 hw) e66 (O66.fld 18 rfl rfl) hby d7_93 rfl fun T67 X67 e67 => ?_
        have F69 := (Fa_lr_b1.other W66 (Ne.symm (Ob_lr_a.ne_fa (tw2 hw) Fa_lr_b1)))
        have F70 := (Fa_lr_b2.other W66 (Ne.symm (Ob_lr_a.ne_fa (tw2 hw) Fa_lr_b2)))
        have F71 := (Fa_lr_b6.other W66 (Ne.symm (Ob_lr_a.ne_fa (tw2 hw) Fa_lr_b6)))
        obtain ⟨T68, h68, X68, e68, W68, st68⟩ := putF X67 hx hZ hown (host := "") (Or.inl (tw59 hw)) Via.refl e67 (O66.fld 15 rfl rfl) O66.exa (Or.inl (tw60 hw)) (tw2 hw) (ty := .int) (by decide) rfl rfl (g := (mkF m 96 #[(vr a), un] [(.int te), (.ref a)])) rfl rfl (hb hby d7_96)
        have O68 : Obj Z h68 a "com/example/graphweft/graphweft/RangeMaxTree" sch_rt [(.ref b1), (.ref b2), (.ref b3), (.ref b4), (.ref b5), (.ref b6), (.ref b7), (.int sc), (.int sz), (.int nc), (.long bd), (.int ss), (.int bs), (.int 2), (.int 0), (.int te), (.int ct), (.int ct), (.int te)] := O66.set (so_sch_rt hw) W68 15 rfl (Nat.le_of_ble_eq_true rfl)
        have N68 := Fr.snoc X68 N66 ga
        have Z68 := Nat.le_trans Z66 (Keep.of_wr W68).1
        have K68 := K66.wr W68 (wi 0 rfl)
        refine qat 99 #[(vr a), un] [] st68 ?_
        refine qaN 100 X68 hx hby d7_99 rfl rfl ?_
        refine qaN 101 X68 hx hby d7_100 rfl rfl ?_
        refine qg 104 X68 hx hZ hown (tw65 hw) e68 (O68.fld 18 rfl rfl) hby d7_101 rfl fun T72 X72 e72 => ?_
        have F74 := (F69.other W68 (Ne.symm (O66.ne_fa (tw2 hw) F69)))
        have F75 := (F70.other W68 (Ne.symm (O66.ne_fa (tw2 hw) F70)))
        have F76 := (F71.other W68 (Ne.symm (O66.ne_fa (tw2 hw) F71)))
        obtain ⟨T73, h73, X73, e73, W73, st73⟩ := putF X72 hx hZ hown (host := "") (Or.inl (tw63 hw)) Via.refl e72 (O68.fld 17 rfl rfl) O68.exa (Or.inl (tw64 hw)) (tw2 hw) (ty := .int) (by decide) rfl rfl (g := (mkF m 104 #[(vr a), un] [(.int te), (.ref a)])) rfl rfl (hb hby d7_104)
        have O73 : Obj Z h73 a "com/example/graphweft/graphweft/RangeMaxTree" sch_rt [(.ref b1), (.ref b2), (.ref b3), (.ref b4), (.ref b5), (.ref b6), (.ref b7), (.int sc), (.int sz), (.int nc), (.long bd), (.int ss), (.int bs), (.int 2), (.int 0), (.int te), (.int ct), (.int te), (.int te)] := O68.set (so_sch_rt hw) W73 17 rfl (Nat.le_of_ble_eq_true rfl)
        have N73 := Fr.snoc X73 N68 ga
        have Z73 := Nat.le_trans Z68 (Keep.of_wr W73).1
        have K73 := K68.wr W73 (wi 0 rfl)
        refine qat 107 #[(vr a), un] [] st73 ?_
        refine q_goto 0 X73 hx hby d7_107 rfl ?_
        have hge := ge_i hca hce hc8_52
        have hlt := lt_i hct hu hc80_64
        have F77 := (F74.other W73 (Ne.symm (O68.ne_fa (tw2 hw) F74)))
        have F78 := (F75.other W73 (Ne.symm (O68.ne_fa (tw2 hw) F75)))
        have F79 := (F76.other W73 (Ne.symm (O68.ne_fa (tw2 hw) F76)))
        exact lq T73 _ ct te te (t) (u) (u) h73 Z73 X73 e73 N73 K73 O73 F77 F78 F79 hct hu hu htu hu64 (Nat.le_refl u) ((cand_tail hge).symm.trans hcc) (Nat.le_refl u)
      · refine q_cmy 110 X63 hx hby d7_80 rfl (flt hc80_64).2.1 ?_
        refine qc1 111 (-1) X63 hx hby d7_110 rfl rfl ?_
        exact own_retI X63 hx hlk Bd.returns (hb hby d7_111) (by rw [e63]; exact ⟨_, rfl, N_lr, Kp_lr, _, _, _, i, e_, t, _, hca, hce, hct, hie, he64, htu, rfl, (Or.inl ⟨hcc.symm.trans (cand_end (ge_i hca hce hc8_52) (ge_i hct hu hc80_64)), rfl, cand_end (ge_i hca hce hc8_52) (ge_i hct hu hc80_64)⟩), Ob_lr_a⟩) (by decide) (by decide)
  show OEnds p e below s _ _ _ (s₁.setTop (mkF m 0 #[(vr a), un] []))
  refine qaN 1 X0 hx hby d7_0 rfl rfl ?_
  refine qg 4 X0 hx hZ hown (tw61 hw) e0 (O0.fld 16 rfl rfl) hby d7_1 rfl fun T80 X80 e80 => ?_
  refine qaN 5 X80 hx hby d7_4 rfl rfl ?_
  refine qg 8 X80 hx hZ hown (tw59 hw) e80 (O0.fld 15 rfl rfl) hby d7_5 rfl fun T81 X81 e81 => ?_
  refine q_cmy 42 X81 hx hby d7_8 rfl (flt (by decide : ¬ ((0 : Int32) < (0 : Int32)))).2.1 ?_
  refine qaN 43 X81 hx hby d7_42 rfl rfl ?_
  refine qg 46 X81 hx hZ hown (tw57 hw) e81 (O0.fld 14 rfl rfl) hby d7_43 rfl fun T82 X82 e82 => ?_
  refine q_ifn 49 X82 hx hby d7_46 rfl ((if0 _ _).trans (tlt (by decide : (0 : Int32) < (1 : Int32))).2.2.2) ?_
  refine qaN 50 X82 hx hby d7_49 rfl rfl ?_
  refine qaN 51 X82 hx hby d7_50 rfl rfl ?_
  refine qg 54 X82 hx hZ hown (tw21 hw) e82 (O0.fld 5 rfl rfl) hby d7_51 rfl fun T83 X83 e83 => ?_
  refine qaN 55 X83 hx hby d7_54 rfl rfl ?_
  refine q_dup 56 X83 hx hby d7_55 rfl rfl ?_
  refine qg 59 X83 hx hZ hown (tw57 hw) e83 (O0.fld 14 rfl rfl) hby d7_56 rfl fun T84 X84 e84 => ?_
  refine qc1 60 1 X84 hx hby d7_59 rfl rfl ?_
  refine q_isub 61 X84 hx hby d7_60 rfl ?_
  show OEnds p e below s _ _ _ (T84.setTop (mkF m 61 #[(vr a), un] [(.int 0), (.ref a), (.ref b6), (.ref a)]))
  refine own_by (fun _ k => XS.dupX1 X84.here hx rfl (hb hby d7_61) rfl rfl rfl k) ?_
  show OEnds p e below s _ _ _ (T84.setTop (mkF m 62 #[(vr a), un] [(.int 0), (.ref a), (.int 0), (.ref b6), (.ref a)]))
  obtain ⟨T85, h85, X85, e85, W85, st85⟩ := putF X84 hx hZ hown (host := "") (Or.inl (tw57 hw)) Via.refl e84 (O0.fld 14 rfl rfl) O0.exa (Or.inl (tw58 hw)) (tw2 hw) (ty := .int) (by decide) rfl rfl (g := (mkF m 62 #[(vr a), un] [(.int 0), (.ref a), (.int 0), (.ref b6), (.ref a)])) rfl rfl (hb hby d7_62)
  have O85 : Obj Z h85 a "com/example/graphweft/graphweft/RangeMaxTree" sch_rt [(.ref b1), (.ref b2), (.ref b3), (.ref b4), (.ref b5), (.ref b6), (.ref b7), (.int sc), (.int sz), (.int nc), (.long bd), (.int ss), (.int bs), (.int 2), (.int 0), (.int 0), (.int 0), (.int ta), (.int te)] := O0.set (so_sch_rt hw) W85 14 rfl (Nat.le_of_ble_eq_true rfl)
  have N85 := Fr.snoc X85 N0 ga
  have Z85 := Nat.le_trans Z0 (Keep.of_wr W85).1
  have K85 := K0.wr W85 (wi 0 rfl)
  refine qat 65 #[(vr a), un] [(.int 0), (.ref b6), (.ref a)] st85 ?_
  have F86 := (F_b6.other W85 (Ne.symm (O0.ne_fa (tw2 hw) F_b6)))
  refine qI 66 X85 hx hZ e85 F86 0 (by decide) (by decide) (v := (.int 2)) (congrArg Value.int hnd) hby d7_65 rfl ?_
  by_cases hlok : (g2 ((bs + (2 : Int32)).toInt.toNat)) < bd
  · show OEnds p e below s _ _ _ (T85.setTop (mkF m 66 #[(vr a), un] [(.int 2), (.ref a)]))
    have F88 := (F_b2.other W85 (Ne.symm (O0.ne_fa (tw2 hw) F_b2)))
    obtain ⟨v87, T87, L87, h87, X87, e87, hQ87, st87⟩ := own_callX X85 hx hZ (y := mn7) hown (tw85 hw) (tw86 hw) (tw87 hw) (tw88 hw) (tw3 hw) (tw2 hw) (by decide) O85.exa (rm_look2_0 l Z a0 hw [] a b1 b2 b3 b4 b5 b6 b7 sc sz nc bd ss bs (0 : Int32) (0 : Int32) (0 : Int32) ta te g2 h85 n0 Z85 O85 F88 hkb hlok) e85 (g := (mkF m 66 #[(vr a), un] [(.int 2), (.ref a)])) rfl (by rw [hml]; rfl) (argsL := [(.int 2)]) (rest := []) (lenOf pd_pIrV rfl) rfl (W := 0) (by show 2 * 0 + _ ≤ _; exact Nat.le_of_eq rfl) (hb hby d7_66) (by decide) (by decide) (by decide) (by decide)
    obtain ⟨rfl, Nq87, Kq87⟩ := hQ87
    have N87 := Fr.app N85 Nq87
    have K87 := K85.trans Kq87 all0
    have Z87 := Nat.le_trans Z85 Kq87.1
    refine qtr 69 #[(vr a), un] [] st87 ?_
    refine q_goto 0 X87 hx hby d7_69 rfl ?_
    have O89 := (O85.keep Kq87 nin0)
    have F90 := ((F_b1.other W85 (Ne.symm (O0.ne_fa (tw2 hw) F_b1))).keep Kq87 nin0)
    have F91 := (F88.keep Kq87 nin0)
    have F92 := (F86.keep Kq87 nin0)
    exact lr T87 _ (0 : Int32) (0 : Int32) ta 0 0 t h87 Z87 X87 e87 N87 K87 O89 F90 F91 F92 (by decide) (by decide) hta (Nat.le_refl 0) (by decide) htu ((cand_lo (hmx hlok)).trans hcc)
  · show OEnds p e below s _ _ _ (T85.setTop (mkF m 66 #[(vr a), un] [(.int 2), (.ref a)]))
    have F94 := (F_b2.other W85 (Ne.symm (O0.ne_fa (tw2 hw) F_b2)))
    obtain ⟨v93, T93, L93, h93, X93, e93, hQ93, st93⟩ := own_callX X85 hx hZ (y := mn7) hown (tw85 hw) (tw86 hw) (tw87 hw) (tw88 hw) (tw3 hw) (tw2 hw) (by decide) O85.exa (rm_look2_1 l Z a0 hw [] a b1 b2 b3 b4 b5 b6 b7 sc sz nc bd ss bs (0 : Int32) (0 : Int32) (0 : Int32) ta te g2 h85 n0 Z85 O85 F94 ga hkb hlok) e85 (g := (mkF m 66 #[(vr a), un] [(.int 2), (.ref a)])) rfl (by rw [hml]; rfl) (argsL := [(.int 2)]) (rest := []) (lenOf pd_pIrV rfl) rfl (W := 0) (by show 2 * 0 + _ ≤ _; exact Nat.le_of_eq rfl) (hb hby d7_66) (by decide) (by decide) (by decide) (by decide)
    obtain ⟨rfl, Nq93, Kq93, O93⟩ := hQ93
    have F95 := (F_b1.other W85 (Ne.symm (O0.ne_fa (tw2 hw) F_b1)))
    have N93 := Fr.app N85 Nq93
    have K93 := K85.trans Kq93 (allS (wi 0 rfl) all0)
    have Z93 := Nat.le_trans Z85 Kq93.1
    refine qtr 69 #[(vr a), un] [] st93 ?_
    refine q_goto 0 X93 hx hby d7_69 rfl ?_
    have F96 := (F95.keep Kq93 (ninS (Ne.symm (O85.ne_fa (tw2 hw) F95)) nin0))
    have F97 := (F94.keep Kq93 (ninS (Ne.symm (O85.ne_fa (tw2 hw) F94)) nin0))
    have F98 := (F86.keep Kq93 (ninS (Ne.symm (O85.ne_fa (tw2 hw) F86)) nin0))
    exact lr T93 _ (ss + (0 : Int32)) ((ss + (0 : Int32)) + (8 : Int32)) ta s0 (s0 + 8) t h93 Z93 X93 e93 N93 K93 O93 F96 F97 F98 (add0_i hss) (add8_i hss (by omega)) hta (by omega) (by omega) htu hcc
def ff_9 (gv : Nat → Int64) (fr to : Int32) (bd : Int64) : Int32 := (-1 : Int32)
def ff_8 (gv : Nat → Int64) (fr to : Int32) (bd : Int64) : Int32 := if ¬ (8 : Int32) < fr ∧ (8 : Int32) < to ∧ ¬ (gv 8) < bd then (8 : Int32) else ff_9 gv fr to bd
def ff_7 (gv : Nat → Int64) (fr to : Int32) (bd : Int64) : Int32 := if ¬ (7 : Int32) < fr ∧ (7 : Int32) < to ∧ ¬ (gv 7) < bd then (7 : Int32) else ff_8 gv fr to bd
def ff_6 (gv : Nat → Int64) (fr to : Int32) (bd : Int64) : Int32 := if ¬ (6 : Int32) < fr ∧ (6 : Int32) < to ∧ ¬ (gv 6) < bd then (6 : Int32) else ff_7 gv fr to bd
def ff_5 (gv : Nat → Int64) (fr to : Int32) (bd : Int64) : Int32 := if ¬ (5 : Int32) < fr ∧ (5 : Int32) < to ∧ ¬ (gv 5) < bd then (5 : Int32) else ff_6 gv fr to bd
def ff_4 (gv : Nat → Int64) (fr to : Int32) (bd : Int64) : Int32 := if ¬ (4 : Int32) < fr ∧ (4 : Int32) < to ∧ ¬ (gv 4) < bd then (4 : Int32) else ff_5 gv fr to bd
def ff_3 (gv : Nat → Int64) (fr to : Int32) (bd : Int64) : Int32 := if ¬ (3 : Int32) < fr ∧ (3 : Int32) < to ∧ ¬ (gv 3) < bd then (3 : Int32) else ff_4 gv fr to bd
def ff_2 (gv : Nat → Int64) (fr to : Int32) (bd : Int64) : Int32 := if ¬ (2 : Int32) < fr ∧ (2 : Int32) < to ∧ ¬ (gv 2) < bd then (2 : Int32) else ff_3 gv fr to bd
def ff_1 (gv : Nat → Int64) (fr to : Int32) (bd : Int64) : Int32 := if ¬ (1 : Int32) < fr ∧ (1 : Int32) < to ∧ ¬ (gv 1) < bd then (1 : Int32) else ff_2 gv fr to bd
def ff_0 (gv : Nat → Int64) (fr to : Int32) (bd : Int64) : Int32 := if ¬ (0 : Int32) < fr ∧ (0 : Int32) < to ∧ ¬ (gv 0) < bd then (0 : Int32) else ff_1 gv fr to bd
theorem d8_0 : decode method_2_code 0 = .ok (.iload_n 1, 1) := by decide +kernel
theorem d8_1 : decode method_2_code 1 = .ok (.ifCond .gt 18, 3) := by decide +kernel
theorem d8_4 : decode method_2_code 4 = .ok (.iconst 0, 1) := by decide +kernel
theorem d8_5 : decode method_2_code 5 = .ok (.iload_n 2, 1) := by decide +kernel
theorem d8_6 : decode method_2_code 6 = .ok (.if_icmp .ge 13, 3) := by decide +kernel
theorem d8_9 : decode method_2_code 9 = .ok (.aload_n 0, 1) := by decide +kernel
theorem d8_10 : decode method_2_code 10 = .ok (.iconst 0, 1) := by decide +kernel
theorem d8_11 : decode method_2_code 11 = .ok (.laload, 1) := by decide +kernel
theorem d8_12 : decode method_2_code 12 = .ok (.lload_n 3, 1) := by decide +kernel
theorem d8_13 : decode method_2_code 13 = .ok (.lcmp, 1) := by decide +kernel
theorem d8_14 : decode method_2_code 14 = .ok (.ifCond .lt 5, 3) := by decide +kernel
theorem d8_17 : decode method_2_code 17 = .ok (.iconst 0, 1) := by decide +kernel
theorem d8_18 : decode method_2_code 18 = .ok (.ireturn, 1) := by decide +kernel
theorem d8_19 : decode method_2_code 19 = .ok (.iload_n 1, 1) := by decide +kernel
theorem d8_20 : decode method_2_code 20 = .ok (.iconst 1, 1) := by decide +kernel
theorem d8_21 : decode method_2_code 21 = .ok (.if_icmp .gt 18, 3) := by decide +kernel
theorem d8_24 : decode method_2_code 24 = .ok (.iconst 1, 1) := by decide +kernel
theorem d8_25 : decode method_2_code 25 = .ok (.iload_n 2, 1) := by decide +kernel
theorem d8_26 : decode method_2_code 26 = .ok (.if_icmp .ge 13, 3) := by decide +kernel
theorem d8_29 : decode method_2_code 29 = .ok (.aload_n 0, 1) := by decide +kernel
theorem d8_30 : decode method_2_code 30 = .ok (.iconst 1, 1) := by decide +kernel
theorem d8_31 : decode method_2_code 31 = .ok (.laload, 1) := by decide +kernel
theorem d8_32 : decode method_2_code 32 = .ok (.lload_n 3, 1) := by decide +kernel
theorem d8_33 : decode method_2_code 33 = .ok (.lcmp, 1) := by decide +kernel
theorem d8_34 : decode method_2_code 34 = .ok (.ifCond .lt 5, 3) := by decide +kernel
theorem d8_37 : decode method_2_code 37 = .ok (.iconst 1, 1) := by decide +kernel
theorem d8_38 : decode method_2_code 38 = .ok (.ireturn, 1) := by decide +kernel
theorem d8_39 : decode method_2_code 39 = .ok (.iload_n 1, 1) := by decide +kernel
theorem d8_40 : decode method_2_code 40 = .ok (.iconst 2, 1) := by decide +kernel
theorem d8_41 : decode method_2_code 41 = .ok (.if_icmp .gt 18, 3) := by decide +kernel
theorem d8_44 : decode method_2_code 44 = .ok (.iconst 2, 1) := by decide +kernel
theorem d8_45 : decode method_2_code 45 = .ok (.iload_n 2, 1) := by decide +kernel
theorem d8_46 : decode method_2_code 46 = .ok (.if_icmp .ge 13, 3) := by decide +kernel
theorem d8_49 : decode method_2_code 49 = .ok (.aload_n 0, 1) := by decide +kernel
theorem d8_50 : decode method_2_code 50 = .ok (.iconst 2, 1) := by decide +kernel
theorem d8_51 : decode method_2_code 51 = .ok (.laload, 1) := by decide +kernel
theorem d8_52 : decode method_2_code 52 = .ok (.lload_n 3, 1) := by decide +kernel
theorem d8_53 : decode method_2_code 53 = .ok (.lcmp, 1) := by decide +kernel
theorem d8_54 : decode method_2_code 54 = .ok (.ifCond .lt 5, 3) := by decide +kernel
theorem d8_57 : decode method_2_code 57 = .ok (.iconst 2, 1) := by decide +kernel
theorem d8_58 : decode method_2_code 58 = .ok (.ireturn, 1) := by decide +kernel
theorem d8_59 : decode method_2_code 59 = .ok (.iload_n 1, 1) := by decide +kernel
theorem d8_60 : decode method_2_code 60 = .ok (.iconst 3, 1) := by decide +kernel
theorem d8_61 : decode method_2_code 61 = .ok (.if_icmp .gt 18, 3) := by decide +kernel
theorem d8_64 : decode method_2_code 64 = .ok (.iconst 3, 1) := by decide +kernel
theorem d8_65 : decode method_2_code 65 = .ok (.iload_n 2, 1) := by decide +kernel
theorem d8_66 : decode method_2_code 66 = .ok (.if_icmp .ge 13, 3) := by decide +kernel
theorem d8_69 : decode method_2_code 69 = .ok (.aload_n 0, 1) := by decide +kernel
theorem d8_70 : decode method_2_code 70 = .ok (.iconst 3, 1) := by decide +kernel
theorem d8_71 : decode method_2_code 71 = .ok (.laload, 1) := by decide +kernel
theorem d8_72 : decode method_2_code 72 = .ok (.lload_n 3, 1) := by decide +kernel
theorem d8_73 : decode method_2_code 73 = .ok (.lcmp, 1) := by decide +kernel
theorem d8_74 : decode method_2_code 74 = .ok (.ifCond .lt 5, 3) := by decide +kernel
theorem d8_77 : decode method_2_code 77 = .ok (.iconst 3, 1) := by decide +kernel
theorem d8_78 : decode method_2_code 78 = .ok (.ireturn, 1) := by decide +kernel
theorem d8_79 : decode method_2_code 79 = .ok (.iload_n 1, 1) := by decide +kernel
theorem d8_80 : decode method_2_code 80 = .ok (.iconst 4, 1) := by decide +kernel
theorem d8_81 : decode method_2_code 81 = .ok (.if_icmp .gt 18, 3) := by decide +kernel
theorem d8_84 : decode method_2_code 84 = .ok (.iconst 4, 1) := by decide +kernel
theorem d8_85 : decode method_2_code 85 = .ok (.iload_n 2, 1) := by decide +kernel
theorem d8_86 : decode method_2_code 86 = .ok (.if_icmp .ge 13, 3) := by decide +kernel
theorem d8_89 : decode method_2_code 89 = .ok (.aload_n 0, 1) := by decide +kernel
theorem d8_90 : decode method_2_code 90 = .ok (.iconst 4, 1) := by decide +kernel
theorem d8_91 : decode method_2_code 91 = .ok (.laload, 1) := by decide +kernel
theorem d8_92 : decode method_2_code 92 = .ok (.lload_n 3, 1) := by decide +kernel
theorem d8_93 : decode method_2_code 93 = .ok (.lcmp, 1) := by decide +kernel
theorem d8_94 : decode method_2_code 94 = .ok (.ifCond .lt 5, 3) := by decide +kernel
theorem d8_97 : decode method_2_code 97 = .ok (.iconst 4, 1) := by decide +kernel
theorem d8_98 : decode method_2_code 98 = .ok (.ireturn, 1) := by decide +kernel
theorem d8_99 : decode method_2_code 99 = .ok (.iload_n 1, 1) := by decide +kernel
theorem d8_100 : decode method_2_code 100 = .ok (.iconst 5, 1) := by decide +kernel
theorem d8_101 : decode method_2_code 101 = .ok (.if_icmp .gt 18, 3) := by decide +kernel
theorem d8_104 : decode method_2_code 104 = .ok (.iconst 5, 1) := by decide +kernel
theorem d8_105 : decode method_2_code 105 = .ok (.iload_n 2, 1) := by decide +kernel
theorem d8_106 : decode method_2_code 106 = .ok (.if_icmp .ge 13, 3) := by decide +kernel
theorem d8_109 : decode method_2_code 109 = .ok (.aload_n 0, 1) := by decide +kernel
theorem d8_110 : decode method_2_code 110 = .ok (.iconst 5, 1) := by decide +kernel
theorem d8_111 : decode method_2_code 111 = .ok (.laload, 1) := by decide +kernel
theorem d8_112 : decode method_2_code 112 = .ok (.lload_n 3, 1) := by decide +kernel
theorem d8_113 : decode method_2_code 113 = .ok (.lcmp, 1) := by decide +kernel
theorem d8_114 : decode method_2_code 114 = .ok (.ifCond .lt 5, 3) := by decide +kernel
theorem d8_117 : decode method_2_code 117 = .ok (.iconst 5, 1) := by decide +kernel
theorem d8_118 : decode method_2_code 118 = .ok (.ireturn, 1) := by decide +kernel
theorem d8_119 : decode method_2_code 119 = .ok (.iload_n 1, 1) := by decide +kernel
theorem d8_120 : decode method_2_code 120 = .ok (.bipush 6, 2) := by decide +kernel
theorem d8_122 : decode method_2_code 122 = .ok (.if_icmp .gt 21, 3) := by decide +kernel
theorem d8_125 : decode method_2_code 125 = .ok (.bipush 6, 2) := by decide +kernel
theorem d8_127 : decode method_2_code 127 = .ok (.iload_n 2, 1) := by decide +kernel
theorem d8_128 : decode method_2_code 128 = .ok (.if_icmp .ge 15, 3) := by decide +kernel
theorem d8_131 : decode method_2_code 131 = .ok (.aload_n 0, 1) := by decide +kernel
theorem d8_132 : decode method_2_code 132 = .ok (.bipush 6, 2) := by decide +kernel
theorem d8_134 : decode method_2_code 134 = .ok (.laload, 1) := by decide +kernel
theorem d8_135 : decode method_2_code 135 = .ok (.lload_n 3, 1) := by decide +kernel
theorem d8_136 : decode method_2_code 136 = .ok (.lcmp, 1) := by decide +kernel
theorem d8_137 : decode method_2_code 137 = .ok (.ifCond .lt 6, 3) := by decide +kernel
theorem d8_140 : decode method_2_code 140 = .ok (.bipush 6, 2) := by decide +kernel
theorem d8_142 : decode method_2_code 142 = .ok (.ireturn, 1) := by decide +kernel
theorem d8_143 : decode method_2_code 143 = .ok (.iload_n 1, 1) := by decide +kernel
theorem d8_144 : decode method_2_code 144 = .ok (.bipush 7, 2) := by decide +kernel
theorem d8_146 : decode method_2_code 146 = .ok (.if_icmp .gt 21, 3) := by decide +kernel
theorem d8_149 : decode method_2_code 149 = .ok (.bipush 7, 2) := by decide +kernel
theorem d8_151 : decode method_2_code 151 = .ok (.iload_n 2, 1) := by decide +kernel
theorem d8_152 : decode method_2_code 152 = .ok (.if_icmp .ge 15, 3) := by decide +kernel
theorem d8_155 : decode method_2_code 155 = .ok (.aload_n 0, 1) := by decide +kernel
theorem d8_156 : decode method_2_code 156 = .ok (.bipush 7, 2) := by decide +kernel
theorem d8_158 : decode method_2_code 158 = .ok (.laload, 1) := by decide +kernel
theorem d8_159 : decode method_2_code 159 = .ok (.lload_n 3, 1) := by decide +kernel
theorem d8_160 : decode method_2_code 160 = .ok (.lcmp, 1) := by decide +kernel
theorem d8_161 : decode method_2_code 161 = .ok (.ifCond .lt 6, 3) := by decide +kernel
theorem d8_164 : decode method_2_code 164 = .ok (.bipush 7, 2) := by decide +kernel
theorem d8_166 : decode method_2_code 166 = .ok (.ireturn, 1) := by decide +kernel
theorem d8_167 : decode method_2_code 167 = .ok (.iload_n 1, 1) := by decide +kernel
theorem d8_168 : decode method_2_code 168 = .ok (.bipush 8, 2) := by decide +kernel
theorem d8_170 : decode method_2_code 170 = .ok (.if_icmp .gt 21, 3) := by decide +kernel
theorem d8_173 : decode method_2_code 173 = .ok (.bipush 8, 2) := by decide +kernel
theorem d8_175 : decode method_2_code 175 = .ok (.iload_n 2, 1) := by decide +kernel
theorem d8_176 : decode method_2_code 176 = .ok (.if_icmp .ge 15, 3) := by decide +kernel
theorem d8_179 : decode method_2_code 179 = .ok (.aload_n 0, 1) := by decide +kernel
theorem d8_180 : decode method_2_code 180 = .ok (.bipush 8, 2) := by decide +kernel
theorem d8_182 : decode method_2_code 182 = .ok (.laload, 1) := by decide +kernel
theorem d8_183 : decode method_2_code 183 = .ok (.lload_n 3, 1) := by decide +kernel
theorem d8_184 : decode method_2_code 184 = .ok (.lcmp, 1) := by decide +kernel
theorem d8_185 : decode method_2_code 185 = .ok (.ifCond .lt 6, 3) := by decide +kernel
theorem d8_188 : decode method_2_code 188 = .ok (.bipush 8, 2) := by decide +kernel
theorem d8_190 : decode method_2_code 190 = .ok (.ireturn, 1) := by decide +kernel
theorem d8_191 : decode method_2_code 191 = .ok (.iconst (-1), 1) := by decide +kernel
theorem d8_192 : decode method_2_code 192 = .ok (.ireturn, 1) := by decide +kernel
theorem pn_8 : plainName "com/example/graphweft/graphweft/RangeMaxTreeFindPinLaw" = true := by first | (simp [plainName, overriddenIn]; done) | decide +kernel
theorem ef_8 (m : MethodId) (x0 : Addr) (x1 : Int32) (x2 : Int32) (x3 : Int64) : entryFrame m #[(.ref x0), (.int x1), (.int x2), (.long x3)] 5 = mkF m 0 #[.val (.ref x0), .val (.int x1), .val (.int x2), .val (.long x3), .second] [] := by first | (simp [entryFrame, mkF, argsToLocals, Value.category]; done) | rfl
set_option maxRecDepth 65536 in
set_option maxHeartbeats 40000000 in
theorem rm_ff (l : Launch) (Z : State) (a0 : Array Value) (hw : ∀ d ∈ tables_1, d.before a0 Z = true) (ws : List Jvm.Cond) (b0 : Addr) (q1 : Int32) (q2 : Int32) (q3 : Int64) (gv : Nat → Int64) (h0 : Heap) (n0 : Nat) (Z0 : n0 ≤ h0.size) (F0 : FA Z h0 b0 .long 9 (fun i => .long (gv i))) :
    MetFree l mn9 (head1 (Jvm.Cond.code mn9 method_2_code 5 (some .int) :: ws) ({ frames := 0, cells := 0, slots := 0, locals := 0 } : Room)) (fun a_ U => a_ = #[(.ref b0), (.int q1), (.int q2), (.long q3)] ∧ Z.Warmed39 U.vm ∧ U.heap = h0) (fun _ _ _ _ _ => True) (fun _ U o U' => ∃ v_ L_, o = .returned v_ ∧ QP (.int (ff_0 gv q1 q2 q3)) h0 v_ U'.heap L_ ∧ FrameEnd U o U' L_ ({ frames := 0, cells := 0, slots := 0, locals := 0 } : Room).cells ({ frames := 0, cells := 0, slots := 0, locals := 0 } : Room).slots) := by
  refine MetFree.of_bodySF (plainFor_of_name pn_8) hisR ?_
  intro p e s m args below meth c s₁ Bd hml0 hP hK
  obtain ⟨rfl, hZ, hh⟩ := hP
  have hx := Bd.exec
  have hby := Bd.bytes
  have hlk : meth.locks = false := Bd.notSynchronized
  have hml : c.maxLocals = 5 := hml0
  have hown : s.vm.findClass "com/example/graphweft/graphweft/RangeMaxTreeFindPinLaw" = some m.cls := findClass_of_methodNamed Bd.named
  have hnm := (name_of_methodNamed Bd.named Bd.method).1
  have X0 : Stand p l e ({ frames := 0, cells := 0, slots := 0, locals := 0 } : Room) s m #[(.ref b0), (.int q1), (.int q2), (.long q3)] below meth c s₁ [] 0 0 := Stand.of_body Bd
  have e0 : s₁.heap = h0 := by rw [← hh, Bd.state]; rfl
  have N0 := Fr.nil n0
  have K0 : Keep h0 h0 [] := Keep.refl _ _
  show OEnds p e below s (QP (.int (ff_0 gv q1 q2 q3)) h0) _ _ _
  refine own_by (fun t k => castTop (ef_8 m b0 q1 q2 q3) k) ?_
  show OEnds p e below s _ _ _ (s₁.setTop (mkF m 0 #[(vr b0), (vi q1), (vi q2), (vj q3), sd] []))
  have b191 : ∀ (T : State) (lo : List Loc) (X_b191 : Stand p l e ({ frames := 0, cells := 0, slots := 0, locals := 0 } : Room) s m #[(.ref b0), (.int q1), (.int q2), (.long q3)] below meth c T lo 0 0) (e_b191 : T.heap = h0) (N_b191 : Fr n0 lo) (hlo : lo = []) (hres : ff_9 gv q1 q2 q3 = ff_0 gv q1 q2 q3), OEnds p e below s (QP (.int (ff_0 gv q1 q2 q3)) h0) 0 0 (T.setTop (mkF m 191 #[(vr b0), (vi q1), (vi q2), (vj q3), sd] [])) := by
    intro T lo  X_b191 e_b191 N_b191 hlo hres
    show OEnds p e below s _ _ _ (T.setTop (mkF m 191 #[(vr b0), (vi q1), (vi q2), (vj q3), sd] []))
    refine qc1 192 (-1) X_b191 hx hby d8_191 rfl rfl ?_
    exact own_retI X_b191 hx hlk Bd.returns (hb hby d8_192) ⟨congrArg (fun z => some (Value.int z)) hres, hlo, e_b191⟩ (by decide) (by decide)
  have b167 : ∀ (T : State) (lo : List Loc) (X_b167 : Stand p l e ({ frames := 0, cells := 0, slots := 0, locals := 0 } : Room) s m #[(.ref b0), (.int q1), (.int q2), (.long q3)] below meth c T lo 0 0) (e_b167 : T.heap = h0) (N_b167 : Fr n0 lo) (hlo : lo = []) (hres : ff_8 gv q1 q2 q3 = ff_0 gv q1 q2 q3), OEnds p e below s (QP (.int (ff_0 gv q1 q2 q3)) h0) 0 0 (T.setTop (mkF m 167 #[(vr b0), (vi q1), (vi q2), (vj q3), sd] [])) := by
    intro T lo  X_b167 e_b167 N_b167 hlo hres
    show OEnds p e below s _ _ _ (T.setTop (mkF m 167 #[(vr b0), (vi q1), (vi q2), (vj q3), sd] []))
    refine qiN 168 X_b167 hx hby d8_167 rfl rfl ?_
    refine qc2 170 8 X_b167 hx hby d8_168 rfl rfl ?_
    by_cases hc170_1 : (8 : Int32) < q1
    · refine q_cmy 191 X_b167 hx hby d8_170 rfl (tlt hc170_1).2.2.1 ?_
      exact b191 T _  X_b167 e_b167 N_b167 hlo ((if_neg (fun z => z.1 hc170_1)).symm.trans hres)
    · refine q_cmn 173 X_b167 hx hby d8_170 rfl (flt hc170_1).2.2.1 ?_
      refine qc2 175 8 X_b167 hx hby d8_173 rfl rfl ?_
      refine qiN 176 X_b167 hx hby d8_175 rfl rfl ?_
      by_cases hc176_2 : (8 : Int32) < q2
      · refine q_cmn 179 X_b167 hx hby d8_176 rfl (tlt hc176_2).2.1 ?_
        refine qaN 180 X_b167 hx hby d8_179 rfl rfl ?_
        refine qc2 182 8 X_b167 hx hby d8_180 rfl rfl ?_
        refine qJ 183 X_b167 hx hZ e_b167 F0 8 (by decide) (by decide) (v := (.long (gv 8))) rfl hby d8_182 rfl ?_
        refine qlN 184 X_b167 hx hby d8_183 rfl rfl ?_
        refine own_by (fun _ k => XS.lcmp X_b167.here hx rfl (hb hby d8_184) rfl k) ?_
        show OEnds p e below s _ _ _ (T.setTop (mkF m 185 #[(vr b0), (vi q1), (vi q2), (vj q3), sd] [(.int (lcmpW (gv 8) q3))]))
        by_cases hc185_3 : (gv 8) < q3
        · refine q_ify 191 X_b167 hx hby d8_185 rfl ((if0 _ _).trans (tlt ((lw_lt _ _).mpr hc185_3)).1) ?_
          exact b191 T _  X_b167 e_b167 N_b167 hlo ((if_neg (fun z => z.2.2 hc185_3)).symm.trans hres)
        · refine q_ifn 188 X_b167 hx hby d8_185 rfl ((if0 _ _).trans (flt (fun q => hc185_3 ((lw_lt _ _).mp q))).1) ?_
          refine qc2 190 8 X_b167 hx hby d8_188 rfl rfl ?_
          exact own_retI X_b167 hx hlk Bd.returns (hb hby d8_190) ⟨congrArg (fun z => some (Value.int z)) ((if_pos ⟨hc170_1, hc176_2, hc185_3⟩).symm.trans hres), hlo, e_b167⟩ (by decide) (by decide)
      · refine q_cmy 191 X_b167 hx hby d8_176 rfl (flt hc176_2).2.1 ?_
        exact b191 T _  X_b167 e_b167 N_b167 hlo ((if_neg (fun z => hc176_2 z.2.1)).symm.trans hres)
  have b143 : ∀ (T : State) (lo : List Loc) (X_b143 : Stand p l e ({ frames := 0, cells := 0, slots := 0, locals := 0 } : Room) s m #[(.ref b0), (.int q1), (.int q2), (.long q3)] below meth c T lo 0 0) (e_b143 : T.heap = h0) (N_b143 : Fr n0 lo) (hlo : lo = []) (hres : ff_7 gv q1 q2 q3 = ff_0 gv q1 q2 q3), OEnds p e below s (QP (.int (ff_0 gv q1 q2 q3)) h0) 0 0 (T.setTop (mkF m 143 #[(vr b0), (vi q1), (vi q2), (vj q3), sd] [])) := by
    intro T lo  X_b143 e_b143 N_b143 hlo hres
    show OEnds p e below s _ _ _ (T.setTop (mkF m 143 #[(vr b0), (vi q1), (vi q2), (vj q3), sd] []))
    refine qiN 144 X_b143 hx hby d8_143 rfl rfl ?_
    refine qc2 146 7 X_b143 hx hby d8_144 rfl rfl ?_
    by_cases hc146_4 : (7 : Int32) < q1
    · refine q_cmy 167 X_b143 hx hby d8_146 rfl (tlt hc146_4).2.2.1 ?_
      exact b167 T _  X_b143 e_b143 N_b143 hlo ((if_neg (fun z => z.1 hc146_4)).symm.trans hres)
    · refine q_cmn 149 X_b143 hx hby d8_146 rfl (flt hc146_4).2.2.1 ?_
      refine qc2 151 7 X_b143 hx hby d8_149 rfl rfl ?_
      refine qiN 152 X_b143 hx hby d8_151 rfl rfl ?_
      by_cases hc152_5 : (7 : Int32) < q2
      · refine q_cmn 155 X_b143 hx hby d8_152 rfl (tlt hc152_5).2.1 ?_
        refine qaN 156 X_b143 hx hby d8_155 rfl rfl ?_
        refine qc2 158 7 X_b143 hx hby d8_156 rfl rfl ?_
        refine qJ 159 X_b143 hx hZ e_b143 F0 7 (by decide) (by decide) (v := (.long (gv 7))) rfl hby d8_158 rfl ?_
        refine qlN 160 X_b143 hx hby d8_159 rfl rfl ?_
        refine own_by (fun _ k => XS.lcmp X_b143.here hx rfl (hb hby d8_160) rfl k) ?_
        show OEnds p e below s _ _ _ (T.setTop (mkF m 161 #[(vr b0), (vi q1), (vi q2), (vj q3), sd] [(.int (lcmpW (gv 7) q3))]))
        by_cases hc161_6 : (gv 7) < q3
        · refine q_ify 167 X_b143 hx hby d8_161 rfl ((if0 _ _).trans (tlt ((lw_lt _ _).mpr hc161_6)).1) ?_
          exact b167 T _  X_b143 e_b143 N_b143 hlo ((if_neg (fun z => z.2.2 hc161_6)).symm.trans hres)
        · refine q_ifn 164 X_b143 hx hby d8_161 rfl ((if0 _ _).trans (flt (fun q => hc161_6 ((lw_lt _ _).mp q))).1) ?_
          refine qc2 166 7 X_b143 hx hby d8_164 rfl rfl ?_
          exact own_retI X_b143 hx hlk Bd.returns (hb hby d8_166) ⟨congrArg (fun z => some (Value.int z)) ((if_pos ⟨hc146_4, hc152_5, hc161_6⟩).symm.trans hres), hlo, e_b143⟩ (by decide) (by decide)
      · refine q_cmy 167 X_b143 hx hby d8_152 rfl (flt hc152_5).2.1 ?_
        exact b167 T _  X_b143 e_b143 N_b143 hlo ((if_neg (fun z => hc152_5 z.2.1)).symm.trans hres)
  have b119 : ∀ (T : State) (lo : List Loc) (X_b119 : Stand p l e ({ frames := 0, cells := 0, slots := 0, locals := 0 } : Room) s m #[(.ref b0), (.int q1), (.int q2), (.long q3)] below meth c T lo 0 0) (e_b119 : T.heap = h0) (N_b119 : Fr n0 lo) (hlo : lo = []) (hres : ff_6 gv q1 q2 q3 = ff_0 gv q1 q2 q3), OEnds p e below s (QP (.int (ff_0 gv q1 q2 q3)) h0) 0 0 (T.setTop (mkF m 119 #[(vr b0), (vi q1), (vi q2), (vj q3), sd] [])) := by
    intro T lo  X_b119 e_b119 N_b119 hlo hres
    show OEnds p e below s _ _ _ (T.setTop (mkF m 119 #[(vr b0), (vi q1), (vi q2), (vj q3), sd] []))
    refine qiN 120 X_b119 hx hby d8_119 rfl rfl ?_
    refine qc2 122 6 X_b119 hx hby d8_120 rfl rfl ?_
    by_cases hc122_7 : (6 : Int32) < q1
    · refine q_cmy 143 X_b119 hx hby d8_122 rfl (tlt hc122_7).2.2.1 ?_
      exact b143 T _  X_b119 e_b119 N_b119 hlo ((if_neg (fun z => z.1 hc122_7)).symm.trans hres)
    · refine q_cmn 125 X_b119 hx hby d8_122 rfl (flt hc122_7).2.2.1 ?_
      refine qc2 127 6 X_b119 hx hby d8_125 rfl rfl ?_
      refine qiN 128 X_b119 hx hby d8_127 rfl rfl ?_
      by_cases hc128_8 : (6 : Int32) < q2
      · refine q_cmn 131 X_b119 hx hby d8_128 rfl (tlt hc128_8).2.1 ?_
        refine qaN 132 X_b119 hx hby d8_131 rfl rfl ?_
        refine qc2 134 6 X_b119 hx hby d8_132 rfl rfl ?_
        refine qJ 135 X_b119 hx hZ e_b119 F0 6 (by decide) (by decide) (v := (.long (gv 6))) rfl hby d8_134 rfl ?_
        refine qlN 136 X_b119 hx hby d8_135 rfl rfl ?_
        refine own_by (fun _ k => XS.lcmp X_b119.here hx rfl (hb hby d8_136) rfl k) ?_
        show OEnds p e below s _ _ _ (T.setTop (mkF m 137 #[(vr b0), (vi q1), (vi q2), (vj q3), sd] [(.int (lcmpW (gv 6) q3))]))
        by_cases hc137_9 : (gv 6) < q3
        · refine q_ify 143 X_b119 hx hby d8_137 rfl ((if0 _ _).trans (tlt ((lw_lt _ _).mpr hc137_9)).1) ?_
          exact b143 T _  X_b119 e_b119 N_b119 hlo ((if_neg (fun z => z.2.2 hc137_9)).symm.trans hres)
        · refine q_ifn 140 X_b119 hx hby d8_137 rfl ((if0 _ _).trans (flt (fun q => hc137_9 ((lw_lt _ _).mp q))).1) ?_
          refine qc2 142 6 X_b119 hx hby d8_140 rfl rfl ?_
          exact own_retI X_b119 hx hlk Bd.returns (hb hby d8_142) ⟨congrArg (fun z => some (Value.int z)) ((if_pos ⟨hc122_7, hc128_8, hc137_9⟩).symm.trans hres), hlo, e_b119⟩ (by decide) (by decide)
      · refine q_cmy 143 X_b119 hx hby d8_128 rfl (flt hc128_8).2.1 ?_
        exact b143 T _  X_b119 e_b119 N_b119 hlo ((if_neg (fun z => hc128_8 z.2.1)).symm.trans hres)
  have b99 : ∀ (T : State) (lo : List Loc) (X_b99 : Stand p l e ({ frames := 0, cells := 0, slots := 0, locals := 0 } : Room) s m #[(.ref b0), (.int q1), (.int q2), (.long q3)] below meth c T lo 0 0) (e_b99 : T.heap = h0) (N_b99 : Fr n0 lo) (hlo : lo = []) (hres : ff_5 gv q1 q2 q3 = ff_0 gv q1 q2 q3), OEnds p e below s (QP (.int (ff_0 gv q1 q2 q3)) h0) 0 0 (T.setTop (mkF m 99 #[(vr b0), (vi q1), (vi q2), (vj q3), sd] [])) := by
    intro T lo  X_b99 e_b99 N_b99 hlo hres
    show OEnds p e below s _ _ _ (T.setTop (mkF m 99 #[(vr b0), (vi q1), (vi q2), (vj q3), sd] []))
    refine qiN 100 X_b99 hx hby d8_99 rfl rfl ?_
    refine qc1 101 5 X_b99 hx hby d8_100 rfl rfl ?_
    by_cases hc101_10 : (5 : Int32) < q1
    · refine q_cmy 119 X_b99 hx hby d8_101 rfl (tlt hc101_10).2.2.1 ?_
      exact b119 T _  X_b99 e_b99 N_b99 hlo ((if_neg (fun z => z.1 hc101_10)).symm.trans hres)
    · refine q_cmn 104 X_b99 hx hby d8_101 rfl (flt hc101_10).2.2.1 ?_
      refine qc1 105 5 X_b99 hx hby d8_104 rfl rfl ?_
      refine qiN 106 X_b99 hx hby d8_105 rfl rfl ?_
      by_cases hc106_11 : (5 : Int32) < q2
      · refine q_cmn 109 X_b99 hx hby d8_106 rfl (tlt hc106_11).2.1 ?_
        refine qaN 110 X_b99 hx hby d8_109 rfl rfl ?_
        refine qc1 111 5 X_b99 hx hby d8_110 rfl rfl ?_
        refine qJ 112 X_b99 hx hZ e_b99 F0 5 (by decide) (by decide) (v := (.long (gv 5))) rfl hby d8_111 rfl ?_
        refine qlN 113 X_b99 hx hby d8_112 rfl rfl ?_
        refine own_by (fun _ k => XS.lcmp X_b99.here hx rfl (hb hby d8_113) rfl k) ?_
        show OEnds p e below s _ _ _ (T.setTop (mkF m 114 #[(vr b0), (vi q1), (vi q2), (vj q3), sd] [(.int (lcmpW (gv 5) q3))]))
        by_cases hc114_12 : (gv 5) < q3
        · refine q_ify 119 X_b99 hx hby d8_114 rfl ((if0 _ _).trans (tlt ((lw_lt _ _).mpr hc114_12)).1) ?_
          exact b119 T _  X_b99 e_b99 N_b99 hlo ((if_neg (fun z => z.2.2 hc114_12)).symm.trans hres)
        · refine q_ifn 117 X_b99 hx hby d8_114 rfl ((if0 _ _).trans (flt (fun q => hc114_12 ((lw_lt _ _).mp q))).1) ?_
          refine qc1 118 5 X_b99 hx hby d8_117 rfl rfl ?_
          exact own_retI X_b99 hx hlk Bd.returns (hb hby d8_118) ⟨congrArg (fun z => some (Value.int z)) ((if_pos ⟨hc101_10, hc106_11, hc114_12⟩).symm.trans hres), hlo, e_b99⟩ (by decide) (by decide)
      · refine q_cmy 119 X_b99 hx hby d8_106 rfl (flt hc106_11).2.1 ?_
        exact b119 T _  X_b99 e_b99 N_b99 hlo ((if_neg (fun z => hc106_11 z.2.1)).symm.trans hres)
  have b79 : ∀ (T : State) (lo : List Loc) (X_b79 : Stand p l e ({ frames := 0, cells := 0, slots := 0, locals := 0 } : Room) s m #[(.ref b0), (.int q1), (.int q2), (.long q3)] below meth c T lo 0 0) (e_b79 : T.heap = h0) (N_b79 : Fr n0 lo) (hlo : lo = []) (hres : ff_4 gv q1 q2 q3 = ff_0 gv q1 q2 q3), OEnds p e below s (QP (.int (ff_0 gv q1 q2 q3)) h0) 0 0 (T.setTop (mkF m 79 #[(vr b0), (vi q1), (vi q2), (vj q3), sd] [])) := by
    intro T lo  X_b79 e_b79 N_b79 hlo hres
    show OEnds p e below s _ _ _ (T.setTop (mkF m 79 #[(vr b0), (vi q1), (vi q2), (vj q3), sd] []))
    refine qiN 80 X_b79 hx hby d8_79 rfl rfl ?_
    refine qc1 81 4 X_b79 hx hby d8_80 rfl rfl ?_
    by_cases hc81_13 : (4 : Int32) < q1
    · refine q_cmy 99 X_b79 hx hby d8_81 rfl (tlt hc81_13).2.2.1 ?_
      exact b99 T _  X_b79 e_b79 N_b79 hlo ((if_neg (fun z => z.1 hc81_13)).symm.trans hres)
    · refine q_cmn 84 X_b79 hx hby d8_81 rfl (flt hc81_13).2.2.1 ?_
      refine qc1 85 4 X_b79 hx hby d8_84 rfl rfl ?_
      refine qiN 86 X_b79 hx hby d8_85 rfl rfl ?_
      by_cases hc86_14 : (4 : Int32) < q2
      · refine q_cmn 89 X_b79 hx hby d8_86 rfl (tlt hc86_14).2.1 ?_
        refine qaN 90 X_b79 hx hby d8_89 rfl rfl ?_
        refine qc1 91 4 X_b79 hx hby d8_90 rfl rfl ?_
        refine qJ 92 X_b79 hx hZ e_b79 F0 4 (by decide) (by decide) (v := (.long (gv 4))) rfl hby d8_91 rfl ?_
        refine qlN 93 X_b79 hx hby d8_92 rfl rfl ?_
        refine own_by (fun _ k => XS.lcmp X_b79.here hx rfl (hb hby d8_93) rfl k) ?_
        show OEnds p e below s _ _ _ (T.setTop (mkF m 94 #[(vr b0), (vi q1), (vi q2), (vj q3), sd] [(.int (lcmpW (gv 4) q3))]))
        by_cases hc94_15 : (gv 4) < q3
        · refine q_ify 99 X_b79 hx hby d8_94 rfl ((if0 _ _).trans (tlt ((lw_lt _ _).mpr hc94_15)).1) ?_
          exact b99 T _  X_b79 e_b79 N_b79 hlo ((if_neg (fun z => z.2.2 hc94_15)).symm.trans hres)
        · refine q_ifn 97 X_b79 hx hby d8_94 rfl ((if0 _ _).trans (flt (fun q => hc94_15 ((lw_lt _ _).mp q))).1) ?_
          refine qc1 98 4 X_b79 hx hby d8_97 rfl rfl ?_
          exact own_retI X_b79 hx hlk Bd.returns (hb hby d8_98) ⟨congrArg (fun z => some (Value.int z)) ((if_pos ⟨hc81_13, hc86_14, hc94_15⟩).symm.trans hres), hlo, e_b79⟩ (by decide) (by decide)
      · refine q_cmy 99 X_b79 hx hby d8_86 rfl (flt hc86_14).2.1 ?_
        exact b99 T _  X_b79 e_b79 N_b79 hlo ((if_neg (fun z => hc86_14 z.2.1)).symm.trans hres)
  have b59 : ∀ (T : State) (lo : List Loc) (X_b59 : Stand p l e ({ frames := 0, cells := 0, slots := 0, locals := 0 } : Room) s m #[(.ref b0), (.int q1), (.int q2), (.long q3)] below meth c T lo 0 0) (e_b59 : T.heap = h0) (N_b59 : Fr n0 lo) (hlo : lo = []) (hres : ff_3 gv q1 q2 q3 = ff_0 gv q1 q2 q3), OEnds p e below s (QP (.int (ff_0 gv q1 q2 q3)) h0) 0 0 (T.setTop (mkF m 59 #[(vr b0), (vi q1), (vi q2), (vj q3), sd] [])) := by
    intro T lo  X_b59 e_b59 N_b59 hlo hres
    show OEnds p e below s _ _ _ (T.setTop (mkF m 59 #[(vr b0), (vi q1), (vi q2), (vj q3), sd] []))
    refine qiN 60 X_b59 hx hby d8_59 rfl rfl ?_
    refine qc1 61 3 X_b59 hx hby d8_60 rfl rfl ?_
    by_cases hc61_16 : (3 : Int32) < q1
    · refine q_cmy 79 X_b59 hx hby d8_61 rfl (tlt hc61_16).2.2.1 ?_
      exact b79 T _  X_b59 e_b59 N_b59 hlo ((if_neg (fun z => z.1 hc61_16)).symm.trans hres)
    · refine q_cmn 64 X_b59 hx hby d8_61 rfl (flt hc61_16).2.2.1 ?_
      refine qc1 65 3 X_b59 hx hby d8_64 rfl rfl ?_
      refine qiN 66 X_b59 hx hby d8_65 rfl rfl ?_
      by_cases hc66_17 : (3 : Int32) < q2
      · refine q_cmn 69 X_b59 hx hby d8_66 rfl (tlt hc66_17).2.1 ?_
        refine qaN 70 X_b59 hx hby d8_69 rfl rfl ?_
        refine qc1 71 3 X_b59 hx hby d8_70 rfl rfl ?_
        refine qJ 72 X_b59 hx hZ e_b59 F0 3 (by decide) (by decide) (v := (.long (gv 3))) rfl hby d8_71 rfl ?_
        refine qlN 73 X_b59 hx hby d8_72 rfl rfl ?_
        refine own_by (fun _ k => XS.lcmp X_b59.here hx rfl (hb hby d8_73) rfl k) ?_
        show OEnds p e below s _ _ _ (T.setTop (mkF m 74 #[(vr b0), (vi q1), (vi q2), (vj q3), sd] [(.int (lcmpW (gv 3) q3))]))
        by_cases hc74_18 : (gv 3) < q3
        · refine q_ify 79 X_b59 hx hby d8_74 rfl ((if0 _ _).trans (tlt ((lw_lt _ _).mpr hc74_18)).1) ?_
          exact b79 T _  X_b59 e_b59 N_b59 hlo ((if_neg (fun z => z.2.2 hc74_18)).symm.trans hres)
        · refine q_ifn 77 X_b59 hx hby d8_74 rfl ((if0 _ _).trans (flt (fun q => hc74_18 ((lw_lt _ _).mp q))).1) ?_
          refine qc1 78 3 X_b59 hx hby d8_77 rfl rfl ?_
          exact own_retI X_b59 hx hlk Bd.returns (hb hby d8_78) ⟨congrArg (fun z => some (Value.int z)) ((if_pos ⟨hc61_16, hc66_17, hc74_18⟩).symm.trans hres), hlo, e_b59⟩ (by decide) (by decide)
      · refine q_cmy 79 X_b59 hx hby d8_66 rfl (flt hc66_17).2.1 ?_
        exact b79 T _  X_b59 e_b59 N_b59 hlo ((if_neg (fun z => hc66_17 z.2.1)).symm.trans hres)
  have b39 : ∀ (T : State) (lo : List Loc) (X_b39 : Stand p l e ({ frames := 0, cells := 0, slots := 0, locals := 0 } : Room) s m #[(.ref b0), (.int q1), (.int q2), (.long q3)] below meth c T lo 0 0) (e_b39 : T.heap = h0) (N_b39 : Fr n0 lo) (hlo : lo = []) (hres : ff_2 gv q1 q2 q3 = ff_0 gv q1 q2 q3), OEnds p e below s (QP (.int (ff_0 gv q1 q2 q3)) h0) 0 0 (T.setTop (mkF m 39 #[(vr b0), (vi q1), (vi q2), (vj q3), sd] [])) := by
    intro T lo  X_b39 e_b39 N_b39 hlo hres
    show OEnds p e below s _ _ _ (T.setTop (mkF m 39 #[(vr b0), (vi q1), (vi q2), (vj q3), sd] []))
    refine qiN 40 X_b39 hx hby d8_39 rfl rfl ?_
    refine qc1 41 2 X_b39 hx hby d8_40 rfl rfl ?_
    by_cases hc41_19 : (2 : Int32) < q1
    · refine q_cmy 59 X_b39 hx hby d8_41 rfl (tlt hc41_19).2.2.1 ?_
      exact b59 T _  X_b39 e_b39 N_b39 hlo ((if_neg (fun z => z.1 hc41_19)).symm.trans hres)
    · refine q_cmn 44 X_b39 hx hby d8_41 rfl (flt hc41_19).2.2.1 ?_
      refine qc1 45 2 X_b39 hx hby d8_44 rfl rfl ?_
      refine qiN 46 X_b39 hx hby d8_45 rfl rfl ?_
      by_cases hc46_20 : (2 : Int32) < q2
      · refine q_cmn 49 X_b39 hx hby d8_46 rfl (tlt hc46_20).2.1 ?_
        refine qaN 50 X_b39 hx hby d8_49 rfl rfl ?_
        refine qc1 51 2 X_b39 hx hby d8_50 rfl rfl ?_
        refine qJ 52 X_b39 hx hZ e_b39 F0 2 (by decide) (by decide) (v := (.long (gv 2))) rfl hby d8_51 rfl ?_
        refine qlN 53 X_b39 hx hby d8_52 rfl rfl ?_
        refine own_by (fun _ k => XS.lcmp X_b39.here hx rfl (hb hby d8_53) rfl k) ?_
        show OEnds p e below s _ _ _ (T.setTop (mkF m 54 #[(vr b0), (vi q1), (vi q2), (vj q3), sd] [(.int (lcmpW (gv 2) q3))]))
        by_cases hc54_21 : (gv 2) < q3
        · refine q_ify 59 X_b39 hx hby d8_54 rfl ((if0 _ _).trans (tlt ((lw_lt _ _).mpr hc54_21)).1) ?_
          exact b59 T _  X_b39 e_b39 N_b39 hlo ((if_neg (fun z => z.2.2 hc54_21)).symm.trans hres)
        · refine q_ifn 57 X_b39 hx hby d8_54 rfl ((if0 _ _).trans (flt (fun q => hc54_21 ((lw_lt _ _).mp q))).1) ?_
          refine qc1 58 2 X_b39 hx hby d8_57 rfl rfl ?_
          exact own_retI X_b39 hx hlk Bd.returns (hb hby d8_58) ⟨congrArg (fun z => some (Value.int z)) ((if_pos ⟨hc41_19, hc46_20, hc54_21⟩).symm.trans hres), hlo, e_b39⟩ (by decide) (by decide)
      · refine q_cmy 59 X_b39 hx hby d8_46 rfl (flt hc46_20).2.1 ?_
        exact b59 T _  X_b39 e_b39 N_b39 hlo ((if_neg (fun z => hc46_20 z.2.1)).symm.trans hres)
  have b19 : ∀ (T : State) (lo : List Loc) (X_b19 : Stand p l e ({ frames := 0, cells := 0, slots := 0, locals := 0 } : Room) s m #[(.ref b0), (.int q1), (.int q2), (.long q3)] below meth c T lo 0 0) (e_b19 : T.heap = h0) (N_b19 : Fr n0 lo) (hlo : lo = []) (hres : ff_1 gv q1 q2 q3 = ff_0 gv q1 q2 q3), OEnds p e below s (QP (.int (ff_0 gv q1 q2 q3)) h0) 0 0 (T.setTop (mkF m 19 #[(vr b0), (vi q1), (vi q2), (vj q3), sd] [])) := by
    intro T lo  X_b19 e_b19 N_b19 hlo hres
    show OEnds p e below s _ _ _ (T.setTop (mkF m 19 #[(vr b0), (vi q1), (vi q2), (vj q3), sd] []))
    refine qiN 20 X_b19 hx hby d8_19 rfl rfl ?_
    refine qc1 21 1 X_b19 hx hby d8_20 rfl rfl ?_
    by_cases hc21_22 : (1 : Int32) < q1
    · refine q_cmy 39 X_b19 hx hby d8_21 rfl (tlt hc21_22).2.2.1 ?_
      exact b39 T _  X_b19 e_b19 N_b19 hlo ((if_neg (fun z => z.1 hc21_22)).symm.trans hres)
    · refine q_cmn 24 X_b19 hx hby d8_21 rfl (flt hc21_22).2.2.1 ?_
      refine qc1 25 1 X_b19 hx hby d8_24 rfl rfl ?_
      refine qiN 26 X_b19 hx hby d8_25 rfl rfl ?_
      by_cases hc26_23 : (1 : Int32) < q2
      · refine q_cmn 29 X_b19 hx hby d8_26 rfl (tlt hc26_23).2.1 ?_
        refine qaN 30 X_b19 hx hby d8_29 rfl rfl ?_
        refine qc1 31 1 X_b19 hx hby d8_30 rfl rfl ?_
        refine qJ 32 X_b19 hx hZ e_b19 F0 1 (by decide) (by decide) (v := (.long (gv 1))) rfl hby d8_31 rfl ?_
        refine qlN 33 X_b19 hx hby d8_32 rfl rfl ?_
        refine own_by (fun _ k => XS.lcmp X_b19.here hx rfl (hb hby d8_33) rfl k) ?_
        show OEnds p e below s _ _ _ (T.setTop (mkF m 34 #[(vr b0), (vi q1), (vi q2), (vj q3), sd] [(.int (lcmpW (gv 1) q3))]))
        by_cases hc34_24 : (gv 1) < q3
        · refine q_ify 39 X_b19 hx hby d8_34 rfl ((if0 _ _).trans (tlt ((lw_lt _ _).mpr hc34_24)).1) ?_
          exact b39 T _  X_b19 e_b19 N_b19 hlo ((if_neg (fun z => z.2.2 hc34_24)).symm.trans hres)
        · refine q_ifn 37 X_b19 hx hby d8_34 rfl ((if0 _ _).trans (flt (fun q => hc34_24 ((lw_lt _ _).mp q))).1) ?_
          refine qc1 38 1 X_b19 hx hby d8_37 rfl rfl ?_
          exact own_retI X_b19 hx hlk Bd.returns (hb hby d8_38) ⟨congrArg (fun z => some (Value.int z)) ((if_pos ⟨hc21_22, hc26_23, hc34_24⟩).symm.trans hres), hlo, e_b19⟩ (by decide) (by decide)
      · refine q_cmy 39 X_b19 hx hby d8_26 rfl (flt hc26_23).2.1 ?_
        exact b39 T _  X_b19 e_b19 N_b19 hlo ((if_neg (fun z => hc26_23 z.2.1)).symm.trans hres)
  have hlo : ([] : List Loc) = [] := rfl
  have hres : ff_0 gv q1 q2 q3 = ff_0 gv q1 q2 q3 := rfl
  show OEnds p e below s _ _ _ (s₁.setTop (mkF m 0 #[(vr b0), (vi q1), (vi q2), (vj q3), sd] []))
  refine qiN 1 X0 hx hby d8_0 rfl rfl ?_
  by_cases hc1_25 : (0 : Int32) < q1
  · refine q_ify 19 X0 hx hby d8_1 rfl ((if0 _ _).trans (tlt hc1_25).2.2.1) ?_
    exact b19 s₁ _  X0 e0 N0 hlo ((if_neg (fun z => z.1 hc1_25)).symm.trans hres)
  · refine q_ifn 4 X0 hx hby d8_1 rfl ((if0 _ _).trans (flt hc1_25).2.2.1) ?_
    refine qc1 5 0 X0 hx hby d8_4 rfl rfl ?_
    refine qiN 6 X0 hx hby d8_5 rfl rfl ?_
    by_cases hc6_26 : (0 : Int32) < q2
    · refine q_cmn 9 X0 hx hby d8_6 rfl (tlt hc6_26).2.1 ?_
      refine qaN 10 X0 hx hby d8_9 rfl rfl ?_
      refine qc1 11 0 X0 hx hby d8_10 rfl rfl ?_
      refine qJ 12 X0 hx hZ e0 F0 0 (by decide) (by decide) (v := (.long (gv 0))) rfl hby d8_11 rfl ?_
      refine qlN 13 X0 hx hby d8_12 rfl rfl ?_
      refine own_by (fun _ k => XS.lcmp X0.here hx rfl (hb hby d8_13) rfl k) ?_
      show OEnds p e below s _ _ _ (s₁.setTop (mkF m 14 #[(vr b0), (vi q1), (vi q2), (vj q3), sd] [(.int (lcmpW (gv 0) q3))]))
      by_cases hc14_27 : (gv 0) < q3
      · refine q_ify 19 X0 hx hby d8_14 rfl ((if0 _ _).trans (tlt ((lw_lt _ _).mpr hc14_27)).1) ?_
        exact b19 s₁ _  X0 e0 N0 hlo ((if_neg (fun z => z.2.2 hc14_27)).symm.trans hres)
      · refine q_ifn 17 X0 hx hby d8_14 rfl ((if0 _ _).trans (flt (fun q => hc14_27 ((lw_lt _ _).mp q))).1) ?_
        refine qc1 18 0 X0 hx hby d8_17 rfl rfl ?_
        exact own_retI X0 hx hlk Bd.returns (hb hby d8_18) ⟨congrArg (fun z => some (Value.int z)) ((if_pos ⟨hc1_25, hc6_26, hc14_27⟩).symm.trans hres), hlo, e0⟩ (by decide) (by decide)
    · refine q_cmy 19 X0 hx hby d8_6 rfl (flt hc6_26).2.1 ?_
      exact b19 s₁ _  X0 e0 N0 hlo ((if_neg (fun z => hc6_26 z.2.1)).symm.trans hres)
def ResI (C : List Nat) (r : Int32) : Prop := (C = [] ∧ r = (-1 : Int32)) ∨ ∃ j B, C = j :: B ∧ r.toInt = ((j : Nat) : Int)
theorem ff_step {gv : Nat → Int64} {bd : Int64} {fr to K rest : Int32} {f t k : Nat} (hf : fr.toInt = (f : Int)) (ht : to.toInt = (t : Int)) (hK : K.toInt = (k : Int)) (ih : ResI (FF gv bd (max f (k + 1)) (t - max f (k + 1))) rest) : ResI (FF gv bd (max f k) (t - max f k)) (if ¬ K < fr ∧ K < to ∧ ¬ gv k < bd then K else rest) := by
  by_cases h1 : K < fr
  · rw [if_neg (by simp [h1])]
    rw [Int32.lt_iff_toInt_lt] at h1
    rw [show max f k = max f (k + 1) by omega]; exact ih
  · have h1' := h1
    rw [Int32.lt_iff_toInt_lt] at h1'
    by_cases h2 : K < to
    · have h2' := h2
      rw [Int32.lt_iff_toInt_lt] at h2'
      have e1 : max f k = k := by omega
      have e2 : max f (k + 1) = k + 1 := by omega
      rw [e2] at ih
      rw [e1, show t - k = (t - (k + 1)) + 1 by omega]
      by_cases h3 : gv k < bd
      · rw [if_neg (by simp [h3]), FF_miss h3]; exact ih
      · rw [if_pos ⟨h1, h2, h3⟩, FF_hit h3]
        exact Or.inr ⟨k, _, rfl, hK⟩
    · rw [if_neg (by simp [h2])]
      rw [Int32.lt_iff_toInt_lt] at h2
      rw [show t - max f k = 0 by omega]
      rw [show t - max f (k + 1) = 0 by omega] at ih
      rcases ih with ⟨-, h⟩ | ⟨j, B, h, -⟩
      · exact Or.inl ⟨rfl, h⟩
      · exact absurd h (by simp [FF])
theorem ff_spec (gv : Nat → Int64) (bd : Int64) {fr to : Int32} {f t : Nat} (hf : fr.toInt = (f : Int)) (ht : to.toInt = (t : Int)) (ht9 : t ≤ 9) : ResI (FF gv bd f (t - f)) (ff_0 gv fr to bd) := by
  have h9 : ResI (FF gv bd (max f 9) (t - max f 9)) (ff_9 gv fr to bd) := by
    rw [show t - max f 9 = 0 by omega]; exact Or.inl ⟨rfl, rfl⟩
  have h8 := ff_step (K := 8) (k := 8) hf ht (by decide) h9
  have h7 := ff_step (K := 7) (k := 7) hf ht (by decide) h8
  have h6 := ff_step (K := 6) (k := 6) hf ht (by decide) h7
  have h5 := ff_step (K := 5) (k := 5) hf ht (by decide) h6
  have h4 := ff_step (K := 4) (k := 4) hf ht (by decide) h5
  have h3 := ff_step (K := 3) (k := 3) hf ht (by decide) h4
  have h2 := ff_step (K := 2) (k := 2) hf ht (by decide) h3
  have h1 := ff_step (K := 1) (k := 1) hf ht (by decide) h2
  have h0 := ff_step (K := 0) (k := 0) hf ht (by decide) h1
  have e : max f 0 = f := by omega
  rw [e] at h0
  exact h0
theorem FF_tail {g : Nat → Int64} {bd : Int64} : ∀ {m i j : Nat} {B : List Nat}, FF g bd i m = j :: B → i ≤ j ∧ j < i + m ∧ FF g bd (j + 1) (i + m - (j + 1)) = B := by
  intro m
  induction m with
  | zero => intro i j B h; exact absurd h (by simp [FF])
  | succ m ih =>
    intro i j B h
    by_cases q : g i < bd
    · rw [FF_miss q] at h
      obtain ⟨h1, h2, h3⟩ := ih h
      refine ⟨by omega, by omega, ?_⟩
      rw [← h3]; congr 1; omega
    · rw [FF_hit q] at h
      obtain ⟨rfl, rfl⟩ := List.cons.inj h
      refine ⟨by omega, by omega, ?_⟩
      congr 1; omega
theorem FF_map {g1 gv : Nat → Int64} {bd : Int64} {p : Nat} : ∀ {m i : Nat}, (∀ j, j < m → g1 (p + (i + j)) = gv (i + j)) → FF g1 bd (p + i) m = (FF gv bd i m).map (· + p) := by
  intro m
  induction m with
  | zero => intro i _; rfl
  | succ m ih =>
    intro i h
    have h0 : g1 (p + i) = gv i := by simpa using h 0 (by omega)
    have hi := ih (i := i + 1) fun j hj => by have := h (j + 1) (by omega); rw [show i + 1 + j = i + (j + 1) by omega]; exact this
    by_cases q : gv i < bd
    · rw [FF_miss q, FF_miss (by rw [h0]; exact q), ← hi]; rfl
    · rw [FF_hit q, FF_hit (by rw [h0]; exact q), List.map_cons, ← hi, Nat.add_comm i p]; rfl
def RR (A : List Nat) (p : Nat) (r1 r2 : Int32) : Prop := ∃ rest1 rest2, Res (A.map (· + p)) r1 rest1 ∧ Res rest1 r2 rest2
theorem candS {g1 gv : Nat → Int64} {bd : Int64} {p t n : Nat} (h : ∀ j, j < n → g1 (p + j) = gv j) (ht : t ≤ n) : cand g1 bd 0 0 p (p + t) = (FF gv bd 0 t).map (· + p) := by
  rw [cand, show p + t - p = t by omega]
  show [] ++ FF g1 bd p t = _
  rw [List.nil_append]
  exact FF_map (i := 0) fun j hj => by rw [Nat.zero_add]; exact h j (by omega)
theorem candL {g1 gv : Nat → Int64} {bd : Int64} {p t n : Nat} (h : ∀ j, j < n → g1 (p + j) = gv j) (ht : t ≤ n) (h8 : 8 ≤ t) : cand g1 bd p (p + 8) (p + 8) (p + t) = (FF gv bd 0 t).map (· + p) := by
  rw [← FF_map (g1 := g1) (p := p) (i := 0) (fun j hj => by rw [Nat.zero_add]; exact h j (by omega)), cand, show p + 8 - p = 8 by omega, show p + t - (p + 8) = t - 8 by omega, ← FF_app, show 8 + (t - 8) = t by omega]; rfl
theorem addn {px tv : Int32} {p t : Nat} (hp : px.toInt = (p : Int)) (ht : tv.toInt = (t : Int)) (hb : p + t ≤ 1000) : (px + tv).toInt = ((p + t : Nat) : Int) := by
  have h1 := c_iadd px tv
  have h2 := rng32 (px + tv)
  omega
theorem neg_of {C : List Nat} {r : Int32} (h : ResI C r) (hn : r < (0 : Int32)) : C = [] := by
  rcases h with ⟨h, -⟩ | ⟨j, B, -, h⟩
  · exact h
  · have h0 : (0 : Int32).toInt = 0 := by decide
    rw [Int32.lt_iff_toInt_lt, h0] at hn; omega
theorem nn_of {C : List Nat} {r : Int32} (h : ResI C r) (hn : ¬ r < (0 : Int32)) : ∃ j B, C = j :: B ∧ r.toInt = ((j : Nat) : Int) := by
  rcases h with ⟨-, h⟩ | h
  · exact absurd (by rw [h]; decide) hn
  · exact h
theorem res_nil {r : Int32} {C rest : List Nat} (h : Res C r rest) (hC : C = []) : r = (-1 : Int32) ∧ rest = [] := by
  rcases h with ⟨-, h1, h2⟩ | ⟨j, h, -⟩
  · exact ⟨h1, h2⟩
  · rw [hC] at h; exact absurd h (by simp)
theorem res_cons {r : Int32} {C rest B : List Nat} {j : Nat} (h : Res C r rest) (hC : C = j :: B) : r.toInt = (j : Int) ∧ rest = B := by
  rcases h with ⟨h, -, -⟩ | ⟨k, h, h2⟩
  · rw [hC] at h; exact absurd h (by simp)
  · rw [hC] at h
    obtain ⟨rfl, rfl⟩ := List.cons.inj h
    exact ⟨h2, rfl⟩
theorem fin_neg {A : List Nat} {p : Nat} {r1 r2 f1 : Int32} (h : RR A p r1 r2) (hA : ResI A f1) (hn : f1 < (0 : Int32)) : r1 = (-1 : Int32) ∧ r2 = (-1 : Int32) := by
  obtain ⟨x, y, h1, h2⟩ := h
  rw [neg_of hA hn] at h1
  obtain ⟨e1, rfl⟩ := res_nil h1 rfl
  exact ⟨e1, (res_nil h2 rfl).1⟩
theorem fin_pos {gv : Nat → Int64} {bd : Int64} {t p : Nat} {r1 r2 f1 px tv : Int32} (h : RR (FF gv bd 0 t) p r1 r2) (hA : ResI (FF gv bd 0 t) f1) (hn : ¬ f1 < (0 : Int32)) (hp : px.toInt = (p : Int)) (hp1 : p ≤ 1) (ht : tv.toInt = (t : Int)) (ht9 : t ≤ 9) : r1 = px + f1 ∧ (ff_0 gv (f1 + (1 : Int32)) tv bd < (0 : Int32) → r2 = (-1 : Int32)) ∧ (¬ ff_0 gv (f1 + (1 : Int32)) tv bd < (0 : Int32) → r2 = px + ff_0 gv (f1 + (1 : Int32)) tv bd) := by
  obtain ⟨x, y, h1, h2⟩ := h
  obtain ⟨j, B, e1, e2⟩ := nn_of hA hn
  obtain ⟨l1, l2, l3⟩ := FF_tail e1
  rw [e1, List.map_cons] at h1
  obtain ⟨q1, rfl⟩ := res_cons h1 rfl
  have i1 := inc_i e2 (by omega)
  have hB := ff_spec gv bd i1 ht ht9
  rw [show t - (j + 1) = 0 + t - (j + 1) by omega, l3] at hB
  refine ⟨?_, fun hn2 => ?_, fun hn2 => ?_⟩
  · apply Int32.toInt_inj.mp
    rw [q1, addn hp e2 (by omega)]; omega
  · rw [neg_of hB hn2] at h2
    exact (res_nil h2 rfl).1
  · obtain ⟨k, D, e3, e4⟩ := nn_of hB hn2
    rw [e3, List.map_cons] at h2
    obtain ⟨q2, -⟩ := res_cons h2 rfl
    obtain ⟨-, k2, -⟩ := FF_tail (l3.trans e3)
    apply Int32.toInt_inj.mp
    rw [q2, addn hp e4 (by omega)]; omega
theorem of_lt10 {x : Int32} {k : Nat} (hk : k < 10) (h : x.toInt = (k : Int)) : x = 0 ∨ x = 1 ∨ x = 2 ∨ x = 3 ∨ x = 4 ∨ x = 5 ∨ x = 6 ∨ x = 7 ∨ x = 8 ∨ x = 9 := by
  have t : (0 : Int32).toInt = 0 ∧ (1 : Int32).toInt = 1 ∧ (2 : Int32).toInt = 2 ∧ (3 : Int32).toInt = 3 ∧ (4 : Int32).toInt = 4 ∧ (5 : Int32).toInt = 5 ∧ (6 : Int32).toInt = 6 ∧ (7 : Int32).toInt = 7 ∧ (8 : Int32).toInt = 8 ∧ (9 : Int32).toInt = 9 := by decide
  obtain ⟨t0, t1, t2, t3, t4, t5, t6, t7, t8, t9⟩ := t
  simp only [← Int32.toInt_inj, t0, t1, t2, t3, t4, t5, t6, t7, t8, t9]
  omega
theorem own_n10 (q : Int32) : (((q &&& (15 : Int32)) % (10 : Int32)) = 0 ∨ ((q &&& (15 : Int32)) % (10 : Int32)) = 1 ∨ ((q &&& (15 : Int32)) % (10 : Int32)) = 2 ∨ ((q &&& (15 : Int32)) % (10 : Int32)) = 3 ∨ ((q &&& (15 : Int32)) % (10 : Int32)) = 4 ∨ ((q &&& (15 : Int32)) % (10 : Int32)) = 5 ∨ ((q &&& (15 : Int32)) % (10 : Int32)) = 6 ∨ ((q &&& (15 : Int32)) % (10 : Int32)) = 7 ∨ ((q &&& (15 : Int32)) % (10 : Int32)) = 8 ∨ ((q &&& (15 : Int32)) % (10 : Int32)) = 9) ∧ 0 ≤ ((q &&& (15 : Int32)) % (10 : Int32)).toInt ∧ ((q &&& (15 : Int32)) % (10 : Int32)).toInt ≤ 9 := by
  have h := c_mask q 15 4 (by decide) (by decide)
  have h2 := (c_irem (q &&& (15 : Int32)) 10 10 (by decide)).1 (by omega)
  have h3 : 0 ≤ ((q &&& (15 : Int32)) % (10 : Int32)).toInt ∧ ((q &&& (15 : Int32)) % (10 : Int32)).toInt ≤ 9 := by omega
  exact ⟨of_lt10 (k := ((q &&& (15 : Int32)) % (10 : Int32)).toInt.toNat) (by omega) (by omega), h3⟩
theorem own_p01 (x : Int32) : (x &&& (1 : Int32)) = 0 ∨ (x &&& (1 : Int32)) = 1 := by
  have h := c_mask x 1 1 (by decide) (by decide)
  have t : (0 : Int32).toInt = 0 ∧ (1 : Int32).toInt = 1 := by decide
  rw [← Int32.toInt_inj, ← Int32.toInt_inj, t.1, t.2, h]
  omega
theorem n1_toInt {nv : Int32} (h : 0 ≤ nv.toInt ∧ nv.toInt ≤ 9) : (nv + (1 : Int32)).toInt = nv.toInt + 1 := by
  have h1 := c_iadd nv 1
  have h2 := rng32 (nv + 1)
  have h3 : (1 : Int32).toInt = 1 := by decide
  omega
theorem n1_ne {nv : Int32} (h : 0 ≤ nv.toInt ∧ nv.toInt ≤ 9) : (nv + (1 : Int32)) ≠ 0 := by
  intro q
  have h1 := n1_toInt h
  have h0 : (0 : Int32).toInt = 0 := by decide
  rw [q, h0] at h1
  omega
theorem own_tv (x : Int32) {nv : Int32} (h : 0 ≤ nv.toInt ∧ nv.toInt ≤ 9) : 0 ≤ ((x &&& (15 : Int32)) % (nv + (1 : Int32))).toInt ∧ ((x &&& (15 : Int32)) % (nv + (1 : Int32))).toInt ≤ nv.toInt := by
  have h1 := c_mask x 15 4 (by decide) (by decide)
  have h2 := n1_toInt h
  have h3 := (c_iremV (x &&& (15 : Int32)) (nv + (1 : Int32))).1 (by omega) (by omega)
  rw [h2] at h3
  omega
theorem tv_le {tv nv : Int32} {n : Nat} (h : 0 ≤ tv.toInt ∧ tv.toInt ≤ nv.toInt) (hn : nv.toInt = (n : Int)) : tv.toInt.toNat ≤ n := by omega
theorem tv_nn {tv nv : Int32} (h : 0 ≤ tv.toInt ∧ tv.toInt ≤ nv.toInt) : tv.toInt = ((tv.toInt.toNat : Nat) : Int) := by omega
theorem back_t {px tv g : Int32} {p t : Nat} (hs : g = px) (hp : px.toInt = (p : Int)) (hp1 : p ≤ 1) (ht : tv.toInt = (t : Int)) (ht9 : t ≤ 9) : ((px + tv) - g).toInt = (t : Int) := by
  subst hs
  have h1 := addn hp ht (by omega)
  have h2 := c_isub (g + tv) g
  have h3 := rng32 ((g + tv) - g)
  omega
theorem fullS {px tv g : Int32} {p t : Nat} (hs : g = px) (hp : px.toInt = (p : Int)) (hp1 : p ≤ 1) (ht : tv.toInt = (t : Int)) (ht8 : t < 8) : (((px + tv) - g) / (8 : Int32)) = (0 : Int32) := by
  have h1 := back_t hs hp hp1 ht (by omega)
  have h2 := (c_idiv ((px + tv) - g) 8 8 (by decide) (by decide)).1 (by omega)
  have h0 : (0 : Int32).toInt = 0 := by decide
  apply Int32.toInt_inj.mp
  rw [h2, h1, h0]; omega
theorem fullL {px tv g : Int32} {p t : Nat} (hs : g = px) (hp : px.toInt = (p : Int)) (hp1 : p ≤ 1) (ht : tv.toInt = (t : Int)) (ht9 : t ≤ 9) (ht8 : ¬ t < 8) : (((px + tv) - g) / (8 : Int32)) = (1 : Int32) := by
  have h1 := back_t hs hp hp1 ht (by omega)
  have h2 := (c_idiv ((px + tv) - g) 8 8 (by decide) (by decide)).1 (by omega)
  have h0 : (1 : Int32).toInt = 1 := by decide
  apply Int32.toInt_inj.mp
  rw [h2, h1, h0]; omega
theorem eq_8 {nx : Int32} {n : Nat} (h : nx.toInt = (n : Int)) (hn : n = 8) : nx = (8 : Int32) := by
  apply Int32.toInt_inj.mp; rw [h, hn]; decide
theorem eq_9 {nx : Int32} {n : Nat} (h : nx.toInt = (n : Int)) (hn : n = 9) : nx = (9 : Int32) := by
  apply Int32.toInt_inj.mp; rw [h, hn]; decide
theorem own_mx {g1 g2 gv : Nat → Int64} {bd : Int64} {p n K k : Nat} (hv : ∀ j, j < n → g1 (p + j) = gv j) (hn : 8 ≤ n) (hm : MX (g2 k) gv) (hK : K = k) : g2 K < bd → ∀ j, j < 8 → g1 (p + j) < bd := by
  subst hK
  intro h j hj
  rw [hv j (by omega)]
  exact hm bd h j hj
theorem pn_0 : plainName "com/example/graphweft/graphweft/RangeMaxTreeFindPinLaw" = true := by first | (simp [plainName, overriddenIn]; done) | decide +kernel
theorem ef_0 (m : MethodId) (x0 : Int64) (x1 : Int64) (x2 : Int32) (x3 : Int32) (x4 : Int32) : entryFrame m #[(.long x0), (.long x1), (.int x2), (.int x3), (.int x4)] maxLocals = mkF m 0 #[.val (.long x0), .second, .val (.long x1), .second, .val (.int x2), .val (.int x3), .val (.int x4), .unset, .unset, .unset, .unset, .unset, .unset, .unset, .unset, .unset, .unset, .unset, .unset, .unset, .unset] [] := by first | (simp [entryFrame, mkF, argsToLocals, Value.category, maxLocals]; done) | rfl
def QL (n0 : Nat) (v : Option Value) (h : Heap) (L : List Loc) : Prop := v = some (.int 1) ∧ Fr n0 L
set_option maxRecDepth 65536 in
set_option maxHeartbeats 40000000 in
theorem rm_law (l : Launch) (Z : State) (a0 : Array Value) (hw : ∀ d ∈ tables_1, d.before a0 Z = true) (ws : List Jvm.Cond) (q0 : Int64) (q1 : Int64) (q2 : Int32) (q3 : Int32) (q4 : Int32) (h0 : Heap) (n0 : Nat) (Z0 : n0 ≤ h0.size) :
    MetFree l x (head1 (Jvm.Cond.code x code maxLocals ret :: ws) room_1) (fun a_ U => a_ = #[(.long q0), (.long q1), (.int q2), (.int q3), (.int q4)] ∧ Z.Warmed39 U.vm ∧ U.heap = h0) (fun _ _ _ _ _ => True) (fun _ U o U' => ∃ v_ L_, o = .returned v_ ∧ QL n0 v_ U'.heap L_ ∧ FrameEnd U o U' L_ room_1.cells room_1.slots) := by
  refine MetFree.of_bodySF (plainFor_of_name pn_0) hisR ?_
  intro p e s m args below meth c s₁ Bd hml0 hP hK
  obtain ⟨rfl, hZ, hh⟩ := hP
  have hx := Bd.exec
  have hby := Bd.bytes
  have hlk : meth.locks = false := Bd.notSynchronized
  have hml : c.maxLocals = 21 := hml0
  have hown : s.vm.findClass "com/example/graphweft/graphweft/RangeMaxTreeFindPinLaw" = some m.cls := findClass_of_methodNamed Bd.named
  have hnm := (name_of_methodNamed Bd.named Bd.method).1
  have X0 : Stand p l e room_1 s m #[(.long q0), (.long q1), (.int q2), (.int q3), (.int q4)] below meth c s₁ [] 0 0 := Stand.of_body Bd
  have e0 : s₁.heap = h0 := by rw [← hh, Bd.state]; rfl
  have N0 := Fr.nil n0
  have K0 : Keep h0 h0 [] := Keep.refl _ _
  show OEnds p e below s (QL n0) _ _ _
  refine own_by (fun t k => castTop (ef_0 m q0 q1 q2 q3 q4) k) ?_
  show OEnds p e below s _ _ _ (s₁.setTop (mkF m 0 #[(vj q0), sd, (vj q1), sd, (vi q2), (vi q3), (vi q4), un, un, un, un, un, un, un, un, un, un, un, un, un, un] []))
  refine qi 2 X0 hx hby at_0 rfl rfl ?_
  refine qc2 4 15 X0 hx hby at_2 rfl rfl ?_
  refine q_iand 5 X0 hx hby at_4 rfl ?_
  refine qc2 7 10 X0 hx hby at_5 rfl rfl ?_
  refine own_by (fun _ k => iremM X0 hx rfl (hb hby at_7) rfl (by decide) k) ?_
  show OEnds p e below s _ _ _ (s₁.setTop (mkF m 8 #[(vj q0), sd, (vj q1), sd, (vi q2), (vi q3), (vi q4), un, un, un, un, un, un, un, un, un, un, un, un, un, un] [(.int ((q4 &&& (15 : Int32)) % (10 : Int32)))]))
  refine qsi 10 #[(vj q0), sd, (vj q1), sd, (vi q2), (vi q3), (vi q4), (vi ((q4 &&& (15 : Int32)) % (10 : Int32))), un, un, un, un, un, un, un, un, un, un, un, un, un] X0 hx hby at_8 rfl rfl ?_
  have hn2 := own_n10 q4
  obtain ⟨nv, env⟩ : ∃ z, z = ((q4 &&& (15 : Int32)) % (10 : Int32)) := ⟨_, rfl⟩
  rw [← env] at hn2 ⊢
  clear env
  obtain ⟨hn, hnr⟩ := hn2
  show OEnds p e below s _ _ _ (s₁.setTop (mkF m 10 #[(vj q0), sd, (vj q1), sd, (vi q2), (vi q3), (vi q4), (vi nv), un, un, un, un, un, un, un, un, un, un, un, un, un] []))
  refine qi 12 X0 hx hby at_10 rfl rfl ?_
  refine qc1 13 4 X0 hx hby at_12 rfl rfl ?_
  refine own_by (fun _ k => XS.iushr X0.here hx rfl (hb hby at_13) rfl k) ?_
  show OEnds p e below s _ _ _ (s₁.setTop (mkF m 14 #[(vj q0), sd, (vj q1), sd, (vi q2), (vi q3), (vi q4), (vi nv), un, un, un, un, un, un, un, un, un, un, un, un, un] [(.int ((q4.toUInt32 >>> ((4 : Int32) &&& 31).toUInt32).toInt32))]))
  refine qc1 15 1 X0 hx hby at_14 rfl rfl ?_
  refine q_iand 16 X0 hx hby at_15 rfl ?_
  refine qsi 18 #[(vj q0), sd, (vj q1), sd, (vi q2), (vi q3), (vi q4), (vi nv), (vi (((q4.toUInt32 >>> ((4 : Int32) &&& 31).toUInt32).toInt32) &&& (1 : Int32))), un, un, un, un, un, un, un, un, un, un, un, un] X0 hx hby at_16 rfl rfl ?_
  have hpv := own_p01 ((q4.toUInt32 >>> ((4 : Int32) &&& 31).toUInt32).toInt32)
  obtain ⟨pv, epv⟩ : ∃ z, z = (((q4.toUInt32 >>> ((4 : Int32) &&& 31).toUInt32).toInt32) &&& (1 : Int32)) := ⟨_, rfl⟩
  rw [← epv] at hpv ⊢
  clear epv
  show OEnds p e below s _ _ _ (s₁.setTop (mkF m 18 #[(vj q0), sd, (vj q1), sd, (vi q2), (vi q3), (vi q4), (vi nv), (vi pv), un, un, un, un, un, un, un, un, un, un, un, un] []))
  refine qi 20 X0 hx hby at_18 rfl rfl ?_
  refine qc2 22 8 X0 hx hby at_20 rfl rfl ?_
  refine own_by (fun _ k => XS.iushr X0.here hx rfl (hb hby at_22) rfl k) ?_
  show OEnds p e below s _ _ _ (s₁.setTop (mkF m 23 #[(vj q0), sd, (vj q1), sd, (vi q2), (vi q3), (vi q4), (vi nv), (vi pv), un, un, un, un, un, un, un, un, un, un, un, un] [(.int ((q4.toUInt32 >>> ((8 : Int32) &&& 31).toUInt32).toInt32))]))
  refine qc2 25 15 X0 hx hby at_23 rfl rfl ?_
  refine q_iand 26 X0 hx hby at_25 rfl ?_
  refine qi 28 X0 hx hby at_26 rfl rfl ?_
  refine qc1 29 1 X0 hx hby at_28 rfl rfl ?_
  refine q_iadd 30 X0 hx hby at_29 rfl ?_
  refine own_by (fun _ k => iremM X0 hx rfl (hb hby at_30) rfl (n1_ne hnr) k) ?_
  show OEnds p e below s _ _ _ (s₁.setTop (mkF m 31 #[(vj q0), sd, (vj q1), sd, (vi q2), (vi q3), (vi q4), (vi nv), (vi pv), un, un, un, un, un, un, un, un, un, un, un, un] [(.int ((((q4.toUInt32 >>> ((8 : Int32) &&& 31).toUInt32).toInt32) &&& (15 : Int32)) % (nv + (1 : Int32))))]))
  refine qsi 33 #[(vj q0), sd, (vj q1), sd, (vi q2), (vi q3), (vi q4), (vi nv), (vi pv), (vi ((((q4.toUInt32 >>> ((8 : Int32) &&& 31).toUInt32).toInt32) &&& (15 : Int32)) % (nv + (1 : Int32)))), un, un, un, un, un, un, un, un, un, un, un] X0 hx hby at_31 rfl rfl ?_
  have htv := own_tv ((q4.toUInt32 >>> ((8 : Int32) &&& 31).toUInt32).toInt32) hnr
  obtain ⟨tv, etv⟩ : ∃ z, z = ((((q4.toUInt32 >>> ((8 : Int32) &&& 31).toUInt32).toInt32) &&& (15 : Int32)) % (nv + (1 : Int32))) := ⟨_, rfl⟩
  rw [← etv] at htv ⊢
  clear etv
  show OEnds p e below s _ _ _ (s₁.setTop (mkF m 33 #[(vj q0), sd, (vj q1), sd, (vi q2), (vi q3), (vi q4), (vi nv), (vi pv), (vi tv), un, un, un, un, un, un, un, un, un, un, un] []))
  refine qc2 35 9 X0 hx hby at_33 rfl rfl ?_
  obtain ⟨T1, h1, k1, X1, e1, E1, A1, st1⟩ := newP X0 hx hZ (aty := .long) (tw0 hw) e0 (g := (mkF m 35 #[(vj q0), sd, (vj q1), sd, (vi q2), (vi q3), (vi q4), (vi nv), (vi pv), (vi tv), un, un, un, un, un, un, un, un, un, un, un] [(.int 9)])) rfl (hb hby at_35) rfl (by decide) (cap := 9) (by decide) (by decide) (by decide) (by decide)
  obtain ⟨nb1, g1⟩ : ∃ z, z = h0.size := ⟨_, rfl⟩
  rw [← g1] at A1 st1
  have g_nb1 : n0 ≤ nb1 := Nat.le_trans Z0 (Nat.le_of_eq g1.symm)
  have Z1 := Nat.le_trans Z0 E1.1
  have F1 : FA Z h1 nb1 .long 9 (fun i => .long ((fun _ => (0 : Int64)) i)) := FA.new A1 (by decide) (by decide) rfl
  refine qat 37 #[(vj q0), sd, (vj q1), sd, (vi q2), (vi q3), (vi q4), (vi nv), (vi pv), (vi tv), un, un, un, un, un, un, un, un, un, un, un] [(.ref nb1)] st1 ?_
  refine qsa 39 #[(vj q0), sd, (vj q1), sd, (vi q2), (vi q3), (vi q4), (vi nv), (vi pv), (vi tv), (vr nb1), un, un, un, un, un, un, un, un, un, un] X1 hx hby at_37 rfl rfl ?_
  refine qa 41 X1 hx hby at_39 rfl rfl ?_
  refine qc1 42 0 X1 hx hby at_41 rfl rfl ?_
  refine qlN 43 X1 hx hby at_42 rfl rfl ?_
  refine qlN 44 X1 hx hby at_43 rfl rfl ?_
  refine own_by (fun _ k => XS.l2i X1.here hx rfl (hb hby at_44) rfl k) ?_
  show OEnds p e below s _ _ _ (T1.setTop (mkF m 45 #[(vj q0), sd, (vj q1), sd, (vi q2), (vi q3), (vi q4), (vi nv), (vi pv), (vi tv), (vr nb1), un, un, un, un, un, un, un, un, un, un] [(.int (q1.toInt32)), (.long q0), (.int 0), (.ref nb1)]))
  refine own_by (fun _ k => XS.i2b X1.here hx rfl (hb hby at_45) rfl k) ?_
  show OEnds p e below s _ _ _ (T1.setTop (mkF m 46 #[(vj q0), sd, (vj q1), sd, (vi q2), (vi q3), (vi q4), (vi nv), (vi pv), (vi tv), (vr nb1), un, un, un, un, un, un, un, un, un, un] [(.int ((q1.toInt32).toInt8.toInt32)), (.long q0), (.int 0), (.ref nb1)]))
  refine own_by (fun _ k => XS.i2l X1.here hx rfl (hb hby at_46) rfl k) ?_
  show OEnds p e below s _ _ _ (T1.setTop (mkF m 47 #[(vj q0), sd, (vj q1), sd, (vi q2), (vi q3), (vi q4), (vi nv), (vi pv), (vi tv), (vr nb1), un, un, un, un, un, un, un, un, un, un] [(.long (((q1.toInt32).toInt8.toInt32).toInt64)), (.long q0), (.int 0), (.ref nb1)]))
  refine q_ladd 48 X1 hx hby at_47 rfl ?_
  obtain ⟨T2, h2, X2, e2, W2, st2⟩ := own_lastore X1 hx hZ e1 F1 0 (by decide) (by decide) (g := (mkF m 48 #[(vj q0), sd, (vj q1), sd, (vi q2), (vi q3), (vi q4), (vi nv), (vi pv), (vi tv), (vr nb1), un, un, un, un, un, un, un, un, un, un] [(.long (q0 + (((q1.toInt32).toInt8.toInt32).toInt64))), (.int 0), (.ref nb1)])) rfl rfl (hb hby at_48)
  have F2 : FA Z h2 nb1 .long 9 (fun i => .long ((updL (fun _ => (0 : Int64)) 0 (q0 + (((q1.toInt32).toInt8.toInt32).toInt64))) i)) := F1.setL W2
  obtain ⟨f2, ef2⟩ : ∃ fz_ : Nat → Int64, fz_ = (updL (fun _ => (0 : Int64)) 0 (q0 + (((q1.toInt32).toInt8.toInt32).toInt64))) := ⟨_, rfl⟩
  rw [← ef2] at F2
  have N2 := Fr.snoc X2 N0 g_nb1
  have Z2 := Nat.le_trans Z1 (Keep.of_wr W2).1
  refine qat 49 #[(vj q0), sd, (vj q1), sd, (vi q2), (vi q3), (vi q4), (vi nv), (vi pv), (vi tv), (vr nb1), un, un, un, un, un, un, un, un, un, un] [] st2 ?_
  refine qa 51 X2 hx hby at_49 rfl rfl ?_
  refine qc1 52 1 X2 hx hby at_51 rfl rfl ?_
  refine qlN 53 X2 hx hby at_52 rfl rfl ?_
  refine qlN 54 X2 hx hby at_53 rfl rfl ?_
  refine qc2 56 8 X2 hx hby at_54 rfl rfl ?_
  refine own_by (fun _ k => XS.lushr X2.here hx rfl (hb hby at_56) rfl k) ?_
  show OEnds p e below s _ _ _ (T2.setTop (mkF m 57 #[(vj q0), sd, (vj q1), sd, (vi q2), (vi q3), (vi q4), (vi nv), (vi pv), (vi tv), (vr nb1), un, un, un, un, un, un, un, un, un, un] [(.long ((q1.toUInt64 >>> ((8 : Int32) &&& 0x3f).toInt64.toUInt64).toInt64)), (.long q0), (.int 1), (.ref nb1)]))
  refine own_by (fun _ k => XS.l2i X2.here hx rfl (hb hby at_57) rfl k) ?_
  show OEnds p e below s _ _ _ (T2.setTop (mkF m 58 #[(vj q0), sd, (vj q1), sd, (vi q2), (vi q3), (vi q4), (vi nv), (vi pv), (vi tv), (vr nb1), un, un, un, un, un, un, un, un, un, un] [(.int (((q1.toUInt64 >>> ((8 : Int32) &&& 0x3f).toInt64.toUInt64).toInt64).toInt32)), (.long q0), (.int 1), (.ref nb1)]))
  refine own_by (fun _ k => XS.i2b X2.here hx rfl (hb hby at_58) rfl k) ?_
  show OEnds p e below s _ _ _ (T2.setTop (mkF m 59 #[(vj q0), sd, (vj q1), sd, (vi q2), (vi q3), (vi q4), (vi nv), (vi pv), (vi tv), (vr nb1), un, un, un, un, un, un, un, un, un, un] [(.int ((((q1.toUInt64 >>> ((8 : Int32) &&& 0x3f).toInt64.toUInt64).toInt64).toInt32).toInt8.toInt32)), (.long q0), (.int 1), (.ref nb1)]))
  refine own_by (fun _ k => XS.i2l X2.here hx rfl (hb hby at_59) rfl k) ?_
  show OEnds p e below s _ _ _ (T2.setTop (mkF m 60 #[(vj q0), sd, (vj q1), sd, (vi q2), (vi q3), (vi q4), (vi nv), (vi pv), (vi tv), (vr nb1), un, un, un, un, un, un, un, un, un, un] [(.long (((((q1.toUInt64 >>> ((8 : Int32) &&& 0x3f).toInt64.toUInt64).toInt64).toInt32).toInt8.toInt32).toInt64)), (.long q0), (.int 1), (.ref nb1)]))
  refine q_ladd 61 X2 hx hby at_60 rfl ?_
  obtain ⟨T3, h3, X3, e3, W3, st3⟩ := own_lastore X2 hx hZ e2 F2 1 (by decide) (by decide) (g := (mkF m 61 #[(vj q0), sd, (vj q1), sd, (vi q2), (vi q3), (vi q4), (vi nv), (vi pv), (vi tv), (vr nb1), un, un, un, un, un, un, un, un, un, un] [(.long (q0 + (((((q1.toUInt64 >>> ((8 : Int32) &&& 0x3f).toInt64.toUInt64).toInt64).toInt32).toInt8.toInt32).toInt64))), (.int 1), (.ref nb1)])) rfl rfl (hb hby at_61)
  have F3 : FA Z h3 nb1 .long 9 (fun i => .long ((updL f2 1 (q0 + (((((q1.toUInt64 >>> ((8 : Int32) &&& 0x3f).toInt64.toUInt64).toInt64).toInt32).toInt8.toInt32).toInt64))) i)) := F2.setL W3
  obtain ⟨f3, ef3⟩ : ∃ fz_ : Nat → Int64, fz_ = (updL f2 1 (q0 + (((((q1.toUInt64 >>> ((8 : Int32) &&& 0x3f).toInt64.toUInt64).toInt64).toInt32).toInt8.toInt32).toInt64))) := ⟨_, rfl⟩
  rw [← ef3] at F3
  have N3 := Fr.snoc X3 N2 g_nb1
  have Z3 := Nat.le_trans Z2 (Keep.of_wr W3).1
  refine qat 62 #[(vj q0), sd, (vj q1), sd, (vi q2), (vi q3), (vi q4), (vi nv), (vi pv), (vi tv), (vr nb1), un, un, un, un, un, un, un, un, un, un] [] st3 ?_
  refine qa 64 X3 hx hby at_62 rfl rfl ?_
  refine qc1 65 2 X3 hx hby at_64 rfl rfl ?_
  refine qlN 66 X3 hx hby at_65 rfl rfl ?_
  refine qlN 67 X3 hx hby at_66 rfl rfl ?_
  refine qc2 69 16 X3 hx hby at_67 rfl rfl ?_
  refine own_by (fun _ k => XS.lushr X3.here hx rfl (hb hby at_69) rfl k) ?_
  show OEnds p e below s _ _ _ (T3.setTop (mkF m 70 #[(vj q0), sd, (vj q1), sd, (vi q2), (vi q3), (vi q4), (vi nv), (vi pv), (vi tv), (vr nb1), un, un, un, un, un, un, un, un, un, un] [(.long ((q1.toUInt64 >>> ((16 : Int32) &&& 0x3f).toInt64.toUInt64).toInt64)), (.long q0), (.int 2), (.ref nb1)]))
  refine own_by (fun _ k => XS.l2i X3.here hx rfl (hb hby at_70) rfl k) ?_
  show OEnds p e below s _ _ _ (T3.setTop (mkF m 71 #[(vj q0), sd, (vj q1), sd, (vi q2), (vi q3), (vi q4), (vi nv), (vi pv), (vi tv), (vr nb1), un, un, un, un, un, un, un, un, un, un] [(.int (((q1.toUInt64 >>> ((16 : Int32) &&& 0x3f).toInt64.toUInt64).toInt64).toInt32)), (.long q0), (.int 2), (.ref nb1)]))
  refine own_by (fun _ k => XS.i2b X3.here hx rfl (hb hby at_71) rfl k) ?_
  show OEnds p e below s _ _ _ (T3.setTop (mkF m 72 #[(vj q0), sd, (vj q1), sd, (vi q2), (vi q3), (vi q4), (vi nv), (vi pv), (vi tv), (vr nb1), un, un, un, un, un, un, un, un, un, un] [(.int ((((q1.toUInt64 >>> ((16 : Int32) &&& 0x3f).toInt64.toUInt64).toInt64).toInt32).toInt8.toInt32)), (.long q0), (.int 2), (.ref nb1)]))
  refine own_by (fun _ k => XS.i2l X3.here hx rfl (hb hby at_72) rfl k) ?_
  show OEnds p e below s _ _ _ (T3.setTop (mkF m 73 #[(vj q0), sd, (vj q1), sd, (vi q2), (vi q3), (vi q4), (vi nv), (vi pv), (vi tv), (vr nb1), un, un, un, un, un, un, un, un, un, un] [(.long (((((q1.toUInt64 >>> ((16 : Int32) &&& 0x3f).toInt64.toUInt64).toInt64).toInt32).toInt8.toInt32).toInt64)), (.long q0), (.int 2), (.ref nb1)]))
  refine q_ladd 74 X3 hx hby at_73 rfl ?_
  obtain ⟨T4, h4, X4, e4, W4, st4⟩ := own_lastore X3 hx hZ e3 F3 2 (by decide) (by decide) (g := (mkF m 74 #[(vj q0), sd, (vj q1), sd, (vi q2), (vi q3), (vi q4), (vi nv), (vi pv), (vi tv), (vr nb1), un, un, un, un, un, un, un, un, un, un] [(.long (q0 + (((((q1.toUInt64 >>> ((16 : Int32) &&& 0x3f).toInt64.toUInt64).toInt64).toInt32).toInt8.toInt32).toInt64))), (.int 2), (.ref nb1)])) rfl rfl (hb hby at_74)
  have F4 : FA Z h4 nb1 .long 9 (fun i => .long ((updL f3 2 (q0 + (((((q1.toUInt64 >>> ((16 : Int32) &&& 0x3f).toInt64.toUInt64).toInt64).toInt32).toInt8.toInt32).toInt64))) i)) := F3.setL W4
  obtain ⟨f4, ef4⟩ : ∃ fz_ : Nat → Int64, fz_ = (updL f3 2 (q0 + (((((q1.toUInt64 >>> ((16 : Int32) &&& 0x3f).toInt64.toUInt64).toInt64).toInt32).toInt8.toInt32).toInt64))) := ⟨_, rfl⟩
  rw [← ef4] at F4
  have N4 := Fr.snoc X4 N3 g_nb1
  have Z4 := Nat.le_trans Z3 (Keep.of_wr W4).1
  refine qat 75 #[(vj q0), sd, (vj q1), sd, (vi q2), (vi q3), (vi q4), (vi nv), (vi pv), (vi tv), (vr nb1), un, un, un, un, un, un, un, un, un, un] [] st4 ?_
  refine qa 77 X4 hx hby at_75 rfl rfl ?_
  refine qc1 78 3 X4 hx hby at_77 rfl rfl ?_
  refine qlN 79 X4 hx hby at_78 rfl rfl ?_
  refine qlN 80 X4 hx hby at_79 rfl rfl ?_
  refine qc2 82 24 X4 hx hby at_80 rfl rfl ?_
  refine own_by (fun _ k => XS.lushr X4.here hx rfl (hb hby at_82) rfl k) ?_
  show OEnds p e below s _ _ _ (T4.setTop (mkF m 83 #[(vj q0), sd, (vj q1), sd, (vi q2), (vi q3), (vi q4), (vi nv), (vi pv), (vi tv), (vr nb1), un, un, un, un, un, un, un, un, un, un] [(.long ((q1.toUInt64 >>> ((24 : Int32) &&& 0x3f).toInt64.toUInt64).toInt64)), (.long q0), (.int 3), (.ref nb1)]))
  refine own_by (fun _ k => XS.l2i X4.here hx rfl (hb hby at_83) rfl k) ?_
  show OEnds p e below s _ _ _ (T4.setTop (mkF m 84 #[(vj q0), sd, (vj q1), sd, (vi q2), (vi q3), (vi q4), (vi nv), (vi pv), (vi tv), (vr nb1), un, un, un, un, un, un, un, un, un, un] [(.int (((q1.toUInt64 >>> ((24 : Int32) &&& 0x3f).toInt64.toUInt64).toInt64).toInt32)), (.long q0), (.int 3), (.ref nb1)]))
  refine own_by (fun _ k => XS.i2b X4.here hx rfl (hb hby at_84) rfl k) ?_
  show OEnds p e below s _ _ _ (T4.setTop (mkF m 85 #[(vj q0), sd, (vj q1), sd, (vi q2), (vi q3), (vi q4), (vi nv), (vi pv), (vi tv), (vr nb1), un, un, un, un, un, un, un, un, un, un] [(.int ((((q1.toUInt64 >>> ((24 : Int32) &&& 0x3f).toInt64.toUInt64).toInt64).toInt32).toInt8.toInt32)), (.long q0), (.int 3), (.ref nb1)]))
  refine own_by (fun _ k => XS.i2l X4.here hx rfl (hb hby at_85) rfl k) ?_
  show OEnds p e below s _ _ _ (T4.setTop (mkF m 86 #[(vj q0), sd, (vj q1), sd, (vi q2), (vi q3), (vi q4), (vi nv), (vi pv), (vi tv), (vr nb1), un, un, un, un, un, un, un, un, un, un] [(.long (((((q1.toUInt64 >>> ((24 : Int32) &&& 0x3f).toInt64.toUInt64).toInt64).toInt32).toInt8.toInt32).toInt64)), (.long q0), (.int 3), (.ref nb1)]))
  refine q_ladd 87 X4 hx hby at_86 rfl ?_
  obtain ⟨T5, h5, X5, e5, W5, st5⟩ := own_lastore X4 hx hZ e4 F4 3 (by decide) (by decide) (g := (mkF m 87 #[(vj q0), sd, (vj q1), sd, (vi q2), (vi q3), (vi q4), (vi nv), (vi pv), (vi tv), (vr nb1), un, un, un, un, un, un, un, un, un, un] [(.long (q0 + (((((q1.toUInt64 >>> ((24 : Int32) &&& 0x3f).toInt64.toUInt64).toInt64).toInt32).toInt8.toInt32).toInt64))), (.int 3), (.ref nb1)])) rfl rfl (hb hby at_87)
  have F5 : FA Z h5 nb1 .long 9 (fun i => .long ((updL f4 3 (q0 + (((((q1.toUInt64 >>> ((24 : Int32) &&& 0x3f).toInt64.toUInt64).toInt64).toInt32).toInt8.toInt32).toInt64))) i)) := F4.setL W5
  obtain ⟨f5, ef5⟩ : ∃ fz_ : Nat → Int64, fz_ = (updL f4 3 (q0 + (((((q1.toUInt64 >>> ((24 : Int32) &&& 0x3f).toInt64.toUInt64).toInt64).toInt32).toInt8.toInt32).toInt64))) := ⟨_, rfl⟩
  rw [← ef5] at F5
  have N5 := Fr.snoc X5 N4 g_nb1
  have Z5 := Nat.le_trans Z4 (Keep.of_wr W5).1
  refine qat 88 #[(vj q0), sd, (vj q1), sd, (vi q2), (vi q3), (vi q4), (vi nv), (vi pv), (vi tv), (vr nb1), un, un, un, un, un, un, un, un, un, un] [] st5 ?_
  refine qa 90 X5 hx hby at_88 rfl rfl ?_
  refine qc1 91 4 X5 hx hby at_90 rfl rfl ?_
  refine qlN 92 X5 hx hby at_91 rfl rfl ?_
  refine qlN 93 X5 hx hby at_92 rfl rfl ?_
  refine qc2 95 32 X5 hx hby at_93 rfl rfl ?_
  refine own_by (fun _ k => XS.lushr X5.here hx rfl (hb hby at_95) rfl k) ?_
  show OEnds p e below s _ _ _ (T5.setTop (mkF m 96 #[(vj q0), sd, (vj q1), sd, (vi q2), (vi q3), (vi q4), (vi nv), (vi pv), (vi tv), (vr nb1), un, un, un, un, un, un, un, un, un, un] [(.long ((q1.toUInt64 >>> ((32 : Int32) &&& 0x3f).toInt64.toUInt64).toInt64)), (.long q0), (.int 4), (.ref nb1)]))
  refine own_by (fun _ k => XS.l2i X5.here hx rfl (hb hby at_96) rfl k) ?_
  show OEnds p e below s _ _ _ (T5.setTop (mkF m 97 #[(vj q0), sd, (vj q1), sd, (vi q2), (vi q3), (vi q4), (vi nv), (vi pv), (vi tv), (vr nb1), un, un, un, un, un, un, un, un, un, un] [(.int (((q1.toUInt64 >>> ((32 : Int32) &&& 0x3f).toInt64.toUInt64).toInt64).toInt32)), (.long q0), (.int 4), (.ref nb1)]))
  refine own_by (fun _ k => XS.i2b X5.here hx rfl (hb hby at_97) rfl k) ?_
  show OEnds p e below s _ _ _ (T5.setTop (mkF m 98 #[(vj q0), sd, (vj q1), sd, (vi q2), (vi q3), (vi q4), (vi nv), (vi pv), (vi tv), (vr nb1), un, un, un, un, un, un, un, un, un, un] [(.int ((((q1.toUInt64 >>> ((32 : Int32) &&& 0x3f).toInt64.toUInt64).toInt64).toInt32).toInt8.toInt32)), (.long q0), (.int 4), (.ref nb1)]))
  refine own_by (fun _ k => XS.i2l X5.here hx rfl (hb hby at_98) rfl k) ?_
  show OEnds p e below s _ _ _ (T5.setTop (mkF m 99 #[(vj q0), sd, (vj q1), sd, (vi q2), (vi q3), (vi q4), (vi nv), (vi pv), (vi tv), (vr nb1), un, un, un, un, un, un, un, un, un, un] [(.long (((((q1.toUInt64 >>> ((32 : Int32) &&& 0x3f).toInt64.toUInt64).toInt64).toInt32).toInt8.toInt32).toInt64)), (.long q0), (.int 4), (.ref nb1)]))
  refine q_ladd 100 X5 hx hby at_99 rfl ?_
  obtain ⟨T6, h6, X6, e6, W6, st6⟩ := own_lastore X5 hx hZ e5 F5 4 (by decide) (by decide) (g := (mkF m 100 #[(vj q0), sd, (vj q1), sd, (vi q2), (vi q3), (vi q4), (vi nv), (vi pv), (vi tv), (vr nb1), un, un, un, un, un, un, un, un, un, un] [(.long (q0 + (((((q1.toUInt64 >>> ((32 : Int32) &&& 0x3f).toInt64.toUInt64).toInt64).toInt32).toInt8.toInt32).toInt64))), (.int 4), (.ref nb1)])) rfl rfl (hb hby at_100)
  have F6 : FA Z h6 nb1 .long 9 (fun i => .long ((updL f5 4 (q0 + (((((q1.toUInt64 >>> ((32 : Int32) &&& 0x3f).toInt64.toUInt64).toInt64).toInt32).toInt8.toInt32).toInt64))) i)) := F5.setL W6
  obtain ⟨f6, ef6⟩ : ∃ fz_ : Nat → Int64, fz_ = (updL f5 4 (q0 + (((((q1.toUInt64 >>> ((32 : Int32) &&& 0x3f).toInt64.toUInt64).toInt64).toInt32).toInt8.toInt32).toInt64))) := ⟨_, rfl⟩
  rw [← ef6] at F6
  have N6 := Fr.snoc X6 N5 g_nb1
  have Z6 := Nat.le_trans Z5 (Keep.of_wr W6).1
  refine qat 101 #[(vj q0), sd, (vj q1), sd, (vi q2), (vi q3), (vi q4), (vi nv), (vi pv), (vi tv), (vr nb1), un, un, un, un, un, un, un, un, un, un] [] st6 ?_
  refine qa 103 X6 hx hby at_101 rfl rfl ?_
  refine qc1 104 5 X6 hx hby at_103 rfl rfl ?_
  refine qlN 105 X6 hx hby at_104 rfl rfl ?_
  refine qlN 106 X6 hx hby at_105 rfl rfl ?_
  refine qc2 108 40 X6 hx hby at_106 rfl rfl ?_
  refine own_by (fun _ k => XS.lushr X6.here hx rfl (hb hby at_108) rfl k) ?_
  show OEnds p e below s _ _ _ (T6.setTop (mkF m 109 #[(vj q0), sd, (vj q1), sd, (vi q2), (vi q3), (vi q4), (vi nv), (vi pv), (vi tv), (vr nb1), un, un, un, un, un, un, un, un, un, un] [(.long ((q1.toUInt64 >>> ((40 : Int32) &&& 0x3f).toInt64.toUInt64).toInt64)), (.long q0), (.int 5), (.ref nb1)]))
  refine own_by (fun _ k => XS.l2i X6.here hx rfl (hb hby at_109) rfl k) ?_
  show OEnds p e below s _ _ _ (T6.setTop (mkF m 110 #[(vj q0), sd, (vj q1), sd, (vi q2), (vi q3), (vi q4), (vi nv), (vi pv), (vi tv), (vr nb1), un, un, un, un, un, un, un, un, un, un] [(.int (((q1.toUInt64 >>> ((40 : Int32) &&& 0x3f).toInt64.toUInt64).toInt64).toInt32)), (.long q0), (.int 5), (.ref nb1)]))
  refine own_by (fun _ k => XS.i2b X6.here hx rfl (hb hby at_110) rfl k) ?_
  show OEnds p e below s _ _ _ (T6.setTop (mkF m 111 #[(vj q0), sd, (vj q1), sd, (vi q2), (vi q3), (vi q4), (vi nv), (vi pv), (vi tv), (vr nb1), un, un, un, un, un, un, un, un, un, un] [(.int ((((q1.toUInt64 >>> ((40 : Int32) &&& 0x3f).toInt64.toUInt64).toInt64).toInt32).toInt8.toInt32)), (.long q0), (.int 5), (.ref nb1)]))
  refine own_by (fun _ k => XS.i2l X6.here hx rfl (hb hby at_111) rfl k) ?_
  show OEnds p e below s _ _ _ (T6.setTop (mkF m 112 #[(vj q0), sd, (vj q1), sd, (vi q2), (vi q3), (vi q4), (vi nv), (vi pv), (vi tv), (vr nb1), un, un, un, un, un, un, un, un, un, un] [(.long (((((q1.toUInt64 >>> ((40 : Int32) &&& 0x3f).toInt64.toUInt64).toInt64).toInt32).toInt8.toInt32).toInt64)), (.long q0), (.int 5), (.ref nb1)]))
  refine q_ladd 113 X6 hx hby at_112 rfl ?_
  obtain ⟨T7, h7, X7, e7, W7, st7⟩ := own_lastore X6 hx hZ e6 F6 5 (by decide) (by decide) (g := (mkF m 113 #[(vj q0), sd, (vj q1), sd, (vi q2), (vi q3), (vi q4), (vi nv), (vi pv), (vi tv), (vr nb1), un, un, un, un, un, un, un, un, un, un] [(.long (q0 + (((((q1.toUInt64 >>> ((40 : Int32) &&& 0x3f).toInt64.toUInt64).toInt64).toInt32).toInt8.toInt32).toInt64))), (.int 5), (.ref nb1)])) rfl rfl (hb hby at_113)
  have F7 : FA Z h7 nb1 .long 9 (fun i => .long ((updL f6 5 (q0 + (((((q1.toUInt64 >>> ((40 : Int32) &&& 0x3f).toInt64.toUInt64).toInt64).toInt32).toInt8.toInt32).toInt64))) i)) := F6.setL W7
  obtain ⟨f7, ef7⟩ : ∃ fz_ : Nat → Int64, fz_ = (updL f6 5 (q0 + (((((q1.toUInt64 >>> ((40 : Int32) &&& 0x3f).toInt64.toUInt64).toInt64).toInt32).toInt8.toInt32).toInt64))) := ⟨_, rfl⟩
  rw [← ef7] at F7
  have N7 := Fr.snoc X7 N6 g_nb1
  have Z7 := Nat.le_trans Z6 (Keep.of_wr W7).1
  refine qat 114 #[(vj q0), sd, (vj q1), sd, (vi q2), (vi q3), (vi q4), (vi nv), (vi pv), (vi tv), (vr nb1), un, un, un, un, un, un, un, un, un, un] [] st7 ?_
  refine qa 116 X7 hx hby at_114 rfl rfl ?_
  refine qc2 118 6 X7 hx hby at_116 rfl rfl ?_
  refine qlN 119 X7 hx hby at_118 rfl rfl ?_
  refine qlN 120 X7 hx hby at_119 rfl rfl ?_
  refine qc2 122 48 X7 hx hby at_120 rfl rfl ?_
  refine own_by (fun _ k => XS.lushr X7.here hx rfl (hb hby at_122) rfl k) ?_
  show OEnds p e below s _ _ _ (T7.setTop (mkF m 123 #[(vj q0), sd, (vj q1), sd, (vi q2), (vi q3), (vi q4), (vi nv), (vi pv), (vi tv), (vr nb1), un, un, un, un, un, un, un, un, un, un] [(.long ((q1.toUInt64 >>> ((48 : Int32) &&& 0x3f).toInt64.toUInt64).toInt64)), (.long q0), (.int 6), (.ref nb1)]))
  refine own_by (fun _ k => XS.l2i X7.here hx rfl (hb hby at_123) rfl k) ?_
  show OEnds p e below s _ _ _ (T7.setTop (mkF m 124 #[(vj q0), sd, (vj q1), sd, (vi q2), (vi q3), (vi q4), (vi nv), (vi pv), (vi tv), (vr nb1), un, un, un, un, un, un, un, un, un, un] [(.int (((q1.toUInt64 >>> ((48 : Int32) &&& 0x3f).toInt64.toUInt64).toInt64).toInt32)), (.long q0), (.int 6), (.ref nb1)]))
  refine own_by (fun _ k => XS.i2b X7.here hx rfl (hb hby at_124) rfl k) ?_
  show OEnds p e below s _ _ _ (T7.setTop (mkF m 125 #[(vj q0), sd, (vj q1), sd, (vi q2), (vi q3), (vi q4), (vi nv), (vi pv), (vi tv), (vr nb1), un, un, un, un, un, un, un, un, un, un] [(.int ((((q1.toUInt64 >>> ((48 : Int32) &&& 0x3f).toInt64.toUInt64).toInt64).toInt32).toInt8.toInt32)), (.long q0), (.int 6), (.ref nb1)]))
  refine own_by (fun _ k => XS.i2l X7.here hx rfl (hb hby at_125) rfl k) ?_
  show OEnds p e below s _ _ _ (T7.setTop (mkF m 126 #[(vj q0), sd, (vj q1), sd, (vi q2), (vi q3), (vi q4), (vi nv), (vi pv), (vi tv), (vr nb1), un, un, un, un, un, un, un, un, un, un] [(.long (((((q1.toUInt64 >>> ((48 : Int32) &&& 0x3f).toInt64.toUInt64).toInt64).toInt32).toInt8.toInt32).toInt64)), (.long q0), (.int 6), (.ref nb1)]))
  refine q_ladd 127 X7 hx hby at_126 rfl ?_
  obtain ⟨T8, h8, X8, e8, W8, st8⟩ := own_lastore X7 hx hZ e7 F7 6 (by decide) (by decide) (g := (mkF m 127 #[(vj q0), sd, (vj q1), sd, (vi q2), (vi q3), (vi q4), (vi nv), (vi pv), (vi tv), (vr nb1), un, un, un, un, un, un, un, un, un, un] [(.long (q0 + (((((q1.toUInt64 >>> ((48 : Int32) &&& 0x3f).toInt64.toUInt64).toInt64).toInt32).toInt8.toInt32).toInt64))), (.int 6), (.ref nb1)])) rfl rfl (hb hby at_127)
  have F8 : FA Z h8 nb1 .long 9 (fun i => .long ((updL f7 6 (q0 + (((((q1.toUInt64 >>> ((48 : Int32) &&& 0x3f).toInt64.toUInt64).toInt64).toInt32).toInt8.toInt32).toInt64))) i)) := F7.setL W8
  obtain ⟨f8, ef8⟩ : ∃ fz_ : Nat → Int64, fz_ = (updL f7 6 (q0 + (((((q1.toUInt64 >>> ((48 : Int32) &&& 0x3f).toInt64.toUInt64).toInt64).toInt32).toInt8.toInt32).toInt64))) := ⟨_, rfl⟩
  rw [← ef8] at F8
  have N8 := Fr.snoc X8 N7 g_nb1
  have Z8 := Nat.le_trans Z7 (Keep.of_wr W8).1
  refine qat 128 #[(vj q0), sd, (vj q1), sd, (vi q2), (vi q3), (vi q4), (vi nv), (vi pv), (vi tv), (vr nb1), un, un, un, un, un, un, un, un, un, un] [] st8 ?_
  refine qa 130 X8 hx hby at_128 rfl rfl ?_
  refine qc2 132 7 X8 hx hby at_130 rfl rfl ?_
  refine qlN 133 X8 hx hby at_132 rfl rfl ?_
  refine qlN 134 X8 hx hby at_133 rfl rfl ?_
  refine qc2 136 56 X8 hx hby at_134 rfl rfl ?_
  refine own_by (fun _ k => XS.lushr X8.here hx rfl (hb hby at_136) rfl k) ?_
  show OEnds p e below s _ _ _ (T8.setTop (mkF m 137 #[(vj q0), sd, (vj q1), sd, (vi q2), (vi q3), (vi q4), (vi nv), (vi pv), (vi tv), (vr nb1), un, un, un, un, un, un, un, un, un, un] [(.long ((q1.toUInt64 >>> ((56 : Int32) &&& 0x3f).toInt64.toUInt64).toInt64)), (.long q0), (.int 7), (.ref nb1)]))
  refine own_by (fun _ k => XS.l2i X8.here hx rfl (hb hby at_137) rfl k) ?_
  show OEnds p e below s _ _ _ (T8.setTop (mkF m 138 #[(vj q0), sd, (vj q1), sd, (vi q2), (vi q3), (vi q4), (vi nv), (vi pv), (vi tv), (vr nb1), un, un, un, un, un, un, un, un, un, un] [(.int (((q1.toUInt64 >>> ((56 : Int32) &&& 0x3f).toInt64.toUInt64).toInt64).toInt32)), (.long q0), (.int 7), (.ref nb1)]))
  refine own_by (fun _ k => XS.i2b X8.here hx rfl (hb hby at_138) rfl k) ?_
  show OEnds p e below s _ _ _ (T8.setTop (mkF m 139 #[(vj q0), sd, (vj q1), sd, (vi q2), (vi q3), (vi q4), (vi nv), (vi pv), (vi tv), (vr nb1), un, un, un, un, un, un, un, un, un, un] [(.int ((((q1.toUInt64 >>> ((56 : Int32) &&& 0x3f).toInt64.toUInt64).toInt64).toInt32).toInt8.toInt32)), (.long q0), (.int 7), (.ref nb1)]))
  refine own_by (fun _ k => XS.i2l X8.here hx rfl (hb hby at_139) rfl k) ?_
  show OEnds p e below s _ _ _ (T8.setTop (mkF m 140 #[(vj q0), sd, (vj q1), sd, (vi q2), (vi q3), (vi q4), (vi nv), (vi pv), (vi tv), (vr nb1), un, un, un, un, un, un, un, un, un, un] [(.long (((((q1.toUInt64 >>> ((56 : Int32) &&& 0x3f).toInt64.toUInt64).toInt64).toInt32).toInt8.toInt32).toInt64)), (.long q0), (.int 7), (.ref nb1)]))
  refine q_ladd 141 X8 hx hby at_140 rfl ?_
  obtain ⟨T9, h9, X9, e9, W9, st9⟩ := own_lastore X8 hx hZ e8 F8 7 (by decide) (by decide) (g := (mkF m 141 #[(vj q0), sd, (vj q1), sd, (vi q2), (vi q3), (vi q4), (vi nv), (vi pv), (vi tv), (vr nb1), un, un, un, un, un, un, un, un, un, un] [(.long (q0 + (((((q1.toUInt64 >>> ((56 : Int32) &&& 0x3f).toInt64.toUInt64).toInt64).toInt32).toInt8.toInt32).toInt64))), (.int 7), (.ref nb1)])) rfl rfl (hb hby at_141)
  have F9 : FA Z h9 nb1 .long 9 (fun i => .long ((updL f8 7 (q0 + (((((q1.toUInt64 >>> ((56 : Int32) &&& 0x3f).toInt64.toUInt64).toInt64).toInt32).toInt8.toInt32).toInt64))) i)) := F8.setL W9
  obtain ⟨f9, ef9⟩ : ∃ fz_ : Nat → Int64, fz_ = (updL f8 7 (q0 + (((((q1.toUInt64 >>> ((56 : Int32) &&& 0x3f).toInt64.toUInt64).toInt64).toInt32).toInt8.toInt32).toInt64))) := ⟨_, rfl⟩
  rw [← ef9] at F9
  have N9 := Fr.snoc X9 N8 g_nb1
  have Z9 := Nat.le_trans Z8 (Keep.of_wr W9).1
  refine qat 142 #[(vj q0), sd, (vj q1), sd, (vi q2), (vi q3), (vi q4), (vi nv), (vi pv), (vi tv), (vr nb1), un, un, un, un, un, un, un, un, un, un] [] st9 ?_
  refine qa 144 X9 hx hby at_142 rfl rfl ?_
  refine qc2 146 8 X9 hx hby at_144 rfl rfl ?_
  refine qlN 147 X9 hx hby at_146 rfl rfl ?_
  refine qi 149 X9 hx hby at_147 rfl rfl ?_
  refine own_by (fun _ k => XS.i2b X9.here hx rfl (hb hby at_149) rfl k) ?_
  show OEnds p e below s _ _ _ (T9.setTop (mkF m 150 #[(vj q0), sd, (vj q1), sd, (vi q2), (vi q3), (vi q4), (vi nv), (vi pv), (vi tv), (vr nb1), un, un, un, un, un, un, un, un, un, un] [(.int (q2.toInt8.toInt32)), (.long q0), (.int 8), (.ref nb1)]))
  refine own_by (fun _ k => XS.i2l X9.here hx rfl (hb hby at_150) rfl k) ?_
  show OEnds p e below s _ _ _ (T9.setTop (mkF m 151 #[(vj q0), sd, (vj q1), sd, (vi q2), (vi q3), (vi q4), (vi nv), (vi pv), (vi tv), (vr nb1), un, un, un, un, un, un, un, un, un, un] [(.long ((q2.toInt8.toInt32).toInt64)), (.long q0), (.int 8), (.ref nb1)]))
  refine q_ladd 152 X9 hx hby at_151 rfl ?_
  obtain ⟨T10, h10, X10, e10, W10, st10⟩ := own_lastore X9 hx hZ e9 F9 8 (by decide) (by decide) (g := (mkF m 152 #[(vj q0), sd, (vj q1), sd, (vi q2), (vi q3), (vi q4), (vi nv), (vi pv), (vi tv), (vr nb1), un, un, un, un, un, un, un, un, un, un] [(.long (q0 + ((q2.toInt8.toInt32).toInt64))), (.int 8), (.ref nb1)])) rfl rfl (hb hby at_152)
  have F10 : FA Z h10 nb1 .long 9 (fun i => .long ((updL f9 8 (q0 + ((q2.toInt8.toInt32).toInt64))) i)) := F9.setL W10
  have N10 := Fr.snoc X10 N9 g_nb1
  have Z10 := Nat.le_trans Z9 (Keep.of_wr W10).1
  refine qat 153 #[(vj q0), sd, (vj q1), sd, (vi q2), (vi q3), (vi q4), (vi nv), (vi pv), (vi tv), (vr nb1), un, un, un, un, un, un, un, un, un, un] [] st10 ?_
  refine qlN 154 X10 hx hby at_153 rfl rfl ?_
  refine qi 156 X10 hx hby at_154 rfl rfl ?_
  refine own_by (fun _ k => XS.i2b X10.here hx rfl (hb hby at_156) rfl k) ?_
  show OEnds p e below s _ _ _ (T10.setTop (mkF m 157 #[(vj q0), sd, (vj q1), sd, (vi q2), (vi q3), (vi q4), (vi nv), (vi pv), (vi tv), (vr nb1), un, un, un, un, un, un, un, un, un, un] [(.int (q3.toInt8.toInt32)), (.long q0)]))
  refine own_by (fun _ k => XS.i2l X10.here hx rfl (hb hby at_157) rfl k) ?_
  show OEnds p e below s _ _ _ (T10.setTop (mkF m 158 #[(vj q0), sd, (vj q1), sd, (vi q2), (vi q3), (vi q4), (vi nv), (vi pv), (vi tv), (vr nb1), un, un, un, un, un, un, un, un, un, un] [(.long ((q3.toInt8.toInt32).toInt64)), (.long q0)]))
  refine q_ladd 159 X10 hx hby at_158 rfl ?_
  refine qsl 161 #[(vj q0), sd, (vj q1), sd, (vi q2), (vi q3), (vi q4), (vi nv), (vi pv), (vi tv), (vr nb1), (vj (q0 + ((q3.toInt8.toInt32).toInt64))), sd, un, un, un, un, un, un, un, un] X10 hx hby at_159 rfl rfl ?_
  obtain ⟨gv, Fgv⟩ : ∃ gv : Nat → Int64, FA Z h10 nb1 .long 9 (fun i => .long (gv i)) := ⟨_, F10⟩
  obtain ⟨bd, ebd⟩ : ∃ z, z = (q0 + ((q3.toInt8.toInt32).toInt64)) := ⟨_, rfl⟩
  rw [← ebd]
  clear ebd
  show OEnds p e below s _ _ _ (T10.setTop (mkF m 161 #[(vj q0), sd, (vj q1), sd, (vi q2), (vi q3), (vi q4), (vi nv), (vi pv), (vi tv), (vr nb1), (vj bd), sd, un, un, un, un, un, un, un, un] []))
  obtain ⟨T11, h11, X11, e11, E11, A11, D11, -, st11⟩ := newO X10 hx hZ hown (tw1 hw) (tw2 hw) (tw3 hw) e10 (g := (mkF m 161 #[(vj q0), sd, (vj q1), sd, (vi q2), (vi q3), (vi q4), (vi nv), (vi pv), (vi tv), (vr nb1), (vj bd), sd, un, un, un, un, un, un, un, un] [])) rfl (hb hby at_161) (by decide) (by decide)
  obtain ⟨nb11, g11⟩ : ∃ z, z = h10.size := ⟨_, rfl⟩
  rw [← g11] at A11 D11 st11
  have g_nb11 : n0 ≤ nb11 := Nat.le_trans Z10 (Nat.le_of_eq g11.symm)
  have Z11 := Nat.le_trans Z10 E11.1
  have O11 : Obj Z h11 nb11 "com/example/graphweft/graphweft/RangeMaxTree" sch_rt [.null, .null, .null, .null, .null, .null, .null, (.int 0), (.int 0), (.int 0), (.long 0), (.int 0), (.int 0), (.int 0), (.int 0), (.int 0), (.int 0), (.int 0), (.int 0)] := Obj.new (so_sch_rt hw) A11 D11 [(.array .long), (.array .long), (.array .int), (.array .int), (.array .int), (.array .int), (.array .int), .int, .int, .int, .long, .int, .int, .int, .int, .int, .int, .int, .int] (by decide)
  refine qat 164 #[(vj q0), sd, (vj q1), sd, (vi q2), (vi q3), (vi q4), (vi nv), (vi pv), (vi tv), (vr nb1), (vj bd), sd, un, un, un, un, un, un, un, un] [(.ref nb11)] st11 ?_
  have hva : @LT.lt Nat instLTNat nb1 nb11 := (Nat.lt_of_lt_of_le Fgv.lt (Nat.le_of_eq g11.symm))
  show OEnds p e below s _ _ _ (T11.setTop (mkF m 164 #[(vj q0), sd, (vj q1), sd, (vi q2), (vi q3), (vi q4), (vi nv), (vi pv), (vi tv), (vr nb1), (vj bd), sd, un, un, un, un, un, un, un, un] [(.ref nb11)]))
  refine q_dup 165 X11 hx hby at_164 rfl rfl ?_
  obtain ⟨v12, T12, L12, h12, X12, e12, hQ12, st12⟩ := own_callI X11 hx hZ (y := mn1) rfl hown (tw4 hw) (tw5 hw) (tw6 hw) (tw3 hw) (by decide) (rm_init l Z a0 hw [] nb11 h11 n0 Z11 O11 g_nb11) e11 (g := (mkF m 165 #[(vj q0), sd, (vj q1), sd, (vi q2), (vi q3), (vi q4), (vi nv), (vi pv), (vi tv), (vr nb1), (vj bd), sd, un, un, un, un, un, un, un, un] [(.ref nb11), (.ref nb11)])) rfl (by rw [hml]; rfl) (argsL := []) (rest := [(.ref nb11)]) (lenOf pd_prV rfl) rfl (W := 1) (by show 2 * 0 + _ ≤ _; exact Nat.le_of_eq rfl) (hb hby at_165) (by decide) (by decide) (by decide) (by decide)
  obtain ⟨rfl, Nq12, Kq12, b1, b2, b3, b4, b5, b6, b7, hord, ⟨g_b1, g_b2, g_b3, g_b4, g_b5, g_b6, g_b7⟩, O12, F_1, F_2, F_3, F_4, F_5, F_6, F_7⟩ := hQ12
  have N12 := Fr.app N10 Nq12
  have Z12 := Nat.le_trans Z11 Kq12.1
  refine qtr 168 #[(vj q0), sd, (vj q1), sd, (vi q2), (vi q3), (vi q4), (vi nv), (vi pv), (vi tv), (vr nb1), (vj bd), sd, un, un, un, un, un, un, un, un] [(.ref nb11)] st12 ?_
  refine qsa 170 #[(vj q0), sd, (vj q1), sd, (vi q2), (vi q3), (vi q4), (vi nv), (vi pv), (vi tv), (vr nb1), (vj bd), sd, (vr nb11), un, un, un, un, un, un, un] X12 hx hby at_168 rfl rfl ?_
  have on_b1 : nb1 ≠ b1 := Nat.ne_of_lt (by omega)
  have on_b2 : nb1 ≠ b2 := Nat.ne_of_lt (by omega)
  have on_b3 : nb1 ≠ b3 := Nat.ne_of_lt (by omega)
  have on_b4 : nb1 ≠ b4 := Nat.ne_of_lt (by omega)
  have on_b5 : nb1 ≠ b5 := Nat.ne_of_lt (by omega)
  have on_b6 : nb1 ≠ b6 := Nat.ne_of_lt (by omega)
  have on_b7 : nb1 ≠ b7 := Nat.ne_of_lt (by omega)
  have bl366 : ∀ (T : State) (lo : List Loc) (nx : Int32) (px : Int32) (pz : Int32) (r1 : Int32) (r2 : Int32) (pq : Nat) (tn : Nat) (h_bl366 : Heap) (Zz_bl366 : n0 ≤ h_bl366.size) (X_bl366 : Stand p l e room_1 s m #[(.long q0), (.long q1), (.int q2), (.int q3), (.int q4)] below meth c T lo 9 332) (e_bl366 : T.heap = h_bl366) (N_bl366 : Fr n0 lo) (Fa_bl366_nb1 : FA Z h_bl366 nb1 .long 9 (fun i => .long (gv i))) (hp : pz.toInt = (pq : Int)) (hp1 : pq ≤ 1) (htn : tv.toInt = (tn : Int)) (ht9 : tn ≤ 9) (hrr : RR (FF gv bd 0 tn) pq r1 r2), OEnds p e below s (QL n0) room_1.cells room_1.slots (T.setTop (mkF m 366 #[(vj q0), sd, (vj q1), sd, (vi q2), (vi q3), (vi q4), (vi nx), (vi px), (vi tv), (vr nb1), (vj bd), sd, (vr nb11), (vi pz), (vi r1), (vi r2), un, un, un, un] [])) := by
    intro T lo nx px pz r1 r2 pq tn h_bl366 Zz_bl366 X_bl366 e_bl366 N_bl366 Fa_bl366_nb1 hp hp1 htn ht9 hrr
    show OEnds p e below s _ _ _ (T.setTop (mkF m 366 #[(vj q0), sd, (vj q1), sd, (vi q2), (vi q3), (vi q4), (vi nx), (vi px), (vi tv), (vr nb1), (vj bd), sd, (vr nb11), (vi pz), (vi r1), (vi r2), un, un, un, un] []))
    refine qa 368 X_bl366 hx hby at_366 rfl rfl ?_
    refine qc1 369 0 X_bl366 hx hby at_368 rfl rfl ?_
    refine qi 371 X_bl366 hx hby at_369 rfl rfl ?_
    refine ql 373 X_bl366 hx hby at_371 rfl rfl ?_
    obtain ⟨T13, X13, e13, st13⟩ := own_callP X_bl366 hx hZ (y := mn9) hown (tw72 hw) (tw73 hw) (tw74 hw) (tw75 hw) (by decide) (rm_ff l Z a0 hw [] nb1 (0 : Int32) tv bd gv h_bl366 n0 Zz_bl366 Fa_bl366_nb1) e_bl366 (g := (mkF m 373 #[(vj q0), sd, (vj q1), sd, (vi q2), (vi q3), (vi q4), (vi nx), (vi px), (vi tv), (vr nb1), (vj bd), sd, (vr nb11), (vi pz), (vi r1), (vi r2), un, un, un, un] [(.long bd), (.int tv), (.int 0), (.ref nb1)])) rfl (by rw [hml]; rfl) (argsL := [(.ref nb1), (.int 0), (.int tv), (.long bd)]) (rest := []) (lenOf pd_paJIIJrI rfl) rfl (W := 0) (by show 2 * 0 + _ ≤ _; exact Nat.le_of_eq rfl) (hb hby at_373) (by decide) (by decide) (by decide) (by decide)
    refine qat 376 #[(vj q0), sd, (vj q1), sd, (vi q2), (vi q3), (vi q4), (vi nx), (vi px), (vi tv), (vr nb1), (vj bd), sd, (vr nb11), (vi pz), (vi r1), (vi r2), un, un, un, un] [(.int (ff_0 gv (0 : Int32) tv bd))] st13 ?_
    refine qsi 378 #[(vj q0), sd, (vj q1), sd, (vi q2), (vi q3), (vi q4), (vi nx), (vi px), (vi tv), (vr nb1), (vj bd), sd, (vr nb11), (vi pz), (vi r1), (vi r2), (vi (ff_0 gv (0 : Int32) tv bd)), un, un, un] X13 hx hby at_376 rfl rfl ?_
    refine qi 380 X13 hx hby at_378 rfl rfl ?_
    by_cases hc380_14 : (ff_0 gv (0 : Int32) tv bd) < (0 : Int32)
    · refine q_ifn 383 X13 hx hby at_380 rfl ((if0 _ _).trans (tlt hc380_14).2.1) ?_
      refine qc1 384 (-1) X13 hx hby at_383 rfl rfl ?_
      refine q_goto 400 X13 hx hby at_384 rfl ?_
      refine qsi 402 #[(vj q0), sd, (vj q1), sd, (vi q2), (vi q3), (vi q4), (vi nx), (vi px), (vi tv), (vr nb1), (vj bd), sd, (vr nb11), (vi pz), (vi r1), (vi r2), (vi (ff_0 gv (0 : Int32) tv bd)), (vi (-1)), un, un] X13 hx hby at_400 rfl rfl ?_
      refine qi 404 X13 hx hby at_402 rfl rfl ?_
      refine q_ifn 407 X13 hx hby at_404 rfl ((if0 _ _).trans (tlt hc380_14).2.1) ?_
      refine qc1 408 (-1) X13 hx hby at_407 rfl rfl ?_
      refine q_goto 416 X13 hx hby at_408 rfl ?_
      refine qsi 418 #[(vj q0), sd, (vj q1), sd, (vi q2), (vi q3), (vi q4), (vi nx), (vi px), (vi tv), (vr nb1), (vj bd), sd, (vr nb11), (vi pz), (vi r1), (vi r2), (vi (ff_0 gv (0 : Int32) tv bd)), (vi (-1)), (vi (-1)), un] X13 hx hby at_416 rfl rfl ?_
      refine qi 420 X13 hx hby at_418 rfl rfl ?_
      refine q_ifn 423 X13 hx hby at_420 rfl ((if0 _ _).trans (tlt (by decide : (-1 : Int32) < (0 : Int32))).2.1) ?_
      refine qc1 424 (-1) X13 hx hby at_423 rfl rfl ?_
      refine q_goto 432 X13 hx hby at_424 rfl ?_
      refine qsi 434 #[(vj q0), sd, (vj q1), sd, (vi q2), (vi q3), (vi q4), (vi nx), (vi px), (vi tv), (vr nb1), (vj bd), sd, (vr nb11), (vi pz), (vi r1), (vi r2), (vi (ff_0 gv (0 : Int32) tv bd)), (vi (-1)), (vi (-1)), (vi (-1))] X13 hx hby at_432 rfl rfl ?_
      refine qi 436 X13 hx hby at_434 rfl rfl ?_
      refine qi 438 X13 hx hby at_436 rfl rfl ?_
      refine q_cmn 441 X13 hx hby at_438 rfl (teq ((fin_neg hrr (ff_spec gv bd (show (0 : Int32).toInt = ((0 : Nat) : Int) by decide) htn ht9) hc380_14).1)).2 ?_
      refine qi 443 X13 hx hby at_441 rfl rfl ?_
      refine qi 445 X13 hx hby at_443 rfl rfl ?_
      refine q_cmn 448 X13 hx hby at_445 rfl (teq ((fin_neg hrr (ff_spec gv bd (show (0 : Int32).toInt = ((0 : Nat) : Int) by decide) htn ht9) hc380_14).2)).2 ?_
      refine qc1 449 1 X13 hx hby at_448 rfl rfl ?_
      refine q_goto 453 X13 hx hby at_449 rfl ?_
      exact own_retN X13 hx hlk .boolean (by simp) Bd.returns (hb hby at_453) ⟨rfl, N_bl366⟩ (by decide) (by decide)
    · refine q_ify 387 X13 hx hby at_380 rfl ((if0 _ _).trans (flt hc380_14).2.1) ?_
      refine qa 389 X13 hx hby at_387 rfl rfl ?_
      refine qi 391 X13 hx hby at_389 rfl rfl ?_
      refine qc1 392 1 X13 hx hby at_391 rfl rfl ?_
      refine q_iadd 393 X13 hx hby at_392 rfl ?_
      refine qi 395 X13 hx hby at_393 rfl rfl ?_
      refine ql 397 X13 hx hby at_395 rfl rfl ?_
      obtain ⟨T15, X15, e15, st15⟩ := own_callP X13 hx hZ (y := mn9) hown (tw72 hw) (tw73 hw) (tw74 hw) (tw75 hw) (by decide) (rm_ff l Z a0 hw [] nb1 ((ff_0 gv (0 : Int32) tv bd) + (1 : Int32)) tv bd gv h_bl366 n0 Zz_bl366 Fa_bl366_nb1) e13 (g := (mkF m 397 #[(vj q0), sd, (vj q1), sd, (vi q2), (vi q3), (vi q4), (vi nx), (vi px), (vi tv), (vr nb1), (vj bd), sd, (vr nb11), (vi pz), (vi r1), (vi r2), (vi (ff_0 gv (0 : Int32) tv bd)), un, un, un] [(.long bd), (.int tv), (.int ((ff_0 gv (0 : Int32) tv bd) + (1 : Int32))), (.ref nb1)])) rfl (by rw [hml]; rfl) (argsL := [(.ref nb1), (.int ((ff_0 gv (0 : Int32) tv bd) + (1 : Int32))), (.int tv), (.long bd)]) (rest := []) (lenOf pd_paJIIJrI rfl) rfl (W := 0) (by show 2 * 0 + _ ≤ _; exact Nat.le_of_eq rfl) (hb hby at_397) (by decide) (by decide) (by decide) (by decide)
      refine qat 400 #[(vj q0), sd, (vj q1), sd, (vi q2), (vi q3), (vi q4), (vi nx), (vi px), (vi tv), (vr nb1), (vj bd), sd, (vr nb11), (vi pz), (vi r1), (vi r2), (vi (ff_0 gv (0 : Int32) tv bd)), un, un, un] [(.int (ff_0 gv ((ff_0 gv (0 : Int32) tv bd) + (1 : Int32)) tv bd))] st15 ?_
      refine qsi 402 #[(vj q0), sd, (vj q1), sd, (vi q2), (vi q3), (vi q4), (vi nx), (vi px), (vi tv), (vr nb1), (vj bd), sd, (vr nb11), (vi pz), (vi r1), (vi r2), (vi (ff_0 gv (0 : Int32) tv bd)), (vi (ff_0 gv ((ff_0 gv (0 : Int32) tv bd) + (1 : Int32)) tv bd)), un, un] X15 hx hby at_400 rfl rfl ?_
      refine qi 404 X15 hx hby at_402 rfl rfl ?_
      refine q_ify 411 X15 hx hby at_404 rfl ((if0 _ _).trans (flt hc380_14).2.1) ?_
      refine qi 413 X15 hx hby at_411 rfl rfl ?_
      refine qi 415 X15 hx hby at_413 rfl rfl ?_
      refine q_iadd 416 X15 hx hby at_415 rfl ?_
      refine qsi 418 #[(vj q0), sd, (vj q1), sd, (vi q2), (vi q3), (vi q4), (vi nx), (vi px), (vi tv), (vr nb1), (vj bd), sd, (vr nb11), (vi pz), (vi r1), (vi r2), (vi (ff_0 gv (0 : Int32) tv bd)), (vi (ff_0 gv ((ff_0 gv (0 : Int32) tv bd) + (1 : Int32)) tv bd)), (vi (pz + (ff_0 gv (0 : Int32) tv bd))), un] X15 hx hby at_416 rfl rfl ?_
      refine qi 420 X15 hx hby at_418 rfl rfl ?_
      by_cases hc420_16 : (ff_0 gv ((ff_0 gv (0 : Int32) tv bd) + (1 : Int32)) tv bd) < (0 : Int32)
      · refine q_ifn 423 X15 hx hby at_420 rfl ((if0 _ _).trans (tlt hc420_16).2.1) ?_
        refine qc1 424 (-1) X15 hx hby at_423 rfl rfl ?_
        refine q_goto 432 X15 hx hby at_424 rfl ?_
        refine qsi 434 #[(vj q0), sd, (vj q1), sd, (vi q2), (vi q3), (vi q4), (vi nx), (vi px), (vi tv), (vr nb1), (vj bd), sd, (vr nb11), (vi pz), (vi r1), (vi r2), (vi (ff_0 gv (0 : Int32) tv bd)), (vi (ff_0 gv ((ff_0 gv (0 : Int32) tv bd) + (1 : Int32)) tv bd)), (vi (pz + (ff_0 gv (0 : Int32) tv bd))), (vi (-1))] X15 hx hby at_432 rfl rfl ?_
        refine qi 436 X15 hx hby at_434 rfl rfl ?_
        refine qi 438 X15 hx hby at_436 rfl rfl ?_
        refine q_cmn 441 X15 hx hby at_438 rfl (teq ((fin_pos hrr (ff_spec gv bd (show (0 : Int32).toInt = ((0 : Nat) : Int) by decide) htn ht9) hc380_14 hp hp1 htn ht9).1)).2 ?_
        refine qi 443 X15 hx hby at_441 rfl rfl ?_
        refine qi 445 X15 hx hby at_443 rfl rfl ?_
        refine q_cmn 448 X15 hx hby at_445 rfl (teq ((fin_pos hrr (ff_spec gv bd (show (0 : Int32).toInt = ((0 : Nat) : Int) by decide) htn ht9) hc380_14 hp hp1 htn ht9).2.1 hc420_16)).2 ?_
        refine qc1 449 1 X15 hx hby at_448 rfl rfl ?_
        refine q_goto 453 X15 hx hby at_449 rfl ?_
        exact own_retN X15 hx hlk .boolean (by simp) Bd.returns (hb hby at_453) ⟨rfl, N_bl366⟩ (by decide) (by decide)
      · refine q_ify 427 X15 hx hby at_420 rfl ((if0 _ _).trans (flt hc420_16).2.1) ?_
        refine qi 429 X15 hx hby at_427 rfl rfl ?_
        refine qi 431 X15 hx hby at_429 rfl rfl ?_
        refine q_iadd 432 X15 hx hby at_431 rfl ?_
        refine qsi 434 #[(vj q0), sd, (vj q1), sd, (vi q2), (vi q3), (vi q4), (vi nx), (vi px), (vi tv), (vr nb1), (vj bd), sd, (vr nb11), (vi pz), (vi r1), (vi r2), (vi (ff_0 gv (0 : Int32) tv bd)), (vi (ff_0 gv ((ff_0 gv (0 : Int32) tv bd) + (1 : Int32)) tv bd)), (vi (pz + (ff_0 gv (0 : Int32) tv bd))), (vi (pz + (ff_0 gv ((ff_0 gv (0 : Int32) tv bd) + (1 : Int32)) tv bd)))] X15 hx hby at_432 rfl rfl ?_
        refine qi 436 X15 hx hby at_434 rfl rfl ?_
        refine qi 438 X15 hx hby at_436 rfl rfl ?_
        refine q_cmn 441 X15 hx hby at_438 rfl (teq ((fin_pos hrr (ff_spec gv bd (show (0 : Int32).toInt = ((0 : Nat) : Int) by decide) htn ht9) hc380_14 hp hp1 htn ht9).1)).2 ?_
        refine qi 443 X15 hx hby at_441 rfl rfl ?_
        refine qi 445 X15 hx hby at_443 rfl rfl ?_
        refine q_cmn 448 X15 hx hby at_445 rfl (teq ((fin_pos hrr (ff_spec gv bd (show (0 : Int32).toInt = ((0 : Nat) : Int) by decide) htn ht9) hc380_14 hp hp1 htn ht9).2.2 hc420_16)).2 ?_
        refine qc1 449 1 X15 hx hby at_448 rfl rfl ?_
        refine q_goto 453 X15 hx hby at_449 rfl ?_
        exact own_retN X15 hx hlk .boolean (by simp) Bd.returns (hb hby at_453) ⟨rfl, N_bl366⟩ (by decide) (by decide)
  have bl335 : ∀ (T : State) (lo : List Loc) (nx : Int32) (px : Int32) (scx : Int32) (szx : Int32) (ncx : Int32) (bdx : Int64) (ssx : Int32) (bsx : Int32) (bcx : Int32) (pnx : Int32) (sex : Int32) (sax : Int32) (tax : Int32) (tex : Int32) (gx1 : Nat → Int64) (gx2 : Nat → Int64) (gx3 : Nat → Int32) (gx4 : Nat → Int32) (gx5 : Nat → Int32) (gx6 : Nat → Int32) (gx7 : Nat → Int32) (pq : Nat) (nn : Nat) (tn : Nat) (h_bl335 : Heap) (Zz_bl335 : n0 ≤ h_bl335.size) (X_bl335 : Stand p l e room_1 s m #[(.long q0), (.long q1), (.int q2), (.int q3), (.int q4)] below meth c T lo 9 332) (e_bl335 : T.heap = h_bl335) (N_bl335 : Fr n0 lo) (Ob_bl335_nb11 : Obj Z h_bl335 nb11 "com/example/graphweft/graphweft/RangeMaxTree" sch_rt [(.ref b1), (.ref b2), (.ref b3), (.ref b4), (.ref b5), (.ref b6), (.ref b7), (.int scx), (.int szx), (.int ncx), (.long bdx), (.int ssx), (.int bsx), (.int bcx), (.int pnx), (.int sex), (.int sax), (.int tax), (.int tex)]) (Fa_bl335_nb1 : FA Z h_bl335 nb1 .long 9 (fun i => .long (gv i))) (Fa_bl335_b1 : FA Z h_bl335 b1 .long 64 (fun i => .long (gx1 i))) (Fa_bl335_b2 : FA Z h_bl335 b2 .long 64 (fun i => .long (gx2 i))) (Fa_bl335_b3 : FA Z h_bl335 b3 .int 16 (fun i => .int (gx3 i))) (Fa_bl335_b4 : FA Z h_bl335 b4 .int 16 (fun i => .int (gx4 i))) (Fa_bl335_b5 : FA Z h_bl335 b5 .int 16 (fun i => .int (gx5 i))) (Fa_bl335_b6 : FA Z h_bl335 b6 .int 96 (fun i => .int (gx6 i))) (Fa_bl335_b7 : FA Z h_bl335 b7 .int 32 (fun i => .int (gx7 i))) (hp : px.toInt = (pq : Int)) (hp1 : pq ≤ 1) (hnn : nx.toInt = (nn : Int)) (hn9 : nn ≤ 9) (htn : tv.toInt = (tn : Int)) (htle : tn ≤ nn) (hs : gx3 1 = px) (hbs : (gx5 1).toInt = ((2 * pq : Nat) : Int)) (he : ((gx4 1) - (gx3 1)) = nx) (hval : ∀ j, j < nn → gx1 (pq + j) = gv j) (hm8 : nn = 8 → MX (gx2 (2 * pq + 1)) gv) (hm9 : nn = 9 → MX (gx2 (2 * pq + 2)) gv), OEnds p e below s (QL n0) room_1.cells room_1.slots (T.setTop (mkF m 335 #[(vj q0), sd, (vj q1), sd, (vi q2), (vi q3), (vi q4), (vi nx), (vi px), (vi tv), (vr nb1), (vj bd), sd, (vr nb11), un, un, un, un, un, un, un] [])) := by
    intro T lo nx px scx szx ncx bdx ssx bsx bcx pnx sex sax tax tex gx1 gx2 gx3 gx4 gx5 gx6 gx7 pq nn tn h_bl335 Zz_bl335 X_bl335 e_bl335 N_bl335 Ob_bl335_nb11 Fa_bl335_nb1 Fa_bl335_b1 Fa_bl335_b2 Fa_bl335_b3 Fa_bl335_b4 Fa_bl335_b5 Fa_bl335_b6 Fa_bl335_b7 hp hp1 hnn hn9 htn htle hs hbs he hval hm8 hm9
    show OEnds p e below s _ _ _ (T.setTop (mkF m 335 #[(vj q0), sd, (vj q1), sd, (vi q2), (vi q3), (vi q4), (vi nx), (vi px), (vi tv), (vr nb1), (vj bd), sd, (vr nb11), un, un, un, un, un, un, un] []))
    by_cases ht8 : tn < 8
    · show OEnds p e below s _ _ _ (T.setTop (mkF m 335 #[(vj q0), sd, (vj q1), sd, (vi q2), (vi q3), (vi q4), (vi nx), (vi px), (vi tv), (vr nb1), (vj bd), sd, (vr nb11), un, un, un, un, un, un, un] []))
      refine qi 337 X_bl335 hx hby at_335 rfl rfl ?_
      refine qsi 339 #[(vj q0), sd, (vj q1), sd, (vi q2), (vi q3), (vi q4), (vi nx), (vi px), (vi tv), (vr nb1), (vj bd), sd, (vr nb11), (vi px), un, un, un, un, un, un] X_bl335 hx hby at_337 rfl rfl ?_
      refine qa 341 X_bl335 hx hby at_339 rfl rfl ?_
      refine qc1 342 1 X_bl335 hx hby at_341 rfl rfl ?_
      refine qi 344 X_bl335 hx hby at_342 rfl rfl ?_
      refine qi 346 X_bl335 hx hby at_344 rfl rfl ?_
      refine q_iadd 347 X_bl335 hx hby at_346 rfl ?_
      refine ql 349 X_bl335 hx hby at_347 rfl rfl ?_
      obtain ⟨v17, T17, L17, h17, X17, e17, hQ17, st17⟩ := own_callV X_bl335 hx hZ (y := mn6) hown (tw44 hw) (tw45 hw) (tw47 hw) (tw46 hw) (tw48 hw) (tw3 hw) (by decide) Ob_bl335_nb11.exa (rm_findS l Z a0 hw [] nb11 (px + tv) bd b1 b2 b3 b4 b5 b6 b7 scx szx ncx bdx ssx bsx bcx pnx sex sax tax tex gx3 gx4 gx5 h_bl335 n0 Zz_bl335 Ob_bl335_nb11 Fa_bl335_b3 Fa_bl335_b4 Fa_bl335_b5 g_nb11 hord (fullS hs hp hp1 htn ht8)) e_bl335 (g := (mkF m 349 #[(vj q0), sd, (vj q1), sd, (vi q2), (vi q3), (vi q4), (vi nx), (vi px), (vi tv), (vr nb1), (vj bd), sd, (vr nb11), (vi px), un, un, un, un, un, un] [(.long bd), (.int (px + tv)), (.int 1), (.ref nb11)])) rfl (by rw [hml]; rfl) (argsL := [(.int 1), (.int (px + tv)), (.long bd)]) (rest := []) (lenOf pd_pIIJrV rfl) rfl (W := 0) (by show 2 * 0 + _ ≤ _; exact Nat.le_of_eq rfl) (hb hby at_349) (by decide) (by decide) (by decide) (by decide)
      obtain ⟨rfl, Nq17, Kq17, O17⟩ := hQ17
      have N17 := Fr.app N_bl335 Nq17
      have Z17 := Nat.le_trans Zz_bl335 Kq17.1
      refine qtr 352 #[(vj q0), sd, (vj q1), sd, (vi q2), (vi q3), (vi q4), (vi nx), (vi px), (vi tv), (vr nb1), (vj bd), sd, (vr nb11), (vi px), un, un, un, un, un, un] [] st17 ?_
      refine qa 354 X17 hx hby at_352 rfl rfl ?_
      have F19 := (Fa_bl335_b1.keep Kq17 (ninS (Ne.symm (o01 hord)) nin0))
      obtain ⟨v18, T18, L18, h18, X18, e18, hQ18, st18⟩ := own_callV X17 hx hZ (y := mn8) hown (tw67 hw) (tw68 hw) (tw70 hw) (tw69 hw) (tw71 hw) (tw3 hw) (by decide) O17.exa (rm_nextS l Z a0 hw [] nb11 b1 b2 b3 b4 b5 b6 b7 scx szx ncx bd (gx3 1) (gx5 1) ((((gx4 1) - (gx3 1)) / (8 : Int32)) + (if (((gx4 1) - (gx3 1)) % (8 : Int32)) = (0 : Int32) then (0 : Int32) else (1 : Int32))) (0 : Int32) (0 : Int32) ((gx3 1) + (0 : Int32)) (px + tv) gx1 0 0 pq (pq + tn) (cand gx1 bd 0 0 pq (pq + tn)) h17 n0 Z17 O17 F19 g_nb11 (by rw [hs]; exact add0_i hp) (addn hp htn (by omega)) (by omega) (by omega) (by decide) (by decide) (Nat.le_refl 0) (by decide) rfl) e17 (g := (mkF m 354 #[(vj q0), sd, (vj q1), sd, (vi q2), (vi q3), (vi q4), (vi nx), (vi px), (vi tv), (vr nb1), (vj bd), sd, (vr nb11), (vi px), un, un, un, un, un, un] [(.ref nb11)])) rfl (by rw [hml]; rfl) (argsL := []) (rest := []) (lenOf pd_prI rfl) rfl (W := 0) (by show 2 * 0 + _ ≤ _; exact Nat.le_of_eq rfl) (hb hby at_354) (by decide) (by decide) (by decide) (by decide)
      obtain ⟨rv18, rfl, Nq18, Kq18, sa18, se18, ta18, ni18, ne18, nt18, rest18, hsa18, hse18, hta18, hie18, he6418, htu18, hcd18, hres18, O18⟩ := hQ18
      have N18 := Fr.app N17 Nq18
      have Z18 := Nat.le_trans Z17 Kq18.1
      refine qtr 357 #[(vj q0), sd, (vj q1), sd, (vi q2), (vi q3), (vi q4), (vi nx), (vi px), (vi tv), (vr nb1), (vj bd), sd, (vr nb11), (vi px), un, un, un, un, un, un] [(.int rv18)] st18 ?_
      refine qsi 359 #[(vj q0), sd, (vj q1), sd, (vi q2), (vi q3), (vi q4), (vi nx), (vi px), (vi tv), (vr nb1), (vj bd), sd, (vr nb11), (vi px), (vi rv18), un, un, un, un, un] X18 hx hby at_357 rfl rfl ?_
      refine qa 361 X18 hx hby at_359 rfl rfl ?_
      have F21 := (F19.keep Kq18 (ninS (Ne.symm (o01 hord)) nin0))
      obtain ⟨v20, T20, L20, h20, X20, e20, hQ20, st20⟩ := own_callV X18 hx hZ (y := mn8) hown (tw67 hw) (tw68 hw) (tw70 hw) (tw69 hw) (tw71 hw) (tw3 hw) (by decide) O18.exa (rm_nextS l Z a0 hw [] nb11 b1 b2 b3 b4 b5 b6 b7 scx szx ncx bd (gx3 1) (gx5 1) ((((gx4 1) - (gx3 1)) / (8 : Int32)) + (if (((gx4 1) - (gx3 1)) % (8 : Int32)) = (0 : Int32) then (0 : Int32) else (1 : Int32))) se18 sa18 ta18 (px + tv) gx1 ni18 ne18 nt18 (pq + tn) rest18 h18 n0 Z18 O18 F21 g_nb11 hta18 (addn hp htn (by omega)) htu18 (by omega) hsa18 hse18 hie18 he6418 hcd18) e18 (g := (mkF m 361 #[(vj q0), sd, (vj q1), sd, (vi q2), (vi q3), (vi q4), (vi nx), (vi px), (vi tv), (vr nb1), (vj bd), sd, (vr nb11), (vi px), (vi rv18), un, un, un, un, un] [(.ref nb11)])) rfl (by rw [hml]; rfl) (argsL := []) (rest := []) (lenOf pd_prI rfl) rfl (W := 0) (by show 2 * 0 + _ ≤ _; exact Nat.le_of_eq rfl) (hb hby at_361) (by decide) (by decide) (by decide) (by decide)
      obtain ⟨rv20, rfl, Nq20, Kq20, sa20, se20, ta20, ni20, ne20, nt20, rest20, hsa20, hse20, hta20, hie20, he6420, htu20, hcd20, hres20, O20⟩ := hQ20
      have N20 := Fr.app N18 Nq20
      have Z20 := Nat.le_trans Z18 Kq20.1
      refine qtr 364 #[(vj q0), sd, (vj q1), sd, (vi q2), (vi q3), (vi q4), (vi nx), (vi px), (vi tv), (vr nb1), (vj bd), sd, (vr nb11), (vi px), (vi rv18), un, un, un, un, un] [(.int rv20)] st20 ?_
      refine qsi 366 #[(vj q0), sd, (vj q1), sd, (vi q2), (vi q3), (vi q4), (vi nx), (vi px), (vi tv), (vr nb1), (vj bd), sd, (vr nb11), (vi px), (vi rv18), (vi rv20), un, un, un, un] X20 hx hby at_364 rfl rfl ?_
      have F22 := (((Fa_bl335_nb1.keep Kq17 (ninS (Nat.ne_of_lt (Nat.lt_of_lt_of_le Fgv.lt (Nat.le_of_eq g11.symm))) nin0)).keep Kq18 (ninS (Nat.ne_of_lt (Nat.lt_of_lt_of_le Fgv.lt (Nat.le_of_eq g11.symm))) nin0)).keep Kq20 (ninS (Nat.ne_of_lt (Nat.lt_of_lt_of_le Fgv.lt (Nat.le_of_eq g11.symm))) nin0))
      exact bl366 T20 _ nx px px rv18 rv20 pq tn h20 Z20 X20 e20 N20 F22 hp hp1 htn (by omega) ⟨rest18, rest20, (by rw [← candS hval htle]; exact hres18), hres20⟩
    have h89 : nn = 8 ∨ nn = 9 := by omega
    rcases h89 with hn8 | hn8
    · show OEnds p e below s _ _ _ (T.setTop (mkF m 335 #[(vj q0), sd, (vj q1), sd, (vi q2), (vi q3), (vi q4), (vi nx), (vi px), (vi tv), (vr nb1), (vj bd), sd, (vr nb11), un, un, un, un, un, un, un] []))
      refine qi 337 X_bl335 hx hby at_335 rfl rfl ?_
      refine qsi 339 #[(vj q0), sd, (vj q1), sd, (vi q2), (vi q3), (vi q4), (vi nx), (vi px), (vi tv), (vr nb1), (vj bd), sd, (vr nb11), (vi px), un, un, un, un, un, un] X_bl335 hx hby at_337 rfl rfl ?_
      refine qa 341 X_bl335 hx hby at_339 rfl rfl ?_
      refine qc1 342 1 X_bl335 hx hby at_341 rfl rfl ?_
      refine qi 344 X_bl335 hx hby at_342 rfl rfl ?_
      refine qi 346 X_bl335 hx hby at_344 rfl rfl ?_
      refine q_iadd 347 X_bl335 hx hby at_346 rfl ?_
      refine ql 349 X_bl335 hx hby at_347 rfl rfl ?_
      obtain ⟨v23, T23, L23, h23, X23, e23, hQ23, st23⟩ := own_callV X_bl335 hx hZ (y := mn6) hown (tw44 hw) (tw45 hw) (tw47 hw) (tw46 hw) (tw48 hw) (tw3 hw) (by decide) Ob_bl335_nb11.exa (rm_findL8 l Z a0 hw [] nb11 (px + tv) bd b1 b2 b3 b4 b5 b6 b7 scx szx ncx bdx ssx bsx bcx pnx sex sax tax tex gx3 gx4 gx5 gx6 gx7 h_bl335 n0 Zz_bl335 Ob_bl335_nb11 Fa_bl335_b3 Fa_bl335_b4 Fa_bl335_b5 Fa_bl335_b6 Fa_bl335_b7 g_nb11 g_b6 g_b7 hord (he.trans (eq_8 hnn hn8)) (fullL hs hp hp1 htn (by omega) ht8)) e_bl335 (g := (mkF m 349 #[(vj q0), sd, (vj q1), sd, (vi q2), (vi q3), (vi q4), (vi nx), (vi px), (vi tv), (vr nb1), (vj bd), sd, (vr nb11), (vi px), un, un, un, un, un, un] [(.long bd), (.int (px + tv)), (.int 1), (.ref nb11)])) rfl (by rw [hml]; rfl) (argsL := [(.int 1), (.int (px + tv)), (.long bd)]) (rest := []) (lenOf pd_pIIJrV rfl) rfl (W := 0) (by show 2 * 0 + _ ≤ _; exact Nat.le_of_eq rfl) (hb hby at_349) (by decide) (by decide) (by decide) (by decide)
      obtain ⟨rfl, Nq23, Kq23, O23, F23_b6, F23_b7⟩ := hQ23
      have N23 := Fr.app N_bl335 Nq23
      have Z23 := Nat.le_trans Zz_bl335 Kq23.1
      refine qtr 352 #[(vj q0), sd, (vj q1), sd, (vi q2), (vi q3), (vi q4), (vi nx), (vi px), (vi tv), (vr nb1), (vj bd), sd, (vr nb11), (vi px), un, un, un, un, un, un] [] st23 ?_
      refine qa 354 X23 hx hby at_352 rfl rfl ?_
      have F25 := (Fa_bl335_b1.keep Kq23 (ninS (Ne.symm (o01 hord)) (ninS (o16 hord) (ninS (o17 hord) nin0))))
      have F26 := (Fa_bl335_b2.keep Kq23 (ninS (Ne.symm (o02 hord)) (ninS (o26 hord) (ninS (o27 hord) nin0))))
      obtain ⟨v24, T24, L24, h24, X24, e24, hQ24, st24⟩ := own_callV X23 hx hZ (y := mn8) hown (tw67 hw) (tw68 hw) (tw70 hw) (tw69 hw) (tw71 hw) (tw3 hw) (by decide) O23.exa (rm_nextP1 l Z a0 hw [] nb11 b1 b2 b3 b4 b5 b6 b7 scx szx ncx bd (gx3 1) (gx5 1) ((gx3 1) + (8 : Int32)) (px + tv) gx1 gx2 (updI gx6 0 (1 : Int32)) pq (pq + 8) (pq + tn) (cand gx1 bd pq (pq + 8) (pq + 8) (pq + tn)) h23 n0 Z23 O23 F25 F26 F23_b6 g_nb11 (by rw [hs]; exact addn hp (by decide) (by omega)) (addn hp htn (by omega)) (by omega) (by omega) (by rw [(addn hbs (show (1 : Int32).toInt = ((1 : Nat) : Int) by decide) (by omega))]; omega) rfl (by rw [hs]; exact hp) (by omega) (own_mx (k := 2 * pq + 1) hval (by omega) (hm8 hn8) (by rw [(addn hbs (show (1 : Int32).toInt = ((1 : Nat) : Int) by decide) (by omega))]; omega)) rfl) e23 (g := (mkF m 354 #[(vj q0), sd, (vj q1), sd, (vi q2), (vi q3), (vi q4), (vi nx), (vi px), (vi tv), (vr nb1), (vj bd), sd, (vr nb11), (vi px), un, un, un, un, un, un] [(.ref nb11)])) rfl (by rw [hml]; rfl) (argsL := []) (rest := []) (lenOf pd_prI rfl) rfl (W := 0) (by show 2 * 0 + _ ≤ _; exact Nat.le_of_eq rfl) (hb hby at_354) (by decide) (by decide) (by decide) (by decide)
      obtain ⟨rv24, rfl, Nq24, Kq24, sa24, se24, ta24, ni24, ne24, nt24, rest24, hsa24, hse24, hta24, hie24, he6424, htu24, hcd24, hres24, O24⟩ := hQ24
      have N24 := Fr.app N23 Nq24
      have Z24 := Nat.le_trans Z23 Kq24.1
      refine qtr 357 #[(vj q0), sd, (vj q1), sd, (vi q2), (vi q3), (vi q4), (vi nx), (vi px), (vi tv), (vr nb1), (vj bd), sd, (vr nb11), (vi px), un, un, un, un, un, un] [(.int rv24)] st24 ?_
      refine qsi 359 #[(vj q0), sd, (vj q1), sd, (vi q2), (vi q3), (vi q4), (vi nx), (vi px), (vi tv), (vr nb1), (vj bd), sd, (vr nb11), (vi px), (vi rv24), un, un, un, un, un] X24 hx hby at_357 rfl rfl ?_
      refine qa 361 X24 hx hby at_359 rfl rfl ?_
      have F28 := (F25.keep Kq24 (ninS (Ne.symm (o01 hord)) nin0))
      obtain ⟨v27, T27, L27, h27, X27, e27, hQ27, st27⟩ := own_callV X24 hx hZ (y := mn8) hown (tw67 hw) (tw68 hw) (tw70 hw) (tw69 hw) (tw71 hw) (tw3 hw) (by decide) O24.exa (rm_nextS l Z a0 hw [] nb11 b1 b2 b3 b4 b5 b6 b7 scx szx ncx bd (gx3 1) (gx5 1) (1 : Int32) se24 sa24 ta24 (px + tv) gx1 ni24 ne24 nt24 (pq + tn) rest24 h24 n0 Z24 O24 F28 g_nb11 hta24 (addn hp htn (by omega)) htu24 (by omega) hsa24 hse24 hie24 he6424 hcd24) e24 (g := (mkF m 361 #[(vj q0), sd, (vj q1), sd, (vi q2), (vi q3), (vi q4), (vi nx), (vi px), (vi tv), (vr nb1), (vj bd), sd, (vr nb11), (vi px), (vi rv24), un, un, un, un, un] [(.ref nb11)])) rfl (by rw [hml]; rfl) (argsL := []) (rest := []) (lenOf pd_prI rfl) rfl (W := 0) (by show 2 * 0 + _ ≤ _; exact Nat.le_of_eq rfl) (hb hby at_361) (by decide) (by decide) (by decide) (by decide)
      obtain ⟨rv27, rfl, Nq27, Kq27, sa27, se27, ta27, ni27, ne27, nt27, rest27, hsa27, hse27, hta27, hie27, he6427, htu27, hcd27, hres27, O27⟩ := hQ27
      have N27 := Fr.app N24 Nq27
      have Z27 := Nat.le_trans Z24 Kq27.1
      refine qtr 364 #[(vj q0), sd, (vj q1), sd, (vi q2), (vi q3), (vi q4), (vi nx), (vi px), (vi tv), (vr nb1), (vj bd), sd, (vr nb11), (vi px), (vi rv24), un, un, un, un, un] [(.int rv27)] st27 ?_
      refine qsi 366 #[(vj q0), sd, (vj q1), sd, (vi q2), (vi q3), (vi q4), (vi nx), (vi px), (vi tv), (vr nb1), (vj bd), sd, (vr nb11), (vi px), (vi rv24), (vi rv27), un, un, un, un] X27 hx hby at_364 rfl rfl ?_
      have F29 := (((Fa_bl335_nb1.keep Kq23 (ninS (Nat.ne_of_lt (Nat.lt_of_lt_of_le Fgv.lt (Nat.le_of_eq g11.symm))) (ninS on_b6 (ninS on_b7 nin0)))).keep Kq24 (ninS (Nat.ne_of_lt (Nat.lt_of_lt_of_le Fgv.lt (Nat.le_of_eq g11.symm))) nin0)).keep Kq27 (ninS (Nat.ne_of_lt (Nat.lt_of_lt_of_le Fgv.lt (Nat.le_of_eq g11.symm))) nin0))
      exact bl366 T27 _ nx px px rv24 rv27 pq tn h27 Z27 X27 e27 N27 F29 hp hp1 htn (by omega) ⟨rest24, rest27, (by rw [← candL hval htle (by omega)]; exact hres24), hres27⟩
    · show OEnds p e below s _ _ _ (T.setTop (mkF m 335 #[(vj q0), sd, (vj q1), sd, (vi q2), (vi q3), (vi q4), (vi nx), (vi px), (vi tv), (vr nb1), (vj bd), sd, (vr nb11), un, un, un, un, un, un, un] []))
      refine qi 337 X_bl335 hx hby at_335 rfl rfl ?_
      refine qsi 339 #[(vj q0), sd, (vj q1), sd, (vi q2), (vi q3), (vi q4), (vi nx), (vi px), (vi tv), (vr nb1), (vj bd), sd, (vr nb11), (vi px), un, un, un, un, un, un] X_bl335 hx hby at_337 rfl rfl ?_
      refine qa 341 X_bl335 hx hby at_339 rfl rfl ?_
      refine qc1 342 1 X_bl335 hx hby at_341 rfl rfl ?_
      refine qi 344 X_bl335 hx hby at_342 rfl rfl ?_
      refine qi 346 X_bl335 hx hby at_344 rfl rfl ?_
      refine q_iadd 347 X_bl335 hx hby at_346 rfl ?_
      refine ql 349 X_bl335 hx hby at_347 rfl rfl ?_
      obtain ⟨v30, T30, L30, h30, X30, e30, hQ30, st30⟩ := own_callV X_bl335 hx hZ (y := mn6) hown (tw44 hw) (tw45 hw) (tw47 hw) (tw46 hw) (tw48 hw) (tw3 hw) (by decide) Ob_bl335_nb11.exa (rm_findL9 l Z a0 hw [] nb11 (px + tv) bd b1 b2 b3 b4 b5 b6 b7 scx szx ncx bdx ssx bsx bcx pnx sex sax tax tex gx3 gx4 gx5 gx6 gx7 h_bl335 n0 Zz_bl335 Ob_bl335_nb11 Fa_bl335_b3 Fa_bl335_b4 Fa_bl335_b5 Fa_bl335_b6 Fa_bl335_b7 g_nb11 g_b6 hord (he.trans (eq_9 hnn hn8)) (fullL hs hp hp1 htn (by omega) ht8)) e_bl335 (g := (mkF m 349 #[(vj q0), sd, (vj q1), sd, (vi q2), (vi q3), (vi q4), (vi nx), (vi px), (vi tv), (vr nb1), (vj bd), sd, (vr nb11), (vi px), un, un, un, un, un, un] [(.long bd), (.int (px + tv)), (.int 1), (.ref nb11)])) rfl (by rw [hml]; rfl) (argsL := [(.int 1), (.int (px + tv)), (.long bd)]) (rest := []) (lenOf pd_pIIJrV rfl) rfl (W := 0) (by show 2 * 0 + _ ≤ _; exact Nat.le_of_eq rfl) (hb hby at_349) (by decide) (by decide) (by decide) (by decide)
      obtain ⟨rfl, Nq30, Kq30, O30, F30_b6⟩ := hQ30
      have N30 := Fr.app N_bl335 Nq30
      have Z30 := Nat.le_trans Zz_bl335 Kq30.1
      refine qtr 352 #[(vj q0), sd, (vj q1), sd, (vi q2), (vi q3), (vi q4), (vi nx), (vi px), (vi tv), (vr nb1), (vj bd), sd, (vr nb11), (vi px), un, un, un, un, un, un] [] st30 ?_
      refine qa 354 X30 hx hby at_352 rfl rfl ?_
      have F32 := (Fa_bl335_b1.keep Kq30 (ninS (Ne.symm (o01 hord)) (ninS (o16 hord) nin0)))
      have F33 := (Fa_bl335_b2.keep Kq30 (ninS (Ne.symm (o02 hord)) (ninS (o26 hord) nin0)))
      obtain ⟨v31, T31, L31, h31, X31, e31, hQ31, st31⟩ := own_callV X30 hx hZ (y := mn8) hown (tw67 hw) (tw68 hw) (tw70 hw) (tw69 hw) (tw71 hw) (tw3 hw) (by decide) O30.exa (rm_nextP2 l Z a0 hw [] nb11 b1 b2 b3 b4 b5 b6 b7 scx szx ncx bd (gx3 1) (gx5 1) ((gx3 1) + (8 : Int32)) (px + tv) gx1 gx2 (updI gx6 0 (2 : Int32)) pq (pq + 8) (pq + tn) (cand gx1 bd pq (pq + 8) (pq + 8) (pq + tn)) h30 n0 Z30 O30 F32 F33 F30_b6 g_nb11 (by rw [hs]; exact addn hp (by decide) (by omega)) (addn hp htn (by omega)) (by omega) (by omega) (by rw [(addn hbs (show (2 : Int32).toInt = ((2 : Nat) : Int) by decide) (by omega))]; omega) rfl (by rw [hs]; exact hp) (by omega) (own_mx (k := 2 * pq + 2) hval (by omega) (hm9 hn8) (by rw [(addn hbs (show (2 : Int32).toInt = ((2 : Nat) : Int) by decide) (by omega))]; omega)) rfl) e30 (g := (mkF m 354 #[(vj q0), sd, (vj q1), sd, (vi q2), (vi q3), (vi q4), (vi nx), (vi px), (vi tv), (vr nb1), (vj bd), sd, (vr nb11), (vi px), un, un, un, un, un, un] [(.ref nb11)])) rfl (by rw [hml]; rfl) (argsL := []) (rest := []) (lenOf pd_prI rfl) rfl (W := 0) (by show 2 * 0 + _ ≤ _; exact Nat.le_of_eq rfl) (hb hby at_354) (by decide) (by decide) (by decide) (by decide)
      obtain ⟨rv31, rfl, Nq31, Kq31, sa31, se31, ta31, ni31, ne31, nt31, rest31, hsa31, hse31, hta31, hie31, he6431, htu31, hcd31, hres31, O31⟩ := hQ31
      have N31 := Fr.app N30 Nq31
      have Z31 := Nat.le_trans Z30 Kq31.1
      refine qtr 357 #[(vj q0), sd, (vj q1), sd, (vi q2), (vi q3), (vi q4), (vi nx), (vi px), (vi tv), (vr nb1), (vj bd), sd, (vr nb11), (vi px), un, un, un, un, un, un] [(.int rv31)] st31 ?_
      refine qsi 359 #[(vj q0), sd, (vj q1), sd, (vi q2), (vi q3), (vi q4), (vi nx), (vi px), (vi tv), (vr nb1), (vj bd), sd, (vr nb11), (vi px), (vi rv31), un, un, un, un, un] X31 hx hby at_357 rfl rfl ?_
      refine qa 361 X31 hx hby at_359 rfl rfl ?_
      have F35 := (F32.keep Kq31 (ninS (Ne.symm (o01 hord)) nin0))
      obtain ⟨v34, T34, L34, h34, X34, e34, hQ34, st34⟩ := own_callV X31 hx hZ (y := mn8) hown (tw67 hw) (tw68 hw) (tw70 hw) (tw69 hw) (tw71 hw) (tw3 hw) (by decide) O31.exa (rm_nextS l Z a0 hw [] nb11 b1 b2 b3 b4 b5 b6 b7 scx szx ncx bd (gx3 1) (gx5 1) (2 : Int32) se31 sa31 ta31 (px + tv) gx1 ni31 ne31 nt31 (pq + tn) rest31 h31 n0 Z31 O31 F35 g_nb11 hta31 (addn hp htn (by omega)) htu31 (by omega) hsa31 hse31 hie31 he6431 hcd31) e31 (g := (mkF m 361 #[(vj q0), sd, (vj q1), sd, (vi q2), (vi q3), (vi q4), (vi nx), (vi px), (vi tv), (vr nb1), (vj bd), sd, (vr nb11), (vi px), (vi rv31), un, un, un, un, un] [(.ref nb11)])) rfl (by rw [hml]; rfl) (argsL := []) (rest := []) (lenOf pd_prI rfl) rfl (W := 0) (by show 2 * 0 + _ ≤ _; exact Nat.le_of_eq rfl) (hb hby at_361) (by decide) (by decide) (by decide) (by decide)
      obtain ⟨rv34, rfl, Nq34, Kq34, sa34, se34, ta34, ni34, ne34, nt34, rest34, hsa34, hse34, hta34, hie34, he6434, htu34, hcd34, hres34, O34⟩ := hQ34
      have N34 := Fr.app N31 Nq34
      have Z34 := Nat.le_trans Z31 Kq34.1
      refine qtr 364 #[(vj q0), sd, (vj q1), sd, (vi q2), (vi q3), (vi q4), (vi nx), (vi px), (vi tv), (vr nb1), (vj bd), sd, (vr nb11), (vi px), (vi rv31), un, un, un, un, un] [(.int rv34)] st34 ?_
      refine qsi 366 #[(vj q0), sd, (vj q1), sd, (vi q2), (vi q3), (vi q4), (vi nx), (vi px), (vi tv), (vr nb1), (vj bd), sd, (vr nb11), (vi px), (vi rv31), (vi rv34), un, un, un, un] X34 hx hby at_364 rfl rfl ?_
      have F36 := (((Fa_bl335_nb1.keep Kq30 (ninS (Nat.ne_of_lt (Nat.lt_of_lt_of_le Fgv.lt (Nat.le_of_eq g11.symm))) (ninS on_b6 nin0))).keep Kq31 (ninS (Nat.ne_of_lt (Nat.lt_of_lt_of_le Fgv.lt (Nat.le_of_eq g11.symm))) nin0)).keep Kq34 (ninS (Nat.ne_of_lt (Nat.lt_of_lt_of_le Fgv.lt (Nat.le_of_eq g11.symm))) nin0))
      exact bl366 T34 _ nx px px rv31 rv34 pq tn h34 Z34 X34 e34 N34 F36 hp hp1 htn (by omega) ⟨rest31, rest34, (by rw [← candL hval htle (by omega)]; exact hres31), hres34⟩
  rcases hpv with rfl | rfl
  · show OEnds p e below s _ _ _ (T12.setTop (mkF m 170 #[(vj q0), sd, (vj q1), sd, (vi q2), (vi q3), (vi q4), (vi nv), (vi 0), (vi tv), (vr nb1), (vj bd), sd, (vr nb11), un, un, un, un, un, un, un] []))
    refine qi 172 X12 hx hby at_170 rfl rfl ?_
    refine qc1 173 1 X12 hx hby at_172 rfl rfl ?_
    refine q_cmy 183 X12 hx hby at_173 rfl (feq (by decide : ¬ ((0 : Int32) = (1 : Int32)))).2 ?_
    refine qa 185 X12 hx hby at_183 rfl rfl ?_
    obtain ⟨v37, T37, L37, h37, X37, e37, hQ37, st37⟩ := own_callV X12 hx hZ (y := mn5) hown (tw25 hw) (tw26 hw) (tw28 hw) (tw27 hw) (tw29 hw) (tw3 hw) (by decide) O12.exa (rm_index0_0 l Z a0 hw [] nb11 b1 b2 b3 b4 b5 b6 b7 (0 : Int64) (0 : Int32) (0 : Int32) (0 : Int32) (0 : Int32) (0 : Int32) (0 : Int32) (0 : Int32) (0 : Int32) (fun _ => (0 : Int64)) (fun _ => (0 : Int64)) (fun _ => (0 : Int32)) (fun _ => (0 : Int32)) (fun _ => (0 : Int32)) h12 n0 Z12 O12 F_1 F_2 F_3 F_4 F_5 g_nb11 g_b3 g_b4 g_b5 hord) e12 (g := (mkF m 185 #[(vj q0), sd, (vj q1), sd, (vi q2), (vi q3), (vi q4), (vi nv), (vi 0), (vi tv), (vr nb1), (vj bd), sd, (vr nb11), un, un, un, un, un, un, un] [(.ref nb11)])) rfl (by rw [hml]; rfl) (argsL := []) (rest := []) (lenOf pd_prI rfl) rfl (W := 0) (by show 2 * 0 + _ ≤ _; exact Nat.le_of_eq rfl) (hb hby at_185) (by decide) (by decide) (by decide) (by decide)
    obtain ⟨rfl, Nq37, Kq37, O37, F37_b3, F37_b4, F37_b5⟩ := hQ37
    have N37 := Fr.app N12 Nq37
    have Z37 := Nat.le_trans Z12 Kq37.1
    refine qtr 188 #[(vj q0), sd, (vj q1), sd, (vi q2), (vi q3), (vi q4), (vi nv), (vi 0), (vi tv), (vr nb1), (vj bd), sd, (vr nb11), un, un, un, un, un, un, un] [(.int 0)] st37 ?_
    refine own_by (fun _ k => XS.pop X37.here hx rfl (hb hby at_188) rfl rfl k) ?_
    show OEnds p e below s _ _ _ (T37.setTop (mkF m 189 #[(vj q0), sd, (vj q1), sd, (vi q2), (vi q3), (vi q4), (vi nv), (vi 0), (vi tv), (vr nb1), (vj bd), sd, (vr nb11), un, un, un, un, un, un, un] []))
    have F38 := (((Fgv.ext E11).keep Kq12 (ninS (Nat.ne_of_lt (Nat.lt_of_lt_of_le Fgv.lt (Nat.le_of_eq g11.symm))) nin0)).keep Kq37 (ninS (Nat.ne_of_lt (Nat.lt_of_lt_of_le Fgv.lt (Nat.le_of_eq g11.symm))) (ninS on_b3 (ninS on_b4 (ninS on_b5 nin0)))))
    have F39 := (F_1.keep Kq37 (ninS (Ne.symm (o01 hord)) (ninS (o13 hord) (ninS (o14 hord) (ninS (o15 hord) nin0)))))
    have F40 := (F_2.keep Kq37 (ninS (Ne.symm (o02 hord)) (ninS (o23 hord) (ninS (o24 hord) (ninS (o25 hord) nin0)))))
    have F41 := (F_6.keep Kq37 (ninS (Ne.symm (o06 hord)) (ninS (Ne.symm (o36 hord)) (ninS (Ne.symm (o46 hord)) (ninS (Ne.symm (o56 hord)) nin0)))))
    have F42 := (F_7.keep Kq37 (ninS (Ne.symm (o07 hord)) (ninS (Ne.symm (o37 hord)) (ninS (Ne.symm (o47 hord)) (ninS (Ne.symm (o57 hord)) nin0)))))
    rcases hn with rfl | hn
    · show OEnds p e below s _ _ _ (T37.setTop (mkF m 189 #[(vj q0), sd, (vj q1), sd, (vi q2), (vi q3), (vi q4), (vi 0), (vi 0), (vi tv), (vr nb1), (vj bd), sd, (vr nb11), un, un, un, un, un, un, un] []))
      refine qi 191 X37 hx hby at_189 rfl rfl ?_
      refine q_ify 203 X37 hx hby at_191 rfl ((if0 _ _).trans (flt (by decide : ¬ ((0 : Int32) < (0 : Int32)))).2.2.2) ?_
      refine qi 205 X37 hx hby at_203 rfl rfl ?_
      refine qc1 206 1 X37 hx hby at_205 rfl rfl ?_
      refine q_cmy 218 X37 hx hby at_206 rfl (flt (by decide : ¬ ((1 : Int32) < (0 : Int32)))).2.2.2 ?_
      refine qi 220 X37 hx hby at_218 rfl rfl ?_
      refine qc1 221 2 X37 hx hby at_220 rfl rfl ?_
      refine q_cmy 233 X37 hx hby at_221 rfl (flt (by decide : ¬ ((2 : Int32) < (0 : Int32)))).2.2.2 ?_
      refine qi 235 X37 hx hby at_233 rfl rfl ?_
      refine qc1 236 3 X37 hx hby at_235 rfl rfl ?_
      refine q_cmy 248 X37 hx hby at_236 rfl (flt (by decide : ¬ ((3 : Int32) < (0 : Int32)))).2.2.2 ?_
      refine qi 250 X37 hx hby at_248 rfl rfl ?_
      refine qc1 251 4 X37 hx hby at_250 rfl rfl ?_
      refine q_cmy 263 X37 hx hby at_251 rfl (flt (by decide : ¬ ((4 : Int32) < (0 : Int32)))).2.2.2 ?_
      refine qi 265 X37 hx hby at_263 rfl rfl ?_
      refine qc1 266 5 X37 hx hby at_265 rfl rfl ?_
      refine q_cmy 278 X37 hx hby at_266 rfl (flt (by decide : ¬ ((5 : Int32) < (0 : Int32)))).2.2.2 ?_
      refine qi 280 X37 hx hby at_278 rfl rfl ?_
      refine qc2 282 6 X37 hx hby at_280 rfl rfl ?_
      refine q_cmy 295 X37 hx hby at_282 rfl (flt (by decide : ¬ ((6 : Int32) < (0 : Int32)))).2.2.2 ?_
      refine qi 297 X37 hx hby at_295 rfl rfl ?_
      refine qc2 299 7 X37 hx hby at_297 rfl rfl ?_
      refine q_cmy 312 X37 hx hby at_299 rfl (flt (by decide : ¬ ((7 : Int32) < (0 : Int32)))).2.2.2 ?_
      refine qi 314 X37 hx hby at_312 rfl rfl ?_
      refine qc2 316 8 X37 hx hby at_314 rfl rfl ?_
      refine q_cmy 329 X37 hx hby at_316 rfl (flt (by decide : ¬ ((8 : Int32) < (0 : Int32)))).2.2.2 ?_
      refine qa 331 X37 hx hby at_329 rfl rfl ?_
      obtain ⟨v43, T43, L43, h43, X43, e43, hQ43, st43⟩ := own_callV X37 hx hZ (y := mn5) hown (tw25 hw) (tw26 hw) (tw28 hw) (tw27 hw) (tw29 hw) (tw3 hw) (by decide) O37.exa (rm_index2_0_0 l Z a0 hw [] nb11 b1 b2 b3 b4 b5 b6 b7 (0 : Int32) (0 : Int64) (0 : Int32) (0 : Int32) (0 : Int32) (0 : Int32) (0 : Int32) (0 : Int32) (0 : Int32) (0 : Int32) (fun _ => (0 : Int64)) (fun _ => (0 : Int64)) (updI (fun _ => (0 : Int32)) 0 (0 : Int32)) (updI (fun _ => (0 : Int32)) 0 (0 : Int32)) (updI (fun _ => (0 : Int32)) 0 (0 : Int32)) 0 h37 n0 Z37 O37 F39 F40 F37_b3 F37_b4 F37_b5 g_nb11 g_b2 g_b3 g_b4 g_b5 hord rfl (by decide) (by decide) (by decide)) e37 (g := (mkF m 331 #[(vj q0), sd, (vj q1), sd, (vi q2), (vi q3), (vi q4), (vi 0), (vi 0), (vi tv), (vr nb1), (vj bd), sd, (vr nb11), un, un, un, un, un, un, un] [(.ref nb11)])) rfl (by rw [hml]; rfl) (argsL := []) (rest := []) (lenOf pd_prI rfl) rfl (W := 0) (by show 2 * 0 + _ ≤ _; exact Nat.le_of_eq rfl) (hb hby at_331) (by decide) (by decide) (by decide) (by decide)
      obtain ⟨rfl, Nq43, Kq43, c43, hcx43, O43, F2_43, F3_43, F4_43, F5_43⟩ := hQ43
      have N43 := Fr.app N37 Nq43
      have Z43 := Nat.le_trans Z37 Kq43.1
      refine qtr 334 #[(vj q0), sd, (vj q1), sd, (vi q2), (vi q3), (vi q4), (vi 0), (vi 0), (vi tv), (vr nb1), (vj bd), sd, (vr nb11), un, un, un, un, un, un, un] [(.int 1)] st43 ?_
      refine own_by (fun _ k => XS.pop X43.here hx rfl (hb hby at_334) rfl rfl k) ?_
      show OEnds p e below s _ _ _ (T43.setTop (mkF m 335 #[(vj q0), sd, (vj q1), sd, (vi q2), (vi q3), (vi q4), (vi 0), (vi 0), (vi tv), (vr nb1), (vj bd), sd, (vr nb11), un, un, un, un, un, un, un] []))
      have F44 := (F38.keep Kq43 (ninS (Nat.ne_of_lt (Nat.lt_of_lt_of_le Fgv.lt (Nat.le_of_eq g11.symm))) (ninS on_b2 (ninS on_b3 (ninS on_b4 (ninS on_b5 nin0))))))
      have F45 := (F39.keep Kq43 (ninS (Ne.symm (o01 hord)) (ninS (o12 hord) (ninS (o13 hord) (ninS (o14 hord) (ninS (o15 hord) nin0))))))
      have F46 := (F41.keep Kq43 (ninS (Ne.symm (o06 hord)) (ninS (Ne.symm (o26 hord)) (ninS (Ne.symm (o36 hord)) (ninS (Ne.symm (o46 hord)) (ninS (Ne.symm (o56 hord)) nin0))))))
      have F47 := (F42.keep Kq43 (ninS (Ne.symm (o07 hord)) (ninS (Ne.symm (o27 hord)) (ninS (Ne.symm (o37 hord)) (ninS (Ne.symm (o47 hord)) (ninS (Ne.symm (o57 hord)) nin0))))))
      exact bl335 T43 _ (0 : Int32) (0 : Int32) (2 : Int32) (0 : Int32) (0 : Int32) (0 : Int64) (0 : Int32) (0 : Int32) (0 : Int32) (0 : Int32) (0 : Int32) (0 : Int32) (0 : Int32) (0 : Int32) (fun _ => (0 : Int64)) c43 (updI (updI (fun _ => (0 : Int32)) 0 (0 : Int32)) 1 (0 : Int32)) (updI (updI (fun _ => (0 : Int32)) 0 (0 : Int32)) 1 (0 : Int32)) (updI (updI (fun _ => (0 : Int32)) 0 (0 : Int32)) 1 (0 : Int32)) (fun _ => (0 : Int32)) (fun _ => (0 : Int32)) 0 0 (tv.toInt.toNat) h43 Z43 X43 e43 N43 O43 F44 F45 F2_43 F3_43 F4_43 F5_43 F46 F47 (by decide) (by decide) (by decide) (by decide) (tv_nn htv) (tv_le htv (by decide)) (by rfl) (by decide) (by decide) (fun j hj => absurd hj (Nat.not_lt_zero j)) (fun h => absurd h (by decide)) (fun h => absurd h (by decide))
    have hgt : (0 : Int32) < nv := by rcases hn with rfl | rfl | rfl | rfl | rfl | rfl | rfl | rfl | rfl <;> decide
    show OEnds p e below s _ _ _ (T37.setTop (mkF m 189 #[(vj q0), sd, (vj q1), sd, (vi q2), (vi q3), (vi q4), (vi nv), (vi 0), (vi tv), (vr nb1), (vj bd), sd, (vr nb11), un, un, un, un, un, un, un] []))
    refine qi 191 X37 hx hby at_189 rfl rfl ?_
    refine q_ifn 194 X37 hx hby at_191 rfl ((if0 _ _).trans (tlt hgt).2.2.2) ?_
    refine qa 196 X37 hx hby at_194 rfl rfl ?_
    refine qa 198 X37 hx hby at_196 rfl rfl ?_
    refine qc1 199 0 X37 hx hby at_198 rfl rfl ?_
    refine qJ 200 X37 hx hZ e37 F38 0 (by decide) (by decide) (v := (.long (gv 0))) rfl hby at_199 rfl ?_
    obtain ⟨v48, T48, L48, h48, X48, e48, hQ48, st48⟩ := own_callV X37 hx hZ (y := mn2) hown (tw76 hw) (tw77 hw) (tw79 hw) (tw78 hw) (tw80 hw) (tw3 hw) (by decide) O37.exa (rm_addk l Z a0 hw [] nb11 (gv 0) b1 b2 b3 b4 b5 b6 b7 (1 : Int32) (0 : Int32) (0 : Int32) (0 : Int64) (0 : Int32) (0 : Int32) (0 : Int32) (0 : Int32) (0 : Int32) (0 : Int32) (0 : Int32) (0 : Int32) (fun _ => (0 : Int64)) h37 n0 Z37 O37 F39 g_nb11 g_b1 hord (by decide) (by decide)) e37 (g := (mkF m 200 #[(vj q0), sd, (vj q1), sd, (vi q2), (vi q3), (vi q4), (vi nv), (vi 0), (vi tv), (vr nb1), (vj bd), sd, (vr nb11), un, un, un, un, un, un, un] [(.long (gv 0)), (.ref nb11)])) rfl (by rw [hml]; rfl) (argsL := [(.long (gv 0))]) (rest := []) (lenOf pd_pJrV rfl) rfl (W := 0) (by show 2 * 0 + _ ≤ _; exact Nat.le_of_eq rfl) (hb hby at_200) (by decide) (by decide) (by decide) (by decide)
    obtain ⟨rfl, Nq48, Kq48, O48, F48_b1⟩ := hQ48
    have N48 := Fr.app N37 Nq48
    have Z48 := Nat.le_trans Z37 Kq48.1
    rw [show ((0 : Int32) + (1 : Int32)) = (1 : Int32) by decide] at O48
    rw [show ((0 : Int32).toInt.toNat) = 0 by decide] at F48_b1
    refine qtr 203 #[(vj q0), sd, (vj q1), sd, (vi q2), (vi q3), (vi q4), (vi nv), (vi 0), (vi tv), (vr nb1), (vj bd), sd, (vr nb11), un, un, un, un, un, un, un] [] st48 ?_
    have F49 := (F38.keep Kq48 (ninS (Nat.ne_of_lt (Nat.lt_of_lt_of_le Fgv.lt (Nat.le_of_eq g11.symm))) (ninS on_b1 nin0)))
    have F50 := (F40.keep Kq48 (ninS (Ne.symm (o02 hord)) (ninS (Ne.symm (o12 hord)) nin0)))
    have F51 := (F37_b3.keep Kq48 (ninS (Ne.symm (o03 hord)) (ninS (Ne.symm (o13 hord)) nin0)))
    have F52 := (F37_b4.keep Kq48 (ninS (Ne.symm (o04 hord)) (ninS (Ne.symm (o14 hord)) nin0)))
    have F53 := (F37_b5.keep Kq48 (ninS (Ne.symm (o05 hord)) (ninS (Ne.symm (o15 hord)) nin0)))
    have F54 := (F41.keep Kq48 (ninS (Ne.symm (o06 hord)) (ninS (Ne.symm (o16 hord)) nin0)))
    have F55 := (F42.keep Kq48 (ninS (Ne.symm (o07 hord)) (ninS (Ne.symm (o17 hord)) nin0)))
    rcases hn with rfl | hn
    · show OEnds p e below s _ _ _ (T48.setTop (mkF m 203 #[(vj q0), sd, (vj q1), sd, (vi q2), (vi q3), (vi q4), (vi 1), (vi 0), (vi tv), (vr nb1), (vj bd), sd, (vr nb11), un, un, un, un, un, un, un] []))
      refine qi 205 X48 hx hby at_203 rfl rfl ?_
      refine qc1 206 1 X48 hx hby at_205 rfl rfl ?_
      refine q_cmy 218 X48 hx hby at_206 rfl (flt (by decide : ¬ ((1 : Int32) < (1 : Int32)))).2.2.2 ?_
      refine qi 220 X48 hx hby at_218 rfl rfl ?_
      refine qc1 221 2 X48 hx hby at_220 rfl rfl ?_
      refine q_cmy 233 X48 hx hby at_221 rfl (flt (by decide : ¬ ((2 : Int32) < (1 : Int32)))).2.2.2 ?_
      refine qi 235 X48 hx hby at_233 rfl rfl ?_
      refine qc1 236 3 X48 hx hby at_235 rfl rfl ?_
      refine q_cmy 248 X48 hx hby at_236 rfl (flt (by decide : ¬ ((3 : Int32) < (1 : Int32)))).2.2.2 ?_
      refine qi 250 X48 hx hby at_248 rfl rfl ?_
      refine qc1 251 4 X48 hx hby at_250 rfl rfl ?_
      refine q_cmy 263 X48 hx hby at_251 rfl (flt (by decide : ¬ ((4 : Int32) < (1 : Int32)))).2.2.2 ?_
      refine qi 265 X48 hx hby at_263 rfl rfl ?_
      refine qc1 266 5 X48 hx hby at_265 rfl rfl ?_
      refine q_cmy 278 X48 hx hby at_266 rfl (flt (by decide : ¬ ((5 : Int32) < (1 : Int32)))).2.2.2 ?_
      refine qi 280 X48 hx hby at_278 rfl rfl ?_
      refine qc2 282 6 X48 hx hby at_280 rfl rfl ?_
      refine q_cmy 295 X48 hx hby at_282 rfl (flt (by decide : ¬ ((6 : Int32) < (1 : Int32)))).2.2.2 ?_
      refine qi 297 X48 hx hby at_295 rfl rfl ?_
      refine qc2 299 7 X48 hx hby at_297 rfl rfl ?_
      refine q_cmy 312 X48 hx hby at_299 rfl (flt (by decide : ¬ ((7 : Int32) < (1 : Int32)))).2.2.2 ?_
      refine qi 314 X48 hx hby at_312 rfl rfl ?_
      refine qc2 316 8 X48 hx hby at_314 rfl rfl ?_
      refine q_cmy 329 X48 hx hby at_316 rfl (flt (by decide : ¬ ((8 : Int32) < (1 : Int32)))).2.2.2 ?_
      refine qa 331 X48 hx hby at_329 rfl rfl ?_
      obtain ⟨v56, T56, L56, h56, X56, e56, hQ56, st56⟩ := own_callV X48 hx hZ (y := mn5) hown (tw25 hw) (tw26 hw) (tw28 hw) (tw27 hw) (tw29 hw) (tw3 hw) (by decide) O48.exa (rm_index2_0_1 l Z a0 hw [] nb11 b1 b2 b3 b4 b5 b6 b7 (1 : Int32) (0 : Int64) (0 : Int32) (0 : Int32) (0 : Int32) (0 : Int32) (0 : Int32) (0 : Int32) (0 : Int32) (0 : Int32) (updL (fun _ => (0 : Int64)) 0 (gv 0)) (fun _ => (0 : Int64)) (updI (fun _ => (0 : Int32)) 0 (0 : Int32)) (updI (fun _ => (0 : Int32)) 0 (0 : Int32)) (updI (fun _ => (0 : Int32)) 0 (0 : Int32)) 1 h48 n0 Z48 O48 F48_b1 F50 F51 F52 F53 g_nb11 g_b2 g_b3 g_b4 g_b5 hord rfl (by decide) (by decide) (by decide)) e48 (g := (mkF m 331 #[(vj q0), sd, (vj q1), sd, (vi q2), (vi q3), (vi q4), (vi 1), (vi 0), (vi tv), (vr nb1), (vj bd), sd, (vr nb11), un, un, un, un, un, un, un] [(.ref nb11)])) rfl (by rw [hml]; rfl) (argsL := []) (rest := []) (lenOf pd_prI rfl) rfl (W := 0) (by show 2 * 0 + _ ≤ _; exact Nat.le_of_eq rfl) (hb hby at_331) (by decide) (by decide) (by decide) (by decide)
      obtain ⟨rfl, Nq56, Kq56, c56, hcx56, O56, F2_56, F3_56, F4_56, F5_56⟩ := hQ56
      have N56 := Fr.app N48 Nq56
      have Z56 := Nat.le_trans Z48 Kq56.1
      refine qtr 334 #[(vj q0), sd, (vj q1), sd, (vi q2), (vi q3), (vi q4), (vi 1), (vi 0), (vi tv), (vr nb1), (vj bd), sd, (vr nb11), un, un, un, un, un, un, un] [(.int 1)] st56 ?_
      refine own_by (fun _ k => XS.pop X56.here hx rfl (hb hby at_334) rfl rfl k) ?_
      show OEnds p e below s _ _ _ (T56.setTop (mkF m 335 #[(vj q0), sd, (vj q1), sd, (vi q2), (vi q3), (vi q4), (vi 1), (vi 0), (vi tv), (vr nb1), (vj bd), sd, (vr nb11), un, un, un, un, un, un, un] []))
      have F57 := (F49.keep Kq56 (ninS (Nat.ne_of_lt (Nat.lt_of_lt_of_le Fgv.lt (Nat.le_of_eq g11.symm))) (ninS on_b2 (ninS on_b3 (ninS on_b4 (ninS on_b5 nin0))))))
      have F58 := (F48_b1.keep Kq56 (ninS (Ne.symm (o01 hord)) (ninS (o12 hord) (ninS (o13 hord) (ninS (o14 hord) (ninS (o15 hord) nin0))))))
      have F59 := (F54.keep Kq56 (ninS (Ne.symm (o06 hord)) (ninS (Ne.symm (o26 hord)) (ninS (Ne.symm (o36 hord)) (ninS (Ne.symm (o46 hord)) (ninS (Ne.symm (o56 hord)) nin0))))))
      have F60 := (F55.keep Kq56 (ninS (Ne.symm (o07 hord)) (ninS (Ne.symm (o27 hord)) (ninS (Ne.symm (o37 hord)) (ninS (Ne.symm (o47 hord)) (ninS (Ne.symm (o57 hord)) nin0))))))
      exact bl335 T56 _ (1 : Int32) (0 : Int32) (2 : Int32) (1 : Int32) (2 : Int32) (0 : Int64) (0 : Int32) (0 : Int32) (0 : Int32) (0 : Int32) (0 : Int32) (0 : Int32) (0 : Int32) (0 : Int32) (updL (fun _ => (0 : Int64)) 0 (gv 0)) c56 (updI (updI (fun _ => (0 : Int32)) 0 (0 : Int32)) 1 (0 : Int32)) (updI (updI (fun _ => (0 : Int32)) 0 (0 : Int32)) 1 (1 : Int32)) (updI (updI (fun _ => (0 : Int32)) 0 (0 : Int32)) 1 (0 : Int32)) (fun _ => (0 : Int32)) (fun _ => (0 : Int32)) 0 1 (tv.toInt.toNat) h56 Z56 X56 e56 N56 O56 F57 F58 F2_56 F3_56 F4_56 F5_56 F59 F60 (by decide) (by decide) (by decide) (by decide) (tv_nn htv) (tv_le htv (by decide)) (by rfl) (by decide) (by decide) (fun j hj => by have hj' : j = 0 := (by omega); rcases hj' with rfl <;> rfl) (fun h => absurd h (by decide)) (fun h => absurd h (by decide))
    have hgt : (1 : Int32) < nv := by rcases hn with rfl | rfl | rfl | rfl | rfl | rfl | rfl | rfl <;> decide
    show OEnds p e below s _ _ _ (T48.setTop (mkF m 203 #[(vj q0), sd, (vj q1), sd, (vi q2), (vi q3), (vi q4), (vi nv), (vi 0), (vi tv), (vr nb1), (vj bd), sd, (vr nb11), un, un, un, un, un, un, un] []))
    refine qi 205 X48 hx hby at_203 rfl rfl ?_
    refine qc1 206 1 X48 hx hby at_205 rfl rfl ?_
    refine q_cmn 209 X48 hx hby at_206 rfl (tlt hgt).2.2.2 ?_
    refine qa 211 X48 hx hby at_209 rfl rfl ?_
    refine qa 213 X48 hx hby at_211 rfl rfl ?_
    refine qc1 214 1 X48 hx hby at_213 rfl rfl ?_
    refine qJ 215 X48 hx hZ e48 F49 1 (by decide) (by decide) (v := (.long (gv 1))) rfl hby at_214 rfl ?_
    obtain ⟨v61, T61, L61, h61, X61, e61, hQ61, st61⟩ := own_callV X48 hx hZ (y := mn2) hown (tw76 hw) (tw77 hw) (tw79 hw) (tw78 hw) (tw80 hw) (tw3 hw) (by decide) O48.exa (rm_addk l Z a0 hw [] nb11 (gv 1) b1 b2 b3 b4 b5 b6 b7 (1 : Int32) (1 : Int32) (0 : Int32) (0 : Int64) (0 : Int32) (0 : Int32) (0 : Int32) (0 : Int32) (0 : Int32) (0 : Int32) (0 : Int32) (0 : Int32) (updL (fun _ => (0 : Int64)) 0 (gv 0)) h48 n0 Z48 O48 F48_b1 g_nb11 g_b1 hord (by decide) (by decide)) e48 (g := (mkF m 215 #[(vj q0), sd, (vj q1), sd, (vi q2), (vi q3), (vi q4), (vi nv), (vi 0), (vi tv), (vr nb1), (vj bd), sd, (vr nb11), un, un, un, un, un, un, un] [(.long (gv 1)), (.ref nb11)])) rfl (by rw [hml]; rfl) (argsL := [(.long (gv 1))]) (rest := []) (lenOf pd_pJrV rfl) rfl (W := 0) (by show 2 * 0 + _ ≤ _; exact Nat.le_of_eq rfl) (hb hby at_215) (by decide) (by decide) (by decide) (by decide)
    obtain ⟨rfl, Nq61, Kq61, O61, F61_b1⟩ := hQ61
    have N61 := Fr.app N48 Nq61
    have Z61 := Nat.le_trans Z48 Kq61.1
    rw [show ((1 : Int32) + (1 : Int32)) = (2 : Int32) by decide] at O61
    rw [show ((1 : Int32).toInt.toNat) = 1 by decide] at F61_b1
    refine qtr 218 #[(vj q0), sd, (vj q1), sd, (vi q2), (vi q3), (vi q4), (vi nv), (vi 0), (vi tv), (vr nb1), (vj bd), sd, (vr nb11), un, un, un, un, un, un, un] [] st61 ?_
    have F62 := (F49.keep Kq61 (ninS (Nat.ne_of_lt (Nat.lt_of_lt_of_le Fgv.lt (Nat.le_of_eq g11.symm))) (ninS on_b1 nin0)))
    have F63 := (F50.keep Kq61 (ninS (Ne.symm (o02 hord)) (ninS (Ne.symm (o12 hord)) nin0)))
    have F64 := (F51.keep Kq61 (ninS (Ne.symm (o03 hord)) (ninS (Ne.symm (o13 hord)) nin0)))
    have F65 := (F52.keep Kq61 (ninS (Ne.symm (o04 hord)) (ninS (Ne.symm (o14 hord)) nin0)))
    have F66 := (F53.keep Kq61 (ninS (Ne.symm (o05 hord)) (ninS (Ne.symm (o15 hord)) nin0)))
    have F67 := (F54.keep Kq61 (ninS (Ne.symm (o06 hord)) (ninS (Ne.symm (o16 hord)) nin0)))
    have F68 := (F55.keep Kq61 (ninS (Ne.symm (o07 hord)) (ninS (Ne.symm (o17 hord)) nin0)))
    rcases hn with rfl | hn
    · show OEnds p e below s _ _ _ (T61.setTop (mkF m 218 #[(vj q0), sd, (vj q1), sd, (vi q2), (vi q3), (vi q4), (vi 2), (vi 0), (vi tv), (vr nb1), (vj bd), sd, (vr nb11), un, un, un, un, un, un, un] []))
      refine qi 220 X61 hx hby at_218 rfl rfl ?_
      refine qc1 221 2 X61 hx hby at_220 rfl rfl ?_
      refine q_cmy 233 X61 hx hby at_221 rfl (flt (by decide : ¬ ((2 : Int32) < (2 : Int32)))).2.2.2 ?_
      refine qi 235 X61 hx hby at_233 rfl rfl ?_
      refine qc1 236 3 X61 hx hby at_235 rfl rfl ?_
      refine q_cmy 248 X61 hx hby at_236 rfl (flt (by decide : ¬ ((3 : Int32) < (2 : Int32)))).2.2.2 ?_
      refine qi 250 X61 hx hby at_248 rfl rfl ?_
      refine qc1 251 4 X61 hx hby at_250 rfl rfl ?_
      refine q_cmy 263 X61 hx hby at_251 rfl (flt (by decide : ¬ ((4 : Int32) < (2 : Int32)))).2.2.2 ?_
      refine qi 265 X61 hx hby at_263 rfl rfl ?_
      refine qc1 266 5 X61 hx hby at_265 rfl rfl ?_
      refine q_cmy 278 X61 hx hby at_266 rfl (flt (by decide : ¬ ((5 : Int32) < (2 : Int32)))).2.2.2 ?_
      refine qi 280 X61 hx hby at_278 rfl rfl ?_
      refine qc2 282 6 X61 hx hby at_280 rfl rfl ?_
      refine q_cmy 295 X61 hx hby at_282 rfl (flt (by decide : ¬ ((6 : Int32) < (2 : Int32)))).2.2.2 ?_
      refine qi 297 X61 hx hby at_295 rfl rfl ?_
      refine qc2 299 7 X61 hx hby at_297 rfl rfl ?_
      refine q_cmy 312 X61 hx hby at_299 rfl (flt (by decide : ¬ ((7 : Int32) < (2 : Int32)))).2.2.2 ?_
      refine qi 314 X61 hx hby at_312 rfl rfl ?_
      refine qc2 316 8 X61 hx hby at_314 rfl rfl ?_
      refine q_cmy 329 X61 hx hby at_316 rfl (flt (by decide : ¬ ((8 : Int32) < (2 : Int32)))).2.2.2 ?_
      refine qa 331 X61 hx hby at_329 rfl rfl ?_
      obtain ⟨v69, T69, L69, h69, X69, e69, hQ69, st69⟩ := own_callV X61 hx hZ (y := mn5) hown (tw25 hw) (tw26 hw) (tw28 hw) (tw27 hw) (tw29 hw) (tw3 hw) (by decide) O61.exa (rm_index2_0_1 l Z a0 hw [] nb11 b1 b2 b3 b4 b5 b6 b7 (2 : Int32) (0 : Int64) (0 : Int32) (0 : Int32) (0 : Int32) (0 : Int32) (0 : Int32) (0 : Int32) (0 : Int32) (0 : Int32) (updL (updL (fun _ => (0 : Int64)) 0 (gv 0)) 1 (gv 1)) (fun _ => (0 : Int64)) (updI (fun _ => (0 : Int32)) 0 (0 : Int32)) (updI (fun _ => (0 : Int32)) 0 (0 : Int32)) (updI (fun _ => (0 : Int32)) 0 (0 : Int32)) 2 h61 n0 Z61 O61 F61_b1 F63 F64 F65 F66 g_nb11 g_b2 g_b3 g_b4 g_b5 hord rfl (by decide) (by decide) (by decide)) e61 (g := (mkF m 331 #[(vj q0), sd, (vj q1), sd, (vi q2), (vi q3), (vi q4), (vi 2), (vi 0), (vi tv), (vr nb1), (vj bd), sd, (vr nb11), un, un, un, un, un, un, un] [(.ref nb11)])) rfl (by rw [hml]; rfl) (argsL := []) (rest := []) (lenOf pd_prI rfl) rfl (W := 0) (by show 2 * 0 + _ ≤ _; exact Nat.le_of_eq rfl) (hb hby at_331) (by decide) (by decide) (by decide) (by decide)
      obtain ⟨rfl, Nq69, Kq69, c69, hcx69, O69, F2_69, F3_69, F4_69, F5_69⟩ := hQ69
      have N69 := Fr.app N61 Nq69
      have Z69 := Nat.le_trans Z61 Kq69.1
      refine qtr 334 #[(vj q0), sd, (vj q1), sd, (vi q2), (vi q3), (vi q4), (vi 2), (vi 0), (vi tv), (vr nb1), (vj bd), sd, (vr nb11), un, un, un, un, un, un, un] [(.int 1)] st69 ?_
      refine own_by (fun _ k => XS.pop X69.here hx rfl (hb hby at_334) rfl rfl k) ?_
      show OEnds p e below s _ _ _ (T69.setTop (mkF m 335 #[(vj q0), sd, (vj q1), sd, (vi q2), (vi q3), (vi q4), (vi 2), (vi 0), (vi tv), (vr nb1), (vj bd), sd, (vr nb11), un, un, un, un, un, un, un] []))
      have F70 := (F62.keep Kq69 (ninS (Nat.ne_of_lt (Nat.lt_of_lt_of_le Fgv.lt (Nat.le_of_eq g11.symm))) (ninS on_b2 (ninS on_b3 (ninS on_b4 (ninS on_b5 nin0))))))
      have F71 := (F61_b1.keep Kq69 (ninS (Ne.symm (o01 hord)) (ninS (o12 hord) (ninS (o13 hord) (ninS (o14 hord) (ninS (o15 hord) nin0))))))
      have F72 := (F67.keep Kq69 (ninS (Ne.symm (o06 hord)) (ninS (Ne.symm (o26 hord)) (ninS (Ne.symm (o36 hord)) (ninS (Ne.symm (o46 hord)) (ninS (Ne.symm (o56 hord)) nin0))))))
      have F73 := (F68.keep Kq69 (ninS (Ne.symm (o07 hord)) (ninS (Ne.symm (o27 hord)) (ninS (Ne.symm (o37 hord)) (ninS (Ne.symm (o47 hord)) (ninS (Ne.symm (o57 hord)) nin0))))))
      exact bl335 T69 _ (2 : Int32) (0 : Int32) (2 : Int32) (2 : Int32) (2 : Int32) (0 : Int64) (0 : Int32) (0 : Int32) (0 : Int32) (0 : Int32) (0 : Int32) (0 : Int32) (0 : Int32) (0 : Int32) (updL (updL (fun _ => (0 : Int64)) 0 (gv 0)) 1 (gv 1)) c69 (updI (updI (fun _ => (0 : Int32)) 0 (0 : Int32)) 1 (0 : Int32)) (updI (updI (fun _ => (0 : Int32)) 0 (0 : Int32)) 1 (2 : Int32)) (updI (updI (fun _ => (0 : Int32)) 0 (0 : Int32)) 1 (0 : Int32)) (fun _ => (0 : Int32)) (fun _ => (0 : Int32)) 0 2 (tv.toInt.toNat) h69 Z69 X69 e69 N69 O69 F70 F71 F2_69 F3_69 F4_69 F5_69 F72 F73 (by decide) (by decide) (by decide) (by decide) (tv_nn htv) (tv_le htv (by decide)) (by rfl) (by decide) (by decide) (fun j hj => by have hj' : j = 0 ∨ j = 1 := (by omega); rcases hj' with rfl | rfl <;> rfl) (fun h => absurd h (by decide)) (fun h => absurd h (by decide))
    have hgt : (2 : Int32) < nv := by rcases hn with rfl | rfl | rfl | rfl | rfl | rfl | rfl <;> decide
    show OEnds p e below s _ _ _ (T61.setTop (mkF m 218 #[(vj q0), sd, (vj q1), sd, (vi q2), (vi q3), (vi q4), (vi nv), (vi 0), (vi tv), (vr nb1), (vj bd), sd, (vr nb11), un, un, un, un, un, un, un] []))
    refine qi 220 X61 hx hby at_218 rfl rfl ?_
    refine qc1 221 2 X61 hx hby at_220 rfl rfl ?_
    refine q_cmn 224 X61 hx hby at_221 rfl (tlt hgt).2.2.2 ?_
    refine qa 226 X61 hx hby at_224 rfl rfl ?_
    refine qa 228 X61 hx hby at_226 rfl rfl ?_
    refine qc1 229 2 X61 hx hby at_228 rfl rfl ?_
    refine qJ 230 X61 hx hZ e61 F62 2 (by decide) (by decide) (v := (.long (gv 2))) rfl hby at_229 rfl ?_
    obtain ⟨v74, T74, L74, h74, X74, e74, hQ74, st74⟩ := own_callV X61 hx hZ (y := mn2) hown (tw76 hw) (tw77 hw) (tw79 hw) (tw78 hw) (tw80 hw) (tw3 hw) (by decide) O61.exa (rm_addk l Z a0 hw [] nb11 (gv 2) b1 b2 b3 b4 b5 b6 b7 (1 : Int32) (2 : Int32) (0 : Int32) (0 : Int64) (0 : Int32) (0 : Int32) (0 : Int32) (0 : Int32) (0 : Int32) (0 : Int32) (0 : Int32) (0 : Int32) (updL (updL (fun _ => (0 : Int64)) 0 (gv 0)) 1 (gv 1)) h61 n0 Z61 O61 F61_b1 g_nb11 g_b1 hord (by decide) (by decide)) e61 (g := (mkF m 230 #[(vj q0), sd, (vj q1), sd, (vi q2), (vi q3), (vi q4), (vi nv), (vi 0), (vi tv), (vr nb1), (vj bd), sd, (vr nb11), un, un, un, un, un, un, un] [(.long (gv 2)), (.ref nb11)])) rfl (by rw [hml]; rfl) (argsL := [(.long (gv 2))]) (rest := []) (lenOf pd_pJrV rfl) rfl (W := 0) (by show 2 * 0 + _ ≤ _; exact Nat.le_of_eq rfl) (hb hby at_230) (by decide) (by decide) (by decide) (by decide)
    obtain ⟨rfl, Nq74, Kq74, O74, F74_b1⟩ := hQ74
    have N74 := Fr.app N61 Nq74
    have Z74 := Nat.le_trans Z61 Kq74.1
    rw [show ((2 : Int32) + (1 : Int32)) = (3 : Int32) by decide] at O74
    rw [show ((2 : Int32).toInt.toNat) = 2 by decide] at F74_b1
    obtain ⟨f74_b1, ef74_b1⟩ : ∃ fz_ : Nat → Int64, fz_ = (updL (updL (updL (fun _ => (0 : Int64)) 0 (gv 0)) 1 (gv 1)) 2 (gv 2)) := ⟨_, rfl⟩
    rw [← ef74_b1] at F74_b1
    refine qtr 233 #[(vj q0), sd, (vj q1), sd, (vi q2), (vi q3), (vi q4), (vi nv), (vi 0), (vi tv), (vr nb1), (vj bd), sd, (vr nb11), un, un, un, un, un, un, un] [] st74 ?_
    have F75 := (F62.keep Kq74 (ninS (Nat.ne_of_lt (Nat.lt_of_lt_of_le Fgv.lt (Nat.le_of_eq g11.symm))) (ninS on_b1 nin0)))
    have F76 := (F63.keep Kq74 (ninS (Ne.symm (o02 hord)) (ninS (Ne.symm (o12 hord)) nin0)))
    have F77 := (F64.keep Kq74 (ninS (Ne.symm (o03 hord)) (ninS (Ne.symm (o13 hord)) nin0)))
    have F78 := (F65.keep Kq74 (ninS (Ne.symm (o04 hord)) (ninS (Ne.symm (o14 hord)) nin0)))
    have F79 := (F66.keep Kq74 (ninS (Ne.symm (o05 hord)) (ninS (Ne.symm (o15 hord)) nin0)))
    have F80 := (F67.keep Kq74 (ninS (Ne.symm (o06 hord)) (ninS (Ne.symm (o16 hord)) nin0)))
    have F81 := (F68.keep Kq74 (ninS (Ne.symm (o07 hord)) (ninS (Ne.symm (o17 hord)) nin0)))
    rcases hn with rfl | hn
    · show OEnds p e below s _ _ _ (T74.setTop (mkF m 233 #[(vj q0), sd, (vj q1), sd, (vi q2), (vi q3), (vi q4), (vi 3), (vi 0), (vi tv), (vr nb1), (vj bd), sd, (vr nb11), un, un, un, un, un, un, un] []))
      refine qi 235 X74 hx hby at_233 rfl rfl ?_
      refine qc1 236 3 X74 hx hby at_235 rfl rfl ?_
      refine q_cmy 248 X74 hx hby at_236 rfl (flt (by decide : ¬ ((3 : Int32) < (3 : Int32)))).2.2.2 ?_
      refine qi 250 X74 hx hby at_248 rfl rfl ?_
      refine qc1 251 4 X74 hx hby at_250 rfl rfl ?_
      refine q_cmy 263 X74 hx hby at_251 rfl (flt (by decide : ¬ ((4 : Int32) < (3 : Int32)))).2.2.2 ?_
      refine qi 265 X74 hx hby at_263 rfl rfl ?_
      refine qc1 266 5 X74 hx hby at_265 rfl rfl ?_
      refine q_cmy 278 X74 hx hby at_266 rfl (flt (by decide : ¬ ((5 : Int32) < (3 : Int32)))).2.2.2 ?_
      refine qi 280 X74 hx hby at_278 rfl rfl ?_
      refine qc2 282 6 X74 hx hby at_280 rfl rfl ?_
      refine q_cmy 295 X74 hx hby at_282 rfl (flt (by decide : ¬ ((6 : Int32) < (3 : Int32)))).2.2.2 ?_
      refine qi 297 X74 hx hby at_295 rfl rfl ?_
      refine qc2 299 7 X74 hx hby at_297 rfl rfl ?_
      refine q_cmy 312 X74 hx hby at_299 rfl (flt (by decide : ¬ ((7 : Int32) < (3 : Int32)))).2.2.2 ?_
      refine qi 314 X74 hx hby at_312 rfl rfl ?_
      refine qc2 316 8 X74 hx hby at_314 rfl rfl ?_
      refine q_cmy 329 X74 hx hby at_316 rfl (flt (by decide : ¬ ((8 : Int32) < (3 : Int32)))).2.2.2 ?_
      refine qa 331 X74 hx hby at_329 rfl rfl ?_
      obtain ⟨v82, T82, L82, h82, X82, e82, hQ82, st82⟩ := own_callV X74 hx hZ (y := mn5) hown (tw25 hw) (tw26 hw) (tw28 hw) (tw27 hw) (tw29 hw) (tw3 hw) (by decide) O74.exa (rm_index2_0_1 l Z a0 hw [] nb11 b1 b2 b3 b4 b5 b6 b7 (3 : Int32) (0 : Int64) (0 : Int32) (0 : Int32) (0 : Int32) (0 : Int32) (0 : Int32) (0 : Int32) (0 : Int32) (0 : Int32) f74_b1 (fun _ => (0 : Int64)) (updI (fun _ => (0 : Int32)) 0 (0 : Int32)) (updI (fun _ => (0 : Int32)) 0 (0 : Int32)) (updI (fun _ => (0 : Int32)) 0 (0 : Int32)) 3 h74 n0 Z74 O74 F74_b1 F76 F77 F78 F79 g_nb11 g_b2 g_b3 g_b4 g_b5 hord (by subst ef74_b1; rfl) (by decide) (by decide) (by decide)) e74 (g := (mkF m 331 #[(vj q0), sd, (vj q1), sd, (vi q2), (vi q3), (vi q4), (vi 3), (vi 0), (vi tv), (vr nb1), (vj bd), sd, (vr nb11), un, un, un, un, un, un, un] [(.ref nb11)])) rfl (by rw [hml]; rfl) (argsL := []) (rest := []) (lenOf pd_prI rfl) rfl (W := 0) (by show 2 * 0 + _ ≤ _; exact Nat.le_of_eq rfl) (hb hby at_331) (by decide) (by decide) (by decide) (by decide)
      obtain ⟨rfl, Nq82, Kq82, c82, hcx82, O82, F2_82, F3_82, F4_82, F5_82⟩ := hQ82
      have N82 := Fr.app N74 Nq82
      have Z82 := Nat.le_trans Z74 Kq82.1
      refine qtr 334 #[(vj q0), sd, (vj q1), sd, (vi q2), (vi q3), (vi q4), (vi 3), (vi 0), (vi tv), (vr nb1), (vj bd), sd, (vr nb11), un, un, un, un, un, un, un] [(.int 1)] st82 ?_
      refine own_by (fun _ k => XS.pop X82.here hx rfl (hb hby at_334) rfl rfl k) ?_
      show OEnds p e below s _ _ _ (T82.setTop (mkF m 335 #[(vj q0), sd, (vj q1), sd, (vi q2), (vi q3), (vi q4), (vi 3), (vi 0), (vi tv), (vr nb1), (vj bd), sd, (vr nb11), un, un, un, un, un, un, un] []))
      have F83 := (F75.keep Kq82 (ninS (Nat.ne_of_lt (Nat.lt_of_lt_of_le Fgv.lt (Nat.le_of_eq g11.symm))) (ninS on_b2 (ninS on_b3 (ninS on_b4 (ninS on_b5 nin0))))))
      have F84 := (F74_b1.keep Kq82 (ninS (Ne.symm (o01 hord)) (ninS (o12 hord) (ninS (o13 hord) (ninS (o14 hord) (ninS (o15 hord) nin0))))))
      have F85 := (F80.keep Kq82 (ninS (Ne.symm (o06 hord)) (ninS (Ne.symm (o26 hord)) (ninS (Ne.symm (o36 hord)) (ninS (Ne.symm (o46 hord)) (ninS (Ne.symm (o56 hord)) nin0))))))
      have F86 := (F81.keep Kq82 (ninS (Ne.symm (o07 hord)) (ninS (Ne.symm (o27 hord)) (ninS (Ne.symm (o37 hord)) (ninS (Ne.symm (o47 hord)) (ninS (Ne.symm (o57 hord)) nin0))))))
      exact bl335 T82 _ (3 : Int32) (0 : Int32) (2 : Int32) (3 : Int32) (2 : Int32) (0 : Int64) (0 : Int32) (0 : Int32) (0 : Int32) (0 : Int32) (0 : Int32) (0 : Int32) (0 : Int32) (0 : Int32) f74_b1 c82 (updI (updI (fun _ => (0 : Int32)) 0 (0 : Int32)) 1 (0 : Int32)) (updI (updI (fun _ => (0 : Int32)) 0 (0 : Int32)) 1 (3 : Int32)) (updI (updI (fun _ => (0 : Int32)) 0 (0 : Int32)) 1 (0 : Int32)) (fun _ => (0 : Int32)) (fun _ => (0 : Int32)) 0 3 (tv.toInt.toNat) h82 Z82 X82 e82 N82 O82 F83 F84 F2_82 F3_82 F4_82 F5_82 F85 F86 (by decide) (by decide) (by decide) (by decide) (tv_nn htv) (tv_le htv (by decide)) (by subst ef74_b1; rfl) (by subst ef74_b1; decide) (by subst ef74_b1; decide) (fun j hj => by have hj' : j = 0 ∨ j = 1 ∨ j = 2 := (by omega); subst ef74_b1; rcases hj' with rfl | rfl | rfl <;> rfl) (fun h => absurd h (by decide)) (fun h => absurd h (by decide))
    have hgt : (3 : Int32) < nv := by rcases hn with rfl | rfl | rfl | rfl | rfl | rfl <;> decide
    show OEnds p e below s _ _ _ (T74.setTop (mkF m 233 #[(vj q0), sd, (vj q1), sd, (vi q2), (vi q3), (vi q4), (vi nv), (vi 0), (vi tv), (vr nb1), (vj bd), sd, (vr nb11), un, un, un, un, un, un, un] []))
    refine qi 235 X74 hx hby at_233 rfl rfl ?_
    refine qc1 236 3 X74 hx hby at_235 rfl rfl ?_
    refine q_cmn 239 X74 hx hby at_236 rfl (tlt hgt).2.2.2 ?_
    refine qa 241 X74 hx hby at_239 rfl rfl ?_
    refine qa 243 X74 hx hby at_241 rfl rfl ?_
    refine qc1 244 3 X74 hx hby at_243 rfl rfl ?_
    refine qJ 245 X74 hx hZ e74 F75 3 (by decide) (by decide) (v := (.long (gv 3))) rfl hby at_244 rfl ?_
    obtain ⟨v87, T87, L87, h87, X87, e87, hQ87, st87⟩ := own_callV X74 hx hZ (y := mn2) hown (tw76 hw) (tw77 hw) (tw79 hw) (tw78 hw) (tw80 hw) (tw3 hw) (by decide) O74.exa (rm_addk l Z a0 hw [] nb11 (gv 3) b1 b2 b3 b4 b5 b6 b7 (1 : Int32) (3 : Int32) (0 : Int32) (0 : Int64) (0 : Int32) (0 : Int32) (0 : Int32) (0 : Int32) (0 : Int32) (0 : Int32) (0 : Int32) (0 : Int32) f74_b1 h74 n0 Z74 O74 F74_b1 g_nb11 g_b1 hord (by decide) (by decide)) e74 (g := (mkF m 245 #[(vj q0), sd, (vj q1), sd, (vi q2), (vi q3), (vi q4), (vi nv), (vi 0), (vi tv), (vr nb1), (vj bd), sd, (vr nb11), un, un, un, un, un, un, un] [(.long (gv 3)), (.ref nb11)])) rfl (by rw [hml]; rfl) (argsL := [(.long (gv 3))]) (rest := []) (lenOf pd_pJrV rfl) rfl (W := 0) (by show 2 * 0 + _ ≤ _; exact Nat.le_of_eq rfl) (hb hby at_245) (by decide) (by decide) (by decide) (by decide)
    obtain ⟨rfl, Nq87, Kq87, O87, F87_b1⟩ := hQ87
    have N87 := Fr.app N74 Nq87
    have Z87 := Nat.le_trans Z74 Kq87.1
    rw [show ((3 : Int32) + (1 : Int32)) = (4 : Int32) by decide] at O87
    rw [show ((3 : Int32).toInt.toNat) = 3 by decide] at F87_b1
    refine qtr 248 #[(vj q0), sd, (vj q1), sd, (vi q2), (vi q3), (vi q4), (vi nv), (vi 0), (vi tv), (vr nb1), (vj bd), sd, (vr nb11), un, un, un, un, un, un, un] [] st87 ?_
    have F88 := (F75.keep Kq87 (ninS (Nat.ne_of_lt (Nat.lt_of_lt_of_le Fgv.lt (Nat.le_of_eq g11.symm))) (ninS on_b1 nin0)))
    have F89 := (F76.keep Kq87 (ninS (Ne.symm (o02 hord)) (ninS (Ne.symm (o12 hord)) nin0)))
    have F90 := (F77.keep Kq87 (ninS (Ne.symm (o03 hord)) (ninS (Ne.symm (o13 hord)) nin0)))
    have F91 := (F78.keep Kq87 (ninS (Ne.symm (o04 hord)) (ninS (Ne.symm (o14 hord)) nin0)))
    have F92 := (F79.keep Kq87 (ninS (Ne.symm (o05 hord)) (ninS (Ne.symm (o15 hord)) nin0)))
    have F93 := (F80.keep Kq87 (ninS (Ne.symm (o06 hord)) (ninS (Ne.symm (o16 hord)) nin0)))
    have F94 := (F81.keep Kq87 (ninS (Ne.symm (o07 hord)) (ninS (Ne.symm (o17 hord)) nin0)))
    rcases hn with rfl | hn
    · show OEnds p e below s _ _ _ (T87.setTop (mkF m 248 #[(vj q0), sd, (vj q1), sd, (vi q2), (vi q3), (vi q4), (vi 4), (vi 0), (vi tv), (vr nb1), (vj bd), sd, (vr nb11), un, un, un, un, un, un, un] []))
      refine qi 250 X87 hx hby at_248 rfl rfl ?_
      refine qc1 251 4 X87 hx hby at_250 rfl rfl ?_
      refine q_cmy 263 X87 hx hby at_251 rfl (flt (by decide : ¬ ((4 : Int32) < (4 : Int32)))).2.2.2 ?_
      refine qi 265 X87 hx hby at_263 rfl rfl ?_
      refine qc1 266 5 X87 hx hby at_265 rfl rfl ?_
      refine q_cmy 278 X87 hx hby at_266 rfl (flt (by decide : ¬ ((5 : Int32) < (4 : Int32)))).2.2.2 ?_
      refine qi 280 X87 hx hby at_278 rfl rfl ?_
      refine qc2 282 6 X87 hx hby at_280 rfl rfl ?_
      refine q_cmy 295 X87 hx hby at_282 rfl (flt (by decide : ¬ ((6 : Int32) < (4 : Int32)))).2.2.2 ?_
      refine qi 297 X87 hx hby at_295 rfl rfl ?_
      refine qc2 299 7 X87 hx hby at_297 rfl rfl ?_
      refine q_cmy 312 X87 hx hby at_299 rfl (flt (by decide : ¬ ((7 : Int32) < (4 : Int32)))).2.2.2 ?_
      refine qi 314 X87 hx hby at_312 rfl rfl ?_
      refine qc2 316 8 X87 hx hby at_314 rfl rfl ?_
      refine q_cmy 329 X87 hx hby at_316 rfl (flt (by decide : ¬ ((8 : Int32) < (4 : Int32)))).2.2.2 ?_
      refine qa 331 X87 hx hby at_329 rfl rfl ?_
      obtain ⟨v95, T95, L95, h95, X95, e95, hQ95, st95⟩ := own_callV X87 hx hZ (y := mn5) hown (tw25 hw) (tw26 hw) (tw28 hw) (tw27 hw) (tw29 hw) (tw3 hw) (by decide) O87.exa (rm_index2_0_1 l Z a0 hw [] nb11 b1 b2 b3 b4 b5 b6 b7 (4 : Int32) (0 : Int64) (0 : Int32) (0 : Int32) (0 : Int32) (0 : Int32) (0 : Int32) (0 : Int32) (0 : Int32) (0 : Int32) (updL f74_b1 3 (gv 3)) (fun _ => (0 : Int64)) (updI (fun _ => (0 : Int32)) 0 (0 : Int32)) (updI (fun _ => (0 : Int32)) 0 (0 : Int32)) (updI (fun _ => (0 : Int32)) 0 (0 : Int32)) 4 h87 n0 Z87 O87 F87_b1 F89 F90 F91 F92 g_nb11 g_b2 g_b3 g_b4 g_b5 hord (by subst ef74_b1; rfl) (by decide) (by decide) (by decide)) e87 (g := (mkF m 331 #[(vj q0), sd, (vj q1), sd, (vi q2), (vi q3), (vi q4), (vi 4), (vi 0), (vi tv), (vr nb1), (vj bd), sd, (vr nb11), un, un, un, un, un, un, un] [(.ref nb11)])) rfl (by rw [hml]; rfl) (argsL := []) (rest := []) (lenOf pd_prI rfl) rfl (W := 0) (by show 2 * 0 + _ ≤ _; exact Nat.le_of_eq rfl) (hb hby at_331) (by decide) (by decide) (by decide) (by decide)
      obtain ⟨rfl, Nq95, Kq95, c95, hcx95, O95, F2_95, F3_95, F4_95, F5_95⟩ := hQ95
      have N95 := Fr.app N87 Nq95
      have Z95 := Nat.le_trans Z87 Kq95.1
      refine qtr 334 #[(vj q0), sd, (vj q1), sd, (vi q2), (vi q3), (vi q4), (vi 4), (vi 0), (vi tv), (vr nb1), (vj bd), sd, (vr nb11), un, un, un, un, un, un, un] [(.int 1)] st95 ?_
      refine own_by (fun _ k => XS.pop X95.here hx rfl (hb hby at_334) rfl rfl k) ?_
      show OEnds p e below s _ _ _ (T95.setTop (mkF m 335 #[(vj q0), sd, (vj q1), sd, (vi q2), (vi q3), (vi q4), (vi 4), (vi 0), (vi tv), (vr nb1), (vj bd), sd, (vr nb11), un, un, un, un, un, un, un] []))
      have F96 := (F88.keep Kq95 (ninS (Nat.ne_of_lt (Nat.lt_of_lt_of_le Fgv.lt (Nat.le_of_eq g11.symm))) (ninS on_b2 (ninS on_b3 (ninS on_b4 (ninS on_b5 nin0))))))
      have F97 := (F87_b1.keep Kq95 (ninS (Ne.symm (o01 hord)) (ninS (o12 hord) (ninS (o13 hord) (ninS (o14 hord) (ninS (o15 hord) nin0))))))
      have F98 := (F93.keep Kq95 (ninS (Ne.symm (o06 hord)) (ninS (Ne.symm (o26 hord)) (ninS (Ne.symm (o36 hord)) (ninS (Ne.symm (o46 hord)) (ninS (Ne.symm (o56 hord)) nin0))))))
      have F99 := (F94.keep Kq95 (ninS (Ne.symm (o07 hord)) (ninS (Ne.symm (o27 hord)) (ninS (Ne.symm (o37 hord)) (ninS (Ne.symm (o47 hord)) (ninS (Ne.symm (o57 hord)) nin0))))))
      exact bl335 T95 _ (4 : Int32) (0 : Int32) (2 : Int32) (4 : Int32) (2 : Int32) (0 : Int64) (0 : Int32) (0 : Int32) (0 : Int32) (0 : Int32) (0 : Int32) (0 : Int32) (0 : Int32) (0 : Int32) (updL f74_b1 3 (gv 3)) c95 (updI (updI (fun _ => (0 : Int32)) 0 (0 : Int32)) 1 (0 : Int32)) (updI (updI (fun _ => (0 : Int32)) 0 (0 : Int32)) 1 (4 : Int32)) (updI (updI (fun _ => (0 : Int32)) 0 (0 : Int32)) 1 (0 : Int32)) (fun _ => (0 : Int32)) (fun _ => (0 : Int32)) 0 4 (tv.toInt.toNat) h95 Z95 X95 e95 N95 O95 F96 F97 F2_95 F3_95 F4_95 F5_95 F98 F99 (by decide) (by decide) (by decide) (by decide) (tv_nn htv) (tv_le htv (by decide)) (by subst ef74_b1; rfl) (by subst ef74_b1; decide) (by subst ef74_b1; decide) (fun j hj => by have hj' : j = 0 ∨ j = 1 ∨ j = 2 ∨ j = 3 := (by omega); subst ef74_b1; rcases hj' with rfl | rfl | rfl | rfl <;> rfl) (fun h => absurd h (by decide)) (fun h => absurd h (by decide))
    have hgt : (4 : Int32) < nv := by rcases hn with rfl | rfl | rfl | rfl | rfl <;> decide
    show OEnds p e below s _ _ _ (T87.setTop (mkF m 248 #[(vj q0), sd, (vj q1), sd, (vi q2), (vi q3), (vi q4), (vi nv), (vi 0), (vi tv), (vr nb1), (vj bd), sd, (vr nb11), un, un, un, un, un, un, un] []))
    refine qi 250 X87 hx hby at_248 rfl rfl ?_
    refine qc1 251 4 X87 hx hby at_250 rfl rfl ?_
    refine q_cmn 254 X87 hx hby at_251 rfl (tlt hgt).2.2.2 ?_
    refine qa 256 X87 hx hby at_254 rfl rfl ?_
    refine qa 258 X87 hx hby at_256 rfl rfl ?_
    refine qc1 259 4 X87 hx hby at_258 rfl rfl ?_
    refine qJ 260 X87 hx hZ e87 F88 4 (by decide) (by decide) (v := (.long (gv 4))) rfl hby at_259 rfl ?_
    obtain ⟨v100, T100, L100, h100, X100, e100, hQ100, st100⟩ := own_callV X87 hx hZ (y := mn2) hown (tw76 hw) (tw77 hw) (tw79 hw) (tw78 hw) (tw80 hw) (tw3 hw) (by decide) O87.exa (rm_addk l Z a0 hw [] nb11 (gv 4) b1 b2 b3 b4 b5 b6 b7 (1 : Int32) (4 : Int32) (0 : Int32) (0 : Int64) (0 : Int32) (0 : Int32) (0 : Int32) (0 : Int32) (0 : Int32) (0 : Int32) (0 : Int32) (0 : Int32) (updL f74_b1 3 (gv 3)) h87 n0 Z87 O87 F87_b1 g_nb11 g_b1 hord (by decide) (by decide)) e87 (g := (mkF m 260 #[(vj q0), sd, (vj q1), sd, (vi q2), (vi q3), (vi q4), (vi nv), (vi 0), (vi tv), (vr nb1), (vj bd), sd, (vr nb11), un, un, un, un, un, un, un] [(.long (gv 4)), (.ref nb11)])) rfl (by rw [hml]; rfl) (argsL := [(.long (gv 4))]) (rest := []) (lenOf pd_pJrV rfl) rfl (W := 0) (by show 2 * 0 + _ ≤ _; exact Nat.le_of_eq rfl) (hb hby at_260) (by decide) (by decide) (by decide) (by decide)
    obtain ⟨rfl, Nq100, Kq100, O100, F100_b1⟩ := hQ100
    have N100 := Fr.app N87 Nq100
    have Z100 := Nat.le_trans Z87 Kq100.1
    rw [show ((4 : Int32) + (1 : Int32)) = (5 : Int32) by decide] at O100
    rw [show ((4 : Int32).toInt.toNat) = 4 by decide] at F100_b1
    refine qtr 263 #[(vj q0), sd, (vj q1), sd, (vi q2), (vi q3), (vi q4), (vi nv), (vi 0), (vi tv), (vr nb1), (vj bd), sd, (vr nb11), un, un, un, un, un, un, un] [] st100 ?_
    have F101 := (F88.keep Kq100 (ninS (Nat.ne_of_lt (Nat.lt_of_lt_of_le Fgv.lt (Nat.le_of_eq g11.symm))) (ninS on_b1 nin0)))
    have F102 := (F89.keep Kq100 (ninS (Ne.symm (o02 hord)) (ninS (Ne.symm (o12 hord)) nin0)))
    have F103 := (F90.keep Kq100 (ninS (Ne.symm (o03 hord)) (ninS (Ne.symm (o13 hord)) nin0)))
    have F104 := (F91.keep Kq100 (ninS (Ne.symm (o04 hord)) (ninS (Ne.symm (o14 hord)) nin0)))
    have F105 := (F92.keep Kq100 (ninS (Ne.symm (o05 hord)) (ninS (Ne.symm (o15 hord)) nin0)))
    have F106 := (F93.keep Kq100 (ninS (Ne.symm (o06 hord)) (ninS (Ne.symm (o16 hord)) nin0)))
    have F107 := (F94.keep Kq100 (ninS (Ne.symm (o07 hord)) (ninS (Ne.symm (o17 hord)) nin0)))
    rcases hn with rfl | hn
    · show OEnds p e below s _ _ _ (T100.setTop (mkF m 263 #[(vj q0), sd, (vj q1), sd, (vi q2), (vi q3), (vi q4), (vi 5), (vi 0), (vi tv), (vr nb1), (vj bd), sd, (vr nb11), un, un, un, un, un, un, un] []))
      refine qi 265 X100 hx hby at_263 rfl rfl ?_
      refine qc1 266 5 X100 hx hby at_265 rfl rfl ?_
      refine q_cmy 278 X100 hx hby at_266 rfl (flt (by decide : ¬ ((5 : Int32) < (5 : Int32)))).2.2.2 ?_
      refine qi 280 X100 hx hby at_278 rfl rfl ?_
      refine qc2 282 6 X100 hx hby at_280 rfl rfl ?_
      refine q_cmy 295 X100 hx hby at_282 rfl (flt (by decide : ¬ ((6 : Int32) < (5 : Int32)))).2.2.2 ?_
      refine qi 297 X100 hx hby at_295 rfl rfl ?_
      refine qc2 299 7 X100 hx hby at_297 rfl rfl ?_
      refine q_cmy 312 X100 hx hby at_299 rfl (flt (by decide : ¬ ((7 : Int32) < (5 : Int32)))).2.2.2 ?_
      refine qi 314 X100 hx hby at_312 rfl rfl ?_
      refine qc2 316 8 X100 hx hby at_314 rfl rfl ?_
      refine q_cmy 329 X100 hx hby at_316 rfl (flt (by decide : ¬ ((8 : Int32) < (5 : Int32)))).2.2.2 ?_
      refine qa 331 X100 hx hby at_329 rfl rfl ?_
      obtain ⟨v108, T108, L108, h108, X108, e108, hQ108, st108⟩ := own_callV X100 hx hZ (y := mn5) hown (tw25 hw) (tw26 hw) (tw28 hw) (tw27 hw) (tw29 hw) (tw3 hw) (by decide) O100.exa (rm_index2_0_1 l Z a0 hw [] nb11 b1 b2 b3 b4 b5 b6 b7 (5 : Int32) (0 : Int64) (0 : Int32) (0 : Int32) (0 : Int32) (0 : Int32) (0 : Int32) (0 : Int32) (0 : Int32) (0 : Int32) (updL (updL f74_b1 3 (gv 3)) 4 (gv 4)) (fun _ => (0 : Int64)) (updI (fun _ => (0 : Int32)) 0 (0 : Int32)) (updI (fun _ => (0 : Int32)) 0 (0 : Int32)) (updI (fun _ => (0 : Int32)) 0 (0 : Int32)) 5 h100 n0 Z100 O100 F100_b1 F102 F103 F104 F105 g_nb11 g_b2 g_b3 g_b4 g_b5 hord (by subst ef74_b1; rfl) (by decide) (by decide) (by decide)) e100 (g := (mkF m 331 #[(vj q0), sd, (vj q1), sd, (vi q2), (vi q3), (vi q4), (vi 5), (vi 0), (vi tv), (vr nb1), (vj bd), sd, (vr nb11), un, un, un, un, un, un, un] [(.ref nb11)])) rfl (by rw [hml]; rfl) (argsL := []) (rest := []) (lenOf pd_prI rfl) rfl (W := 0) (by show 2 * 0 + _ ≤ _; exact Nat.le_of_eq rfl) (hb hby at_331) (by decide) (by decide) (by decide) (by decide)
      obtain ⟨rfl, Nq108, Kq108, c108, hcx108, O108, F2_108, F3_108, F4_108, F5_108⟩ := hQ108
      have N108 := Fr.app N100 Nq108
      have Z108 := Nat.le_trans Z100 Kq108.1
      refine qtr 334 #[(vj q0), sd, (vj q1), sd, (vi q2), (vi q3), (vi q4), (vi 5), (vi 0), (vi tv), (vr nb1), (vj bd), sd, (vr nb11), un, un, un, un, un, un, un] [(.int 1)] st108 ?_
      refine own_by (fun _ k => XS.pop X108.here hx rfl (hb hby at_334) rfl rfl k) ?_
      show OEnds p e below s _ _ _ (T108.setTop (mkF m 335 #[(vj q0), sd, (vj q1), sd, (vi q2), (vi q3), (vi q4), (vi 5), (vi 0), (vi tv), (vr nb1), (vj bd), sd, (vr nb11), un, un, un, un, un, un, un] []))
      have F109 := (F101.keep Kq108 (ninS (Nat.ne_of_lt (Nat.lt_of_lt_of_le Fgv.lt (Nat.le_of_eq g11.symm))) (ninS on_b2 (ninS on_b3 (ninS on_b4 (ninS on_b5 nin0))))))
      have F110 := (F100_b1.keep Kq108 (ninS (Ne.symm (o01 hord)) (ninS (o12 hord) (ninS (o13 hord) (ninS (o14 hord) (ninS (o15 hord) nin0))))))
      have F111 := (F106.keep Kq108 (ninS (Ne.symm (o06 hord)) (ninS (Ne.symm (o26 hord)) (ninS (Ne.symm (o36 hord)) (ninS (Ne.symm (o46 hord)) (ninS (Ne.symm (o56 hord)) nin0))))))
      have F112 := (F107.keep Kq108 (ninS (Ne.symm (o07 hord)) (ninS (Ne.symm (o27 hord)) (ninS (Ne.symm (o37 hord)) (ninS (Ne.symm (o47 hord)) (ninS (Ne.symm (o57 hord)) nin0))))))
      exact bl335 T108 _ (5 : Int32) (0 : Int32) (2 : Int32) (5 : Int32) (2 : Int32) (0 : Int64) (0 : Int32) (0 : Int32) (0 : Int32) (0 : Int32) (0 : Int32) (0 : Int32) (0 : Int32) (0 : Int32) (updL (updL f74_b1 3 (gv 3)) 4 (gv 4)) c108 (updI (updI (fun _ => (0 : Int32)) 0 (0 : Int32)) 1 (0 : Int32)) (updI (updI (fun _ => (0 : Int32)) 0 (0 : Int32)) 1 (5 : Int32)) (updI (updI (fun _ => (0 : Int32)) 0 (0 : Int32)) 1 (0 : Int32)) (fun _ => (0 : Int32)) (fun _ => (0 : Int32)) 0 5 (tv.toInt.toNat) h108 Z108 X108 e108 N108 O108 F109 F110 F2_108 F3_108 F4_108 F5_108 F111 F112 (by decide) (by decide) (by decide) (by decide) (tv_nn htv) (tv_le htv (by decide)) (by subst ef74_b1; rfl) (by subst ef74_b1; decide) (by subst ef74_b1; decide) (fun j hj => by have hj' : j = 0 ∨ j = 1 ∨ j = 2 ∨ j = 3 ∨ j = 4 := (by omega); subst ef74_b1; rcases hj' with rfl | rfl | rfl | rfl | rfl <;> rfl) (fun h => absurd h (by decide)) (fun h => absurd h (by decide))
    have hgt : (5 : Int32) < nv := by rcases hn with rfl | rfl | rfl | rfl <;> decide
    show OEnds p e below s _ _ _ (T100.setTop (mkF m 263 #[(vj q0), sd, (vj q1), sd, (vi q2), (vi q3), (vi q4), (vi nv), (vi 0), (vi tv), (vr nb1), (vj bd), sd, (vr nb11), un, un, un, un, un, un, un] []))
    refine qi 265 X100 hx hby at_263 rfl rfl ?_
    refine qc1 266 5 X100 hx hby at_265 rfl rfl ?_
    refine q_cmn 269 X100 hx hby at_266 rfl (tlt hgt).2.2.2 ?_
    refine qa 271 X100 hx hby at_269 rfl rfl ?_
    refine qa 273 X100 hx hby at_271 rfl rfl ?_
    refine qc1 274 5 X100 hx hby at_273 rfl rfl ?_
    refine qJ 275 X100 hx hZ e100 F101 5 (by decide) (by decide) (v := (.long (gv 5))) rfl hby at_274 rfl ?_
    obtain ⟨v113, T113, L113, h113, X113, e113, hQ113, st113⟩ := own_callV X100 hx hZ (y := mn2) hown (tw76 hw) (tw77 hw) (tw79 hw) (tw78 hw) (tw80 hw) (tw3 hw) (by decide) O100.exa (rm_addk l Z a0 hw [] nb11 (gv 5) b1 b2 b3 b4 b5 b6 b7 (1 : Int32) (5 : Int32) (0 : Int32) (0 : Int64) (0 : Int32) (0 : Int32) (0 : Int32) (0 : Int32) (0 : Int32) (0 : Int32) (0 : Int32) (0 : Int32) (updL (updL f74_b1 3 (gv 3)) 4 (gv 4)) h100 n0 Z100 O100 F100_b1 g_nb11 g_b1 hord (by decide) (by decide)) e100 (g := (mkF m 275 #[(vj q0), sd, (vj q1), sd, (vi q2), (vi q3), (vi q4), (vi nv), (vi 0), (vi tv), (vr nb1), (vj bd), sd, (vr nb11), un, un, un, un, un, un, un] [(.long (gv 5)), (.ref nb11)])) rfl (by rw [hml]; rfl) (argsL := [(.long (gv 5))]) (rest := []) (lenOf pd_pJrV rfl) rfl (W := 0) (by show 2 * 0 + _ ≤ _; exact Nat.le_of_eq rfl) (hb hby at_275) (by decide) (by decide) (by decide) (by decide)
    obtain ⟨rfl, Nq113, Kq113, O113, F113_b1⟩ := hQ113
    have N113 := Fr.app N100 Nq113
    have Z113 := Nat.le_trans Z100 Kq113.1
    rw [show ((5 : Int32) + (1 : Int32)) = (6 : Int32) by decide] at O113
    rw [show ((5 : Int32).toInt.toNat) = 5 by decide] at F113_b1
    refine qtr 278 #[(vj q0), sd, (vj q1), sd, (vi q2), (vi q3), (vi q4), (vi nv), (vi 0), (vi tv), (vr nb1), (vj bd), sd, (vr nb11), un, un, un, un, un, un, un] [] st113 ?_
    have F114 := (F101.keep Kq113 (ninS (Nat.ne_of_lt (Nat.lt_of_lt_of_le Fgv.lt (Nat.le_of_eq g11.symm))) (ninS on_b1 nin0)))
    have F115 := (F102.keep Kq113 (ninS (Ne.symm (o02 hord)) (ninS (Ne.symm (o12 hord)) nin0)))
    have F116 := (F103.keep Kq113 (ninS (Ne.symm (o03 hord)) (ninS (Ne.symm (o13 hord)) nin0)))
    have F117 := (F104.keep Kq113 (ninS (Ne.symm (o04 hord)) (ninS (Ne.symm (o14 hord)) nin0)))
    have F118 := (F105.keep Kq113 (ninS (Ne.symm (o05 hord)) (ninS (Ne.symm (o15 hord)) nin0)))
    have F119 := (F106.keep Kq113 (ninS (Ne.symm (o06 hord)) (ninS (Ne.symm (o16 hord)) nin0)))
    have F120 := (F107.keep Kq113 (ninS (Ne.symm (o07 hord)) (ninS (Ne.symm (o17 hord)) nin0)))
    rcases hn with rfl | hn
    · show OEnds p e below s _ _ _ (T113.setTop (mkF m 278 #[(vj q0), sd, (vj q1), sd, (vi q2), (vi q3), (vi q4), (vi 6), (vi 0), (vi tv), (vr nb1), (vj bd), sd, (vr nb11), un, un, un, un, un, un, un] []))
      refine qi 280 X113 hx hby at_278 rfl rfl ?_
      refine qc2 282 6 X113 hx hby at_280 rfl rfl ?_
      refine q_cmy 295 X113 hx hby at_282 rfl (flt (by decide : ¬ ((6 : Int32) < (6 : Int32)))).2.2.2 ?_
      refine qi 297 X113 hx hby at_295 rfl rfl ?_
      refine qc2 299 7 X113 hx hby at_297 rfl rfl ?_
      refine q_cmy 312 X113 hx hby at_299 rfl (flt (by decide : ¬ ((7 : Int32) < (6 : Int32)))).2.2.2 ?_
      refine qi 314 X113 hx hby at_312 rfl rfl ?_
      refine qc2 316 8 X113 hx hby at_314 rfl rfl ?_
      refine q_cmy 329 X113 hx hby at_316 rfl (flt (by decide : ¬ ((8 : Int32) < (6 : Int32)))).2.2.2 ?_
      refine qa 331 X113 hx hby at_329 rfl rfl ?_
      obtain ⟨v121, T121, L121, h121, X121, e121, hQ121, st121⟩ := own_callV X113 hx hZ (y := mn5) hown (tw25 hw) (tw26 hw) (tw28 hw) (tw27 hw) (tw29 hw) (tw3 hw) (by decide) O113.exa (rm_index2_0_1 l Z a0 hw [] nb11 b1 b2 b3 b4 b5 b6 b7 (6 : Int32) (0 : Int64) (0 : Int32) (0 : Int32) (0 : Int32) (0 : Int32) (0 : Int32) (0 : Int32) (0 : Int32) (0 : Int32) (updL (updL (updL f74_b1 3 (gv 3)) 4 (gv 4)) 5 (gv 5)) (fun _ => (0 : Int64)) (updI (fun _ => (0 : Int32)) 0 (0 : Int32)) (updI (fun _ => (0 : Int32)) 0 (0 : Int32)) (updI (fun _ => (0 : Int32)) 0 (0 : Int32)) 6 h113 n0 Z113 O113 F113_b1 F115 F116 F117 F118 g_nb11 g_b2 g_b3 g_b4 g_b5 hord (by subst ef74_b1; rfl) (by decide) (by decide) (by decide)) e113 (g := (mkF m 331 #[(vj q0), sd, (vj q1), sd, (vi q2), (vi q3), (vi q4), (vi 6), (vi 0), (vi tv), (vr nb1), (vj bd), sd, (vr nb11), un, un, un, un, un, un, un] [(.ref nb11)])) rfl (by rw [hml]; rfl) (argsL := []) (rest := []) (lenOf pd_prI rfl) rfl (W := 0) (by show 2 * 0 + _ ≤ _; exact Nat.le_of_eq rfl) (hb hby at_331) (by decide) (by decide) (by decide) (by decide)
      obtain ⟨rfl, Nq121, Kq121, c121, hcx121, O121, F2_121, F3_121, F4_121, F5_121⟩ := hQ121
      have N121 := Fr.app N113 Nq121
      have Z121 := Nat.le_trans Z113 Kq121.1
      refine qtr 334 #[(vj q0), sd, (vj q1), sd, (vi q2), (vi q3), (vi q4), (vi 6), (vi 0), (vi tv), (vr nb1), (vj bd), sd, (vr nb11), un, un, un, un, un, un, un] [(.int 1)] st121 ?_
      refine own_by (fun _ k => XS.pop X121.here hx rfl (hb hby at_334) rfl rfl k) ?_
      show OEnds p e below s _ _ _ (T121.setTop (mkF m 335 #[(vj q0), sd, (vj q1), sd, (vi q2), (vi q3), (vi q4), (vi 6), (vi 0), (vi tv), (vr nb1), (vj bd), sd, (vr nb11), un, un, un, un, un, un, un] []))
      have F122 := (F114.keep Kq121 (ninS (Nat.ne_of_lt (Nat.lt_of_lt_of_le Fgv.lt (Nat.le_of_eq g11.symm))) (ninS on_b2 (ninS on_b3 (ninS on_b4 (ninS on_b5 nin0))))))
      have F123 := (F113_b1.keep Kq121 (ninS (Ne.symm (o01 hord)) (ninS (o12 hord) (ninS (o13 hord) (ninS (o14 hord) (ninS (o15 hord) nin0))))))
      have F124 := (F119.keep Kq121 (ninS (Ne.symm (o06 hord)) (ninS (Ne.symm (o26 hord)) (ninS (Ne.symm (o36 hord)) (ninS (Ne.symm (o46 hord)) (ninS (Ne.symm (o56 hord)) nin0))))))
      have F125 := (F120.keep Kq121 (ninS (Ne.symm (o07 hord)) (ninS (Ne.symm (o27 hord)) (ninS (Ne.symm (o37 hord)) (ninS (Ne.symm (o47 hord)) (ninS (Ne.symm (o57 hord)) nin0))))))
      exact bl335 T121 _ (6 : Int32) (0 : Int32) (2 : Int32) (6 : Int32) (2 : Int32) (0 : Int64) (0 : Int32) (0 : Int32) (0 : Int32) (0 : Int32) (0 : Int32) (0 : Int32) (0 : Int32) (0 : Int32) (updL (updL (updL f74_b1 3 (gv 3)) 4 (gv 4)) 5 (gv 5)) c121 (updI (updI (fun _ => (0 : Int32)) 0 (0 : Int32)) 1 (0 : Int32)) (updI (updI (fun _ => (0 : Int32)) 0 (0 : Int32)) 1 (6 : Int32)) (updI (updI (fun _ => (0 : Int32)) 0 (0 : Int32)) 1 (0 : Int32)) (fun _ => (0 : Int32)) (fun _ => (0 : Int32)) 0 6 (tv.toInt.toNat) h121 Z121 X121 e121 N121 O121 F122 F123 F2_121 F3_121 F4_121 F5_121 F124 F125 (by decide) (by decide) (by decide) (by decide) (tv_nn htv) (tv_le htv (by decide)) (by subst ef74_b1; rfl) (by subst ef74_b1; decide) (by subst ef74_b1; decide) (fun j hj => by have hj' : j = 0 ∨ j = 1 ∨ j = 2 ∨ j = 3 ∨ j = 4 ∨ j = 5 := (by omega); subst ef74_b1; rcases hj' with rfl | rfl | rfl | rfl | rfl | rfl <;> rfl) (fun h => absurd h (by decide)) (fun h => absurd h (by decide))
    have hgt : (6 : Int32) < nv := by rcases hn with rfl | rfl | rfl <;> decide
    show OEnds p e below s _ _ _ (T113.setTop (mkF m 278 #[(vj q0), sd, (vj q1), sd, (vi q2), (vi q3), (vi q4), (vi nv), (vi 0), (vi tv), (vr nb1), (vj bd), sd, (vr nb11), un, un, un, un, un, un, un] []))
    refine qi 280 X113 hx hby at_278 rfl rfl ?_
    refine qc2 282 6 X113 hx hby at_280 rfl rfl ?_
    refine q_cmn 285 X113 hx hby at_282 rfl (tlt hgt).2.2.2 ?_
    refine qa 287 X113 hx hby at_285 rfl rfl ?_
    refine qa 289 X113 hx hby at_287 rfl rfl ?_
    refine qc2 291 6 X113 hx hby at_289 rfl rfl ?_
    refine qJ 292 X113 hx hZ e113 F114 6 (by decide) (by decide) (v := (.long (gv 6))) rfl hby at_291 rfl ?_
    obtain ⟨v126, T126, L126, h126, X126, e126, hQ126, st126⟩ := own_callV X113 hx hZ (y := mn2) hown (tw76 hw) (tw77 hw) (tw79 hw) (tw78 hw) (tw80 hw) (tw3 hw) (by decide) O113.exa (rm_addk l Z a0 hw [] nb11 (gv 6) b1 b2 b3 b4 b5 b6 b7 (1 : Int32) (6 : Int32) (0 : Int32) (0 : Int64) (0 : Int32) (0 : Int32) (0 : Int32) (0 : Int32) (0 : Int32) (0 : Int32) (0 : Int32) (0 : Int32) (updL (updL (updL f74_b1 3 (gv 3)) 4 (gv 4)) 5 (gv 5)) h113 n0 Z113 O113 F113_b1 g_nb11 g_b1 hord (by decide) (by decide)) e113 (g := (mkF m 292 #[(vj q0), sd, (vj q1), sd, (vi q2), (vi q3), (vi q4), (vi nv), (vi 0), (vi tv), (vr nb1), (vj bd), sd, (vr nb11), un, un, un, un, un, un, un] [(.long (gv 6)), (.ref nb11)])) rfl (by rw [hml]; rfl) (argsL := [(.long (gv 6))]) (rest := []) (lenOf pd_pJrV rfl) rfl (W := 0) (by show 2 * 0 + _ ≤ _; exact Nat.le_of_eq rfl) (hb hby at_292) (by decide) (by decide) (by decide) (by decide)
    obtain ⟨rfl, Nq126, Kq126, O126, F126_b1⟩ := hQ126
    have N126 := Fr.app N113 Nq126
    have Z126 := Nat.le_trans Z113 Kq126.1
    rw [show ((6 : Int32) + (1 : Int32)) = (7 : Int32) by decide] at O126
    rw [show ((6 : Int32).toInt.toNat) = 6 by decide] at F126_b1
    obtain ⟨f126_b1, ef126_b1⟩ : ∃ fz_ : Nat → Int64, fz_ = (updL (updL (updL (updL f74_b1 3 (gv 3)) 4 (gv 4)) 5 (gv 5)) 6 (gv 6)) := ⟨_, rfl⟩
    rw [← ef126_b1] at F126_b1
    refine qtr 295 #[(vj q0), sd, (vj q1), sd, (vi q2), (vi q3), (vi q4), (vi nv), (vi 0), (vi tv), (vr nb1), (vj bd), sd, (vr nb11), un, un, un, un, un, un, un] [] st126 ?_
    have F127 := (F114.keep Kq126 (ninS (Nat.ne_of_lt (Nat.lt_of_lt_of_le Fgv.lt (Nat.le_of_eq g11.symm))) (ninS on_b1 nin0)))
    have F128 := (F115.keep Kq126 (ninS (Ne.symm (o02 hord)) (ninS (Ne.symm (o12 hord)) nin0)))
    have F129 := (F116.keep Kq126 (ninS (Ne.symm (o03 hord)) (ninS (Ne.symm (o13 hord)) nin0)))
    have F130 := (F117.keep Kq126 (ninS (Ne.symm (o04 hord)) (ninS (Ne.symm (o14 hord)) nin0)))
    have F131 := (F118.keep Kq126 (ninS (Ne.symm (o05 hord)) (ninS (Ne.symm (o15 hord)) nin0)))
    have F132 := (F119.keep Kq126 (ninS (Ne.symm (o06 hord)) (ninS (Ne.symm (o16 hord)) nin0)))
    have F133 := (F120.keep Kq126 (ninS (Ne.symm (o07 hord)) (ninS (Ne.symm (o17 hord)) nin0)))
    rcases hn with rfl | hn
    · show OEnds p e below s _ _ _ (T126.setTop (mkF m 295 #[(vj q0), sd, (vj q1), sd, (vi q2), (vi q3), (vi q4), (vi 7), (vi 0), (vi tv), (vr nb1), (vj bd), sd, (vr nb11), un, un, un, un, un, un, un] []))
      refine qi 297 X126 hx hby at_295 rfl rfl ?_
      refine qc2 299 7 X126 hx hby at_297 rfl rfl ?_
      refine q_cmy 312 X126 hx hby at_299 rfl (flt (by decide : ¬ ((7 : Int32) < (7 : Int32)))).2.2.2 ?_
      refine qi 314 X126 hx hby at_312 rfl rfl ?_
      refine qc2 316 8 X126 hx hby at_314 rfl rfl ?_
      refine q_cmy 329 X126 hx hby at_316 rfl (flt (by decide : ¬ ((8 : Int32) < (7 : Int32)))).2.2.2 ?_
      refine qa 331 X126 hx hby at_329 rfl rfl ?_
      obtain ⟨v134, T134, L134, h134, X134, e134, hQ134, st134⟩ := own_callV X126 hx hZ (y := mn5) hown (tw25 hw) (tw26 hw) (tw28 hw) (tw27 hw) (tw29 hw) (tw3 hw) (by decide) O126.exa (rm_index2_0_1 l Z a0 hw [] nb11 b1 b2 b3 b4 b5 b6 b7 (7 : Int32) (0 : Int64) (0 : Int32) (0 : Int32) (0 : Int32) (0 : Int32) (0 : Int32) (0 : Int32) (0 : Int32) (0 : Int32) f126_b1 (fun _ => (0 : Int64)) (updI (fun _ => (0 : Int32)) 0 (0 : Int32)) (updI (fun _ => (0 : Int32)) 0 (0 : Int32)) (updI (fun _ => (0 : Int32)) 0 (0 : Int32)) 7 h126 n0 Z126 O126 F126_b1 F128 F129 F130 F131 g_nb11 g_b2 g_b3 g_b4 g_b5 hord (by subst ef126_b1 ef74_b1; rfl) (by decide) (by decide) (by decide)) e126 (g := (mkF m 331 #[(vj q0), sd, (vj q1), sd, (vi q2), (vi q3), (vi q4), (vi 7), (vi 0), (vi tv), (vr nb1), (vj bd), sd, (vr nb11), un, un, un, un, un, un, un] [(.ref nb11)])) rfl (by rw [hml]; rfl) (argsL := []) (rest := []) (lenOf pd_prI rfl) rfl (W := 0) (by show 2 * 0 + _ ≤ _; exact Nat.le_of_eq rfl) (hb hby at_331) (by decide) (by decide) (by decide) (by decide)
      obtain ⟨rfl, Nq134, Kq134, c134, hcx134, O134, F2_134, F3_134, F4_134, F5_134⟩ := hQ134
      have N134 := Fr.app N126 Nq134
      have Z134 := Nat.le_trans Z126 Kq134.1
      refine qtr 334 #[(vj q0), sd, (vj q1), sd, (vi q2), (vi q3), (vi q4), (vi 7), (vi 0), (vi tv), (vr nb1), (vj bd), sd, (vr nb11), un, un, un, un, un, un, un] [(.int 1)] st134 ?_
      refine own_by (fun _ k => XS.pop X134.here hx rfl (hb hby at_334) rfl rfl k) ?_
      show OEnds p e below s _ _ _ (T134.setTop (mkF m 335 #[(vj q0), sd, (vj q1), sd, (vi q2), (vi q3), (vi q4), (vi 7), (vi 0), (vi tv), (vr nb1), (vj bd), sd, (vr nb11), un, un, un, un, un, un, un] []))
      have F135 := (F127.keep Kq134 (ninS (Nat.ne_of_lt (Nat.lt_of_lt_of_le Fgv.lt (Nat.le_of_eq g11.symm))) (ninS on_b2 (ninS on_b3 (ninS on_b4 (ninS on_b5 nin0))))))
      have F136 := (F126_b1.keep Kq134 (ninS (Ne.symm (o01 hord)) (ninS (o12 hord) (ninS (o13 hord) (ninS (o14 hord) (ninS (o15 hord) nin0))))))
      have F137 := (F132.keep Kq134 (ninS (Ne.symm (o06 hord)) (ninS (Ne.symm (o26 hord)) (ninS (Ne.symm (o36 hord)) (ninS (Ne.symm (o46 hord)) (ninS (Ne.symm (o56 hord)) nin0))))))
      have F138 := (F133.keep Kq134 (ninS (Ne.symm (o07 hord)) (ninS (Ne.symm (o27 hord)) (ninS (Ne.symm (o37 hord)) (ninS (Ne.symm (o47 hord)) (ninS (Ne.symm (o57 hord)) nin0))))))
      exact bl335 T134 _ (7 : Int32) (0 : Int32) (2 : Int32) (7 : Int32) (2 : Int32) (0 : Int64) (0 : Int32) (0 : Int32) (0 : Int32) (0 : Int32) (0 : Int32) (0 : Int32) (0 : Int32) (0 : Int32) f126_b1 c134 (updI (updI (fun _ => (0 : Int32)) 0 (0 : Int32)) 1 (0 : Int32)) (updI (updI (fun _ => (0 : Int32)) 0 (0 : Int32)) 1 (7 : Int32)) (updI (updI (fun _ => (0 : Int32)) 0 (0 : Int32)) 1 (0 : Int32)) (fun _ => (0 : Int32)) (fun _ => (0 : Int32)) 0 7 (tv.toInt.toNat) h134 Z134 X134 e134 N134 O134 F135 F136 F2_134 F3_134 F4_134 F5_134 F137 F138 (by decide) (by decide) (by decide) (by decide) (tv_nn htv) (tv_le htv (by decide)) (by subst ef126_b1 ef74_b1; rfl) (by subst ef126_b1 ef74_b1; decide) (by subst ef126_b1 ef74_b1; decide) (fun j hj => by have hj' : j = 0 ∨ j = 1 ∨ j = 2 ∨ j = 3 ∨ j = 4 ∨ j = 5 ∨ j = 6 := (by omega); subst ef126_b1 ef74_b1; rcases hj' with rfl | rfl | rfl | rfl | rfl | rfl | rfl <;> rfl) (fun h => absurd h (by decide)) (fun h => absurd h (by decide))
    have hgt : (7 : Int32) < nv := by rcases hn with rfl | rfl <;> decide
    show OEnds p e below s _ _ _ (T126.setTop (mkF m 295 #[(vj q0), sd, (vj q1), sd, (vi q2), (vi q3), (vi q4), (vi nv), (vi 0), (vi tv), (vr nb1), (vj bd), sd, (vr nb11), un, un, un, un, un, un, un] []))
    refine qi 297 X126 hx hby at_295 rfl rfl ?_
    refine qc2 299 7 X126 hx hby at_297 rfl rfl ?_
    refine q_cmn 302 X126 hx hby at_299 rfl (tlt hgt).2.2.2 ?_
    refine qa 304 X126 hx hby at_302 rfl rfl ?_
    refine qa 306 X126 hx hby at_304 rfl rfl ?_
    refine qc2 308 7 X126 hx hby at_306 rfl rfl ?_
    refine qJ 309 X126 hx hZ e126 F127 7 (by decide) (by decide) (v := (.long (gv 7))) rfl hby at_308 rfl ?_
    obtain ⟨v139, T139, L139, h139, X139, e139, hQ139, st139⟩ := own_callV X126 hx hZ (y := mn2) hown (tw76 hw) (tw77 hw) (tw79 hw) (tw78 hw) (tw80 hw) (tw3 hw) (by decide) O126.exa (rm_addk l Z a0 hw [] nb11 (gv 7) b1 b2 b3 b4 b5 b6 b7 (1 : Int32) (7 : Int32) (0 : Int32) (0 : Int64) (0 : Int32) (0 : Int32) (0 : Int32) (0 : Int32) (0 : Int32) (0 : Int32) (0 : Int32) (0 : Int32) f126_b1 h126 n0 Z126 O126 F126_b1 g_nb11 g_b1 hord (by decide) (by decide)) e126 (g := (mkF m 309 #[(vj q0), sd, (vj q1), sd, (vi q2), (vi q3), (vi q4), (vi nv), (vi 0), (vi tv), (vr nb1), (vj bd), sd, (vr nb11), un, un, un, un, un, un, un] [(.long (gv 7)), (.ref nb11)])) rfl (by rw [hml]; rfl) (argsL := [(.long (gv 7))]) (rest := []) (lenOf pd_pJrV rfl) rfl (W := 0) (by show 2 * 0 + _ ≤ _; exact Nat.le_of_eq rfl) (hb hby at_309) (by decide) (by decide) (by decide) (by decide)
    obtain ⟨rfl, Nq139, Kq139, O139, F139_b1⟩ := hQ139
    have N139 := Fr.app N126 Nq139
    have Z139 := Nat.le_trans Z126 Kq139.1
    rw [show ((7 : Int32) + (1 : Int32)) = (8 : Int32) by decide] at O139
    rw [show ((7 : Int32).toInt.toNat) = 7 by decide] at F139_b1
    refine qtr 312 #[(vj q0), sd, (vj q1), sd, (vi q2), (vi q3), (vi q4), (vi nv), (vi 0), (vi tv), (vr nb1), (vj bd), sd, (vr nb11), un, un, un, un, un, un, un] [] st139 ?_
    have F140 := (F127.keep Kq139 (ninS (Nat.ne_of_lt (Nat.lt_of_lt_of_le Fgv.lt (Nat.le_of_eq g11.symm))) (ninS on_b1 nin0)))
    have F141 := (F128.keep Kq139 (ninS (Ne.symm (o02 hord)) (ninS (Ne.symm (o12 hord)) nin0)))
    have F142 := (F129.keep Kq139 (ninS (Ne.symm (o03 hord)) (ninS (Ne.symm (o13 hord)) nin0)))
    have F143 := (F130.keep Kq139 (ninS (Ne.symm (o04 hord)) (ninS (Ne.symm (o14 hord)) nin0)))
    have F144 := (F131.keep Kq139 (ninS (Ne.symm (o05 hord)) (ninS (Ne.symm (o15 hord)) nin0)))
    have F145 := (F132.keep Kq139 (ninS (Ne.symm (o06 hord)) (ninS (Ne.symm (o16 hord)) nin0)))
    have F146 := (F133.keep Kq139 (ninS (Ne.symm (o07 hord)) (ninS (Ne.symm (o17 hord)) nin0)))
    rcases hn with rfl | hn
    · show OEnds p e below s _ _ _ (T139.setTop (mkF m 312 #[(vj q0), sd, (vj q1), sd, (vi q2), (vi q3), (vi q4), (vi 8), (vi 0), (vi tv), (vr nb1), (vj bd), sd, (vr nb11), un, un, un, un, un, un, un] []))
      refine qi 314 X139 hx hby at_312 rfl rfl ?_
      refine qc2 316 8 X139 hx hby at_314 rfl rfl ?_
      refine q_cmy 329 X139 hx hby at_316 rfl (flt (by decide : ¬ ((8 : Int32) < (8 : Int32)))).2.2.2 ?_
      refine qa 331 X139 hx hby at_329 rfl rfl ?_
      obtain ⟨v147, T147, L147, h147, X147, e147, hQ147, st147⟩ := own_callV X139 hx hZ (y := mn5) hown (tw25 hw) (tw26 hw) (tw28 hw) (tw27 hw) (tw29 hw) (tw3 hw) (by decide) O139.exa (rm_index2_0_1 l Z a0 hw [] nb11 b1 b2 b3 b4 b5 b6 b7 (8 : Int32) (0 : Int64) (0 : Int32) (0 : Int32) (0 : Int32) (0 : Int32) (0 : Int32) (0 : Int32) (0 : Int32) (0 : Int32) (updL f126_b1 7 (gv 7)) (fun _ => (0 : Int64)) (updI (fun _ => (0 : Int32)) 0 (0 : Int32)) (updI (fun _ => (0 : Int32)) 0 (0 : Int32)) (updI (fun _ => (0 : Int32)) 0 (0 : Int32)) 8 h139 n0 Z139 O139 F139_b1 F141 F142 F143 F144 g_nb11 g_b2 g_b3 g_b4 g_b5 hord (by subst ef126_b1 ef74_b1; rfl) (by decide) (by decide) (by decide)) e139 (g := (mkF m 331 #[(vj q0), sd, (vj q1), sd, (vi q2), (vi q3), (vi q4), (vi 8), (vi 0), (vi tv), (vr nb1), (vj bd), sd, (vr nb11), un, un, un, un, un, un, un] [(.ref nb11)])) rfl (by rw [hml]; rfl) (argsL := []) (rest := []) (lenOf pd_prI rfl) rfl (W := 0) (by show 2 * 0 + _ ≤ _; exact Nat.le_of_eq rfl) (hb hby at_331) (by decide) (by decide) (by decide) (by decide)
      obtain ⟨rfl, Nq147, Kq147, c147, hcx147, O147, F2_147, F3_147, F4_147, F5_147⟩ := hQ147
      have N147 := Fr.app N139 Nq147
      have Z147 := Nat.le_trans Z139 Kq147.1
      refine qtr 334 #[(vj q0), sd, (vj q1), sd, (vi q2), (vi q3), (vi q4), (vi 8), (vi 0), (vi tv), (vr nb1), (vj bd), sd, (vr nb11), un, un, un, un, un, un, un] [(.int 1)] st147 ?_
      refine own_by (fun _ k => XS.pop X147.here hx rfl (hb hby at_334) rfl rfl k) ?_
      show OEnds p e below s _ _ _ (T147.setTop (mkF m 335 #[(vj q0), sd, (vj q1), sd, (vi q2), (vi q3), (vi q4), (vi 8), (vi 0), (vi tv), (vr nb1), (vj bd), sd, (vr nb11), un, un, un, un, un, un, un] []))
      have F148 := (F140.keep Kq147 (ninS (Nat.ne_of_lt (Nat.lt_of_lt_of_le Fgv.lt (Nat.le_of_eq g11.symm))) (ninS on_b2 (ninS on_b3 (ninS on_b4 (ninS on_b5 nin0))))))
      have F149 := (F139_b1.keep Kq147 (ninS (Ne.symm (o01 hord)) (ninS (o12 hord) (ninS (o13 hord) (ninS (o14 hord) (ninS (o15 hord) nin0))))))
      have F150 := (F145.keep Kq147 (ninS (Ne.symm (o06 hord)) (ninS (Ne.symm (o26 hord)) (ninS (Ne.symm (o36 hord)) (ninS (Ne.symm (o46 hord)) (ninS (Ne.symm (o56 hord)) nin0))))))
      have F151 := (F146.keep Kq147 (ninS (Ne.symm (o07 hord)) (ninS (Ne.symm (o27 hord)) (ninS (Ne.symm (o37 hord)) (ninS (Ne.symm (o47 hord)) (ninS (Ne.symm (o57 hord)) nin0))))))
      exact bl335 T147 _ (8 : Int32) (0 : Int32) (2 : Int32) (8 : Int32) (2 : Int32) (0 : Int64) (0 : Int32) (0 : Int32) (0 : Int32) (0 : Int32) (0 : Int32) (0 : Int32) (0 : Int32) (0 : Int32) (updL f126_b1 7 (gv 7)) c147 (updI (updI (fun _ => (0 : Int32)) 0 (0 : Int32)) 1 (0 : Int32)) (updI (updI (fun _ => (0 : Int32)) 0 (0 : Int32)) 1 (8 : Int32)) (updI (updI (fun _ => (0 : Int32)) 0 (0 : Int32)) 1 (0 : Int32)) (fun _ => (0 : Int32)) (fun _ => (0 : Int32)) 0 8 (tv.toInt.toNat) h147 Z147 X147 e147 N147 O147 F148 F149 F2_147 F3_147 F4_147 F5_147 F150 F151 (by decide) (by decide) (by decide) (by decide) (tv_nn htv) (tv_le htv (by decide)) (by subst ef126_b1 ef74_b1; rfl) (by subst ef126_b1 ef74_b1; decide) (by subst ef126_b1 ef74_b1; decide) (fun j hj => by have hj' : j = 0 ∨ j = 1 ∨ j = 2 ∨ j = 3 ∨ j = 4 ∨ j = 5 ∨ j = 6 ∨ j = 7 := (by omega); subst ef126_b1 ef74_b1; rcases hj' with rfl | rfl | rfl | rfl | rfl | rfl | rfl | rfl <;> rfl) (fun _ bd hb j hj => by have hq := hcx147 bd hb j hj (by omega); have hj' : j = 0 ∨ j = 1 ∨ j = 2 ∨ j = 3 ∨ j = 4 ∨ j = 5 ∨ j = 6 ∨ j = 7 := (by omega); subst ef126_b1 ef74_b1; rcases hj' with rfl | rfl | rfl | rfl | rfl | rfl | rfl | rfl <;> exact hq) (fun h => absurd h (by decide))
    have hgt : (8 : Int32) < nv := by rw [hn]; decide
    subst hn
    show OEnds p e below s _ _ _ (T139.setTop (mkF m 312 #[(vj q0), sd, (vj q1), sd, (vi q2), (vi q3), (vi q4), (vi 9), (vi 0), (vi tv), (vr nb1), (vj bd), sd, (vr nb11), un, un, un, un, un, un, un] []))
    refine qi 314 X139 hx hby at_312 rfl rfl ?_
    refine qc2 316 8 X139 hx hby at_314 rfl rfl ?_
    refine q_cmn 319 X139 hx hby at_316 rfl (tlt (by decide : (8 : Int32) < (9 : Int32))).2.2.2 ?_
    refine qa 321 X139 hx hby at_319 rfl rfl ?_
    refine qa 323 X139 hx hby at_321 rfl rfl ?_
    refine qc2 325 8 X139 hx hby at_323 rfl rfl ?_
    refine qJ 326 X139 hx hZ e139 F140 8 (by decide) (by decide) (v := (.long (gv 8))) rfl hby at_325 rfl ?_
    obtain ⟨v152, T152, L152, h152, X152, e152, hQ152, st152⟩ := own_callV X139 hx hZ (y := mn2) hown (tw76 hw) (tw77 hw) (tw79 hw) (tw78 hw) (tw80 hw) (tw3 hw) (by decide) O139.exa (rm_addk l Z a0 hw [] nb11 (gv 8) b1 b2 b3 b4 b5 b6 b7 (1 : Int32) (8 : Int32) (0 : Int32) (0 : Int64) (0 : Int32) (0 : Int32) (0 : Int32) (0 : Int32) (0 : Int32) (0 : Int32) (0 : Int32) (0 : Int32) (updL f126_b1 7 (gv 7)) h139 n0 Z139 O139 F139_b1 g_nb11 g_b1 hord (by decide) (by decide)) e139 (g := (mkF m 326 #[(vj q0), sd, (vj q1), sd, (vi q2), (vi q3), (vi q4), (vi 9), (vi 0), (vi tv), (vr nb1), (vj bd), sd, (vr nb11), un, un, un, un, un, un, un] [(.long (gv 8)), (.ref nb11)])) rfl (by rw [hml]; rfl) (argsL := [(.long (gv 8))]) (rest := []) (lenOf pd_pJrV rfl) rfl (W := 0) (by show 2 * 0 + _ ≤ _; exact Nat.le_of_eq rfl) (hb hby at_326) (by decide) (by decide) (by decide) (by decide)
    obtain ⟨rfl, Nq152, Kq152, O152, F152_b1⟩ := hQ152
    have N152 := Fr.app N139 Nq152
    have Z152 := Nat.le_trans Z139 Kq152.1
    rw [show ((8 : Int32) + (1 : Int32)) = (9 : Int32) by decide] at O152
    rw [show ((8 : Int32).toInt.toNat) = 8 by decide] at F152_b1
    refine qtr 329 #[(vj q0), sd, (vj q1), sd, (vi q2), (vi q3), (vi q4), (vi 9), (vi 0), (vi tv), (vr nb1), (vj bd), sd, (vr nb11), un, un, un, un, un, un, un] [] st152 ?_
    refine qa 331 X152 hx hby at_329 rfl rfl ?_
    have F154 := (F141.keep Kq152 (ninS (Ne.symm (o02 hord)) (ninS (Ne.symm (o12 hord)) nin0)))
    have F155 := (F142.keep Kq152 (ninS (Ne.symm (o03 hord)) (ninS (Ne.symm (o13 hord)) nin0)))
    have F156 := (F143.keep Kq152 (ninS (Ne.symm (o04 hord)) (ninS (Ne.symm (o14 hord)) nin0)))
    have F157 := (F144.keep Kq152 (ninS (Ne.symm (o05 hord)) (ninS (Ne.symm (o15 hord)) nin0)))
    obtain ⟨v153, T153, L153, h153, X153, e153, hQ153, st153⟩ := own_callV X152 hx hZ (y := mn5) hown (tw25 hw) (tw26 hw) (tw28 hw) (tw27 hw) (tw29 hw) (tw3 hw) (by decide) O152.exa (rm_index2_0_2 l Z a0 hw [] nb11 b1 b2 b3 b4 b5 b6 b7 (9 : Int32) (0 : Int64) (0 : Int32) (0 : Int32) (0 : Int32) (0 : Int32) (0 : Int32) (0 : Int32) (0 : Int32) (0 : Int32) (updL (updL f126_b1 7 (gv 7)) 8 (gv 8)) (fun _ => (0 : Int64)) (updI (fun _ => (0 : Int32)) 0 (0 : Int32)) (updI (fun _ => (0 : Int32)) 0 (0 : Int32)) (updI (fun _ => (0 : Int32)) 0 (0 : Int32)) 9 h152 n0 Z152 O152 F152_b1 F154 F155 F156 F157 g_nb11 g_b2 g_b3 g_b4 g_b5 hord (by subst ef126_b1 ef74_b1; rfl) (by decide) (by decide) (by decide)) e152 (g := (mkF m 331 #[(vj q0), sd, (vj q1), sd, (vi q2), (vi q3), (vi q4), (vi 9), (vi 0), (vi tv), (vr nb1), (vj bd), sd, (vr nb11), un, un, un, un, un, un, un] [(.ref nb11)])) rfl (by rw [hml]; rfl) (argsL := []) (rest := []) (lenOf pd_prI rfl) rfl (W := 0) (by show 2 * 0 + _ ≤ _; exact Nat.le_of_eq rfl) (hb hby at_331) (by decide) (by decide) (by decide) (by decide)
    obtain ⟨rfl, Nq153, Kq153, c153, hcx153, O153, F2_153, F3_153, F4_153, F5_153⟩ := hQ153
    have N153 := Fr.app N152 Nq153
    have Z153 := Nat.le_trans Z152 Kq153.1
    refine qtr 334 #[(vj q0), sd, (vj q1), sd, (vi q2), (vi q3), (vi q4), (vi 9), (vi 0), (vi tv), (vr nb1), (vj bd), sd, (vr nb11), un, un, un, un, un, un, un] [(.int 1)] st153 ?_
    refine own_by (fun _ k => XS.pop X153.here hx rfl (hb hby at_334) rfl rfl k) ?_
    show OEnds p e below s _ _ _ (T153.setTop (mkF m 335 #[(vj q0), sd, (vj q1), sd, (vi q2), (vi q3), (vi q4), (vi 9), (vi 0), (vi tv), (vr nb1), (vj bd), sd, (vr nb11), un, un, un, un, un, un, un] []))
    have F158 := ((F140.keep Kq152 (ninS (Nat.ne_of_lt (Nat.lt_of_lt_of_le Fgv.lt (Nat.le_of_eq g11.symm))) (ninS on_b1 nin0))).keep Kq153 (ninS (Nat.ne_of_lt (Nat.lt_of_lt_of_le Fgv.lt (Nat.le_of_eq g11.symm))) (ninS on_b2 (ninS on_b3 (ninS on_b4 (ninS on_b5 nin0))))))
    have F159 := (F152_b1.keep Kq153 (ninS (Ne.symm (o01 hord)) (ninS (o12 hord) (ninS (o13 hord) (ninS (o14 hord) (ninS (o15 hord) nin0))))))
    have F160 := ((F145.keep Kq152 (ninS (Ne.symm (o06 hord)) (ninS (Ne.symm (o16 hord)) nin0))).keep Kq153 (ninS (Ne.symm (o06 hord)) (ninS (Ne.symm (o26 hord)) (ninS (Ne.symm (o36 hord)) (ninS (Ne.symm (o46 hord)) (ninS (Ne.symm (o56 hord)) nin0))))))
    have F161 := ((F146.keep Kq152 (ninS (Ne.symm (o07 hord)) (ninS (Ne.symm (o17 hord)) nin0))).keep Kq153 (ninS (Ne.symm (o07 hord)) (ninS (Ne.symm (o27 hord)) (ninS (Ne.symm (o37 hord)) (ninS (Ne.symm (o47 hord)) (ninS (Ne.symm (o57 hord)) nin0))))))
    exact bl335 T153 _ (9 : Int32) (0 : Int32) (2 : Int32) (9 : Int32) (4 : Int32) (0 : Int64) (0 : Int32) (0 : Int32) (0 : Int32) (0 : Int32) (0 : Int32) (0 : Int32) (0 : Int32) (0 : Int32) (updL (updL f126_b1 7 (gv 7)) 8 (gv 8)) c153 (updI (updI (fun _ => (0 : Int32)) 0 (0 : Int32)) 1 (0 : Int32)) (updI (updI (fun _ => (0 : Int32)) 0 (0 : Int32)) 1 (9 : Int32)) (updI (updI (fun _ => (0 : Int32)) 0 (0 : Int32)) 1 (0 : Int32)) (fun _ => (0 : Int32)) (fun _ => (0 : Int32)) 0 9 (tv.toInt.toNat) h153 Z153 X153 e153 N153 O153 F158 F159 F2_153 F3_153 F4_153 F5_153 F160 F161 (by decide) (by decide) (by decide) (by decide) (tv_nn htv) (tv_le htv (by decide)) (by subst ef126_b1 ef74_b1; rfl) (by subst ef126_b1 ef74_b1; decide) (by subst ef126_b1 ef74_b1; decide) (fun j hj => by have hj' : j = 0 ∨ j = 1 ∨ j = 2 ∨ j = 3 ∨ j = 4 ∨ j = 5 ∨ j = 6 ∨ j = 7 ∨ j = 8 := (by omega); subst ef126_b1 ef74_b1; rcases hj' with rfl | rfl | rfl | rfl | rfl | rfl | rfl | rfl | rfl <;> rfl) (fun h => absurd h (by decide)) (fun _ bd hb j hj => by have hq := hcx153 bd hb j hj (by omega); have hj' : j = 0 ∨ j = 1 ∨ j = 2 ∨ j = 3 ∨ j = 4 ∨ j = 5 ∨ j = 6 ∨ j = 7 := (by omega); subst ef126_b1 ef74_b1; rcases hj' with rfl | rfl | rfl | rfl | rfl | rfl | rfl | rfl <;> exact hq)
  · show OEnds p e below s _ _ _ (T12.setTop (mkF m 170 #[(vj q0), sd, (vj q1), sd, (vi q2), (vi q3), (vi q4), (vi nv), (vi 1), (vi tv), (vr nb1), (vj bd), sd, (vr nb11), un, un, un, un, un, un, un] []))
    refine qi 172 X12 hx hby at_170 rfl rfl ?_
    refine qc1 173 1 X12 hx hby at_172 rfl rfl ?_
    refine q_cmn 176 X12 hx hby at_173 rfl (teq (by decide : (1 : Int32) = (1 : Int32))).2 ?_
    refine qa 178 X12 hx hby at_176 rfl rfl ?_
    refine ql 180 X12 hx hby at_178 rfl rfl ?_
    obtain ⟨v162, T162, L162, h162, X162, e162, hQ162, st162⟩ := own_callV X12 hx hZ (y := mn2) hown (tw76 hw) (tw77 hw) (tw79 hw) (tw78 hw) (tw80 hw) (tw3 hw) (by decide) O12.exa (rm_addk l Z a0 hw [] nb11 bd b1 b2 b3 b4 b5 b6 b7 (0 : Int32) (0 : Int32) (0 : Int32) (0 : Int64) (0 : Int32) (0 : Int32) (0 : Int32) (0 : Int32) (0 : Int32) (0 : Int32) (0 : Int32) (0 : Int32) (fun _ => (0 : Int64)) h12 n0 Z12 O12 F_1 g_nb11 g_b1 hord (by decide) (by decide)) e12 (g := (mkF m 180 #[(vj q0), sd, (vj q1), sd, (vi q2), (vi q3), (vi q4), (vi nv), (vi 1), (vi tv), (vr nb1), (vj bd), sd, (vr nb11), un, un, un, un, un, un, un] [(.long bd), (.ref nb11)])) rfl (by rw [hml]; rfl) (argsL := [(.long bd)]) (rest := []) (lenOf pd_pJrV rfl) rfl (W := 0) (by show 2 * 0 + _ ≤ _; exact Nat.le_of_eq rfl) (hb hby at_180) (by decide) (by decide) (by decide) (by decide)
    obtain ⟨rfl, Nq162, Kq162, O162, F162_b1⟩ := hQ162
    have N162 := Fr.app N12 Nq162
    have Z162 := Nat.le_trans Z12 Kq162.1
    rw [show ((0 : Int32) + (1 : Int32)) = (1 : Int32) by decide] at O162
    rw [show ((0 : Int32).toInt.toNat) = 0 by decide] at F162_b1
    refine qtr 183 #[(vj q0), sd, (vj q1), sd, (vi q2), (vi q3), (vi q4), (vi nv), (vi 1), (vi tv), (vr nb1), (vj bd), sd, (vr nb11), un, un, un, un, un, un, un] [] st162 ?_
    refine qa 185 X162 hx hby at_183 rfl rfl ?_
    have F164 := (F_2.keep Kq162 (ninS (Ne.symm (o02 hord)) (ninS (Ne.symm (o12 hord)) nin0)))
    have F165 := (F_3.keep Kq162 (ninS (Ne.symm (o03 hord)) (ninS (Ne.symm (o13 hord)) nin0)))
    have F166 := (F_4.keep Kq162 (ninS (Ne.symm (o04 hord)) (ninS (Ne.symm (o14 hord)) nin0)))
    have F167 := (F_5.keep Kq162 (ninS (Ne.symm (o05 hord)) (ninS (Ne.symm (o15 hord)) nin0)))
    obtain ⟨v163, T163, L163, h163, X163, e163, hQ163, st163⟩ := own_callV X162 hx hZ (y := mn5) hown (tw25 hw) (tw26 hw) (tw28 hw) (tw27 hw) (tw29 hw) (tw3 hw) (by decide) O162.exa (rm_index0_1 l Z a0 hw [] nb11 b1 b2 b3 b4 b5 b6 b7 (0 : Int64) (0 : Int32) (0 : Int32) (0 : Int32) (0 : Int32) (0 : Int32) (0 : Int32) (0 : Int32) (0 : Int32) (updL (fun _ => (0 : Int64)) 0 bd) (fun _ => (0 : Int64)) (fun _ => (0 : Int32)) (fun _ => (0 : Int32)) (fun _ => (0 : Int32)) h162 n0 Z162 O162 F162_b1 F164 F165 F166 F167 g_nb11 g_b2 g_b3 g_b4 g_b5 hord) e162 (g := (mkF m 185 #[(vj q0), sd, (vj q1), sd, (vi q2), (vi q3), (vi q4), (vi nv), (vi 1), (vi tv), (vr nb1), (vj bd), sd, (vr nb11), un, un, un, un, un, un, un] [(.ref nb11)])) rfl (by rw [hml]; rfl) (argsL := []) (rest := []) (lenOf pd_prI rfl) rfl (W := 0) (by show 2 * 0 + _ ≤ _; exact Nat.le_of_eq rfl) (hb hby at_185) (by decide) (by decide) (by decide) (by decide)
    obtain ⟨rfl, Nq163, Kq163, O163, F163_b2, F163_b3, F163_b4, F163_b5⟩ := hQ163
    have N163 := Fr.app N162 Nq163
    have Z163 := Nat.le_trans Z162 Kq163.1
    obtain ⟨f163_b2, ef163_b2⟩ : ∃ fz_ : Nat → Int64, fz_ = (updL (updL (fun _ => (0 : Int64)) 1 (-9223372036854775808 : Int64)) 1 (jmax (-9223372036854775808 : Int64) ((updL (fun _ => (0 : Int64)) 0 bd) 0))) := ⟨_, rfl⟩
    rw [← ef163_b2] at F163_b2
    refine qtr 188 #[(vj q0), sd, (vj q1), sd, (vi q2), (vi q3), (vi q4), (vi nv), (vi 1), (vi tv), (vr nb1), (vj bd), sd, (vr nb11), un, un, un, un, un, un, un] [(.int 0)] st163 ?_
    refine own_by (fun _ k => XS.pop X163.here hx rfl (hb hby at_188) rfl rfl k) ?_
    show OEnds p e below s _ _ _ (T163.setTop (mkF m 189 #[(vj q0), sd, (vj q1), sd, (vi q2), (vi q3), (vi q4), (vi nv), (vi 1), (vi tv), (vr nb1), (vj bd), sd, (vr nb11), un, un, un, un, un, un, un] []))
    have F168 := ((((Fgv.ext E11).keep Kq12 (ninS (Nat.ne_of_lt (Nat.lt_of_lt_of_le Fgv.lt (Nat.le_of_eq g11.symm))) nin0)).keep Kq162 (ninS (Nat.ne_of_lt (Nat.lt_of_lt_of_le Fgv.lt (Nat.le_of_eq g11.symm))) (ninS on_b1 nin0))).keep Kq163 (ninS (Nat.ne_of_lt (Nat.lt_of_lt_of_le Fgv.lt (Nat.le_of_eq g11.symm))) (ninS on_b2 (ninS on_b3 (ninS on_b4 (ninS on_b5 nin0))))))
    have F169 := (F162_b1.keep Kq163 (ninS (Ne.symm (o01 hord)) (ninS (o12 hord) (ninS (o13 hord) (ninS (o14 hord) (ninS (o15 hord) nin0))))))
    have F170 := ((F_6.keep Kq162 (ninS (Ne.symm (o06 hord)) (ninS (Ne.symm (o16 hord)) nin0))).keep Kq163 (ninS (Ne.symm (o06 hord)) (ninS (Ne.symm (o26 hord)) (ninS (Ne.symm (o36 hord)) (ninS (Ne.symm (o46 hord)) (ninS (Ne.symm (o56 hord)) nin0))))))
    have F171 := ((F_7.keep Kq162 (ninS (Ne.symm (o07 hord)) (ninS (Ne.symm (o17 hord)) nin0))).keep Kq163 (ninS (Ne.symm (o07 hord)) (ninS (Ne.symm (o27 hord)) (ninS (Ne.symm (o37 hord)) (ninS (Ne.symm (o47 hord)) (ninS (Ne.symm (o57 hord)) nin0))))))
    rcases hn with rfl | hn
    · show OEnds p e below s _ _ _ (T163.setTop (mkF m 189 #[(vj q0), sd, (vj q1), sd, (vi q2), (vi q3), (vi q4), (vi 0), (vi 1), (vi tv), (vr nb1), (vj bd), sd, (vr nb11), un, un, un, un, un, un, un] []))
      refine qi 191 X163 hx hby at_189 rfl rfl ?_
      refine q_ify 203 X163 hx hby at_191 rfl ((if0 _ _).trans (flt (by decide : ¬ ((0 : Int32) < (0 : Int32)))).2.2.2) ?_
      refine qi 205 X163 hx hby at_203 rfl rfl ?_
      refine qc1 206 1 X163 hx hby at_205 rfl rfl ?_
      refine q_cmy 218 X163 hx hby at_206 rfl (flt (by decide : ¬ ((1 : Int32) < (0 : Int32)))).2.2.2 ?_
      refine qi 220 X163 hx hby at_218 rfl rfl ?_
      refine qc1 221 2 X163 hx hby at_220 rfl rfl ?_
      refine q_cmy 233 X163 hx hby at_221 rfl (flt (by decide : ¬ ((2 : Int32) < (0 : Int32)))).2.2.2 ?_
      refine qi 235 X163 hx hby at_233 rfl rfl ?_
      refine qc1 236 3 X163 hx hby at_235 rfl rfl ?_
      refine q_cmy 248 X163 hx hby at_236 rfl (flt (by decide : ¬ ((3 : Int32) < (0 : Int32)))).2.2.2 ?_
      refine qi 250 X163 hx hby at_248 rfl rfl ?_
      refine qc1 251 4 X163 hx hby at_250 rfl rfl ?_
      refine q_cmy 263 X163 hx hby at_251 rfl (flt (by decide : ¬ ((4 : Int32) < (0 : Int32)))).2.2.2 ?_
      refine qi 265 X163 hx hby at_263 rfl rfl ?_
      refine qc1 266 5 X163 hx hby at_265 rfl rfl ?_
      refine q_cmy 278 X163 hx hby at_266 rfl (flt (by decide : ¬ ((5 : Int32) < (0 : Int32)))).2.2.2 ?_
      refine qi 280 X163 hx hby at_278 rfl rfl ?_
      refine qc2 282 6 X163 hx hby at_280 rfl rfl ?_
      refine q_cmy 295 X163 hx hby at_282 rfl (flt (by decide : ¬ ((6 : Int32) < (0 : Int32)))).2.2.2 ?_
      refine qi 297 X163 hx hby at_295 rfl rfl ?_
      refine qc2 299 7 X163 hx hby at_297 rfl rfl ?_
      refine q_cmy 312 X163 hx hby at_299 rfl (flt (by decide : ¬ ((7 : Int32) < (0 : Int32)))).2.2.2 ?_
      refine qi 314 X163 hx hby at_312 rfl rfl ?_
      refine qc2 316 8 X163 hx hby at_314 rfl rfl ?_
      refine q_cmy 329 X163 hx hby at_316 rfl (flt (by decide : ¬ ((8 : Int32) < (0 : Int32)))).2.2.2 ?_
      refine qa 331 X163 hx hby at_329 rfl rfl ?_
      obtain ⟨v172, T172, L172, h172, X172, e172, hQ172, st172⟩ := own_callV X163 hx hZ (y := mn5) hown (tw25 hw) (tw26 hw) (tw28 hw) (tw27 hw) (tw29 hw) (tw3 hw) (by decide) O163.exa (rm_index2_1_0 l Z a0 hw [] nb11 b1 b2 b3 b4 b5 b6 b7 (1 : Int32) (0 : Int64) (0 : Int32) (0 : Int32) (0 : Int32) (0 : Int32) (0 : Int32) (0 : Int32) (0 : Int32) (0 : Int32) (updL (fun _ => (0 : Int64)) 0 bd) f163_b2 (updI (fun _ => (0 : Int32)) 0 (0 : Int32)) (updI (fun _ => (0 : Int32)) 0 (1 : Int32)) (updI (fun _ => (0 : Int32)) 0 (0 : Int32)) 0 h163 n0 Z163 O163 F169 F163_b2 F163_b3 F163_b4 F163_b5 g_nb11 g_b2 g_b3 g_b4 g_b5 hord (by subst ef163_b2; rfl) (by decide) (by decide) (by decide)) e163 (g := (mkF m 331 #[(vj q0), sd, (vj q1), sd, (vi q2), (vi q3), (vi q4), (vi 0), (vi 1), (vi tv), (vr nb1), (vj bd), sd, (vr nb11), un, un, un, un, un, un, un] [(.ref nb11)])) rfl (by rw [hml]; rfl) (argsL := []) (rest := []) (lenOf pd_prI rfl) rfl (W := 0) (by show 2 * 0 + _ ≤ _; exact Nat.le_of_eq rfl) (hb hby at_331) (by decide) (by decide) (by decide) (by decide)
      obtain ⟨rfl, Nq172, Kq172, c172, hcx172, O172, F2_172, F3_172, F4_172, F5_172⟩ := hQ172
      have N172 := Fr.app N163 Nq172
      have Z172 := Nat.le_trans Z163 Kq172.1
      refine qtr 334 #[(vj q0), sd, (vj q1), sd, (vi q2), (vi q3), (vi q4), (vi 0), (vi 1), (vi tv), (vr nb1), (vj bd), sd, (vr nb11), un, un, un, un, un, un, un] [(.int 1)] st172 ?_
      refine own_by (fun _ k => XS.pop X172.here hx rfl (hb hby at_334) rfl rfl k) ?_
      show OEnds p e below s _ _ _ (T172.setTop (mkF m 335 #[(vj q0), sd, (vj q1), sd, (vi q2), (vi q3), (vi q4), (vi 0), (vi 1), (vi tv), (vr nb1), (vj bd), sd, (vr nb11), un, un, un, un, un, un, un] []))
      have F173 := (F168.keep Kq172 (ninS (Nat.ne_of_lt (Nat.lt_of_lt_of_le Fgv.lt (Nat.le_of_eq g11.symm))) (ninS on_b2 (ninS on_b3 (ninS on_b4 (ninS on_b5 nin0))))))
      have F174 := (F169.keep Kq172 (ninS (Ne.symm (o01 hord)) (ninS (o12 hord) (ninS (o13 hord) (ninS (o14 hord) (ninS (o15 hord) nin0))))))
      have F175 := (F170.keep Kq172 (ninS (Ne.symm (o06 hord)) (ninS (Ne.symm (o26 hord)) (ninS (Ne.symm (o36 hord)) (ninS (Ne.symm (o46 hord)) (ninS (Ne.symm (o56 hord)) nin0))))))
      have F176 := (F171.keep Kq172 (ninS (Ne.symm (o07 hord)) (ninS (Ne.symm (o27 hord)) (ninS (Ne.symm (o37 hord)) (ninS (Ne.symm (o47 hord)) (ninS (Ne.symm (o57 hord)) nin0))))))
      exact bl335 T172 _ (0 : Int32) (1 : Int32) (2 : Int32) (1 : Int32) (2 : Int32) (0 : Int64) (0 : Int32) (0 : Int32) (0 : Int32) (0 : Int32) (0 : Int32) (0 : Int32) (0 : Int32) (0 : Int32) (updL (fun _ => (0 : Int64)) 0 bd) c172 (updI (updI (fun _ => (0 : Int32)) 0 (0 : Int32)) 1 (1 : Int32)) (updI (updI (fun _ => (0 : Int32)) 0 (1 : Int32)) 1 (1 : Int32)) (updI (updI (fun _ => (0 : Int32)) 0 (0 : Int32)) 1 (2 : Int32)) (fun _ => (0 : Int32)) (fun _ => (0 : Int32)) 1 0 (tv.toInt.toNat) h172 Z172 X172 e172 N172 O172 F173 F174 F2_172 F3_172 F4_172 F5_172 F175 F176 (by decide) (by decide) (by decide) (by decide) (tv_nn htv) (tv_le htv (by decide)) (by subst ef163_b2; rfl) (by subst ef163_b2; decide) (by subst ef163_b2; decide) (fun j hj => absurd hj (Nat.not_lt_zero j)) (fun h => absurd h (by decide)) (fun h => absurd h (by decide))
    have hgt : (0 : Int32) < nv := by rcases hn with rfl | rfl | rfl | rfl | rfl | rfl | rfl | rfl | rfl <;> decide
    show OEnds p e below s _ _ _ (T163.setTop (mkF m 189 #[(vj q0), sd, (vj q1), sd, (vi q2), (vi q3), (vi q4), (vi nv), (vi 1), (vi tv), (vr nb1), (vj bd), sd, (vr nb11), un, un, un, un, un, un, un] []))
    refine qi 191 X163 hx hby at_189 rfl rfl ?_
    refine q_ifn 194 X163 hx hby at_191 rfl ((if0 _ _).trans (tlt hgt).2.2.2) ?_
    refine qa 196 X163 hx hby at_194 rfl rfl ?_
    refine qa 198 X163 hx hby at_196 rfl rfl ?_
    refine qc1 199 0 X163 hx hby at_198 rfl rfl ?_
    refine qJ 200 X163 hx hZ e163 F168 0 (by decide) (by decide) (v := (.long (gv 0))) rfl hby at_199 rfl ?_
    obtain ⟨v177, T177, L177, h177, X177, e177, hQ177, st177⟩ := own_callV X163 hx hZ (y := mn2) hown (tw76 hw) (tw77 hw) (tw79 hw) (tw78 hw) (tw80 hw) (tw3 hw) (by decide) O163.exa (rm_addk l Z a0 hw [] nb11 (gv 0) b1 b2 b3 b4 b5 b6 b7 (1 : Int32) (1 : Int32) (2 : Int32) (0 : Int64) (0 : Int32) (0 : Int32) (0 : Int32) (0 : Int32) (0 : Int32) (0 : Int32) (0 : Int32) (0 : Int32) (updL (fun _ => (0 : Int64)) 0 bd) h163 n0 Z163 O163 F169 g_nb11 g_b1 hord (by decide) (by decide)) e163 (g := (mkF m 200 #[(vj q0), sd, (vj q1), sd, (vi q2), (vi q3), (vi q4), (vi nv), (vi 1), (vi tv), (vr nb1), (vj bd), sd, (vr nb11), un, un, un, un, un, un, un] [(.long (gv 0)), (.ref nb11)])) rfl (by rw [hml]; rfl) (argsL := [(.long (gv 0))]) (rest := []) (lenOf pd_pJrV rfl) rfl (W := 0) (by show 2 * 0 + _ ≤ _; exact Nat.le_of_eq rfl) (hb hby at_200) (by decide) (by decide) (by decide) (by decide)
    obtain ⟨rfl, Nq177, Kq177, O177, F177_b1⟩ := hQ177
    have N177 := Fr.app N163 Nq177
    have Z177 := Nat.le_trans Z163 Kq177.1
    rw [show ((1 : Int32) + (1 : Int32)) = (2 : Int32) by decide] at O177
    rw [show ((1 : Int32).toInt.toNat) = 1 by decide] at F177_b1
    refine qtr 203 #[(vj q0), sd, (vj q1), sd, (vi q2), (vi q3), (vi q4), (vi nv), (vi 1), (vi tv), (vr nb1), (vj bd), sd, (vr nb11), un, un, un, un, un, un, un] [] st177 ?_
    have F178 := (F168.keep Kq177 (ninS (Nat.ne_of_lt (Nat.lt_of_lt_of_le Fgv.lt (Nat.le_of_eq g11.symm))) (ninS on_b1 nin0)))
    have F179 := (F163_b2.keep Kq177 (ninS (Ne.symm (o02 hord)) (ninS (Ne.symm (o12 hord)) nin0)))
    have F180 := (F163_b3.keep Kq177 (ninS (Ne.symm (o03 hord)) (ninS (Ne.symm (o13 hord)) nin0)))
    have F181 := (F163_b4.keep Kq177 (ninS (Ne.symm (o04 hord)) (ninS (Ne.symm (o14 hord)) nin0)))
    have F182 := (F163_b5.keep Kq177 (ninS (Ne.symm (o05 hord)) (ninS (Ne.symm (o15 hord)) nin0)))
    have F183 := (F170.keep Kq177 (ninS (Ne.symm (o06 hord)) (ninS (Ne.symm (o16 hord)) nin0)))
    have F184 := (F171.keep Kq177 (ninS (Ne.symm (o07 hord)) (ninS (Ne.symm (o17 hord)) nin0)))
    rcases hn with rfl | hn
    · show OEnds p e below s _ _ _ (T177.setTop (mkF m 203 #[(vj q0), sd, (vj q1), sd, (vi q2), (vi q3), (vi q4), (vi 1), (vi 1), (vi tv), (vr nb1), (vj bd), sd, (vr nb11), un, un, un, un, un, un, un] []))
      refine qi 205 X177 hx hby at_203 rfl rfl ?_
      refine qc1 206 1 X177 hx hby at_205 rfl rfl ?_
      refine q_cmy 218 X177 hx hby at_206 rfl (flt (by decide : ¬ ((1 : Int32) < (1 : Int32)))).2.2.2 ?_
      refine qi 220 X177 hx hby at_218 rfl rfl ?_
      refine qc1 221 2 X177 hx hby at_220 rfl rfl ?_
      refine q_cmy 233 X177 hx hby at_221 rfl (flt (by decide : ¬ ((2 : Int32) < (1 : Int32)))).2.2.2 ?_
      refine qi 235 X177 hx hby at_233 rfl rfl ?_
      refine qc1 236 3 X177 hx hby at_235 rfl rfl ?_
      refine q_cmy 248 X177 hx hby at_236 rfl (flt (by decide : ¬ ((3 : Int32) < (1 : Int32)))).2.2.2 ?_
      refine qi 250 X177 hx hby at_248 rfl rfl ?_
      refine qc1 251 4 X177 hx hby at_250 rfl rfl ?_
      refine q_cmy 263 X177 hx hby at_251 rfl (flt (by decide : ¬ ((4 : Int32) < (1 : Int32)))).2.2.2 ?_
      refine qi 265 X177 hx hby at_263 rfl rfl ?_
      refine qc1 266 5 X177 hx hby at_265 rfl rfl ?_
      refine q_cmy 278 X177 hx hby at_266 rfl (flt (by decide : ¬ ((5 : Int32) < (1 : Int32)))).2.2.2 ?_
      refine qi 280 X177 hx hby at_278 rfl rfl ?_
      refine qc2 282 6 X177 hx hby at_280 rfl rfl ?_
      refine q_cmy 295 X177 hx hby at_282 rfl (flt (by decide : ¬ ((6 : Int32) < (1 : Int32)))).2.2.2 ?_
      refine qi 297 X177 hx hby at_295 rfl rfl ?_
      refine qc2 299 7 X177 hx hby at_297 rfl rfl ?_
      refine q_cmy 312 X177 hx hby at_299 rfl (flt (by decide : ¬ ((7 : Int32) < (1 : Int32)))).2.2.2 ?_
      refine qi 314 X177 hx hby at_312 rfl rfl ?_
      refine qc2 316 8 X177 hx hby at_314 rfl rfl ?_
      refine q_cmy 329 X177 hx hby at_316 rfl (flt (by decide : ¬ ((8 : Int32) < (1 : Int32)))).2.2.2 ?_
      refine qa 331 X177 hx hby at_329 rfl rfl ?_
      obtain ⟨v185, T185, L185, h185, X185, e185, hQ185, st185⟩ := own_callV X177 hx hZ (y := mn5) hown (tw25 hw) (tw26 hw) (tw28 hw) (tw27 hw) (tw29 hw) (tw3 hw) (by decide) O177.exa (rm_index2_1_1 l Z a0 hw [] nb11 b1 b2 b3 b4 b5 b6 b7 (2 : Int32) (0 : Int64) (0 : Int32) (0 : Int32) (0 : Int32) (0 : Int32) (0 : Int32) (0 : Int32) (0 : Int32) (0 : Int32) (updL (updL (fun _ => (0 : Int64)) 0 bd) 1 (gv 0)) f163_b2 (updI (fun _ => (0 : Int32)) 0 (0 : Int32)) (updI (fun _ => (0 : Int32)) 0 (1 : Int32)) (updI (fun _ => (0 : Int32)) 0 (0 : Int32)) 1 h177 n0 Z177 O177 F177_b1 F179 F180 F181 F182 g_nb11 g_b2 g_b3 g_b4 g_b5 hord (by subst ef163_b2; rfl) (by decide) (by decide) (by decide)) e177 (g := (mkF m 331 #[(vj q0), sd, (vj q1), sd, (vi q2), (vi q3), (vi q4), (vi 1), (vi 1), (vi tv), (vr nb1), (vj bd), sd, (vr nb11), un, un, un, un, un, un, un] [(.ref nb11)])) rfl (by rw [hml]; rfl) (argsL := []) (rest := []) (lenOf pd_prI rfl) rfl (W := 0) (by show 2 * 0 + _ ≤ _; exact Nat.le_of_eq rfl) (hb hby at_331) (by decide) (by decide) (by decide) (by decide)
      obtain ⟨rfl, Nq185, Kq185, c185, hcx185, O185, F2_185, F3_185, F4_185, F5_185⟩ := hQ185
      have N185 := Fr.app N177 Nq185
      have Z185 := Nat.le_trans Z177 Kq185.1
      refine qtr 334 #[(vj q0), sd, (vj q1), sd, (vi q2), (vi q3), (vi q4), (vi 1), (vi 1), (vi tv), (vr nb1), (vj bd), sd, (vr nb11), un, un, un, un, un, un, un] [(.int 1)] st185 ?_
      refine own_by (fun _ k => XS.pop X185.here hx rfl (hb hby at_334) rfl rfl k) ?_
      show OEnds p e below s _ _ _ (T185.setTop (mkF m 335 #[(vj q0), sd, (vj q1), sd, (vi q2), (vi q3), (vi q4), (vi 1), (vi 1), (vi tv), (vr nb1), (vj bd), sd, (vr nb11), un, un, un, un, un, un, un] []))
      have F186 := (F178.keep Kq185 (ninS (Nat.ne_of_lt (Nat.lt_of_lt_of_le Fgv.lt (Nat.le_of_eq g11.symm))) (ninS on_b2 (ninS on_b3 (ninS on_b4 (ninS on_b5 nin0))))))
      have F187 := (F177_b1.keep Kq185 (ninS (Ne.symm (o01 hord)) (ninS (o12 hord) (ninS (o13 hord) (ninS (o14 hord) (ninS (o15 hord) nin0))))))
      have F188 := (F183.keep Kq185 (ninS (Ne.symm (o06 hord)) (ninS (Ne.symm (o26 hord)) (ninS (Ne.symm (o36 hord)) (ninS (Ne.symm (o46 hord)) (ninS (Ne.symm (o56 hord)) nin0))))))
      have F189 := (F184.keep Kq185 (ninS (Ne.symm (o07 hord)) (ninS (Ne.symm (o27 hord)) (ninS (Ne.symm (o37 hord)) (ninS (Ne.symm (o47 hord)) (ninS (Ne.symm (o57 hord)) nin0))))))
      exact bl335 T185 _ (1 : Int32) (1 : Int32) (2 : Int32) (2 : Int32) (4 : Int32) (0 : Int64) (0 : Int32) (0 : Int32) (0 : Int32) (0 : Int32) (0 : Int32) (0 : Int32) (0 : Int32) (0 : Int32) (updL (updL (fun _ => (0 : Int64)) 0 bd) 1 (gv 0)) c185 (updI (updI (fun _ => (0 : Int32)) 0 (0 : Int32)) 1 (1 : Int32)) (updI (updI (fun _ => (0 : Int32)) 0 (1 : Int32)) 1 (2 : Int32)) (updI (updI (fun _ => (0 : Int32)) 0 (0 : Int32)) 1 (2 : Int32)) (fun _ => (0 : Int32)) (fun _ => (0 : Int32)) 1 1 (tv.toInt.toNat) h185 Z185 X185 e185 N185 O185 F186 F187 F2_185 F3_185 F4_185 F5_185 F188 F189 (by decide) (by decide) (by decide) (by decide) (tv_nn htv) (tv_le htv (by decide)) (by subst ef163_b2; rfl) (by subst ef163_b2; decide) (by subst ef163_b2; decide) (fun j hj => by have hj' : j = 0 := (by omega); subst ef163_b2; rcases hj' with rfl <;> rfl) (fun h => absurd h (by decide)) (fun h => absurd h (by decide))
    have hgt : (1 : Int32) < nv := by rcases hn with rfl | rfl | rfl | rfl | rfl | rfl | rfl | rfl <;> decide
    show OEnds p e below s _ _ _ (T177.setTop (mkF m 203 #[(vj q0), sd, (vj q1), sd, (vi q2), (vi q3), (vi q4), (vi nv), (vi 1), (vi tv), (vr nb1), (vj bd), sd, (vr nb11), un, un, un, un, un, un, un] []))
    refine qi 205 X177 hx hby at_203 rfl rfl ?_
    refine qc1 206 1 X177 hx hby at_205 rfl rfl ?_
    refine q_cmn 209 X177 hx hby at_206 rfl (tlt hgt).2.2.2 ?_
    refine qa 211 X177 hx hby at_209 rfl rfl ?_
    refine qa 213 X177 hx hby at_211 rfl rfl ?_
    refine qc1 214 1 X177 hx hby at_213 rfl rfl ?_
    refine qJ 215 X177 hx hZ e177 F178 1 (by decide) (by decide) (v := (.long (gv 1))) rfl hby at_214 rfl ?_
    obtain ⟨v190, T190, L190, h190, X190, e190, hQ190, st190⟩ := own_callV X177 hx hZ (y := mn2) hown (tw76 hw) (tw77 hw) (tw79 hw) (tw78 hw) (tw80 hw) (tw3 hw) (by decide) O177.exa (rm_addk l Z a0 hw [] nb11 (gv 1) b1 b2 b3 b4 b5 b6 b7 (1 : Int32) (2 : Int32) (2 : Int32) (0 : Int64) (0 : Int32) (0 : Int32) (0 : Int32) (0 : Int32) (0 : Int32) (0 : Int32) (0 : Int32) (0 : Int32) (updL (updL (fun _ => (0 : Int64)) 0 bd) 1 (gv 0)) h177 n0 Z177 O177 F177_b1 g_nb11 g_b1 hord (by decide) (by decide)) e177 (g := (mkF m 215 #[(vj q0), sd, (vj q1), sd, (vi q2), (vi q3), (vi q4), (vi nv), (vi 1), (vi tv), (vr nb1), (vj bd), sd, (vr nb11), un, un, un, un, un, un, un] [(.long (gv 1)), (.ref nb11)])) rfl (by rw [hml]; rfl) (argsL := [(.long (gv 1))]) (rest := []) (lenOf pd_pJrV rfl) rfl (W := 0) (by show 2 * 0 + _ ≤ _; exact Nat.le_of_eq rfl) (hb hby at_215) (by decide) (by decide) (by decide) (by decide)
    obtain ⟨rfl, Nq190, Kq190, O190, F190_b1⟩ := hQ190
    have N190 := Fr.app N177 Nq190
    have Z190 := Nat.le_trans Z177 Kq190.1
    rw [show ((2 : Int32) + (1 : Int32)) = (3 : Int32) by decide] at O190
    rw [show ((2 : Int32).toInt.toNat) = 2 by decide] at F190_b1
    obtain ⟨f190_b1, ef190_b1⟩ : ∃ fz_ : Nat → Int64, fz_ = (updL (updL (updL (fun _ => (0 : Int64)) 0 bd) 1 (gv 0)) 2 (gv 1)) := ⟨_, rfl⟩
    rw [← ef190_b1] at F190_b1
    refine qtr 218 #[(vj q0), sd, (vj q1), sd, (vi q2), (vi q3), (vi q4), (vi nv), (vi 1), (vi tv), (vr nb1), (vj bd), sd, (vr nb11), un, un, un, un, un, un, un] [] st190 ?_
    have F191 := (F178.keep Kq190 (ninS (Nat.ne_of_lt (Nat.lt_of_lt_of_le Fgv.lt (Nat.le_of_eq g11.symm))) (ninS on_b1 nin0)))
    have F192 := (F179.keep Kq190 (ninS (Ne.symm (o02 hord)) (ninS (Ne.symm (o12 hord)) nin0)))
    have F193 := (F180.keep Kq190 (ninS (Ne.symm (o03 hord)) (ninS (Ne.symm (o13 hord)) nin0)))
    have F194 := (F181.keep Kq190 (ninS (Ne.symm (o04 hord)) (ninS (Ne.symm (o14 hord)) nin0)))
    have F195 := (F182.keep Kq190 (ninS (Ne.symm (o05 hord)) (ninS (Ne.symm (o15 hord)) nin0)))
    have F196 := (F183.keep Kq190 (ninS (Ne.symm (o06 hord)) (ninS (Ne.symm (o16 hord)) nin0)))
    have F197 := (F184.keep Kq190 (ninS (Ne.symm (o07 hord)) (ninS (Ne.symm (o17 hord)) nin0)))
    rcases hn with rfl | hn
    · show OEnds p e below s _ _ _ (T190.setTop (mkF m 218 #[(vj q0), sd, (vj q1), sd, (vi q2), (vi q3), (vi q4), (vi 2), (vi 1), (vi tv), (vr nb1), (vj bd), sd, (vr nb11), un, un, un, un, un, un, un] []))
      refine qi 220 X190 hx hby at_218 rfl rfl ?_
      refine qc1 221 2 X190 hx hby at_220 rfl rfl ?_
      refine q_cmy 233 X190 hx hby at_221 rfl (flt (by decide : ¬ ((2 : Int32) < (2 : Int32)))).2.2.2 ?_
      refine qi 235 X190 hx hby at_233 rfl rfl ?_
      refine qc1 236 3 X190 hx hby at_235 rfl rfl ?_
      refine q_cmy 248 X190 hx hby at_236 rfl (flt (by decide : ¬ ((3 : Int32) < (2 : Int32)))).2.2.2 ?_
      refine qi 250 X190 hx hby at_248 rfl rfl ?_
      refine qc1 251 4 X190 hx hby at_250 rfl rfl ?_
      refine q_cmy 263 X190 hx hby at_251 rfl (flt (by decide : ¬ ((4 : Int32) < (2 : Int32)))).2.2.2 ?_
      refine qi 265 X190 hx hby at_263 rfl rfl ?_
      refine qc1 266 5 X190 hx hby at_265 rfl rfl ?_
      refine q_cmy 278 X190 hx hby at_266 rfl (flt (by decide : ¬ ((5 : Int32) < (2 : Int32)))).2.2.2 ?_
      refine qi 280 X190 hx hby at_278 rfl rfl ?_
      refine qc2 282 6 X190 hx hby at_280 rfl rfl ?_
      refine q_cmy 295 X190 hx hby at_282 rfl (flt (by decide : ¬ ((6 : Int32) < (2 : Int32)))).2.2.2 ?_
      refine qi 297 X190 hx hby at_295 rfl rfl ?_
      refine qc2 299 7 X190 hx hby at_297 rfl rfl ?_
      refine q_cmy 312 X190 hx hby at_299 rfl (flt (by decide : ¬ ((7 : Int32) < (2 : Int32)))).2.2.2 ?_
      refine qi 314 X190 hx hby at_312 rfl rfl ?_
      refine qc2 316 8 X190 hx hby at_314 rfl rfl ?_
      refine q_cmy 329 X190 hx hby at_316 rfl (flt (by decide : ¬ ((8 : Int32) < (2 : Int32)))).2.2.2 ?_
      refine qa 331 X190 hx hby at_329 rfl rfl ?_
      obtain ⟨v198, T198, L198, h198, X198, e198, hQ198, st198⟩ := own_callV X190 hx hZ (y := mn5) hown (tw25 hw) (tw26 hw) (tw28 hw) (tw27 hw) (tw29 hw) (tw3 hw) (by decide) O190.exa (rm_index2_1_1 l Z a0 hw [] nb11 b1 b2 b3 b4 b5 b6 b7 (3 : Int32) (0 : Int64) (0 : Int32) (0 : Int32) (0 : Int32) (0 : Int32) (0 : Int32) (0 : Int32) (0 : Int32) (0 : Int32) f190_b1 f163_b2 (updI (fun _ => (0 : Int32)) 0 (0 : Int32)) (updI (fun _ => (0 : Int32)) 0 (1 : Int32)) (updI (fun _ => (0 : Int32)) 0 (0 : Int32)) 2 h190 n0 Z190 O190 F190_b1 F192 F193 F194 F195 g_nb11 g_b2 g_b3 g_b4 g_b5 hord (by subst ef190_b1 ef163_b2; rfl) (by decide) (by decide) (by decide)) e190 (g := (mkF m 331 #[(vj q0), sd, (vj q1), sd, (vi q2), (vi q3), (vi q4), (vi 2), (vi 1), (vi tv), (vr nb1), (vj bd), sd, (vr nb11), un, un, un, un, un, un, un] [(.ref nb11)])) rfl (by rw [hml]; rfl) (argsL := []) (rest := []) (lenOf pd_prI rfl) rfl (W := 0) (by show 2 * 0 + _ ≤ _; exact Nat.le_of_eq rfl) (hb hby at_331) (by decide) (by decide) (by decide) (by decide)
      obtain ⟨rfl, Nq198, Kq198, c198, hcx198, O198, F2_198, F3_198, F4_198, F5_198⟩ := hQ198
      have N198 := Fr.app N190 Nq198
      have Z198 := Nat.le_trans Z190 Kq198.1
      refine qtr 334 #[(vj q0), sd, (vj q1), sd, (vi q2), (vi q3), (vi q4), (vi 2), (vi 1), (vi tv), (vr nb1), (vj bd), sd, (vr nb11), un, un, un, un, un, un, un] [(.int 1)] st198 ?_
      refine own_by (fun _ k => XS.pop X198.here hx rfl (hb hby at_334) rfl rfl k) ?_
      show OEnds p e below s _ _ _ (T198.setTop (mkF m 335 #[(vj q0), sd, (vj q1), sd, (vi q2), (vi q3), (vi q4), (vi 2), (vi 1), (vi tv), (vr nb1), (vj bd), sd, (vr nb11), un, un, un, un, un, un, un] []))
      have F199 := (F191.keep Kq198 (ninS (Nat.ne_of_lt (Nat.lt_of_lt_of_le Fgv.lt (Nat.le_of_eq g11.symm))) (ninS on_b2 (ninS on_b3 (ninS on_b4 (ninS on_b5 nin0))))))
      have F200 := (F190_b1.keep Kq198 (ninS (Ne.symm (o01 hord)) (ninS (o12 hord) (ninS (o13 hord) (ninS (o14 hord) (ninS (o15 hord) nin0))))))
      have F201 := (F196.keep Kq198 (ninS (Ne.symm (o06 hord)) (ninS (Ne.symm (o26 hord)) (ninS (Ne.symm (o36 hord)) (ninS (Ne.symm (o46 hord)) (ninS (Ne.symm (o56 hord)) nin0))))))
      have F202 := (F197.keep Kq198 (ninS (Ne.symm (o07 hord)) (ninS (Ne.symm (o27 hord)) (ninS (Ne.symm (o37 hord)) (ninS (Ne.symm (o47 hord)) (ninS (Ne.symm (o57 hord)) nin0))))))
      exact bl335 T198 _ (2 : Int32) (1 : Int32) (2 : Int32) (3 : Int32) (4 : Int32) (0 : Int64) (0 : Int32) (0 : Int32) (0 : Int32) (0 : Int32) (0 : Int32) (0 : Int32) (0 : Int32) (0 : Int32) f190_b1 c198 (updI (updI (fun _ => (0 : Int32)) 0 (0 : Int32)) 1 (1 : Int32)) (updI (updI (fun _ => (0 : Int32)) 0 (1 : Int32)) 1 (3 : Int32)) (updI (updI (fun _ => (0 : Int32)) 0 (0 : Int32)) 1 (2 : Int32)) (fun _ => (0 : Int32)) (fun _ => (0 : Int32)) 1 2 (tv.toInt.toNat) h198 Z198 X198 e198 N198 O198 F199 F200 F2_198 F3_198 F4_198 F5_198 F201 F202 (by decide) (by decide) (by decide) (by decide) (tv_nn htv) (tv_le htv (by decide)) (by subst ef190_b1 ef163_b2; rfl) (by subst ef190_b1 ef163_b2; decide) (by subst ef190_b1 ef163_b2; decide) (fun j hj => by have hj' : j = 0 ∨ j = 1 := (by omega); subst ef190_b1 ef163_b2; rcases hj' with rfl | rfl <;> rfl) (fun h => absurd h (by decide)) (fun h => absurd h (by decide))
    have hgt : (2 : Int32) < nv := by rcases hn with rfl | rfl | rfl | rfl | rfl | rfl | rfl <;> decide
    show OEnds p e below s _ _ _ (T190.setTop (mkF m 218 #[(vj q0), sd, (vj q1), sd, (vi q2), (vi q3), (vi q4), (vi nv), (vi 1), (vi tv), (vr nb1), (vj bd), sd, (vr nb11), un, un, un, un, un, un, un] []))
    refine qi 220 X190 hx hby at_218 rfl rfl ?_
    refine qc1 221 2 X190 hx hby at_220 rfl rfl ?_
    refine q_cmn 224 X190 hx hby at_221 rfl (tlt hgt).2.2.2 ?_
    refine qa 226 X190 hx hby at_224 rfl rfl ?_
    refine qa 228 X190 hx hby at_226 rfl rfl ?_
    refine qc1 229 2 X190 hx hby at_228 rfl rfl ?_
    refine qJ 230 X190 hx hZ e190 F191 2 (by decide) (by decide) (v := (.long (gv 2))) rfl hby at_229 rfl ?_
    obtain ⟨v203, T203, L203, h203, X203, e203, hQ203, st203⟩ := own_callV X190 hx hZ (y := mn2) hown (tw76 hw) (tw77 hw) (tw79 hw) (tw78 hw) (tw80 hw) (tw3 hw) (by decide) O190.exa (rm_addk l Z a0 hw [] nb11 (gv 2) b1 b2 b3 b4 b5 b6 b7 (1 : Int32) (3 : Int32) (2 : Int32) (0 : Int64) (0 : Int32) (0 : Int32) (0 : Int32) (0 : Int32) (0 : Int32) (0 : Int32) (0 : Int32) (0 : Int32) f190_b1 h190 n0 Z190 O190 F190_b1 g_nb11 g_b1 hord (by decide) (by decide)) e190 (g := (mkF m 230 #[(vj q0), sd, (vj q1), sd, (vi q2), (vi q3), (vi q4), (vi nv), (vi 1), (vi tv), (vr nb1), (vj bd), sd, (vr nb11), un, un, un, un, un, un, un] [(.long (gv 2)), (.ref nb11)])) rfl (by rw [hml]; rfl) (argsL := [(.long (gv 2))]) (rest := []) (lenOf pd_pJrV rfl) rfl (W := 0) (by show 2 * 0 + _ ≤ _; exact Nat.le_of_eq rfl) (hb hby at_230) (by decide) (by decide) (by decide) (by decide)
    obtain ⟨rfl, Nq203, Kq203, O203, F203_b1⟩ := hQ203
    have N203 := Fr.app N190 Nq203
    have Z203 := Nat.le_trans Z190 Kq203.1
    rw [show ((3 : Int32) + (1 : Int32)) = (4 : Int32) by decide] at O203
    rw [show ((3 : Int32).toInt.toNat) = 3 by decide] at F203_b1
    refine qtr 233 #[(vj q0), sd, (vj q1), sd, (vi q2), (vi q3), (vi q4), (vi nv), (vi 1), (vi tv), (vr nb1), (vj bd), sd, (vr nb11), un, un, un, un, un, un, un] [] st203 ?_
    have F204 := (F191.keep Kq203 (ninS (Nat.ne_of_lt (Nat.lt_of_lt_of_le Fgv.lt (Nat.le_of_eq g11.symm))) (ninS on_b1 nin0)))
    have F205 := (F192.keep Kq203 (ninS (Ne.symm (o02 hord)) (ninS (Ne.symm (o12 hord)) nin0)))
    have F206 := (F193.keep Kq203 (ninS (Ne.symm (o03 hord)) (ninS (Ne.symm (o13 hord)) nin0)))
    have F207 := (F194.keep Kq203 (ninS (Ne.symm (o04 hord)) (ninS (Ne.symm (o14 hord)) nin0)))
    have F208 := (F195.keep Kq203 (ninS (Ne.symm (o05 hord)) (ninS (Ne.symm (o15 hord)) nin0)))
    have F209 := (F196.keep Kq203 (ninS (Ne.symm (o06 hord)) (ninS (Ne.symm (o16 hord)) nin0)))
    have F210 := (F197.keep Kq203 (ninS (Ne.symm (o07 hord)) (ninS (Ne.symm (o17 hord)) nin0)))
    rcases hn with rfl | hn
    · show OEnds p e below s _ _ _ (T203.setTop (mkF m 233 #[(vj q0), sd, (vj q1), sd, (vi q2), (vi q3), (vi q4), (vi 3), (vi 1), (vi tv), (vr nb1), (vj bd), sd, (vr nb11), un, un, un, un, un, un, un] []))
      refine qi 235 X203 hx hby at_233 rfl rfl ?_
      refine qc1 236 3 X203 hx hby at_235 rfl rfl ?_
      refine q_cmy 248 X203 hx hby at_236 rfl (flt (by decide : ¬ ((3 : Int32) < (3 : Int32)))).2.2.2 ?_
      refine qi 250 X203 hx hby at_248 rfl rfl ?_
      refine qc1 251 4 X203 hx hby at_250 rfl rfl ?_
      refine q_cmy 263 X203 hx hby at_251 rfl (flt (by decide : ¬ ((4 : Int32) < (3 : Int32)))).2.2.2 ?_
      refine qi 265 X203 hx hby at_263 rfl rfl ?_
      refine qc1 266 5 X203 hx hby at_265 rfl rfl ?_
      refine q_cmy 278 X203 hx hby at_266 rfl (flt (by decide : ¬ ((5 : Int32) < (3 : Int32)))).2.2.2 ?_
      refine qi 280 X203 hx hby at_278 rfl rfl ?_
      refine qc2 282 6 X203 hx hby at_280 rfl rfl ?_
      refine q_cmy 295 X203 hx hby at_282 rfl (flt (by decide : ¬ ((6 : Int32) < (3 : Int32)))).2.2.2 ?_
      refine qi 297 X203 hx hby at_295 rfl rfl ?_
      refine qc2 299 7 X203 hx hby at_297 rfl rfl ?_
      refine q_cmy 312 X203 hx hby at_299 rfl (flt (by decide : ¬ ((7 : Int32) < (3 : Int32)))).2.2.2 ?_
      refine qi 314 X203 hx hby at_312 rfl rfl ?_
      refine qc2 316 8 X203 hx hby at_314 rfl rfl ?_
      refine q_cmy 329 X203 hx hby at_316 rfl (flt (by decide : ¬ ((8 : Int32) < (3 : Int32)))).2.2.2 ?_
      refine qa 331 X203 hx hby at_329 rfl rfl ?_
      obtain ⟨v211, T211, L211, h211, X211, e211, hQ211, st211⟩ := own_callV X203 hx hZ (y := mn5) hown (tw25 hw) (tw26 hw) (tw28 hw) (tw27 hw) (tw29 hw) (tw3 hw) (by decide) O203.exa (rm_index2_1_1 l Z a0 hw [] nb11 b1 b2 b3 b4 b5 b6 b7 (4 : Int32) (0 : Int64) (0 : Int32) (0 : Int32) (0 : Int32) (0 : Int32) (0 : Int32) (0 : Int32) (0 : Int32) (0 : Int32) (updL f190_b1 3 (gv 2)) f163_b2 (updI (fun _ => (0 : Int32)) 0 (0 : Int32)) (updI (fun _ => (0 : Int32)) 0 (1 : Int32)) (updI (fun _ => (0 : Int32)) 0 (0 : Int32)) 3 h203 n0 Z203 O203 F203_b1 F205 F206 F207 F208 g_nb11 g_b2 g_b3 g_b4 g_b5 hord (by subst ef190_b1 ef163_b2; rfl) (by decide) (by decide) (by decide)) e203 (g := (mkF m 331 #[(vj q0), sd, (vj q1), sd, (vi q2), (vi q3), (vi q4), (vi 3), (vi 1), (vi tv), (vr nb1), (vj bd), sd, (vr nb11), un, un, un, un, un, un, un] [(.ref nb11)])) rfl (by rw [hml]; rfl) (argsL := []) (rest := []) (lenOf pd_prI rfl) rfl (W := 0) (by show 2 * 0 + _ ≤ _; exact Nat.le_of_eq rfl) (hb hby at_331) (by decide) (by decide) (by decide) (by decide)
      obtain ⟨rfl, Nq211, Kq211, c211, hcx211, O211, F2_211, F3_211, F4_211, F5_211⟩ := hQ211
      have N211 := Fr.app N203 Nq211
      have Z211 := Nat.le_trans Z203 Kq211.1
      refine qtr 334 #[(vj q0), sd, (vj q1), sd, (vi q2), (vi q3), (vi q4), (vi 3), (vi 1), (vi tv), (vr nb1), (vj bd), sd, (vr nb11), un, un, un, un, un, un, un] [(.int 1)] st211 ?_
      refine own_by (fun _ k => XS.pop X211.here hx rfl (hb hby at_334) rfl rfl k) ?_
      show OEnds p e below s _ _ _ (T211.setTop (mkF m 335 #[(vj q0), sd, (vj q1), sd, (vi q2), (vi q3), (vi q4), (vi 3), (vi 1), (vi tv), (vr nb1), (vj bd), sd, (vr nb11), un, un, un, un, un, un, un] []))
      have F212 := (F204.keep Kq211 (ninS (Nat.ne_of_lt (Nat.lt_of_lt_of_le Fgv.lt (Nat.le_of_eq g11.symm))) (ninS on_b2 (ninS on_b3 (ninS on_b4 (ninS on_b5 nin0))))))
      have F213 := (F203_b1.keep Kq211 (ninS (Ne.symm (o01 hord)) (ninS (o12 hord) (ninS (o13 hord) (ninS (o14 hord) (ninS (o15 hord) nin0))))))
      have F214 := (F209.keep Kq211 (ninS (Ne.symm (o06 hord)) (ninS (Ne.symm (o26 hord)) (ninS (Ne.symm (o36 hord)) (ninS (Ne.symm (o46 hord)) (ninS (Ne.symm (o56 hord)) nin0))))))
      have F215 := (F210.keep Kq211 (ninS (Ne.symm (o07 hord)) (ninS (Ne.symm (o27 hord)) (ninS (Ne.symm (o37 hord)) (ninS (Ne.symm (o47 hord)) (ninS (Ne.symm (o57 hord)) nin0))))))
      exact bl335 T211 _ (3 : Int32) (1 : Int32) (2 : Int32) (4 : Int32) (4 : Int32) (0 : Int64) (0 : Int32) (0 : Int32) (0 : Int32) (0 : Int32) (0 : Int32) (0 : Int32) (0 : Int32) (0 : Int32) (updL f190_b1 3 (gv 2)) c211 (updI (updI (fun _ => (0 : Int32)) 0 (0 : Int32)) 1 (1 : Int32)) (updI (updI (fun _ => (0 : Int32)) 0 (1 : Int32)) 1 (4 : Int32)) (updI (updI (fun _ => (0 : Int32)) 0 (0 : Int32)) 1 (2 : Int32)) (fun _ => (0 : Int32)) (fun _ => (0 : Int32)) 1 3 (tv.toInt.toNat) h211 Z211 X211 e211 N211 O211 F212 F213 F2_211 F3_211 F4_211 F5_211 F214 F215 (by decide) (by decide) (by decide) (by decide) (tv_nn htv) (tv_le htv (by decide)) (by subst ef190_b1 ef163_b2; rfl) (by subst ef190_b1 ef163_b2; decide) (by subst ef190_b1 ef163_b2; decide) (fun j hj => by have hj' : j = 0 ∨ j = 1 ∨ j = 2 := (by omega); subst ef190_b1 ef163_b2; rcases hj' with rfl | rfl | rfl <;> rfl) (fun h => absurd h (by decide)) (fun h => absurd h (by decide))
    have hgt : (3 : Int32) < nv := by rcases hn with rfl | rfl | rfl | rfl | rfl | rfl <;> decide
    show OEnds p e below s _ _ _ (T203.setTop (mkF m 233 #[(vj q0), sd, (vj q1), sd, (vi q2), (vi q3), (vi q4), (vi nv), (vi 1), (vi tv), (vr nb1), (vj bd), sd, (vr nb11), un, un, un, un, un, un, un] []))
    refine qi 235 X203 hx hby at_233 rfl rfl ?_
    refine qc1 236 3 X203 hx hby at_235 rfl rfl ?_
    refine q_cmn 239 X203 hx hby at_236 rfl (tlt hgt).2.2.2 ?_
    refine qa 241 X203 hx hby at_239 rfl rfl ?_
    refine qa 243 X203 hx hby at_241 rfl rfl ?_
    refine qc1 244 3 X203 hx hby at_243 rfl rfl ?_
    refine qJ 245 X203 hx hZ e203 F204 3 (by decide) (by decide) (v := (.long (gv 3))) rfl hby at_244 rfl ?_
    obtain ⟨v216, T216, L216, h216, X216, e216, hQ216, st216⟩ := own_callV X203 hx hZ (y := mn2) hown (tw76 hw) (tw77 hw) (tw79 hw) (tw78 hw) (tw80 hw) (tw3 hw) (by decide) O203.exa (rm_addk l Z a0 hw [] nb11 (gv 3) b1 b2 b3 b4 b5 b6 b7 (1 : Int32) (4 : Int32) (2 : Int32) (0 : Int64) (0 : Int32) (0 : Int32) (0 : Int32) (0 : Int32) (0 : Int32) (0 : Int32) (0 : Int32) (0 : Int32) (updL f190_b1 3 (gv 2)) h203 n0 Z203 O203 F203_b1 g_nb11 g_b1 hord (by decide) (by decide)) e203 (g := (mkF m 245 #[(vj q0), sd, (vj q1), sd, (vi q2), (vi q3), (vi q4), (vi nv), (vi 1), (vi tv), (vr nb1), (vj bd), sd, (vr nb11), un, un, un, un, un, un, un] [(.long (gv 3)), (.ref nb11)])) rfl (by rw [hml]; rfl) (argsL := [(.long (gv 3))]) (rest := []) (lenOf pd_pJrV rfl) rfl (W := 0) (by show 2 * 0 + _ ≤ _; exact Nat.le_of_eq rfl) (hb hby at_245) (by decide) (by decide) (by decide) (by decide)
    obtain ⟨rfl, Nq216, Kq216, O216, F216_b1⟩ := hQ216
    have N216 := Fr.app N203 Nq216
    have Z216 := Nat.le_trans Z203 Kq216.1
    rw [show ((4 : Int32) + (1 : Int32)) = (5 : Int32) by decide] at O216
    rw [show ((4 : Int32).toInt.toNat) = 4 by decide] at F216_b1
    refine qtr 248 #[(vj q0), sd, (vj q1), sd, (vi q2), (vi q3), (vi q4), (vi nv), (vi 1), (vi tv), (vr nb1), (vj bd), sd, (vr nb11), un, un, un, un, un, un, un] [] st216 ?_
    have F217 := (F204.keep Kq216 (ninS (Nat.ne_of_lt (Nat.lt_of_lt_of_le Fgv.lt (Nat.le_of_eq g11.symm))) (ninS on_b1 nin0)))
    have F218 := (F205.keep Kq216 (ninS (Ne.symm (o02 hord)) (ninS (Ne.symm (o12 hord)) nin0)))
    have F219 := (F206.keep Kq216 (ninS (Ne.symm (o03 hord)) (ninS (Ne.symm (o13 hord)) nin0)))
    have F220 := (F207.keep Kq216 (ninS (Ne.symm (o04 hord)) (ninS (Ne.symm (o14 hord)) nin0)))
    have F221 := (F208.keep Kq216 (ninS (Ne.symm (o05 hord)) (ninS (Ne.symm (o15 hord)) nin0)))
    have F222 := (F209.keep Kq216 (ninS (Ne.symm (o06 hord)) (ninS (Ne.symm (o16 hord)) nin0)))
    have F223 := (F210.keep Kq216 (ninS (Ne.symm (o07 hord)) (ninS (Ne.symm (o17 hord)) nin0)))
    rcases hn with rfl | hn
    · show OEnds p e below s _ _ _ (T216.setTop (mkF m 248 #[(vj q0), sd, (vj q1), sd, (vi q2), (vi q3), (vi q4), (vi 4), (vi 1), (vi tv), (vr nb1), (vj bd), sd, (vr nb11), un, un, un, un, un, un, un] []))
      refine qi 250 X216 hx hby at_248 rfl rfl ?_
      refine qc1 251 4 X216 hx hby at_250 rfl rfl ?_
      refine q_cmy 263 X216 hx hby at_251 rfl (flt (by decide : ¬ ((4 : Int32) < (4 : Int32)))).2.2.2 ?_
      refine qi 265 X216 hx hby at_263 rfl rfl ?_
      refine qc1 266 5 X216 hx hby at_265 rfl rfl ?_
      refine q_cmy 278 X216 hx hby at_266 rfl (flt (by decide : ¬ ((5 : Int32) < (4 : Int32)))).2.2.2 ?_
      refine qi 280 X216 hx hby at_278 rfl rfl ?_
      refine qc2 282 6 X216 hx hby at_280 rfl rfl ?_
      refine q_cmy 295 X216 hx hby at_282 rfl (flt (by decide : ¬ ((6 : Int32) < (4 : Int32)))).2.2.2 ?_
      refine qi 297 X216 hx hby at_295 rfl rfl ?_
      refine qc2 299 7 X216 hx hby at_297 rfl rfl ?_
      refine q_cmy 312 X216 hx hby at_299 rfl (flt (by decide : ¬ ((7 : Int32) < (4 : Int32)))).2.2.2 ?_
      refine qi 314 X216 hx hby at_312 rfl rfl ?_
      refine qc2 316 8 X216 hx hby at_314 rfl rfl ?_
      refine q_cmy 329 X216 hx hby at_316 rfl (flt (by decide : ¬ ((8 : Int32) < (4 : Int32)))).2.2.2 ?_
      refine qa 331 X216 hx hby at_329 rfl rfl ?_
      obtain ⟨v224, T224, L224, h224, X224, e224, hQ224, st224⟩ := own_callV X216 hx hZ (y := mn5) hown (tw25 hw) (tw26 hw) (tw28 hw) (tw27 hw) (tw29 hw) (tw3 hw) (by decide) O216.exa (rm_index2_1_1 l Z a0 hw [] nb11 b1 b2 b3 b4 b5 b6 b7 (5 : Int32) (0 : Int64) (0 : Int32) (0 : Int32) (0 : Int32) (0 : Int32) (0 : Int32) (0 : Int32) (0 : Int32) (0 : Int32) (updL (updL f190_b1 3 (gv 2)) 4 (gv 3)) f163_b2 (updI (fun _ => (0 : Int32)) 0 (0 : Int32)) (updI (fun _ => (0 : Int32)) 0 (1 : Int32)) (updI (fun _ => (0 : Int32)) 0 (0 : Int32)) 4 h216 n0 Z216 O216 F216_b1 F218 F219 F220 F221 g_nb11 g_b2 g_b3 g_b4 g_b5 hord (by subst ef190_b1 ef163_b2; rfl) (by decide) (by decide) (by decide)) e216 (g := (mkF m 331 #[(vj q0), sd, (vj q1), sd, (vi q2), (vi q3), (vi q4), (vi 4), (vi 1), (vi tv), (vr nb1), (vj bd), sd, (vr nb11), un, un, un, un, un, un, un] [(.ref nb11)])) rfl (by rw [hml]; rfl) (argsL := []) (rest := []) (lenOf pd_prI rfl) rfl (W := 0) (by show 2 * 0 + _ ≤ _; exact Nat.le_of_eq rfl) (hb hby at_331) (by decide) (by decide) (by decide) (by decide)
      obtain ⟨rfl, Nq224, Kq224, c224, hcx224, O224, F2_224, F3_224, F4_224, F5_224⟩ := hQ224
      have N224 := Fr.app N216 Nq224
      have Z224 := Nat.le_trans Z216 Kq224.1
      refine qtr 334 #[(vj q0), sd, (vj q1), sd, (vi q2), (vi q3), (vi q4), (vi 4), (vi 1), (vi tv), (vr nb1), (vj bd), sd, (vr nb11), un, un, un, un, un, un, un] [(.int 1)] st224 ?_
      refine own_by (fun _ k => XS.pop X224.here hx rfl (hb hby at_334) rfl rfl k) ?_
      show OEnds p e below s _ _ _ (T224.setTop (mkF m 335 #[(vj q0), sd, (vj q1), sd, (vi q2), (vi q3), (vi q4), (vi 4), (vi 1), (vi tv), (vr nb1), (vj bd), sd, (vr nb11), un, un, un, un, un, un, un] []))
      have F225 := (F217.keep Kq224 (ninS (Nat.ne_of_lt (Nat.lt_of_lt_of_le Fgv.lt (Nat.le_of_eq g11.symm))) (ninS on_b2 (ninS on_b3 (ninS on_b4 (ninS on_b5 nin0))))))
      have F226 := (F216_b1.keep Kq224 (ninS (Ne.symm (o01 hord)) (ninS (o12 hord) (ninS (o13 hord) (ninS (o14 hord) (ninS (o15 hord) nin0))))))
      have F227 := (F222.keep Kq224 (ninS (Ne.symm (o06 hord)) (ninS (Ne.symm (o26 hord)) (ninS (Ne.symm (o36 hord)) (ninS (Ne.symm (o46 hord)) (ninS (Ne.symm (o56 hord)) nin0))))))
      have F228 := (F223.keep Kq224 (ninS (Ne.symm (o07 hord)) (ninS (Ne.symm (o27 hord)) (ninS (Ne.symm (o37 hord)) (ninS (Ne.symm (o47 hord)) (ninS (Ne.symm (o57 hord)) nin0))))))
      exact bl335 T224 _ (4 : Int32) (1 : Int32) (2 : Int32) (5 : Int32) (4 : Int32) (0 : Int64) (0 : Int32) (0 : Int32) (0 : Int32) (0 : Int32) (0 : Int32) (0 : Int32) (0 : Int32) (0 : Int32) (updL (updL f190_b1 3 (gv 2)) 4 (gv 3)) c224 (updI (updI (fun _ => (0 : Int32)) 0 (0 : Int32)) 1 (1 : Int32)) (updI (updI (fun _ => (0 : Int32)) 0 (1 : Int32)) 1 (5 : Int32)) (updI (updI (fun _ => (0 : Int32)) 0 (0 : Int32)) 1 (2 : Int32)) (fun _ => (0 : Int32)) (fun _ => (0 : Int32)) 1 4 (tv.toInt.toNat) h224 Z224 X224 e224 N224 O224 F225 F226 F2_224 F3_224 F4_224 F5_224 F227 F228 (by decide) (by decide) (by decide) (by decide) (tv_nn htv) (tv_le htv (by decide)) (by subst ef190_b1 ef163_b2; rfl) (by subst ef190_b1 ef163_b2; decide) (by subst ef190_b1 ef163_b2; decide) (fun j hj => by have hj' : j = 0 ∨ j = 1 ∨ j = 2 ∨ j = 3 := (by omega); subst ef190_b1 ef163_b2; rcases hj' with rfl | rfl | rfl | rfl <;> rfl) (fun h => absurd h (by decide)) (fun h => absurd h (by decide))
    have hgt : (4 : Int32) < nv := by rcases hn with rfl | rfl | rfl | rfl | rfl <;> decide
    show OEnds p e below s _ _ _ (T216.setTop (mkF m 248 #[(vj q0), sd, (vj q1), sd, (vi q2), (vi q3), (vi q4), (vi nv), (vi 1), (vi tv), (vr nb1), (vj bd), sd, (vr nb11), un, un, un, un, un, un, un] []))
    refine qi 250 X216 hx hby at_248 rfl rfl ?_
    refine qc1 251 4 X216 hx hby at_250 rfl rfl ?_
    refine q_cmn 254 X216 hx hby at_251 rfl (tlt hgt).2.2.2 ?_
    refine qa 256 X216 hx hby at_254 rfl rfl ?_
    refine qa 258 X216 hx hby at_256 rfl rfl ?_
    refine qc1 259 4 X216 hx hby at_258 rfl rfl ?_
    refine qJ 260 X216 hx hZ e216 F217 4 (by decide) (by decide) (v := (.long (gv 4))) rfl hby at_259 rfl ?_
    obtain ⟨v229, T229, L229, h229, X229, e229, hQ229, st229⟩ := own_callV X216 hx hZ (y := mn2) hown (tw76 hw) (tw77 hw) (tw79 hw) (tw78 hw) (tw80 hw) (tw3 hw) (by decide) O216.exa (rm_addk l Z a0 hw [] nb11 (gv 4) b1 b2 b3 b4 b5 b6 b7 (1 : Int32) (5 : Int32) (2 : Int32) (0 : Int64) (0 : Int32) (0 : Int32) (0 : Int32) (0 : Int32) (0 : Int32) (0 : Int32) (0 : Int32) (0 : Int32) (updL (updL f190_b1 3 (gv 2)) 4 (gv 3)) h216 n0 Z216 O216 F216_b1 g_nb11 g_b1 hord (by decide) (by decide)) e216 (g := (mkF m 260 #[(vj q0), sd, (vj q1), sd, (vi q2), (vi q3), (vi q4), (vi nv), (vi 1), (vi tv), (vr nb1), (vj bd), sd, (vr nb11), un, un, un, un, un, un, un] [(.long (gv 4)), (.ref nb11)])) rfl (by rw [hml]; rfl) (argsL := [(.long (gv 4))]) (rest := []) (lenOf pd_pJrV rfl) rfl (W := 0) (by show 2 * 0 + _ ≤ _; exact Nat.le_of_eq rfl) (hb hby at_260) (by decide) (by decide) (by decide) (by decide)
    obtain ⟨rfl, Nq229, Kq229, O229, F229_b1⟩ := hQ229
    have N229 := Fr.app N216 Nq229
    have Z229 := Nat.le_trans Z216 Kq229.1
    rw [show ((5 : Int32) + (1 : Int32)) = (6 : Int32) by decide] at O229
    rw [show ((5 : Int32).toInt.toNat) = 5 by decide] at F229_b1
    refine qtr 263 #[(vj q0), sd, (vj q1), sd, (vi q2), (vi q3), (vi q4), (vi nv), (vi 1), (vi tv), (vr nb1), (vj bd), sd, (vr nb11), un, un, un, un, un, un, un] [] st229 ?_
    have F230 := (F217.keep Kq229 (ninS (Nat.ne_of_lt (Nat.lt_of_lt_of_le Fgv.lt (Nat.le_of_eq g11.symm))) (ninS on_b1 nin0)))
    have F231 := (F218.keep Kq229 (ninS (Ne.symm (o02 hord)) (ninS (Ne.symm (o12 hord)) nin0)))
    have F232 := (F219.keep Kq229 (ninS (Ne.symm (o03 hord)) (ninS (Ne.symm (o13 hord)) nin0)))
    have F233 := (F220.keep Kq229 (ninS (Ne.symm (o04 hord)) (ninS (Ne.symm (o14 hord)) nin0)))
    have F234 := (F221.keep Kq229 (ninS (Ne.symm (o05 hord)) (ninS (Ne.symm (o15 hord)) nin0)))
    have F235 := (F222.keep Kq229 (ninS (Ne.symm (o06 hord)) (ninS (Ne.symm (o16 hord)) nin0)))
    have F236 := (F223.keep Kq229 (ninS (Ne.symm (o07 hord)) (ninS (Ne.symm (o17 hord)) nin0)))
    rcases hn with rfl | hn
    · show OEnds p e below s _ _ _ (T229.setTop (mkF m 263 #[(vj q0), sd, (vj q1), sd, (vi q2), (vi q3), (vi q4), (vi 5), (vi 1), (vi tv), (vr nb1), (vj bd), sd, (vr nb11), un, un, un, un, un, un, un] []))
      refine qi 265 X229 hx hby at_263 rfl rfl ?_
      refine qc1 266 5 X229 hx hby at_265 rfl rfl ?_
      refine q_cmy 278 X229 hx hby at_266 rfl (flt (by decide : ¬ ((5 : Int32) < (5 : Int32)))).2.2.2 ?_
      refine qi 280 X229 hx hby at_278 rfl rfl ?_
      refine qc2 282 6 X229 hx hby at_280 rfl rfl ?_
      refine q_cmy 295 X229 hx hby at_282 rfl (flt (by decide : ¬ ((6 : Int32) < (5 : Int32)))).2.2.2 ?_
      refine qi 297 X229 hx hby at_295 rfl rfl ?_
      refine qc2 299 7 X229 hx hby at_297 rfl rfl ?_
      refine q_cmy 312 X229 hx hby at_299 rfl (flt (by decide : ¬ ((7 : Int32) < (5 : Int32)))).2.2.2 ?_
      refine qi 314 X229 hx hby at_312 rfl rfl ?_
      refine qc2 316 8 X229 hx hby at_314 rfl rfl ?_
      refine q_cmy 329 X229 hx hby at_316 rfl (flt (by decide : ¬ ((8 : Int32) < (5 : Int32)))).2.2.2 ?_
      refine qa 331 X229 hx hby at_329 rfl rfl ?_
      obtain ⟨v237, T237, L237, h237, X237, e237, hQ237, st237⟩ := own_callV X229 hx hZ (y := mn5) hown (tw25 hw) (tw26 hw) (tw28 hw) (tw27 hw) (tw29 hw) (tw3 hw) (by decide) O229.exa (rm_index2_1_1 l Z a0 hw [] nb11 b1 b2 b3 b4 b5 b6 b7 (6 : Int32) (0 : Int64) (0 : Int32) (0 : Int32) (0 : Int32) (0 : Int32) (0 : Int32) (0 : Int32) (0 : Int32) (0 : Int32) (updL (updL (updL f190_b1 3 (gv 2)) 4 (gv 3)) 5 (gv 4)) f163_b2 (updI (fun _ => (0 : Int32)) 0 (0 : Int32)) (updI (fun _ => (0 : Int32)) 0 (1 : Int32)) (updI (fun _ => (0 : Int32)) 0 (0 : Int32)) 5 h229 n0 Z229 O229 F229_b1 F231 F232 F233 F234 g_nb11 g_b2 g_b3 g_b4 g_b5 hord (by subst ef190_b1 ef163_b2; rfl) (by decide) (by decide) (by decide)) e229 (g := (mkF m 331 #[(vj q0), sd, (vj q1), sd, (vi q2), (vi q3), (vi q4), (vi 5), (vi 1), (vi tv), (vr nb1), (vj bd), sd, (vr nb11), un, un, un, un, un, un, un] [(.ref nb11)])) rfl (by rw [hml]; rfl) (argsL := []) (rest := []) (lenOf pd_prI rfl) rfl (W := 0) (by show 2 * 0 + _ ≤ _; exact Nat.le_of_eq rfl) (hb hby at_331) (by decide) (by decide) (by decide) (by decide)
      obtain ⟨rfl, Nq237, Kq237, c237, hcx237, O237, F2_237, F3_237, F4_237, F5_237⟩ := hQ237
      have N237 := Fr.app N229 Nq237
      have Z237 := Nat.le_trans Z229 Kq237.1
      refine qtr 334 #[(vj q0), sd, (vj q1), sd, (vi q2), (vi q3), (vi q4), (vi 5), (vi 1), (vi tv), (vr nb1), (vj bd), sd, (vr nb11), un, un, un, un, un, un, un] [(.int 1)] st237 ?_
      refine own_by (fun _ k => XS.pop X237.here hx rfl (hb hby at_334) rfl rfl k) ?_
      show OEnds p e below s _ _ _ (T237.setTop (mkF m 335 #[(vj q0), sd, (vj q1), sd, (vi q2), (vi q3), (vi q4), (vi 5), (vi 1), (vi tv), (vr nb1), (vj bd), sd, (vr nb11), un, un, un, un, un, un, un] []))
      have F238 := (F230.keep Kq237 (ninS (Nat.ne_of_lt (Nat.lt_of_lt_of_le Fgv.lt (Nat.le_of_eq g11.symm))) (ninS on_b2 (ninS on_b3 (ninS on_b4 (ninS on_b5 nin0))))))
      have F239 := (F229_b1.keep Kq237 (ninS (Ne.symm (o01 hord)) (ninS (o12 hord) (ninS (o13 hord) (ninS (o14 hord) (ninS (o15 hord) nin0))))))
      have F240 := (F235.keep Kq237 (ninS (Ne.symm (o06 hord)) (ninS (Ne.symm (o26 hord)) (ninS (Ne.symm (o36 hord)) (ninS (Ne.symm (o46 hord)) (ninS (Ne.symm (o56 hord)) nin0))))))
      have F241 := (F236.keep Kq237 (ninS (Ne.symm (o07 hord)) (ninS (Ne.symm (o27 hord)) (ninS (Ne.symm (o37 hord)) (ninS (Ne.symm (o47 hord)) (ninS (Ne.symm (o57 hord)) nin0))))))
      exact bl335 T237 _ (5 : Int32) (1 : Int32) (2 : Int32) (6 : Int32) (4 : Int32) (0 : Int64) (0 : Int32) (0 : Int32) (0 : Int32) (0 : Int32) (0 : Int32) (0 : Int32) (0 : Int32) (0 : Int32) (updL (updL (updL f190_b1 3 (gv 2)) 4 (gv 3)) 5 (gv 4)) c237 (updI (updI (fun _ => (0 : Int32)) 0 (0 : Int32)) 1 (1 : Int32)) (updI (updI (fun _ => (0 : Int32)) 0 (1 : Int32)) 1 (6 : Int32)) (updI (updI (fun _ => (0 : Int32)) 0 (0 : Int32)) 1 (2 : Int32)) (fun _ => (0 : Int32)) (fun _ => (0 : Int32)) 1 5 (tv.toInt.toNat) h237 Z237 X237 e237 N237 O237 F238 F239 F2_237 F3_237 F4_237 F5_237 F240 F241 (by decide) (by decide) (by decide) (by decide) (tv_nn htv) (tv_le htv (by decide)) (by subst ef190_b1 ef163_b2; rfl) (by subst ef190_b1 ef163_b2; decide) (by subst ef190_b1 ef163_b2; decide) (fun j hj => by have hj' : j = 0 ∨ j = 1 ∨ j = 2 ∨ j = 3 ∨ j = 4 := (by omega); subst ef190_b1 ef163_b2; rcases hj' with rfl | rfl | rfl | rfl | rfl <;> rfl) (fun h => absurd h (by decide)) (fun h => absurd h (by decide))
    have hgt : (5 : Int32) < nv := by rcases hn with rfl | rfl | rfl | rfl <;> decide
    show OEnds p e below s _ _ _ (T229.setTop (mkF m 263 #[(vj q0), sd, (vj q1), sd, (vi q2), (vi q3), (vi q4), (vi nv), (vi 1), (vi tv), (vr nb1), (vj bd), sd, (vr nb11), un, un, un, un, un, un, un] []))
    refine qi 265 X229 hx hby at_263 rfl rfl ?_
    refine qc1 266 5 X229 hx hby at_265 rfl rfl ?_
    refine q_cmn 269 X229 hx hby at_266 rfl (tlt hgt).2.2.2 ?_
    refine qa 271 X229 hx hby at_269 rfl rfl ?_
    refine qa 273 X229 hx hby at_271 rfl rfl ?_
    refine qc1 274 5 X229 hx hby at_273 rfl rfl ?_
    refine qJ 275 X229 hx hZ e229 F230 5 (by decide) (by decide) (v := (.long (gv 5))) rfl hby at_274 rfl ?_
    obtain ⟨v242, T242, L242, h242, X242, e242, hQ242, st242⟩ := own_callV X229 hx hZ (y := mn2) hown (tw76 hw) (tw77 hw) (tw79 hw) (tw78 hw) (tw80 hw) (tw3 hw) (by decide) O229.exa (rm_addk l Z a0 hw [] nb11 (gv 5) b1 b2 b3 b4 b5 b6 b7 (1 : Int32) (6 : Int32) (2 : Int32) (0 : Int64) (0 : Int32) (0 : Int32) (0 : Int32) (0 : Int32) (0 : Int32) (0 : Int32) (0 : Int32) (0 : Int32) (updL (updL (updL f190_b1 3 (gv 2)) 4 (gv 3)) 5 (gv 4)) h229 n0 Z229 O229 F229_b1 g_nb11 g_b1 hord (by decide) (by decide)) e229 (g := (mkF m 275 #[(vj q0), sd, (vj q1), sd, (vi q2), (vi q3), (vi q4), (vi nv), (vi 1), (vi tv), (vr nb1), (vj bd), sd, (vr nb11), un, un, un, un, un, un, un] [(.long (gv 5)), (.ref nb11)])) rfl (by rw [hml]; rfl) (argsL := [(.long (gv 5))]) (rest := []) (lenOf pd_pJrV rfl) rfl (W := 0) (by show 2 * 0 + _ ≤ _; exact Nat.le_of_eq rfl) (hb hby at_275) (by decide) (by decide) (by decide) (by decide)
    obtain ⟨rfl, Nq242, Kq242, O242, F242_b1⟩ := hQ242
    have N242 := Fr.app N229 Nq242
    have Z242 := Nat.le_trans Z229 Kq242.1
    rw [show ((6 : Int32) + (1 : Int32)) = (7 : Int32) by decide] at O242
    rw [show ((6 : Int32).toInt.toNat) = 6 by decide] at F242_b1
    obtain ⟨f242_b1, ef242_b1⟩ : ∃ fz_ : Nat → Int64, fz_ = (updL (updL (updL (updL f190_b1 3 (gv 2)) 4 (gv 3)) 5 (gv 4)) 6 (gv 5)) := ⟨_, rfl⟩
    rw [← ef242_b1] at F242_b1
    refine qtr 278 #[(vj q0), sd, (vj q1), sd, (vi q2), (vi q3), (vi q4), (vi nv), (vi 1), (vi tv), (vr nb1), (vj bd), sd, (vr nb11), un, un, un, un, un, un, un] [] st242 ?_
    have F243 := (F230.keep Kq242 (ninS (Nat.ne_of_lt (Nat.lt_of_lt_of_le Fgv.lt (Nat.le_of_eq g11.symm))) (ninS on_b1 nin0)))
    have F244 := (F231.keep Kq242 (ninS (Ne.symm (o02 hord)) (ninS (Ne.symm (o12 hord)) nin0)))
    have F245 := (F232.keep Kq242 (ninS (Ne.symm (o03 hord)) (ninS (Ne.symm (o13 hord)) nin0)))
    have F246 := (F233.keep Kq242 (ninS (Ne.symm (o04 hord)) (ninS (Ne.symm (o14 hord)) nin0)))
    have F247 := (F234.keep Kq242 (ninS (Ne.symm (o05 hord)) (ninS (Ne.symm (o15 hord)) nin0)))
    have F248 := (F235.keep Kq242 (ninS (Ne.symm (o06 hord)) (ninS (Ne.symm (o16 hord)) nin0)))
    have F249 := (F236.keep Kq242 (ninS (Ne.symm (o07 hord)) (ninS (Ne.symm (o17 hord)) nin0)))
    rcases hn with rfl | hn
    · show OEnds p e below s _ _ _ (T242.setTop (mkF m 278 #[(vj q0), sd, (vj q1), sd, (vi q2), (vi q3), (vi q4), (vi 6), (vi 1), (vi tv), (vr nb1), (vj bd), sd, (vr nb11), un, un, un, un, un, un, un] []))
      refine qi 280 X242 hx hby at_278 rfl rfl ?_
      refine qc2 282 6 X242 hx hby at_280 rfl rfl ?_
      refine q_cmy 295 X242 hx hby at_282 rfl (flt (by decide : ¬ ((6 : Int32) < (6 : Int32)))).2.2.2 ?_
      refine qi 297 X242 hx hby at_295 rfl rfl ?_
      refine qc2 299 7 X242 hx hby at_297 rfl rfl ?_
      refine q_cmy 312 X242 hx hby at_299 rfl (flt (by decide : ¬ ((7 : Int32) < (6 : Int32)))).2.2.2 ?_
      refine qi 314 X242 hx hby at_312 rfl rfl ?_
      refine qc2 316 8 X242 hx hby at_314 rfl rfl ?_
      refine q_cmy 329 X242 hx hby at_316 rfl (flt (by decide : ¬ ((8 : Int32) < (6 : Int32)))).2.2.2 ?_
      refine qa 331 X242 hx hby at_329 rfl rfl ?_
      obtain ⟨v250, T250, L250, h250, X250, e250, hQ250, st250⟩ := own_callV X242 hx hZ (y := mn5) hown (tw25 hw) (tw26 hw) (tw28 hw) (tw27 hw) (tw29 hw) (tw3 hw) (by decide) O242.exa (rm_index2_1_1 l Z a0 hw [] nb11 b1 b2 b3 b4 b5 b6 b7 (7 : Int32) (0 : Int64) (0 : Int32) (0 : Int32) (0 : Int32) (0 : Int32) (0 : Int32) (0 : Int32) (0 : Int32) (0 : Int32) f242_b1 f163_b2 (updI (fun _ => (0 : Int32)) 0 (0 : Int32)) (updI (fun _ => (0 : Int32)) 0 (1 : Int32)) (updI (fun _ => (0 : Int32)) 0 (0 : Int32)) 6 h242 n0 Z242 O242 F242_b1 F244 F245 F246 F247 g_nb11 g_b2 g_b3 g_b4 g_b5 hord (by subst ef242_b1 ef190_b1 ef163_b2; rfl) (by decide) (by decide) (by decide)) e242 (g := (mkF m 331 #[(vj q0), sd, (vj q1), sd, (vi q2), (vi q3), (vi q4), (vi 6), (vi 1), (vi tv), (vr nb1), (vj bd), sd, (vr nb11), un, un, un, un, un, un, un] [(.ref nb11)])) rfl (by rw [hml]; rfl) (argsL := []) (rest := []) (lenOf pd_prI rfl) rfl (W := 0) (by show 2 * 0 + _ ≤ _; exact Nat.le_of_eq rfl) (hb hby at_331) (by decide) (by decide) (by decide) (by decide)
      obtain ⟨rfl, Nq250, Kq250, c250, hcx250, O250, F2_250, F3_250, F4_250, F5_250⟩ := hQ250
      have N250 := Fr.app N242 Nq250
      have Z250 := Nat.le_trans Z242 Kq250.1
      refine qtr 334 #[(vj q0), sd, (vj q1), sd, (vi q2), (vi q3), (vi q4), (vi 6), (vi 1), (vi tv), (vr nb1), (vj bd), sd, (vr nb11), un, un, un, un, un, un, un] [(.int 1)] st250 ?_
      refine own_by (fun _ k => XS.pop X250.here hx rfl (hb hby at_334) rfl rfl k) ?_
      show OEnds p e below s _ _ _ (T250.setTop (mkF m 335 #[(vj q0), sd, (vj q1), sd, (vi q2), (vi q3), (vi q4), (vi 6), (vi 1), (vi tv), (vr nb1), (vj bd), sd, (vr nb11), un, un, un, un, un, un, un] []))
      have F251 := (F243.keep Kq250 (ninS (Nat.ne_of_lt (Nat.lt_of_lt_of_le Fgv.lt (Nat.le_of_eq g11.symm))) (ninS on_b2 (ninS on_b3 (ninS on_b4 (ninS on_b5 nin0))))))
      have F252 := (F242_b1.keep Kq250 (ninS (Ne.symm (o01 hord)) (ninS (o12 hord) (ninS (o13 hord) (ninS (o14 hord) (ninS (o15 hord) nin0))))))
      have F253 := (F248.keep Kq250 (ninS (Ne.symm (o06 hord)) (ninS (Ne.symm (o26 hord)) (ninS (Ne.symm (o36 hord)) (ninS (Ne.symm (o46 hord)) (ninS (Ne.symm (o56 hord)) nin0))))))
      have F254 := (F249.keep Kq250 (ninS (Ne.symm (o07 hord)) (ninS (Ne.symm (o27 hord)) (ninS (Ne.symm (o37 hord)) (ninS (Ne.symm (o47 hord)) (ninS (Ne.symm (o57 hord)) nin0))))))
      exact bl335 T250 _ (6 : Int32) (1 : Int32) (2 : Int32) (7 : Int32) (4 : Int32) (0 : Int64) (0 : Int32) (0 : Int32) (0 : Int32) (0 : Int32) (0 : Int32) (0 : Int32) (0 : Int32) (0 : Int32) f242_b1 c250 (updI (updI (fun _ => (0 : Int32)) 0 (0 : Int32)) 1 (1 : Int32)) (updI (updI (fun _ => (0 : Int32)) 0 (1 : Int32)) 1 (7 : Int32)) (updI (updI (fun _ => (0 : Int32)) 0 (0 : Int32)) 1 (2 : Int32)) (fun _ => (0 : Int32)) (fun _ => (0 : Int32)) 1 6 (tv.toInt.toNat) h250 Z250 X250 e250 N250 O250 F251 F252 F2_250 F3_250 F4_250 F5_250 F253 F254 (by decide) (by decide) (by decide) (by decide) (tv_nn htv) (tv_le htv (by decide)) (by subst ef242_b1 ef190_b1 ef163_b2; rfl) (by subst ef242_b1 ef190_b1 ef163_b2; decide) (by subst ef242_b1 ef190_b1 ef163_b2; decide) (fun j hj => by have hj' : j = 0 ∨ j = 1 ∨ j = 2 ∨ j = 3 ∨ j = 4 ∨ j = 5 := (by omega); subst ef242_b1 ef190_b1 ef163_b2; rcases hj' with rfl | rfl | rfl | rfl | rfl | rfl <;> rfl) (fun h => absurd h (by decide)) (fun h => absurd h (by decide))
    have hgt : (6 : Int32) < nv := by rcases hn with rfl | rfl | rfl <;> decide
    show OEnds p e below s _ _ _ (T242.setTop (mkF m 278 #[(vj q0), sd, (vj q1), sd, (vi q2), (vi q3), (vi q4), (vi nv), (vi 1), (vi tv), (vr nb1), (vj bd), sd, (vr nb11), un, un, un, un, un, un, un] []))
    refine qi 280 X242 hx hby at_278 rfl rfl ?_
    refine qc2 282 6 X242 hx hby at_280 rfl rfl ?_
    refine q_cmn 285 X242 hx hby at_282 rfl (tlt hgt).2.2.2 ?_
    refine qa 287 X242 hx hby at_285 rfl rfl ?_
    refine qa 289 X242 hx hby at_287 rfl rfl ?_
    refine qc2 291 6 X242 hx hby at_289 rfl rfl ?_
    refine qJ 292 X242 hx hZ e242 F243 6 (by decide) (by decide) (v := (.long (gv 6))) rfl hby at_291 rfl ?_
    obtain ⟨v255, T255, L255, h255, X255, e255, hQ255, st255⟩ := own_callV X242 hx hZ (y := mn2) hown (tw76 hw) (tw77 hw) (tw79 hw) (tw78 hw) (tw80 hw) (tw3 hw) (by decide) O242.exa (rm_addk l Z a0 hw [] nb11 (gv 6) b1 b2 b3 b4 b5 b6 b7 (1 : Int32) (7 : Int32) (2 : Int32) (0 : Int64) (0 : Int32) (0 : Int32) (0 : Int32) (0 : Int32) (0 : Int32) (0 : Int32) (0 : Int32) (0 : Int32) f242_b1 h242 n0 Z242 O242 F242_b1 g_nb11 g_b1 hord (by decide) (by decide)) e242 (g := (mkF m 292 #[(vj q0), sd, (vj q1), sd, (vi q2), (vi q3), (vi q4), (vi nv), (vi 1), (vi tv), (vr nb1), (vj bd), sd, (vr nb11), un, un, un, un, un, un, un] [(.long (gv 6)), (.ref nb11)])) rfl (by rw [hml]; rfl) (argsL := [(.long (gv 6))]) (rest := []) (lenOf pd_pJrV rfl) rfl (W := 0) (by show 2 * 0 + _ ≤ _; exact Nat.le_of_eq rfl) (hb hby at_292) (by decide) (by decide) (by decide) (by decide)
    obtain ⟨rfl, Nq255, Kq255, O255, F255_b1⟩ := hQ255
    have N255 := Fr.app N242 Nq255
    have Z255 := Nat.le_trans Z242 Kq255.1
    rw [show ((7 : Int32) + (1 : Int32)) = (8 : Int32) by decide] at O255
    rw [show ((7 : Int32).toInt.toNat) = 7 by decide] at F255_b1
    refine qtr 295 #[(vj q0), sd, (vj q1), sd, (vi q2), (vi q3), (vi q4), (vi nv), (vi 1), (vi tv), (vr nb1), (vj bd), sd, (vr nb11), un, un, un, un, un, un, un] [] st255 ?_
    have F256 := (F243.keep Kq255 (ninS (Nat.ne_of_lt (Nat.lt_of_lt_of_le Fgv.lt (Nat.le_of_eq g11.symm))) (ninS on_b1 nin0)))
    have F257 := (F244.keep Kq255 (ninS (Ne.symm (o02 hord)) (ninS (Ne.symm (o12 hord)) nin0)))
    have F258 := (F245.keep Kq255 (ninS (Ne.symm (o03 hord)) (ninS (Ne.symm (o13 hord)) nin0)))
    have F259 := (F246.keep Kq255 (ninS (Ne.symm (o04 hord)) (ninS (Ne.symm (o14 hord)) nin0)))
    have F260 := (F247.keep Kq255 (ninS (Ne.symm (o05 hord)) (ninS (Ne.symm (o15 hord)) nin0)))
    have F261 := (F248.keep Kq255 (ninS (Ne.symm (o06 hord)) (ninS (Ne.symm (o16 hord)) nin0)))
    have F262 := (F249.keep Kq255 (ninS (Ne.symm (o07 hord)) (ninS (Ne.symm (o17 hord)) nin0)))
    rcases hn with rfl | hn
    · show OEnds p e below s _ _ _ (T255.setTop (mkF m 295 #[(vj q0), sd, (vj q1), sd, (vi q2), (vi q3), (vi q4), (vi 7), (vi 1), (vi tv), (vr nb1), (vj bd), sd, (vr nb11), un, un, un, un, un, un, un] []))
      refine qi 297 X255 hx hby at_295 rfl rfl ?_
      refine qc2 299 7 X255 hx hby at_297 rfl rfl ?_
      refine q_cmy 312 X255 hx hby at_299 rfl (flt (by decide : ¬ ((7 : Int32) < (7 : Int32)))).2.2.2 ?_
      refine qi 314 X255 hx hby at_312 rfl rfl ?_
      refine qc2 316 8 X255 hx hby at_314 rfl rfl ?_
      refine q_cmy 329 X255 hx hby at_316 rfl (flt (by decide : ¬ ((8 : Int32) < (7 : Int32)))).2.2.2 ?_
      refine qa 331 X255 hx hby at_329 rfl rfl ?_
      obtain ⟨v263, T263, L263, h263, X263, e263, hQ263, st263⟩ := own_callV X255 hx hZ (y := mn5) hown (tw25 hw) (tw26 hw) (tw28 hw) (tw27 hw) (tw29 hw) (tw3 hw) (by decide) O255.exa (rm_index2_1_1 l Z a0 hw [] nb11 b1 b2 b3 b4 b5 b6 b7 (8 : Int32) (0 : Int64) (0 : Int32) (0 : Int32) (0 : Int32) (0 : Int32) (0 : Int32) (0 : Int32) (0 : Int32) (0 : Int32) (updL f242_b1 7 (gv 6)) f163_b2 (updI (fun _ => (0 : Int32)) 0 (0 : Int32)) (updI (fun _ => (0 : Int32)) 0 (1 : Int32)) (updI (fun _ => (0 : Int32)) 0 (0 : Int32)) 7 h255 n0 Z255 O255 F255_b1 F257 F258 F259 F260 g_nb11 g_b2 g_b3 g_b4 g_b5 hord (by subst ef242_b1 ef190_b1 ef163_b2; rfl) (by decide) (by decide) (by decide)) e255 (g := (mkF m 331 #[(vj q0), sd, (vj q1), sd, (vi q2), (vi q3), (vi q4), (vi 7), (vi 1), (vi tv), (vr nb1), (vj bd), sd, (vr nb11), un, un, un, un, un, un, un] [(.ref nb11)])) rfl (by rw [hml]; rfl) (argsL := []) (rest := []) (lenOf pd_prI rfl) rfl (W := 0) (by show 2 * 0 + _ ≤ _; exact Nat.le_of_eq rfl) (hb hby at_331) (by decide) (by decide) (by decide) (by decide)
      obtain ⟨rfl, Nq263, Kq263, c263, hcx263, O263, F2_263, F3_263, F4_263, F5_263⟩ := hQ263
      have N263 := Fr.app N255 Nq263
      have Z263 := Nat.le_trans Z255 Kq263.1
      refine qtr 334 #[(vj q0), sd, (vj q1), sd, (vi q2), (vi q3), (vi q4), (vi 7), (vi 1), (vi tv), (vr nb1), (vj bd), sd, (vr nb11), un, un, un, un, un, un, un] [(.int 1)] st263 ?_
      refine own_by (fun _ k => XS.pop X263.here hx rfl (hb hby at_334) rfl rfl k) ?_
      show OEnds p e below s _ _ _ (T263.setTop (mkF m 335 #[(vj q0), sd, (vj q1), sd, (vi q2), (vi q3), (vi q4), (vi 7), (vi 1), (vi tv), (vr nb1), (vj bd), sd, (vr nb11), un, un, un, un, un, un, un] []))
      have F264 := (F256.keep Kq263 (ninS (Nat.ne_of_lt (Nat.lt_of_lt_of_le Fgv.lt (Nat.le_of_eq g11.symm))) (ninS on_b2 (ninS on_b3 (ninS on_b4 (ninS on_b5 nin0))))))
      have F265 := (F255_b1.keep Kq263 (ninS (Ne.symm (o01 hord)) (ninS (o12 hord) (ninS (o13 hord) (ninS (o14 hord) (ninS (o15 hord) nin0))))))
      have F266 := (F261.keep Kq263 (ninS (Ne.symm (o06 hord)) (ninS (Ne.symm (o26 hord)) (ninS (Ne.symm (o36 hord)) (ninS (Ne.symm (o46 hord)) (ninS (Ne.symm (o56 hord)) nin0))))))
      have F267 := (F262.keep Kq263 (ninS (Ne.symm (o07 hord)) (ninS (Ne.symm (o27 hord)) (ninS (Ne.symm (o37 hord)) (ninS (Ne.symm (o47 hord)) (ninS (Ne.symm (o57 hord)) nin0))))))
      exact bl335 T263 _ (7 : Int32) (1 : Int32) (2 : Int32) (8 : Int32) (4 : Int32) (0 : Int64) (0 : Int32) (0 : Int32) (0 : Int32) (0 : Int32) (0 : Int32) (0 : Int32) (0 : Int32) (0 : Int32) (updL f242_b1 7 (gv 6)) c263 (updI (updI (fun _ => (0 : Int32)) 0 (0 : Int32)) 1 (1 : Int32)) (updI (updI (fun _ => (0 : Int32)) 0 (1 : Int32)) 1 (8 : Int32)) (updI (updI (fun _ => (0 : Int32)) 0 (0 : Int32)) 1 (2 : Int32)) (fun _ => (0 : Int32)) (fun _ => (0 : Int32)) 1 7 (tv.toInt.toNat) h263 Z263 X263 e263 N263 O263 F264 F265 F2_263 F3_263 F4_263 F5_263 F266 F267 (by decide) (by decide) (by decide) (by decide) (tv_nn htv) (tv_le htv (by decide)) (by subst ef242_b1 ef190_b1 ef163_b2; rfl) (by subst ef242_b1 ef190_b1 ef163_b2; decide) (by subst ef242_b1 ef190_b1 ef163_b2; decide) (fun j hj => by have hj' : j = 0 ∨ j = 1 ∨ j = 2 ∨ j = 3 ∨ j = 4 ∨ j = 5 ∨ j = 6 := (by omega); subst ef242_b1 ef190_b1 ef163_b2; rcases hj' with rfl | rfl | rfl | rfl | rfl | rfl | rfl <;> rfl) (fun h => absurd h (by decide)) (fun h => absurd h (by decide))
    have hgt : (7 : Int32) < nv := by rcases hn with rfl | rfl <;> decide
    show OEnds p e below s _ _ _ (T255.setTop (mkF m 295 #[(vj q0), sd, (vj q1), sd, (vi q2), (vi q3), (vi q4), (vi nv), (vi 1), (vi tv), (vr nb1), (vj bd), sd, (vr nb11), un, un, un, un, un, un, un] []))
    refine qi 297 X255 hx hby at_295 rfl rfl ?_
    refine qc2 299 7 X255 hx hby at_297 rfl rfl ?_
    refine q_cmn 302 X255 hx hby at_299 rfl (tlt hgt).2.2.2 ?_
    refine qa 304 X255 hx hby at_302 rfl rfl ?_
    refine qa 306 X255 hx hby at_304 rfl rfl ?_
    refine qc2 308 7 X255 hx hby at_306 rfl rfl ?_
    refine qJ 309 X255 hx hZ e255 F256 7 (by decide) (by decide) (v := (.long (gv 7))) rfl hby at_308 rfl ?_
    obtain ⟨v268, T268, L268, h268, X268, e268, hQ268, st268⟩ := own_callV X255 hx hZ (y := mn2) hown (tw76 hw) (tw77 hw) (tw79 hw) (tw78 hw) (tw80 hw) (tw3 hw) (by decide) O255.exa (rm_addk l Z a0 hw [] nb11 (gv 7) b1 b2 b3 b4 b5 b6 b7 (1 : Int32) (8 : Int32) (2 : Int32) (0 : Int64) (0 : Int32) (0 : Int32) (0 : Int32) (0 : Int32) (0 : Int32) (0 : Int32) (0 : Int32) (0 : Int32) (updL f242_b1 7 (gv 6)) h255 n0 Z255 O255 F255_b1 g_nb11 g_b1 hord (by decide) (by decide)) e255 (g := (mkF m 309 #[(vj q0), sd, (vj q1), sd, (vi q2), (vi q3), (vi q4), (vi nv), (vi 1), (vi tv), (vr nb1), (vj bd), sd, (vr nb11), un, un, un, un, un, un, un] [(.long (gv 7)), (.ref nb11)])) rfl (by rw [hml]; rfl) (argsL := [(.long (gv 7))]) (rest := []) (lenOf pd_pJrV rfl) rfl (W := 0) (by show 2 * 0 + _ ≤ _; exact Nat.le_of_eq rfl) (hb hby at_309) (by decide) (by decide) (by decide) (by decide)
    obtain ⟨rfl, Nq268, Kq268, O268, F268_b1⟩ := hQ268
    have N268 := Fr.app N255 Nq268
    have Z268 := Nat.le_trans Z255 Kq268.1
    rw [show ((8 : Int32) + (1 : Int32)) = (9 : Int32) by decide] at O268
    rw [show ((8 : Int32).toInt.toNat) = 8 by decide] at F268_b1
    refine qtr 312 #[(vj q0), sd, (vj q1), sd, (vi q2), (vi q3), (vi q4), (vi nv), (vi 1), (vi tv), (vr nb1), (vj bd), sd, (vr nb11), un, un, un, un, un, un, un] [] st268 ?_
    have F269 := (F256.keep Kq268 (ninS (Nat.ne_of_lt (Nat.lt_of_lt_of_le Fgv.lt (Nat.le_of_eq g11.symm))) (ninS on_b1 nin0)))
    have F270 := (F257.keep Kq268 (ninS (Ne.symm (o02 hord)) (ninS (Ne.symm (o12 hord)) nin0)))
    have F271 := (F258.keep Kq268 (ninS (Ne.symm (o03 hord)) (ninS (Ne.symm (o13 hord)) nin0)))
    have F272 := (F259.keep Kq268 (ninS (Ne.symm (o04 hord)) (ninS (Ne.symm (o14 hord)) nin0)))
    have F273 := (F260.keep Kq268 (ninS (Ne.symm (o05 hord)) (ninS (Ne.symm (o15 hord)) nin0)))
    have F274 := (F261.keep Kq268 (ninS (Ne.symm (o06 hord)) (ninS (Ne.symm (o16 hord)) nin0)))
    have F275 := (F262.keep Kq268 (ninS (Ne.symm (o07 hord)) (ninS (Ne.symm (o17 hord)) nin0)))
    rcases hn with rfl | hn
    · show OEnds p e below s _ _ _ (T268.setTop (mkF m 312 #[(vj q0), sd, (vj q1), sd, (vi q2), (vi q3), (vi q4), (vi 8), (vi 1), (vi tv), (vr nb1), (vj bd), sd, (vr nb11), un, un, un, un, un, un, un] []))
      refine qi 314 X268 hx hby at_312 rfl rfl ?_
      refine qc2 316 8 X268 hx hby at_314 rfl rfl ?_
      refine q_cmy 329 X268 hx hby at_316 rfl (flt (by decide : ¬ ((8 : Int32) < (8 : Int32)))).2.2.2 ?_
      refine qa 331 X268 hx hby at_329 rfl rfl ?_
      obtain ⟨v276, T276, L276, h276, X276, e276, hQ276, st276⟩ := own_callV X268 hx hZ (y := mn5) hown (tw25 hw) (tw26 hw) (tw28 hw) (tw27 hw) (tw29 hw) (tw3 hw) (by decide) O268.exa (rm_index2_1_1 l Z a0 hw [] nb11 b1 b2 b3 b4 b5 b6 b7 (9 : Int32) (0 : Int64) (0 : Int32) (0 : Int32) (0 : Int32) (0 : Int32) (0 : Int32) (0 : Int32) (0 : Int32) (0 : Int32) (updL (updL f242_b1 7 (gv 6)) 8 (gv 7)) f163_b2 (updI (fun _ => (0 : Int32)) 0 (0 : Int32)) (updI (fun _ => (0 : Int32)) 0 (1 : Int32)) (updI (fun _ => (0 : Int32)) 0 (0 : Int32)) 8 h268 n0 Z268 O268 F268_b1 F270 F271 F272 F273 g_nb11 g_b2 g_b3 g_b4 g_b5 hord (by subst ef242_b1 ef190_b1 ef163_b2; rfl) (by decide) (by decide) (by decide)) e268 (g := (mkF m 331 #[(vj q0), sd, (vj q1), sd, (vi q2), (vi q3), (vi q4), (vi 8), (vi 1), (vi tv), (vr nb1), (vj bd), sd, (vr nb11), un, un, un, un, un, un, un] [(.ref nb11)])) rfl (by rw [hml]; rfl) (argsL := []) (rest := []) (lenOf pd_prI rfl) rfl (W := 0) (by show 2 * 0 + _ ≤ _; exact Nat.le_of_eq rfl) (hb hby at_331) (by decide) (by decide) (by decide) (by decide)
      obtain ⟨rfl, Nq276, Kq276, c276, hcx276, O276, F2_276, F3_276, F4_276, F5_276⟩ := hQ276
      have N276 := Fr.app N268 Nq276
      have Z276 := Nat.le_trans Z268 Kq276.1
      refine qtr 334 #[(vj q0), sd, (vj q1), sd, (vi q2), (vi q3), (vi q4), (vi 8), (vi 1), (vi tv), (vr nb1), (vj bd), sd, (vr nb11), un, un, un, un, un, un, un] [(.int 1)] st276 ?_
      refine own_by (fun _ k => XS.pop X276.here hx rfl (hb hby at_334) rfl rfl k) ?_
      show OEnds p e below s _ _ _ (T276.setTop (mkF m 335 #[(vj q0), sd, (vj q1), sd, (vi q2), (vi q3), (vi q4), (vi 8), (vi 1), (vi tv), (vr nb1), (vj bd), sd, (vr nb11), un, un, un, un, un, un, un] []))
      have F277 := (F269.keep Kq276 (ninS (Nat.ne_of_lt (Nat.lt_of_lt_of_le Fgv.lt (Nat.le_of_eq g11.symm))) (ninS on_b2 (ninS on_b3 (ninS on_b4 (ninS on_b5 nin0))))))
      have F278 := (F268_b1.keep Kq276 (ninS (Ne.symm (o01 hord)) (ninS (o12 hord) (ninS (o13 hord) (ninS (o14 hord) (ninS (o15 hord) nin0))))))
      have F279 := (F274.keep Kq276 (ninS (Ne.symm (o06 hord)) (ninS (Ne.symm (o26 hord)) (ninS (Ne.symm (o36 hord)) (ninS (Ne.symm (o46 hord)) (ninS (Ne.symm (o56 hord)) nin0))))))
      have F280 := (F275.keep Kq276 (ninS (Ne.symm (o07 hord)) (ninS (Ne.symm (o27 hord)) (ninS (Ne.symm (o37 hord)) (ninS (Ne.symm (o47 hord)) (ninS (Ne.symm (o57 hord)) nin0))))))
      exact bl335 T276 _ (8 : Int32) (1 : Int32) (2 : Int32) (9 : Int32) (4 : Int32) (0 : Int64) (0 : Int32) (0 : Int32) (0 : Int32) (0 : Int32) (0 : Int32) (0 : Int32) (0 : Int32) (0 : Int32) (updL (updL f242_b1 7 (gv 6)) 8 (gv 7)) c276 (updI (updI (fun _ => (0 : Int32)) 0 (0 : Int32)) 1 (1 : Int32)) (updI (updI (fun _ => (0 : Int32)) 0 (1 : Int32)) 1 (9 : Int32)) (updI (updI (fun _ => (0 : Int32)) 0 (0 : Int32)) 1 (2 : Int32)) (fun _ => (0 : Int32)) (fun _ => (0 : Int32)) 1 8 (tv.toInt.toNat) h276 Z276 X276 e276 N276 O276 F277 F278 F2_276 F3_276 F4_276 F5_276 F279 F280 (by decide) (by decide) (by decide) (by decide) (tv_nn htv) (tv_le htv (by decide)) (by subst ef242_b1 ef190_b1 ef163_b2; rfl) (by subst ef242_b1 ef190_b1 ef163_b2; decide) (by subst ef242_b1 ef190_b1 ef163_b2; decide) (fun j hj => by have hj' : j = 0 ∨ j = 1 ∨ j = 2 ∨ j = 3 ∨ j = 4 ∨ j = 5 ∨ j = 6 ∨ j = 7 := (by omega); subst ef242_b1 ef190_b1 ef163_b2; rcases hj' with rfl | rfl | rfl | rfl | rfl | rfl | rfl | rfl <;> rfl) (fun _ bd hb j hj => by have hq := hcx276 bd hb j hj (by omega); have hj' : j = 0 ∨ j = 1 ∨ j = 2 ∨ j = 3 ∨ j = 4 ∨ j = 5 ∨ j = 6 ∨ j = 7 := (by omega); subst ef242_b1 ef190_b1 ef163_b2; rcases hj' with rfl | rfl | rfl | rfl | rfl | rfl | rfl | rfl <;> exact hq) (fun h => absurd h (by decide))
    have hgt : (8 : Int32) < nv := by rw [hn]; decide
    subst hn
    show OEnds p e below s _ _ _ (T268.setTop (mkF m 312 #[(vj q0), sd, (vj q1), sd, (vi q2), (vi q3), (vi q4), (vi 9), (vi 1), (vi tv), (vr nb1), (vj bd), sd, (vr nb11), un, un, un, un, un, un, un] []))
    refine qi 314 X268 hx hby at_312 rfl rfl ?_
    refine qc2 316 8 X268 hx hby at_314 rfl rfl ?_
    refine q_cmn 319 X268 hx hby at_316 rfl (tlt (by decide : (8 : Int32) < (9 : Int32))).2.2.2 ?_
    refine qa 321 X268 hx hby at_319 rfl rfl ?_
    refine qa 323 X268 hx hby at_321 rfl rfl ?_
    refine qc2 325 8 X268 hx hby at_323 rfl rfl ?_
    refine qJ 326 X268 hx hZ e268 F269 8 (by decide) (by decide) (v := (.long (gv 8))) rfl hby at_325 rfl ?_
    obtain ⟨v281, T281, L281, h281, X281, e281, hQ281, st281⟩ := own_callV X268 hx hZ (y := mn2) hown (tw76 hw) (tw77 hw) (tw79 hw) (tw78 hw) (tw80 hw) (tw3 hw) (by decide) O268.exa (rm_addk l Z a0 hw [] nb11 (gv 8) b1 b2 b3 b4 b5 b6 b7 (1 : Int32) (9 : Int32) (2 : Int32) (0 : Int64) (0 : Int32) (0 : Int32) (0 : Int32) (0 : Int32) (0 : Int32) (0 : Int32) (0 : Int32) (0 : Int32) (updL (updL f242_b1 7 (gv 6)) 8 (gv 7)) h268 n0 Z268 O268 F268_b1 g_nb11 g_b1 hord (by decide) (by decide)) e268 (g := (mkF m 326 #[(vj q0), sd, (vj q1), sd, (vi q2), (vi q3), (vi q4), (vi 9), (vi 1), (vi tv), (vr nb1), (vj bd), sd, (vr nb11), un, un, un, un, un, un, un] [(.long (gv 8)), (.ref nb11)])) rfl (by rw [hml]; rfl) (argsL := [(.long (gv 8))]) (rest := []) (lenOf pd_pJrV rfl) rfl (W := 0) (by show 2 * 0 + _ ≤ _; exact Nat.le_of_eq rfl) (hb hby at_326) (by decide) (by decide) (by decide) (by decide)
    obtain ⟨rfl, Nq281, Kq281, O281, F281_b1⟩ := hQ281
    have N281 := Fr.app N268 Nq281
    have Z281 := Nat.le_trans Z268 Kq281.1
    rw [show ((9 : Int32) + (1 : Int32)) = (10 : Int32) by decide] at O281
    rw [show ((9 : Int32).toInt.toNat) = 9 by decide] at F281_b1
    refine qtr 329 #[(vj q0), sd, (vj q1), sd, (vi q2), (vi q3), (vi q4), (vi 9), (vi 1), (vi tv), (vr nb1), (vj bd), sd, (vr nb11), un, un, un, un, un, un, un] [] st281 ?_
    refine qa 331 X281 hx hby at_329 rfl rfl ?_
    have F283 := (F270.keep Kq281 (ninS (Ne.symm (o02 hord)) (ninS (Ne.symm (o12 hord)) nin0)))
    have F284 := (F271.keep Kq281 (ninS (Ne.symm (o03 hord)) (ninS (Ne.symm (o13 hord)) nin0)))
    have F285 := (F272.keep Kq281 (ninS (Ne.symm (o04 hord)) (ninS (Ne.symm (o14 hord)) nin0)))
    have F286 := (F273.keep Kq281 (ninS (Ne.symm (o05 hord)) (ninS (Ne.symm (o15 hord)) nin0)))
    obtain ⟨v282, T282, L282, h282, X282, e282, hQ282, st282⟩ := own_callV X281 hx hZ (y := mn5) hown (tw25 hw) (tw26 hw) (tw28 hw) (tw27 hw) (tw29 hw) (tw3 hw) (by decide) O281.exa (rm_index2_1_2 l Z a0 hw [] nb11 b1 b2 b3 b4 b5 b6 b7 (10 : Int32) (0 : Int64) (0 : Int32) (0 : Int32) (0 : Int32) (0 : Int32) (0 : Int32) (0 : Int32) (0 : Int32) (0 : Int32) (updL (updL (updL f242_b1 7 (gv 6)) 8 (gv 7)) 9 (gv 8)) f163_b2 (updI (fun _ => (0 : Int32)) 0 (0 : Int32)) (updI (fun _ => (0 : Int32)) 0 (1 : Int32)) (updI (fun _ => (0 : Int32)) 0 (0 : Int32)) 9 h281 n0 Z281 O281 F281_b1 F283 F284 F285 F286 g_nb11 g_b2 g_b3 g_b4 g_b5 hord (by subst ef242_b1 ef190_b1 ef163_b2; rfl) (by decide) (by decide) (by decide)) e281 (g := (mkF m 331 #[(vj q0), sd, (vj q1), sd, (vi q2), (vi q3), (vi q4), (vi 9), (vi 1), (vi tv), (vr nb1), (vj bd), sd, (vr nb11), un, un, un, un, un, un, un] [(.ref nb11)])) rfl (by rw [hml]; rfl) (argsL := []) (rest := []) (lenOf pd_prI rfl) rfl (W := 0) (by show 2 * 0 + _ ≤ _; exact Nat.le_of_eq rfl) (hb hby at_331) (by decide) (by decide) (by decide) (by decide)
    obtain ⟨rfl, Nq282, Kq282, c282, hcx282, O282, F2_282, F3_282, F4_282, F5_282⟩ := hQ282
    have N282 := Fr.app N281 Nq282
    have Z282 := Nat.le_trans Z281 Kq282.1
    refine qtr 334 #[(vj q0), sd, (vj q1), sd, (vi q2), (vi q3), (vi q4), (vi 9), (vi 1), (vi tv), (vr nb1), (vj bd), sd, (vr nb11), un, un, un, un, un, un, un] [(.int 1)] st282 ?_
    refine own_by (fun _ k => XS.pop X282.here hx rfl (hb hby at_334) rfl rfl k) ?_
    show OEnds p e below s _ _ _ (T282.setTop (mkF m 335 #[(vj q0), sd, (vj q1), sd, (vi q2), (vi q3), (vi q4), (vi 9), (vi 1), (vi tv), (vr nb1), (vj bd), sd, (vr nb11), un, un, un, un, un, un, un] []))
    have F287 := ((F269.keep Kq281 (ninS (Nat.ne_of_lt (Nat.lt_of_lt_of_le Fgv.lt (Nat.le_of_eq g11.symm))) (ninS on_b1 nin0))).keep Kq282 (ninS (Nat.ne_of_lt (Nat.lt_of_lt_of_le Fgv.lt (Nat.le_of_eq g11.symm))) (ninS on_b2 (ninS on_b3 (ninS on_b4 (ninS on_b5 nin0))))))
    have F288 := (F281_b1.keep Kq282 (ninS (Ne.symm (o01 hord)) (ninS (o12 hord) (ninS (o13 hord) (ninS (o14 hord) (ninS (o15 hord) nin0))))))
    have F289 := ((F274.keep Kq281 (ninS (Ne.symm (o06 hord)) (ninS (Ne.symm (o16 hord)) nin0))).keep Kq282 (ninS (Ne.symm (o06 hord)) (ninS (Ne.symm (o26 hord)) (ninS (Ne.symm (o36 hord)) (ninS (Ne.symm (o46 hord)) (ninS (Ne.symm (o56 hord)) nin0))))))
    have F290 := ((F275.keep Kq281 (ninS (Ne.symm (o07 hord)) (ninS (Ne.symm (o17 hord)) nin0))).keep Kq282 (ninS (Ne.symm (o07 hord)) (ninS (Ne.symm (o27 hord)) (ninS (Ne.symm (o37 hord)) (ninS (Ne.symm (o47 hord)) (ninS (Ne.symm (o57 hord)) nin0))))))
    exact bl335 T282 _ (9 : Int32) (1 : Int32) (2 : Int32) (10 : Int32) (6 : Int32) (0 : Int64) (0 : Int32) (0 : Int32) (0 : Int32) (0 : Int32) (0 : Int32) (0 : Int32) (0 : Int32) (0 : Int32) (updL (updL (updL f242_b1 7 (gv 6)) 8 (gv 7)) 9 (gv 8)) c282 (updI (updI (fun _ => (0 : Int32)) 0 (0 : Int32)) 1 (1 : Int32)) (updI (updI (fun _ => (0 : Int32)) 0 (1 : Int32)) 1 (10 : Int32)) (updI (updI (fun _ => (0 : Int32)) 0 (0 : Int32)) 1 (2 : Int32)) (fun _ => (0 : Int32)) (fun _ => (0 : Int32)) 1 9 (tv.toInt.toNat) h282 Z282 X282 e282 N282 O282 F287 F288 F2_282 F3_282 F4_282 F5_282 F289 F290 (by decide) (by decide) (by decide) (by decide) (tv_nn htv) (tv_le htv (by decide)) (by subst ef242_b1 ef190_b1 ef163_b2; rfl) (by subst ef242_b1 ef190_b1 ef163_b2; decide) (by subst ef242_b1 ef190_b1 ef163_b2; decide) (fun j hj => by have hj' : j = 0 ∨ j = 1 ∨ j = 2 ∨ j = 3 ∨ j = 4 ∨ j = 5 ∨ j = 6 ∨ j = 7 ∨ j = 8 := (by omega); subst ef242_b1 ef190_b1 ef163_b2; rcases hj' with rfl | rfl | rfl | rfl | rfl | rfl | rfl | rfl | rfl <;> rfl) (fun h => absurd h (by decide)) (fun _ bd hb j hj => by have hq := hcx282 bd hb j hj (by omega); have hj' : j = 0 ∨ j = 1 ∨ j = 2 ∨ j = 3 ∨ j = 4 ∨ j = 5 ∨ j = 6 ∨ j = 7 := (by omega); subst ef242_b1 ef190_b1 ef163_b2; rcases hj' with rfl | rfl | rfl | rfl | rfl | rfl | rfl | rfl <;> exact hq)
set_option maxRecDepth 65536 in
set_option maxHeartbeats 40000000 in
theorem comes_1 {Post : Tables → Env → Array Value → State → Outcome → State → Prop} (hpost : ∀ tb e args s v u, (limb_1_1.after args s (.returned v) u = true ∧ limb_1_2.after args s (.returned v) u = true ∧ True) → FrameEnd s (.returned v) u (Jvm.fieldLocs frame_1_writes args s ++ Jvm.arrayLocs frame_1_arrays args s ++ Jvm.staticLocs frame_1_statics s) 32 768 → Post tb e args s (.returned v) u) :
    ArmFor flags0 classFile x code maxLocals ret World_1 tables_1 room_1 Calls_1 rest_1 Pre_1 Post := by
  intro l hfl _ _ p e ha hc hk s m args below hf hA hF happ hP
  obtain ⟨hcalls, hrest, hpre⟩ := hP
  obtain ⟨-, -, -, hnamed, -, -, -, hat⟩ := (Spec.applies_iff hf).mp happ
  obtain ⟨hg, hn⟩ := and_e (Cond.before_iff.mp (show (Jvm.Cond.and given_1 narrow_1).before args s = true from hpre))
  obtain ⟨hct, hg0⟩ := and_e hg
  obtain ⟨ga0, hg1⟩ := and_e hg0
  obtain ⟨ga1, hg2⟩ := and_e hg1
  obtain ⟨ga2, hg3⟩ := and_e hg2
  obtain ⟨ga3, hg4⟩ := and_e hg3
  have ga4 := hg4
  obtain ⟨w0, w1, w2, w3, w4, rfl⟩ : ∃ w0 w1 w2 w3 w4 : Value, args = #[w0, w1, w2, w3, w4] := by
    have hs : args.size = 5 := by simpa [Cond.value, given_1] using hct
    obtain ⟨L⟩ := args
    match L, hs with
    | [w0, w1, w2, w3, w4], _ => exact ⟨w0, w1, w2, w3, w4, rfl⟩
  have hw := fun d (hd : d ∈ tables_1) => atoms_spec (ws := Jvm.Cond.code x code maxLocals ret :: tables_1) hat d (List.mem_cons_of_mem _ hd)
  obtain ⟨i0, ei0⟩ := isL_v ga0
  obtain rfl : w0 = (.long i0) := Option.some.inj ei0
  obtain ⟨i1, ei1⟩ := isL_v ga1
  obtain rfl : w1 = (.long i1) := Option.some.inj ei1
  obtain ⟨i2, ei2⟩ := is_v ga2
  obtain rfl : w2 = (.int i2) := Option.some.inj ei2
  obtain ⟨i3, ei3⟩ := is_v ga3
  obtain rfl : w3 = (.int i3) := Option.some.inj ei3
  obtain ⟨i4, ei4⟩ := is_v ga4
  obtain rfl : w4 = (.int i4) := Option.some.inj ei4
  obtain ⟨n, o, h1, h2, h3, _, L, rfl, ⟨rfl, N⟩, hq⟩ := rm_law l s _ hw tables_1 i0 i1 i2 i3 i4 s.heap s.heap.size (Nat.le_refl _) p e ha hc hk s m _ below hf ((Spec.applies_iff_loose hf).mp happ).1 ⟨rfl, State.Warmed39.refl s, rfl⟩ trivial
  refine ⟨n, _, h1, h2, h3, hpost _ _ _ _ _ _ ⟨Cond.after_iff.mpr rfl, Cond.after_iff.mpr (eq_i res_at (Term.int_eval (1)) rfl), trivial⟩ ⟨hq.1, hq.2.1, (hq.2.2.sift fun y hy => Or.inr (N y hy)).mono (by decide) (by decide)⟩⟩
theorem main_1_1 : Claimed_1_1 := comes_1 fun _ _ _ _ _ _ h hF => ⟨h.1, hF⟩
theorem main_1_2 : Claimed_1_2 := comes_1 fun _ _ _ _ _ _ h hF => ⟨h.2.1, hF⟩
end Jvm.Pilot.@@N@@
namespace Jvm.Pilot.@@N@@
open Jvm Jvm.ClassFile Sem Op Lib Jvm.Free Jvm.Stand Jvm.Pilot.@@N@@.Jvm.D
/-! MADE BY PROGRAM (witnessworld.py) out of the Statement's table words and the real class files: 13 classes; the members and pool entries that the words name. The judged class is class 1, her method 2. -/
namespace start1
open Jvm.ClassFile
def u (s : String) : CpInfo := .utf8 (stringToUtf16 s)
/-- a pool by its gaps: so many unusable entries, then the entry; so many at the end -/
def gap : Nat → List CpInfo → List CpInfo
  | 0, r => r
  | n + 1, r => .unusable :: gap n r
def poolList (es : List (Nat × CpInfo)) (last : Nat) : List CpInfo := es.foldr (fun e r => gap e.1 (e.2 :: r)) (gap last [])
def pool (es : List (Nat × CpInfo)) (last : Nat) : Array CpInfo := ⟨poolList es last⟩
def fileOf (pool : Array CpInfo) (this : Nat) (attrs : Array Attribute := #[]) (ms : Array MethodInfo := #[]) (fl : Nat := 33) (sup : Nat := 0) (ifs : Array Nat := #[]) (fds : Array FieldInfo := #[]) : ClassFile where
  minorVersion := 0
  majorVersion := 65
  constantPool := pool
  accessFlags := fl
  thisClass := this
  superClass := sup
  interfaces := ifs
  fields := fds
  methods := ms
  attributes := attrs
def plain (name : String) (sup : Option ClassId) : Class where
  name := name
  kind := .ordinary
  loader := none
  accessFlags := 33
  super := sup
  interfaces := #[]
  cf := none
  fields := #[]
  methods := #[]
  instanceTypes := #[]
  staticTypes := #[]
  resolved := #[]
  callSites := []
  init := .initialized
  statics := none
  mirror := none

def pool0 : Array CpInfo := pool [(5, u "<init>"), (0, u "()V"), (1, .class_ 10), (1, u "java/lang/Object")] 113

def k0c0 : Code := { maxStack := 0, maxLocals := 1, code := object_method_1_code, exceptionTable := #[], attributes := #[] }
def k0m0 : Method := { name := "<init>", desc := "()V", sig := { parameters := [], returnType := none }, accessFlags := 1, code := some k0c0 }
/-- java/lang/Object -/
def k0 : Class := { plain "java/lang/Object" none with
  accessFlags := 33
  interfaces := #[]
  cf := some (fileOf pool0 8 #[] #[{ accessFlags := 1, nameIndex := 5, descriptorIndex := 6, attributes := #[] }] 33 0 #[] #[])
  fields := #[]
  methods := #[k0m0]
  instanceTypes := #[]
  staticTypes := #[]
  resolved := Array.replicate 124 none
  statics := none }

def pool1 : Array CpInfo := pool [(2, .class_ 4), (0, .nameAndType 5 6), (0, u "java/lang/Object"), (0, u "<init>"), (0, u "()V"), (0, .class_ 8), (0, u "com/example/graphweft/graphweft/RangeMaxTree"), (0, .methodref 7 3), (0, .methodref 7 11), (0, .nameAndType 12 13), (0, u "add"), (0, u "(J)V"), (0, .methodref 7 15), (0, .nameAndType 16 17), (0, u "index"), (0, u "()I"), (0, .methodref 7 19), (0, .nameAndType 20 21), (0, u "find"), (0, u "(IIJ)V"), (0, .methodref 7 23), (0, .nameAndType 24 17), (0, u "next"), (0, .methodref 26 27), (0, .class_ 28), (0, .nameAndType 29 30), (0, u "com/example/graphweft/graphweft/RangeMaxTreeFindPinLaw"), (0, u "firstFrom"), (0, u "([JIIJ)I"), (3, u "law"), (0, u "(JJIII)Z")] 4

def k1m0 : Method := { name := "<init>", desc := "()V", sig := { parameters := [], returnType := none }, accessFlags := 1, code := none }
def k1c1 : Code := { maxStack := 4, maxLocals := 5, code := method_2_code, exceptionTable := #[], attributes := #[] }
def k1m1 : Method := { name := "firstFrom", desc := "([JIIJ)I", sig := { parameters := [(.array .long), .int, .int, .long], returnType := some .int }, accessFlags := 10, code := some k1c1 }
def k1c2 : Code := { maxStack := 7, maxLocals := 21, code := code, exceptionTable := #[], attributes := #[] }
def k1m2 : Method := { name := "law", desc := "(JJIII)Z", sig := { parameters := [.long, .long, .int, .int, .int], returnType := some .boolean }, accessFlags := 9, code := some k1c2 }
/-- com/example/graphweft/graphweft/RangeMaxTreeFindPinLaw -/
def k1 : Class := { plain "com/example/graphweft/graphweft/RangeMaxTreeFindPinLaw" (some 0) with
  accessFlags := 49
  interfaces := #[]
  cf := some (fileOf pool1 26 #[] #[{ accessFlags := 1, nameIndex := 5, descriptorIndex := 6, attributes := #[] }, { accessFlags := 10, nameIndex := 29, descriptorIndex := 30, attributes := #[] }, { accessFlags := 9, nameIndex := 34, descriptorIndex := 35, attributes := #[] }] 49 2 #[] #[])
  fields := #[]
  methods := #[k1m0, k1m1, k1m2]
  instanceTypes := #[]
  staticTypes := #[]
  resolved := Array.replicate 40 none
  statics := none }

def pool2 : Array CpInfo := pool [(1, .methodref 2 3), (0, .class_ 4), (0, .nameAndType 5 6), (0, u "java/lang/Object"), (0, u "<init>"), (0, u "()V"), (0, .fieldref 8 9), (0, .class_ 10), (0, .nameAndType 11 12), (0, u "com/example/graphweft/graphweft/RangeMaxTree"), (0, u "values"), (0, u "[J"), (0, .fieldref 8 14), (0, .nameAndType 15 12), (0, u "maxima"), (0, .fieldref 8 17), (0, .nameAndType 18 19), (0, u "spanStarts"), (0, u "[I"), (0, .fieldref 8 21), (0, .nameAndType 22 19), (0, u "spanEnds"), (0, .fieldref 8 24), (0, .nameAndType 25 19), (0, u "spanBases"), (0, .fieldref 8 27), (0, .nameAndType 28 19), (0, u "pending"), (0, .fieldref 8 30), (0, .nameAndType 31 19), (0, u "lowNodes"), (0, .fieldref 8 33), (0, .nameAndType 34 35), (0, u "size"), (0, u "I"), (0, .fieldref 8 37), (0, .nameAndType 38 35), (0, u "nodeCount"), (0, .fieldref 8 40), (0, .nameAndType 41 35), (0, u "spanCount"), (0, .fieldref 8 43), (0, .nameAndType 44 35), (0, u "tailEnd"), (0, .fieldref 8 46), (0, .nameAndType 47 35), (0, u "tailAt"), (0, .fieldref 8 49), (0, .nameAndType 50 35), (0, u "scanEnd"), (0, .fieldref 8 52), (0, .nameAndType 53 35), (0, u "scanAt"), (0, .fieldref 8 55), (0, .nameAndType 56 35), (0, u "pendingCount"), (1, .class_ 60), (1, u "java/util/Arrays"), (3, .class_ 66), (1, u "java/lang/Math"), (0, u "max"), (6, .long 9223372036854775808), (1, .methodref 58 77), (0, .nameAndType 78 79), (0, u "fill"), (0, u "([JIIJ)V"), (0, .methodref 64 81), (0, .nameAndType 67 82), (0, u "(JJ)J"), (0, .fieldref 8 84), (0, .nameAndType 85 86), (0, u "bound"), (0, u "J"), (0, .fieldref 8 88), (0, .nameAndType 89 35), (0, u "spanStart"), (0, .fieldref 8 91), (0, .nameAndType 92 35), (0, u "base"), (0, .fieldref 8 94), (0, .nameAndType 95 35), (0, u "blockCount"), (0, .methodref 8 97), (0, .nameAndType 98 99), (0, u "lookInto"), (0, u "(I)V"), (0, u "BLOCK"), (5, u "()I"), (0, u "add"), (0, u "(J)V"), (1, u "index"), (2, u "find"), (0, u "(IIJ)V"), (0, u "next")] 2

def k2c0 : Code := { maxStack := 2, maxLocals := 1, code := prog_32_method_1_code, exceptionTable := #[], attributes := #[] }
def k2m0 : Method := { name := "<init>", desc := "()V", sig := { parameters := [], returnType := none }, accessFlags := 0, code := some k2c0 }
def k2c1 : Code := { maxStack := 5, maxLocals := 3, code := prog_32_method_4_code, exceptionTable := #[], attributes := #[] }
def k2m1 : Method := { name := "add", desc := "(J)V", sig := { parameters := [.long], returnType := none }, accessFlags := 0, code := some k2c1 }
def k2c2 : Code := { maxStack := 8, maxLocals := 5, code := prog_32_method_5_code, exceptionTable := #[], attributes := #[] }
def k2m2 : Method := { name := "index", desc := "()I", sig := { parameters := [], returnType := some .int }, accessFlags := 0, code := some k2c2 }
def k2c3 : Code := { maxStack := 5, maxLocals := 10, code := prog_32_method_8_code, exceptionTable := #[], attributes := #[] }
def k2m3 : Method := { name := "find", desc := "(IIJ)V", sig := { parameters := [.int, .int, .long], returnType := none }, accessFlags := 0, code := some k2c3 }
def k2c4 : Code := { maxStack := 5, maxLocals := 2, code := prog_32_method_9_code, exceptionTable := #[], attributes := #[] }
def k2m4 : Method := { name := "next", desc := "()I", sig := { parameters := [], returnType := some .int }, accessFlags := 0, code := some k2c4 }
def k2c5 : Code := { maxStack := 5, maxLocals := 2, code := prog_32_method_10_code, exceptionTable := #[], attributes := #[] }
def k2m5 : Method := { name := "lookInto", desc := "(I)V", sig := { parameters := [.int], returnType := none }, accessFlags := 2, code := some k2c5 }
/-- com/example/graphweft/graphweft/RangeMaxTree -/
def k2 : Class := { plain "com/example/graphweft/graphweft/RangeMaxTree" (some 0) with
  accessFlags := 48
  interfaces := #[]
  cf := some (fileOf pool2 8 #[] #[{ accessFlags := 0, nameIndex := 5, descriptorIndex := 6, attributes := #[] }, { accessFlags := 0, nameIndex := 107, descriptorIndex := 108, attributes := #[] }, { accessFlags := 0, nameIndex := 110, descriptorIndex := 106, attributes := #[] }, { accessFlags := 0, nameIndex := 113, descriptorIndex := 114, attributes := #[] }, { accessFlags := 0, nameIndex := 115, descriptorIndex := 106, attributes := #[] }, { accessFlags := 2, nameIndex := 98, descriptorIndex := 99, attributes := #[] }] 48 2 #[] #[{ accessFlags := 26, nameIndex := 100, descriptorIndex := 35, attributes := #[] }, { accessFlags := 2, nameIndex := 11, descriptorIndex := 12, attributes := #[] }, { accessFlags := 2, nameIndex := 34, descriptorIndex := 35, attributes := #[] }, { accessFlags := 2, nameIndex := 15, descriptorIndex := 12, attributes := #[] }, { accessFlags := 2, nameIndex := 38, descriptorIndex := 35, attributes := #[] }, { accessFlags := 2, nameIndex := 18, descriptorIndex := 19, attributes := #[] }, { accessFlags := 2, nameIndex := 22, descriptorIndex := 19, attributes := #[] }, { accessFlags := 2, nameIndex := 25, descriptorIndex := 19, attributes := #[] }, { accessFlags := 2, nameIndex := 41, descriptorIndex := 35, attributes := #[] }, { accessFlags := 18, nameIndex := 28, descriptorIndex := 19, attributes := #[] }, { accessFlags := 2, nameIndex := 56, descriptorIndex := 35, attributes := #[] }, { accessFlags := 18, nameIndex := 31, descriptorIndex := 19, attributes := #[] }, { accessFlags := 2, nameIndex := 92, descriptorIndex := 35, attributes := #[] }, { accessFlags := 2, nameIndex := 95, descriptorIndex := 35, attributes := #[] }, { accessFlags := 2, nameIndex := 89, descriptorIndex := 35, attributes := #[] }, { accessFlags := 2, nameIndex := 53, descriptorIndex := 35, attributes := #[] }, { accessFlags := 2, nameIndex := 50, descriptorIndex := 35, attributes := #[] }, { accessFlags := 2, nameIndex := 47, descriptorIndex := 35, attributes := #[] }, { accessFlags := 2, nameIndex := 44, descriptorIndex := 35, attributes := #[] }, { accessFlags := 2, nameIndex := 85, descriptorIndex := 86, attributes := #[] }])
  fields := #[{ name := "BLOCK", type := .int, accessFlags := 26, slot := 0, constantValue := 0 }, { name := "values", type := (.array .long), accessFlags := 2, slot := 0, constantValue := 0 }, { name := "size", type := .int, accessFlags := 2, slot := 1, constantValue := 0 }, { name := "maxima", type := (.array .long), accessFlags := 2, slot := 2, constantValue := 0 }, { name := "nodeCount", type := .int, accessFlags := 2, slot := 3, constantValue := 0 }, { name := "spanStarts", type := (.array .int), accessFlags := 2, slot := 4, constantValue := 0 }, { name := "spanEnds", type := (.array .int), accessFlags := 2, slot := 5, constantValue := 0 }, { name := "spanBases", type := (.array .int), accessFlags := 2, slot := 6, constantValue := 0 }, { name := "spanCount", type := .int, accessFlags := 2, slot := 7, constantValue := 0 }, { name := "pending", type := (.array .int), accessFlags := 18, slot := 8, constantValue := 0 }, { name := "pendingCount", type := .int, accessFlags := 2, slot := 9, constantValue := 0 }, { name := "lowNodes", type := (.array .int), accessFlags := 18, slot := 10, constantValue := 0 }, { name := "base", type := .int, accessFlags := 2, slot := 11, constantValue := 0 }, { name := "blockCount", type := .int, accessFlags := 2, slot := 12, constantValue := 0 }, { name := "spanStart", type := .int, accessFlags := 2, slot := 13, constantValue := 0 }, { name := "scanAt", type := .int, accessFlags := 2, slot := 14, constantValue := 0 }, { name := "scanEnd", type := .int, accessFlags := 2, slot := 15, constantValue := 0 }, { name := "tailAt", type := .int, accessFlags := 2, slot := 16, constantValue := 0 }, { name := "tailEnd", type := .int, accessFlags := 2, slot := 17, constantValue := 0 }, { name := "bound", type := .long, accessFlags := 2, slot := 18, constantValue := 0 }]
  methods := #[k2m0, k2m1, k2m2, k2m3, k2m4, k2m5]
  instanceTypes := #[(.array .long), .int, (.array .long), .int, (.array .int), (.array .int), (.array .int), .int, (.array .int), .int, (.array .int), .int, .int, .int, .int, .int, .int, .int, .long]
  staticTypes := #[.int]
  resolved := Array.replicate 118 none
  statics := none }

def pool3 : Array CpInfo := pool [(2, .class_ 4), (1, u "java/lang/Object"), (0, u "<init>"), (0, u "()V"), (6, .methodref 14 15), (0, .class_ 16), (0, .nameAndType 17 18), (0, u "java/util/Arrays"), (0, u "rangeCheck"), (0, u "(III)V"), (55, .class_ 76), (1, u "java/util/Arrays$NaturalOrder"), (36, .class_ 115), (1, u "java/util/Arrays$LegacyMergeSort"), (1, u "Z"), (257, .class_ 376), (0, u "java/util/Arrays$ArrayList"), (68, u "$assertionsDisabled"), (269, u "MIN_ARRAY_SORT_GRAN"), (0, u "I"), (2, u "INSERTIONSORT_THRESHOLD"), (120, u "fill"), (3, u "([JIIJ)V"), (130, .class_ 976), (0, u "java/util/Arrays$ArrayItr")] 52

def k3m0 : Method := { name := "<init>", desc := "()V", sig := { parameters := [], returnType := none }, accessFlags := 2, code := none }
def k3c1 : Code := { maxStack := 4, maxLocals := 3, code := jdk_65_method_30_code, exceptionTable := #[], attributes := #[] }
def k3m1 : Method := { name := "rangeCheck", desc := "(III)V", sig := { parameters := [.int, .int, .int], returnType := none }, accessFlags := 8, code := some k3c1 }
def k3c2 : Code := { maxStack := 4, maxLocals := 6, code := jdk_65_method_102_code, exceptionTable := #[], attributes := #[] }
def k3m2 : Method := { name := "fill", desc := "([JIIJ)V", sig := { parameters := [(.array .long), .int, .int, .long], returnType := none }, accessFlags := 9, code := some k3c2 }
/-- java/util/Arrays -/
def k3 : Class := { plain "java/util/Arrays" (some 0) with
  accessFlags := 49
  interfaces := #[]
  cf := some (fileOf pool3 14 #[.nestMembers #[975, 375, 113, 74]] #[{ accessFlags := 2, nameIndex := 5, descriptorIndex := 6, attributes := #[] }, { accessFlags := 8, nameIndex := 17, descriptorIndex := 18, attributes := #[] }, { accessFlags := 9, nameIndex := 840, descriptorIndex := 844, attributes := #[] }] 49 2 #[] #[{ accessFlags := 26, nameIndex := 715, descriptorIndex := 716, attributes := #[] }, { accessFlags := 26, nameIndex := 719, descriptorIndex := 716, attributes := #[] }, { accessFlags := 4120, nameIndex := 445, descriptorIndex := 117, attributes := #[] }])
  fields := #[{ name := "MIN_ARRAY_SORT_GRAN", type := .int, accessFlags := 26, slot := 0, constantValue := 0 }, { name := "INSERTIONSORT_THRESHOLD", type := .int, accessFlags := 26, slot := 1, constantValue := 0 }, { name := "$assertionsDisabled", type := .boolean, accessFlags := 4120, slot := 2, constantValue := 0 }]
  methods := #[k3m0, k3m1, k3m2]
  instanceTypes := #[]
  staticTypes := #[.int, .int, .boolean]
  resolved := Array.replicate 1029 none
  statics := none }

def pool4 : Array CpInfo := pool [(1, .class_ 2), (0, u "java/lang/Math"), (1, .class_ 6), (1, u "java/lang/Object"), (0, u "<init>"), (0, u "()V"), (89, .class_ 100), (1, u "java/lang/Math$RandomNumberGeneratorHolder"), (20, u "(JJ)J"), (50, u "negativeZeroFloatBits"), (0, u "J"), (2, u "negativeZeroDoubleBits"), (21, u "max"), (46, u "$assertionsDisabled"), (0, u "Z"), (91, u "twoToTheDoubleScaleDown"), (0, u "D"), (4, u "twoToTheDoubleScaleUp"), (9, u "E"), (3, u "PI"), (2, u "TAU"), (2, u "DEGREES_TO_RADIANS"), (0, u "RADIANS_TO_DEGREES")] 94

def k4m0 : Method := { name := "<init>", desc := "()V", sig := { parameters := [], returnType := none }, accessFlags := 2, code := none }
def k4c1 : Code := { maxStack := 4, maxLocals := 4, code := jdk_29_method_66_code, exceptionTable := #[], attributes := #[] }
def k4m1 : Method := { name := "max", desc := "(JJ)J", sig := { parameters := [.long, .long], returnType := some .long }, accessFlags := 9, code := some k4c1 }
/-- java/lang/Math -/
def k4 : Class := { plain "java/lang/Math" (some 0) with
  accessFlags := 49
  interfaces := #[]
  cf := some (fileOf pool4 1 #[.nestMembers #[98]] #[{ accessFlags := 2, nameIndex := 7, descriptorIndex := 8, attributes := #[] }, { accessFlags := 9, nameIndex := 198, descriptorIndex := 121, attributes := #[] }] 49 4 #[] #[{ accessFlags := 25, nameIndex := 354, descriptorIndex := 339, attributes := #[] }, { accessFlags := 25, nameIndex := 358, descriptorIndex := 339, attributes := #[] }, { accessFlags := 25, nameIndex := 361, descriptorIndex := 339, attributes := #[] }, { accessFlags := 26, nameIndex := 364, descriptorIndex := 339, attributes := #[] }, { accessFlags := 26, nameIndex := 365, descriptorIndex := 339, attributes := #[] }, { accessFlags := 26, nameIndex := 172, descriptorIndex := 173, attributes := #[] }, { accessFlags := 26, nameIndex := 176, descriptorIndex := 173, attributes := #[] }, { accessFlags := 8, nameIndex := 344, descriptorIndex := 339, attributes := #[] }, { accessFlags := 8, nameIndex := 338, descriptorIndex := 339, attributes := #[] }, { accessFlags := 4120, nameIndex := 245, descriptorIndex := 246, attributes := #[] }])
  fields := #[{ name := "E", type := .double, accessFlags := 25, slot := 0, constantValue := 0 }, { name := "PI", type := .double, accessFlags := 25, slot := 1, constantValue := 0 }, { name := "TAU", type := .double, accessFlags := 25, slot := 2, constantValue := 0 }, { name := "DEGREES_TO_RADIANS", type := .double, accessFlags := 26, slot := 3, constantValue := 0 }, { name := "RADIANS_TO_DEGREES", type := .double, accessFlags := 26, slot := 4, constantValue := 0 }, { name := "negativeZeroFloatBits", type := .long, accessFlags := 26, slot := 5, constantValue := 0 }, { name := "negativeZeroDoubleBits", type := .long, accessFlags := 26, slot := 6, constantValue := 0 }, { name := "twoToTheDoubleScaleUp", type := .double, accessFlags := 8, slot := 7, constantValue := 0 }, { name := "twoToTheDoubleScaleDown", type := .double, accessFlags := 8, slot := 8, constantValue := 0 }, { name := "$assertionsDisabled", type := .boolean, accessFlags := 4120, slot := 9, constantValue := 0 }]
  methods := #[k4m0, k4m1]
  instanceTypes := #[]
  staticTypes := #[.double, .double, .double, .double, .double, .long, .long, .double, .double, .boolean]
  resolved := Array.replicate 460 none
  statics := none }

def pool5 : Array CpInfo := pool [(1, u "java/lang/Cloneable"), (0, .class_ 1), (0, u "java/lang/Object"), (0, .class_ 3)] 3

/-- java/lang/Cloneable -/
def k5 : Class := { plain "java/lang/Cloneable" (some 0) with
  accessFlags := 1537
  interfaces := #[]
  cf := some (fileOf pool5 2 #[] #[] 1537 4 #[] #[])
  fields := #[]
  methods := #[]
  instanceTypes := #[]
  staticTypes := #[]
  resolved := Array.replicate 8 none
  statics := none }

def pool6 : Array CpInfo := pool [(1, u "java/io/Serializable"), (0, .class_ 1), (0, u "java/lang/Object"), (0, .class_ 3)] 3

/-- java/io/Serializable -/
def k6 : Class := { plain "java/io/Serializable" (some 0) with
  accessFlags := 1537
  interfaces := #[]
  cf := some (fileOf pool6 2 #[] #[] 1537 4 #[] #[])
  fields := #[]
  methods := #[]
  instanceTypes := #[]
  staticTypes := #[]
  resolved := Array.replicate 8 none
  statics := none }

/-- the primitive byte -/
def k7 : Class := { plain "byte" none with kind := .primitive 'B', accessFlags := 0x411 }
/-- [B -/
def k8 : Class := { plain "[B" (some 0) with kind := .array 7 .byte, interfaces := #[5, 6], accessFlags := 1041 }

/-- the primitive int -/
def k9 : Class := { plain "int" none with kind := .primitive 'I', accessFlags := 0x411 }
/-- [I -/
def k10 : Class := { plain "[I" (some 0) with kind := .array 9 .int, interfaces := #[5, 6], accessFlags := 1041 }

/-- the primitive long -/
def k11 : Class := { plain "long" none with kind := .primitive 'J', accessFlags := 0x411 }
/-- [J -/
def k12 : Class := { plain "[J" (some 0) with kind := .array 11 .long, interfaces := #[5, 6], accessFlags := 1041 }

def heap : Heap := #[]
def classes : Array Class := #[k0, k1, k2, k3, k4, k5, k6, k7, k8, k9, k10, k11, k12]
def interned : List (Array UInt16 × Addr) := []
def slotsUsed : Nat := 0
def theMethod : MethodId := ⟨1, 2⟩
def args0 : Array Value := #[.long 5, .long 7, .int 3, .int 4, .int 5]
def aboutOver (below : List Frame) : State where
  vm := { classes := classes, interned := interned.toArray }
  heap := heap
  slotsUsed := slotsUsed
  threads := #[{ frames := .invoking theMethod args0 :: below }]
def below0 : List Frame := [.native { method := ⟨0, 0⟩, args := #[] }]
def about1 : State := aboutOver below0
def p0 : Program := .bare "" "" ""
def e0 : Env := launch0.env 0 0 0
theorem w_frames : about1.frames = Frame.invoking theMethod args0 :: below0 := rfl
set_option maxRecDepth 65536 in
theorem w_args : argsFit about1.vm theMethod args0 = true := by decide +kernel
set_option maxRecDepth 65536 in
theorem w_heap : heapFits about1 = true := by decide +kernel
set_option maxRecDepth 65536 in
theorem w_runnable : about1.curStatus? = some .runnable := by decide +kernel
set_option maxRecDepth 65536 in
theorem w_alone : about1.alone = true := by decide +kernel
set_option maxRecDepth 65536 in
theorem w_named : about1.methodNamed? x = some theMethod := by decide +kernel
set_option maxRecDepth 65536 in
theorem w_hears : about1.hears theMethod below0 = true := by decide +kernel
set_option maxRecDepth 65536 in
theorem w_ripe : about1.ripe theMethod args0 below0 = true := by decide +kernel
theorem w_running : about1.status = .running := rfl
set_option maxRecDepth 65536 in
theorem w_room : about1.hasRoom e0.platform room_1 = true :=
  launch0.hasRoom_least _ room_1 (by decide +kernel) (by decide +kernel) (by decide +kernel) (by decide +kernel) (by decide +kernel) (by decide +kernel)
theorem allAtoms_all (ts : List Jvm.Cond) (a : Array Jvm.Value) (st : Jvm.State) : (allAtoms ts).before a st = ts.all (fun c => c.before a st) := by
  induction ts with
  | nil => rfl
  | cons c t ih =>
    show (Jvm.Cond.and c (allAtoms t)).before a st = _
    rw [Jvm.Cond.before_and, ih, List.all_cons]
def words1 : List Jvm.Cond := Jvm.Cond.code x code maxLocals ret :: tables_1
/-- a 'code' word, met by the world's own term for the bytes: nothing is compared byte by byte -/
theorem code_word {y : MethodName} {bytes : ByteArray} {mx : Nat} {rt : Option FieldType} {a : Array Value} {s : State} {m : MethodId} {meth : Method} {c : Code} (h1 : s.methodNamed? y = some m) (h2 : s.vm.method? m = some meth) (h3 : meth.code = some c) (h4 : c.code = bytes)
    (h5 : (c.maxLocals == mx && c.exceptionTable.isEmpty && decide (c.maxStack ≤ mostOperands) && decide (meth.sig.returnType = rt) && !meth.locks && decide (parseMethodDescriptor y.desc = some meth.sig)) = true) : (Jvm.Cond.code y bytes mx rt).before a s = true := by
  simp only [Bool.and_eq_true, beq_iff_eq, Bool.not_eq_true', decide_eq_true_eq] at h5
  obtain ⟨⟨⟨⟨⟨g1, g2⟩, g3⟩, g4⟩, g5⟩, g6⟩ := h5
  simp [Cond.before, Cond.holds, Cond.value, h1, h2, h3, h4, g1, g2, g3, g4, g5, g6]
def isCode : Jvm.Cond → Bool
  | .code _ _ _ _ => true
  | _ => false
theorem all_split {L : List Jvm.Cond} {P : Jvm.Cond → Bool} (h1 : L.all (fun c => isCode c || P c) = true) (h2 : ∀ c ∈ L.filter isCode, P c = true) : L.all P = true := by
  refine List.all_eq_true.mpr fun c hc => ?_
  have h := List.all_eq_true.mp h1 c hc
  rcases Bool.eq_false_or_eq_true (isCode c) with hi | hi
  · exact h2 c (List.mem_filter.mpr ⟨hc, hi⟩)
  · simpa [hi] using h
set_option maxRecDepth 65536 in
theorem w_c0 : (Jvm.Cond.code x code maxLocals ret).before args0 about1 = true := code_word (m := ⟨1, 2⟩) (meth := k1m2) (c := k1c2) (by decide +kernel) rfl rfl rfl (by decide +kernel)
set_option maxRecDepth 65536 in
theorem w_c1 : (Jvm.Cond.code ({ cls := "com/example/graphweft/graphweft/RangeMaxTree", name := "<init>", desc := "()V" } : Jvm.MethodName) prog_32_method_1_code (1 : Nat) (Option.none : Option Jvm.ClassFile.FieldType)).before args0 about1 = true := code_word (m := ⟨2, 0⟩) (meth := k2m0) (c := k2c0) (by decide +kernel) rfl rfl rfl (by decide +kernel)
set_option maxRecDepth 65536 in
theorem w_c2 : (Jvm.Cond.code ({ cls := "java/lang/Object", name := "<init>", desc := "()V" } : Jvm.MethodName) object_method_1_code (1 : Nat) (Option.none : Option Jvm.ClassFile.FieldType)).before args0 about1 = true := code_word (m := ⟨0, 0⟩) (meth := k0m0) (c := k0c0) (by decide +kernel) rfl rfl rfl (by decide +kernel)
set_option maxRecDepth 65536 in
theorem w_c3 : (Jvm.Cond.code ({ cls := "com/example/graphweft/graphweft/RangeMaxTree", name := "index", desc := "()I" } : Jvm.MethodName) prog_32_method_5_code (5 : Nat) (Option.some Jvm.ClassFile.FieldType.int)).before args0 about1 = true := code_word (m := ⟨2, 2⟩) (meth := k2m2) (c := k2c2) (by decide +kernel) rfl rfl rfl (by decide +kernel)
set_option maxRecDepth 65536 in
theorem w_c4 : (Jvm.Cond.code ({ cls := "java/util/Arrays", name := "fill", desc := "([JIIJ)V" } : Jvm.MethodName) jdk_65_method_102_code (6 : Nat) (Option.none : Option Jvm.ClassFile.FieldType)).before args0 about1 = true := code_word (m := ⟨3, 2⟩) (meth := k3m2) (c := k3c2) (by decide +kernel) rfl rfl rfl (by decide +kernel)
set_option maxRecDepth 65536 in
theorem w_c5 : (Jvm.Cond.code ({ cls := "java/util/Arrays", name := "rangeCheck", desc := "(III)V" } : Jvm.MethodName) jdk_65_method_30_code (3 : Nat) (Option.none : Option Jvm.ClassFile.FieldType)).before args0 about1 = true := code_word (m := ⟨3, 1⟩) (meth := k3m1) (c := k3c1) (by decide +kernel) rfl rfl rfl (by decide +kernel)
set_option maxRecDepth 65536 in
theorem w_c6 : (Jvm.Cond.code ({ cls := "com/example/graphweft/graphweft/RangeMaxTree", name := "find", desc := "(IIJ)V" } : Jvm.MethodName) prog_32_method_8_code (10 : Nat) (Option.none : Option Jvm.ClassFile.FieldType)).before args0 about1 = true := code_word (m := ⟨2, 3⟩) (meth := k2m3) (c := k2c3) (by decide +kernel) rfl rfl rfl (by decide +kernel)
set_option maxRecDepth 65536 in
theorem w_c7 : (Jvm.Cond.code ({ cls := "com/example/graphweft/graphweft/RangeMaxTree", name := "next", desc := "()I" } : Jvm.MethodName) prog_32_method_9_code (2 : Nat) (Option.some Jvm.ClassFile.FieldType.int)).before args0 about1 = true := code_word (m := ⟨2, 4⟩) (meth := k2m4) (c := k2c4) (by decide +kernel) rfl rfl rfl (by decide +kernel)
set_option maxRecDepth 65536 in
theorem w_c8 : (Jvm.Cond.code ({ cls := "com/example/graphweft/graphweft/RangeMaxTreeFindPinLaw", name := "firstFrom", desc := "([JIIJ)I" } : Jvm.MethodName) method_2_code (5 : Nat) (Option.some Jvm.ClassFile.FieldType.int)).before args0 about1 = true := code_word (m := ⟨1, 1⟩) (meth := k1m1) (c := k1c1) (by decide +kernel) rfl rfl rfl (by decide +kernel)
set_option maxRecDepth 65536 in
theorem w_c9 : (Jvm.Cond.code ({ cls := "com/example/graphweft/graphweft/RangeMaxTree", name := "add", desc := "(J)V" } : Jvm.MethodName) prog_32_method_4_code (3 : Nat) (Option.none : Option Jvm.ClassFile.FieldType)).before args0 about1 = true := code_word (m := ⟨2, 1⟩) (meth := k2m1) (c := k2c1) (by decide +kernel) rfl rfl rfl (by decide +kernel)
set_option maxRecDepth 65536 in
theorem w_c10 : (Jvm.Cond.code ({ cls := "java/lang/Math", name := "max", desc := "(JJ)J" } : Jvm.MethodName) jdk_29_method_66_code (4 : Nat) (Option.some Jvm.ClassFile.FieldType.long)).before args0 about1 = true := code_word (m := ⟨4, 1⟩) (meth := k4m1) (c := k4c1) (by decide +kernel) rfl rfl rfl (by decide +kernel)
set_option maxRecDepth 65536 in
theorem w_c11 : (Jvm.Cond.code ({ cls := "com/example/graphweft/graphweft/RangeMaxTree", name := "lookInto", desc := "(I)V" } : Jvm.MethodName) prog_32_method_10_code (2 : Nat) (Option.none : Option Jvm.ClassFile.FieldType)).before args0 about1 = true := code_word (m := ⟨2, 5⟩) (meth := k2m5) (c := k2c5) (by decide +kernel) rfl rfl rfl (by decide +kernel)
def codes1 : List Jvm.Cond := [Jvm.Cond.code x code maxLocals ret, Jvm.Cond.code ({ cls := "com/example/graphweft/graphweft/RangeMaxTree", name := "<init>", desc := "()V" } : Jvm.MethodName) prog_32_method_1_code (1 : Nat) (Option.none : Option Jvm.ClassFile.FieldType), Jvm.Cond.code ({ cls := "java/lang/Object", name := "<init>", desc := "()V" } : Jvm.MethodName) object_method_1_code (1 : Nat) (Option.none : Option Jvm.ClassFile.FieldType), Jvm.Cond.code ({ cls := "com/example/graphweft/graphweft/RangeMaxTree", name := "index", desc := "()I" } : Jvm.MethodName) prog_32_method_5_code (5 : Nat) (Option.some Jvm.ClassFile.FieldType.int), Jvm.Cond.code ({ cls := "java/util/Arrays", name := "fill", desc := "([JIIJ)V" } : Jvm.MethodName) jdk_65_method_102_code (6 : Nat) (Option.none : Option Jvm.ClassFile.FieldType), Jvm.Cond.code ({ cls := "java/util/Arrays", name := "rangeCheck", desc := "(III)V" } : Jvm.MethodName) jdk_65_method_30_code (3 : Nat) (Option.none : Option Jvm.ClassFile.FieldType), Jvm.Cond.code ({ cls := "com/example/graphweft/graphweft/RangeMaxTree", name := "find", desc := "(IIJ)V" } : Jvm.MethodName) prog_32_method_8_code (10 : Nat) (Option.none : Option Jvm.ClassFile.FieldType), Jvm.Cond.code ({ cls := "com/example/graphweft/graphweft/RangeMaxTree", name := "next", desc := "()I" } : Jvm.MethodName) prog_32_method_9_code (2 : Nat) (Option.some Jvm.ClassFile.FieldType.int), Jvm.Cond.code ({ cls := "com/example/graphweft/graphweft/RangeMaxTreeFindPinLaw", name := "firstFrom", desc := "([JIIJ)I" } : Jvm.MethodName) method_2_code (5 : Nat) (Option.some Jvm.ClassFile.FieldType.int), Jvm.Cond.code ({ cls := "com/example/graphweft/graphweft/RangeMaxTree", name := "add", desc := "(J)V" } : Jvm.MethodName) prog_32_method_4_code (3 : Nat) (Option.none : Option Jvm.ClassFile.FieldType), Jvm.Cond.code ({ cls := "java/lang/Math", name := "max", desc := "(JJ)J" } : Jvm.MethodName) jdk_29_method_66_code (4 : Nat) (Option.some Jvm.ClassFile.FieldType.long), Jvm.Cond.code ({ cls := "com/example/graphweft/graphweft/RangeMaxTree", name := "lookInto", desc := "(I)V" } : Jvm.MethodName) prog_32_method_10_code (2 : Nat) (Option.none : Option Jvm.ClassFile.FieldType)]
set_option maxRecDepth 65536 in
theorem codes_eq : words1.filter isCode = codes1 := rfl
theorem w_codes : ∀ c ∈ words1.filter isCode, c.before args0 about1 = true := by
  rw [codes_eq]
  intro c hc
  simp only [codes1, List.mem_cons, List.not_mem_nil, or_false] at hc
  rcases hc with rfl | rfl | rfl | rfl | rfl | rfl | rfl | rfl | rfl | rfl | rfl | rfl
  · exact w_c0
  · exact w_c1
  · exact w_c2
  · exact w_c3
  · exact w_c4
  · exact w_c5
  · exact w_c6
  · exact w_c7
  · exact w_c8
  · exact w_c9
  · exact w_c10
  · exact w_c11
set_option maxRecDepth 65536 in
theorem w_t1 : (words1.take 24).all (fun c => isCode c || c.before args0 about1) = true := by decide +kernel
set_option maxRecDepth 65536 in
theorem w_t2 : ((words1.drop 24).take 24).all (fun c => isCode c || c.before args0 about1) = true := by decide +kernel
set_option maxRecDepth 65536 in
theorem w_t3 : (((words1.drop 24).drop 24).take 24).all (fun c => isCode c || c.before args0 about1) = true := by decide +kernel
set_option maxRecDepth 65536 in
theorem w_t4 : (((words1.drop 24).drop 24).drop 24).all (fun c => isCode c || c.before args0 about1) = true := by decide +kernel
theorem w_tables : (allAtoms (Jvm.Cond.code x code maxLocals ret :: tables_1)).before args0 about1 = true := by
  rw [allAtoms_all]
  show words1.all (fun c => c.before args0 about1) = true
  refine all_split ?_ w_codes
  rw [← List.take_append_drop 24 words1, List.all_append, w_t1, ← List.take_append_drop 24 (words1.drop 24), List.all_append, w_t2, ← List.take_append_drop 24 ((words1.drop 24).drop 24), List.all_append, w_t3, w_t4]
  rfl
set_option maxRecDepth 65536 in
theorem w_case : (Jvm.Cond.and given_1 narrow_1).before args0 about1 = true := by decide +kernel
theorem w_applies : (headSpec (Jvm.Cond.code x code maxLocals ret :: tables_1) room_1).applies x e0.platform about1 = true :=
  (Spec.applies_iff w_frames).mpr ⟨w_running, w_runnable, w_alone, w_named, w_hears, w_ripe, w_room, w_tables⟩
theorem atStart : AtStart classFile x code maxLocals ret World_1 tables_1 room_1 Calls_1 rest_1 Pre_1 launch0 p0 e0 about1 theMethod args0 below0 :=
  ⟨lists_1, trivial, launch0.admits_env _ _ _, launch0.least_env, fairChoices_fair.cas, fairChoices_fair.clock, w_frames, w_args, w_heap, w_applies, trivial, trivial, w_case⟩
end start1
theorem witness_1 : WitnessClaimed_1 := ⟨start1.p0, start1.e0, start1.about1, start1.theMethod, start1.args0, start1.below0, start1.atStart⟩
end Jvm.Pilot.@@N@@
