import JvmDerived
import JvmDerived.Pilot.@@N@@Statement
import JvmDerived.Pilot.@@N@@Code
set_option linter.unusedVariables false
set_option linter.unusedSimpArgs false
namespace Jvm.Pilot.@@N@@
open Jvm Jvm.ClassFile Sem Op Lib Jvm.Free Jvm.Stand Jvm.LawKit Jvm.RoadKit Bundle Jvm.Pilot.@@N@@.Jvm.D
theorem tw0 {Z : State} {a0 : Array Value} (hw : ∀ d ∈ tables_1, d.before a0 Z = true) : (Jvm.Cond.constantLong "com/example/tristream/tristream/SampleGraphContainsPinLaw" (9 : Nat) (9223372036854775807 : Int64)).before a0 Z = true := hw _ (List.mem_of_getElem? (i := 0) rfl)
theorem tw1 {Z : State} {a0 : Array Value} (hw : ∀ d ∈ tables_1, d.before a0 Z = true) : (Jvm.Cond.methodLink "com/example/tristream/tristream/SampleGraphContainsPinLaw" (11 : Nat) ({ cls := "com/example/tristream/tristream/SampleGraphContainsPinLaw", name := "pick", desc := "(IJJJJ)J" } : Jvm.MethodName)).before a0 Z = true := hw _ (List.mem_of_getElem? (i := 1) rfl)
theorem tw2 {Z : State} {a0 : Array Value} (hw : ∀ d ∈ tables_1, d.before a0 Z = true) : (Jvm.Cond.static ({ cls := "com/example/tristream/tristream/SampleGraphContainsPinLaw", name := "pick", desc := "(IJJJJ)J" } : Jvm.MethodName)).before a0 Z = true := hw _ (List.mem_of_getElem? (i := 2) rfl)
theorem tw3 {Z : State} {a0 : Array Value} (hw : ∀ d ∈ tables_1, d.before a0 Z = true) : (Jvm.Cond.initialized "com/example/tristream/tristream/SampleGraphContainsPinLaw").before a0 Z = true := hw _ (List.mem_of_getElem? (i := 3) rfl)
theorem tw4 {Z : State} {a0 : Array Value} (hw : ∀ d ∈ tables_1, d.before a0 Z = true) : (Jvm.Cond.code ({ cls := "com/example/tristream/tristream/SampleGraphContainsPinLaw", name := "pick", desc := "(IJJJJ)J" } : Jvm.MethodName) method_2_code (9 : Nat) (Option.some Jvm.ClassFile.FieldType.long)).before a0 Z = true := hw _ (List.mem_of_getElem? (i := 4) rfl)
theorem tw5 {Z : State} {a0 : Array Value} (hw : ∀ d ∈ tables_1, d.before a0 Z = true) : (Jvm.Cond.classLink "com/example/tristream/tristream/SampleGraphContainsPinLaw" (17 : Nat) "com/example/tristream/tristream/SampleGraph").before a0 Z = true := hw _ (List.mem_of_getElem? (i := 5) rfl)
theorem tw6 {Z : State} {a0 : Array Value} (hw : ∀ d ∈ tables_1, d.before a0 Z = true) : (Jvm.Cond.instantiable "com/example/tristream/tristream/SampleGraph" (2 : Nat)).before a0 Z = true := hw _ (List.mem_of_getElem? (i := 6) rfl)
theorem tw7 {Z : State} {a0 : Array Value} (hw : ∀ d ∈ tables_1, d.before a0 Z = true) : (Jvm.Cond.initialized "com/example/tristream/tristream/SampleGraph").before a0 Z = true := hw _ (List.mem_of_getElem? (i := 7) rfl)
theorem tw8 {Z : State} {a0 : Array Value} (hw : ∀ d ∈ tables_1, d.before a0 Z = true) : (Jvm.Cond.methodLink "com/example/tristream/tristream/SampleGraphContainsPinLaw" (19 : Nat) ({ cls := "com/example/tristream/tristream/SampleGraph", name := "<init>", desc := "()V" } : Jvm.MethodName)).before a0 Z = true := hw _ (List.mem_of_getElem? (i := 8) rfl)
theorem tw9 {Z : State} {a0 : Array Value} (hw : ∀ d ∈ tables_1, d.before a0 Z = true) : (Jvm.Cond.instanceMethod ({ cls := "com/example/tristream/tristream/SampleGraph", name := "<init>", desc := "()V" } : Jvm.MethodName)).before a0 Z = true := hw _ (List.mem_of_getElem? (i := 9) rfl)
theorem tw10 {Z : State} {a0 : Array Value} (hw : ∀ d ∈ tables_1, d.before a0 Z = true) : (Jvm.Cond.code ({ cls := "com/example/tristream/tristream/SampleGraph", name := "<init>", desc := "()V" } : Jvm.MethodName) prog_40_method_1_code (1 : Nat) (Option.none : Option Jvm.ClassFile.FieldType)).before a0 Z = true := hw _ (List.mem_of_getElem? (i := 10) rfl)
theorem tw11 {Z : State} {a0 : Array Value} (hw : ∀ d ∈ tables_1, d.before a0 Z = true) : (Jvm.Cond.methodLink "com/example/tristream/tristream/SampleGraph" (1 : Nat) ({ cls := "java/lang/Object", name := "<init>", desc := "()V" } : Jvm.MethodName)).before a0 Z = true := hw _ (List.mem_of_getElem? (i := 11) rfl)
theorem tw12 {Z : State} {a0 : Array Value} (hw : ∀ d ∈ tables_1, d.before a0 Z = true) : (Jvm.Cond.instanceMethod ({ cls := "java/lang/Object", name := "<init>", desc := "()V" } : Jvm.MethodName)).before a0 Z = true := hw _ (List.mem_of_getElem? (i := 12) rfl)
theorem tw13 {Z : State} {a0 : Array Value} (hw : ∀ d ∈ tables_1, d.before a0 Z = true) : (Jvm.Cond.code ({ cls := "java/lang/Object", name := "<init>", desc := "()V" } : Jvm.MethodName) object_method_1_code (1 : Nat) (Option.none : Option Jvm.ClassFile.FieldType)).before a0 Z = true := hw _ (List.mem_of_getElem? (i := 13) rfl)
theorem tw14 {Z : State} {a0 : Array Value} (hw : ∀ d ∈ tables_1, d.before a0 Z = true) : (Jvm.Cond.classLink "com/example/tristream/tristream/SampleGraph" (7 : Nat) "com/example/tristream/tristream/LongIndex").before a0 Z = true := hw _ (List.mem_of_getElem? (i := 14) rfl)
theorem tw15 {Z : State} {a0 : Array Value} (hw : ∀ d ∈ tables_1, d.before a0 Z = true) : (Jvm.Cond.instantiable "com/example/tristream/tristream/LongIndex" (4 : Nat)).before a0 Z = true := hw _ (List.mem_of_getElem? (i := 15) rfl)
theorem tw16 {Z : State} {a0 : Array Value} (hw : ∀ d ∈ tables_1, d.before a0 Z = true) : (Jvm.Cond.initialized "com/example/tristream/tristream/LongIndex").before a0 Z = true := hw _ (List.mem_of_getElem? (i := 16) rfl)
theorem tw17 {Z : State} {a0 : Array Value} (hw : ∀ d ∈ tables_1, d.before a0 Z = true) : (Jvm.Cond.methodLink "com/example/tristream/tristream/SampleGraph" (9 : Nat) ({ cls := "com/example/tristream/tristream/LongIndex", name := "<init>", desc := "()V" } : Jvm.MethodName)).before a0 Z = true := hw _ (List.mem_of_getElem? (i := 17) rfl)
theorem tw18 {Z : State} {a0 : Array Value} (hw : ∀ d ∈ tables_1, d.before a0 Z = true) : (Jvm.Cond.instanceMethod ({ cls := "com/example/tristream/tristream/LongIndex", name := "<init>", desc := "()V" } : Jvm.MethodName)).before a0 Z = true := hw _ (List.mem_of_getElem? (i := 18) rfl)
theorem tw19 {Z : State} {a0 : Array Value} (hw : ∀ d ∈ tables_1, d.before a0 Z = true) : (Jvm.Cond.code ({ cls := "com/example/tristream/tristream/LongIndex", name := "<init>", desc := "()V" } : Jvm.MethodName) prog_25_method_1_code (1 : Nat) (Option.none : Option Jvm.ClassFile.FieldType)).before a0 Z = true := hw _ (List.mem_of_getElem? (i := 19) rfl)
theorem tw20 {Z : State} {a0 : Array Value} (hw : ∀ d ∈ tables_1, d.before a0 Z = true) : (Jvm.Cond.methodLink "com/example/tristream/tristream/LongIndex" (1 : Nat) ({ cls := "java/lang/Object", name := "<init>", desc := "()V" } : Jvm.MethodName)).before a0 Z = true := hw _ (List.mem_of_getElem? (i := 20) rfl)
theorem tw21 {Z : State} {a0 : Array Value} (hw : ∀ d ∈ tables_1, d.before a0 Z = true) : (Jvm.Cond.arrayClass Jvm.ClassFile.FieldType.long).before a0 Z = true := hw _ (List.mem_of_getElem? (i := 21) rfl)
theorem tw22 {Z : State} {a0 : Array Value} (hw : ∀ d ∈ tables_1, d.before a0 Z = true) : (Jvm.Cond.fieldLink "com/example/tristream/tristream/LongIndex" (9 : Nat) "com/example/tristream/tristream/LongIndex" "keys" "[J").before a0 Z = true := hw _ (List.mem_of_getElem? (i := 22) rfl)
theorem tw23 {Z : State} {a0 : Array Value} (hw : ∀ d ∈ tables_1, d.before a0 Z = true) : (Jvm.Cond.lays "com/example/tristream/tristream/LongIndex" "com/example/tristream/tristream/LongIndex" "keys" "[J").before a0 Z = true := hw _ (List.mem_of_getElem? (i := 23) rfl)
theorem tw24 {Z : State} {a0 : Array Value} (hw : ∀ d ∈ tables_1, d.before a0 Z = true) : (Jvm.Cond.arrayClass Jvm.ClassFile.FieldType.int).before a0 Z = true := hw _ (List.mem_of_getElem? (i := 24) rfl)
theorem tw25 {Z : State} {a0 : Array Value} (hw : ∀ d ∈ tables_1, d.before a0 Z = true) : (Jvm.Cond.fieldLink "com/example/tristream/tristream/LongIndex" (13 : Nat) "com/example/tristream/tristream/LongIndex" "slots" "[I").before a0 Z = true := hw _ (List.mem_of_getElem? (i := 25) rfl)
theorem tw26 {Z : State} {a0 : Array Value} (hw : ∀ d ∈ tables_1, d.before a0 Z = true) : (Jvm.Cond.lays "com/example/tristream/tristream/LongIndex" "com/example/tristream/tristream/LongIndex" "slots" "[I").before a0 Z = true := hw _ (List.mem_of_getElem? (i := 26) rfl)
theorem tw27 {Z : State} {a0 : Array Value} (hw : ∀ d ∈ tables_1, d.before a0 Z = true) : (Jvm.Cond.methodLink "com/example/tristream/tristream/LongIndex" (17 : Nat) ({ cls := "java/lang/Integer", name := "numberOfTrailingZeros", desc := "(I)I" } : Jvm.MethodName)).before a0 Z = true := hw _ (List.mem_of_getElem? (i := 27) rfl)
theorem tw28 {Z : State} {a0 : Array Value} (hw : ∀ d ∈ tables_1, d.before a0 Z = true) : (Jvm.Cond.static ({ cls := "java/lang/Integer", name := "numberOfTrailingZeros", desc := "(I)I" } : Jvm.MethodName)).before a0 Z = true := hw _ (List.mem_of_getElem? (i := 28) rfl)
theorem tw29 {Z : State} {a0 : Array Value} (hw : ∀ d ∈ tables_1, d.before a0 Z = true) : (Jvm.Cond.initialized "java/lang/Integer").before a0 Z = true := hw _ (List.mem_of_getElem? (i := 29) rfl)
theorem tw30 {Z : State} {a0 : Array Value} (hw : ∀ d ∈ tables_1, d.before a0 Z = true) : (Jvm.Cond.code ({ cls := "java/lang/Integer", name := "numberOfTrailingZeros", desc := "(I)I" } : Jvm.MethodName) jdk_33_method_48_code (2 : Nat) (Option.some Jvm.ClassFile.FieldType.int)).before a0 Z = true := hw _ (List.mem_of_getElem? (i := 30) rfl)
theorem tw31 {Z : State} {a0 : Array Value} (hw : ∀ d ∈ tables_1, d.before a0 Z = true) : (Jvm.Cond.constant "java/lang/Integer" (264 : Nat) (65536 : Int32)).before a0 Z = true := hw _ (List.mem_of_getElem? (i := 31) rfl)
theorem tw32 {Z : State} {a0 : Array Value} (hw : ∀ d ∈ tables_1, d.before a0 Z = true) : (Jvm.Cond.fieldLink "com/example/tristream/tristream/LongIndex" (23 : Nat) "com/example/tristream/tristream/LongIndex" "shift" "I").before a0 Z = true := hw _ (List.mem_of_getElem? (i := 32) rfl)
theorem tw33 {Z : State} {a0 : Array Value} (hw : ∀ d ∈ tables_1, d.before a0 Z = true) : (Jvm.Cond.lays "com/example/tristream/tristream/LongIndex" "com/example/tristream/tristream/LongIndex" "shift" "I").before a0 Z = true := hw _ (List.mem_of_getElem? (i := 33) rfl)
theorem tw34 {Z : State} {a0 : Array Value} (hw : ∀ d ∈ tables_1, d.before a0 Z = true) : (Jvm.Cond.fieldLink "com/example/tristream/tristream/SampleGraph" (10 : Nat) "com/example/tristream/tristream/SampleGraph" "nodes" "Lcom/example/tristream/tristream/LongIndex;").before a0 Z = true := hw _ (List.mem_of_getElem? (i := 34) rfl)
theorem tw35 {Z : State} {a0 : Array Value} (hw : ∀ d ∈ tables_1, d.before a0 Z = true) : (Jvm.Cond.laysFinal "com/example/tristream/tristream/SampleGraph" "com/example/tristream/tristream/SampleGraph" "nodes" "Lcom/example/tristream/tristream/LongIndex;").before a0 Z = true := hw _ (List.mem_of_getElem? (i := 35) rfl)
theorem tw36 {Z : State} {a0 : Array Value} (hw : ∀ d ∈ tables_1, d.before a0 Z = true) : (Jvm.Cond.arrayOver (Jvm.ClassFile.FieldType.object "com/example/tristream/tristream/LongIndex")).before a0 Z = true := hw _ (List.mem_of_getElem? (i := 36) rfl)
theorem tw37 {Z : State} {a0 : Array Value} (hw : ∀ d ∈ tables_1, d.before a0 Z = true) : (Jvm.Cond.fieldLink "com/example/tristream/tristream/SampleGraph" (16 : Nat) "com/example/tristream/tristream/SampleGraph" "neighbours" "[Lcom/example/tristream/tristream/LongIndex;").before a0 Z = true := hw _ (List.mem_of_getElem? (i := 37) rfl)
theorem tw38 {Z : State} {a0 : Array Value} (hw : ∀ d ∈ tables_1, d.before a0 Z = true) : (Jvm.Cond.lays "com/example/tristream/tristream/SampleGraph" "com/example/tristream/tristream/SampleGraph" "neighbours" "[Lcom/example/tristream/tristream/LongIndex;").before a0 Z = true := hw _ (List.mem_of_getElem? (i := 38) rfl)
theorem tw39 {Z : State} {a0 : Array Value} (hw : ∀ d ∈ tables_1, d.before a0 Z = true) : (Jvm.Cond.classLink "com/example/tristream/tristream/SampleGraphContainsPinLaw" (20 : Nat) "com/example/tristream/tristream/Edge").before a0 Z = true := hw _ (List.mem_of_getElem? (i := 39) rfl)
theorem tw40 {Z : State} {a0 : Array Value} (hw : ∀ d ∈ tables_1, d.before a0 Z = true) : (Jvm.Cond.instantiable "com/example/tristream/tristream/Edge" (2 : Nat)).before a0 Z = true := hw _ (List.mem_of_getElem? (i := 40) rfl)
theorem tw41 {Z : State} {a0 : Array Value} (hw : ∀ d ∈ tables_1, d.before a0 Z = true) : (Jvm.Cond.initialized "com/example/tristream/tristream/Edge").before a0 Z = true := hw _ (List.mem_of_getElem? (i := 41) rfl)
theorem tw42 {Z : State} {a0 : Array Value} (hw : ∀ d ∈ tables_1, d.before a0 Z = true) : (Jvm.Cond.methodLink "com/example/tristream/tristream/SampleGraphContainsPinLaw" (22 : Nat) ({ cls := "com/example/tristream/tristream/Edge", name := "<init>", desc := "(JJ)V" } : Jvm.MethodName)).before a0 Z = true := hw _ (List.mem_of_getElem? (i := 42) rfl)
theorem tw43 {Z : State} {a0 : Array Value} (hw : ∀ d ∈ tables_1, d.before a0 Z = true) : (Jvm.Cond.instanceMethod ({ cls := "com/example/tristream/tristream/Edge", name := "<init>", desc := "(JJ)V" } : Jvm.MethodName)).before a0 Z = true := hw _ (List.mem_of_getElem? (i := 43) rfl)
theorem tw44 {Z : State} {a0 : Array Value} (hw : ∀ d ∈ tables_1, d.before a0 Z = true) : (Jvm.Cond.code ({ cls := "com/example/tristream/tristream/Edge", name := "<init>", desc := "(JJ)V" } : Jvm.MethodName) prog_8_method_1_code (5 : Nat) (Option.none : Option Jvm.ClassFile.FieldType)).before a0 Z = true := hw _ (List.mem_of_getElem? (i := 44) rfl)
theorem tw45 {Z : State} {a0 : Array Value} (hw : ∀ d ∈ tables_1, d.before a0 Z = true) : (Jvm.Cond.methodLink "com/example/tristream/tristream/Edge" (1 : Nat) ({ cls := "java/lang/Object", name := "<init>", desc := "()V" } : Jvm.MethodName)).before a0 Z = true := hw _ (List.mem_of_getElem? (i := 45) rfl)
theorem tw46 {Z : State} {a0 : Array Value} (hw : ∀ d ∈ tables_1, d.before a0 Z = true) : (Jvm.Cond.methodLink "com/example/tristream/tristream/Edge" (16 : Nat) ({ cls := "java/lang/Math", name := "min", desc := "(JJ)J" } : Jvm.MethodName)).before a0 Z = true := hw _ (List.mem_of_getElem? (i := 46) rfl)
theorem tw47 {Z : State} {a0 : Array Value} (hw : ∀ d ∈ tables_1, d.before a0 Z = true) : (Jvm.Cond.static ({ cls := "java/lang/Math", name := "min", desc := "(JJ)J" } : Jvm.MethodName)).before a0 Z = true := hw _ (List.mem_of_getElem? (i := 47) rfl)
theorem tw48 {Z : State} {a0 : Array Value} (hw : ∀ d ∈ tables_1, d.before a0 Z = true) : (Jvm.Cond.initialized "java/lang/Math").before a0 Z = true := hw _ (List.mem_of_getElem? (i := 48) rfl)
theorem tw49 {Z : State} {a0 : Array Value} (hw : ∀ d ∈ tables_1, d.before a0 Z = true) : (Jvm.Cond.code ({ cls := "java/lang/Math", name := "min", desc := "(JJ)J" } : Jvm.MethodName) jdk_29_method_70_code (4 : Nat) (Option.some Jvm.ClassFile.FieldType.long)).before a0 Z = true := hw _ (List.mem_of_getElem? (i := 49) rfl)
theorem tw50 {Z : State} {a0 : Array Value} (hw : ∀ d ∈ tables_1, d.before a0 Z = true) : (Jvm.Cond.fieldLink "com/example/tristream/tristream/Edge" (22 : Nat) "com/example/tristream/tristream/Edge" "u" "J").before a0 Z = true := hw _ (List.mem_of_getElem? (i := 50) rfl)
theorem tw51 {Z : State} {a0 : Array Value} (hw : ∀ d ∈ tables_1, d.before a0 Z = true) : (Jvm.Cond.laysFinal "com/example/tristream/tristream/Edge" "com/example/tristream/tristream/Edge" "u" "J").before a0 Z = true := hw _ (List.mem_of_getElem? (i := 51) rfl)
theorem tw52 {Z : State} {a0 : Array Value} (hw : ∀ d ∈ tables_1, d.before a0 Z = true) : (Jvm.Cond.methodLink "com/example/tristream/tristream/Edge" (28 : Nat) ({ cls := "java/lang/Math", name := "max", desc := "(JJ)J" } : Jvm.MethodName)).before a0 Z = true := hw _ (List.mem_of_getElem? (i := 52) rfl)
theorem tw53 {Z : State} {a0 : Array Value} (hw : ∀ d ∈ tables_1, d.before a0 Z = true) : (Jvm.Cond.static ({ cls := "java/lang/Math", name := "max", desc := "(JJ)J" } : Jvm.MethodName)).before a0 Z = true := hw _ (List.mem_of_getElem? (i := 53) rfl)
theorem tw54 {Z : State} {a0 : Array Value} (hw : ∀ d ∈ tables_1, d.before a0 Z = true) : (Jvm.Cond.code ({ cls := "java/lang/Math", name := "max", desc := "(JJ)J" } : Jvm.MethodName) jdk_29_method_66_code (4 : Nat) (Option.some Jvm.ClassFile.FieldType.long)).before a0 Z = true := hw _ (List.mem_of_getElem? (i := 54) rfl)
theorem tw55 {Z : State} {a0 : Array Value} (hw : ∀ d ∈ tables_1, d.before a0 Z = true) : (Jvm.Cond.fieldLink "com/example/tristream/tristream/Edge" (31 : Nat) "com/example/tristream/tristream/Edge" "v" "J").before a0 Z = true := hw _ (List.mem_of_getElem? (i := 55) rfl)
theorem tw56 {Z : State} {a0 : Array Value} (hw : ∀ d ∈ tables_1, d.before a0 Z = true) : (Jvm.Cond.laysFinal "com/example/tristream/tristream/Edge" "com/example/tristream/tristream/Edge" "v" "J").before a0 Z = true := hw _ (List.mem_of_getElem? (i := 56) rfl)
theorem tw57 {Z : State} {a0 : Array Value} (hw : ∀ d ∈ tables_1, d.before a0 Z = true) : (Jvm.Cond.methodLink "com/example/tristream/tristream/SampleGraphContainsPinLaw" (25 : Nat) ({ cls := "com/example/tristream/tristream/SampleGraph", name := "add", desc := "(Lcom/example/tristream/tristream/Edge;)V" } : Jvm.MethodName)).before a0 Z = true := hw _ (List.mem_of_getElem? (i := 57) rfl)
theorem tw58 {Z : State} {a0 : Array Value} (hw : ∀ d ∈ tables_1, d.before a0 Z = true) : (Jvm.Cond.declares ({ cls := "com/example/tristream/tristream/SampleGraph", name := "add", desc := "(Lcom/example/tristream/tristream/Edge;)V" } : Jvm.MethodName)).before a0 Z = true := hw _ (List.mem_of_getElem? (i := 58) rfl)
theorem tw59 {Z : State} {a0 : Array Value} (hw : ∀ d ∈ tables_1, d.before a0 Z = true) : (Jvm.Cond.instanceMethod ({ cls := "com/example/tristream/tristream/SampleGraph", name := "add", desc := "(Lcom/example/tristream/tristream/Edge;)V" } : Jvm.MethodName)).before a0 Z = true := hw _ (List.mem_of_getElem? (i := 59) rfl)
theorem tw60 {Z : State} {a0 : Array Value} (hw : ∀ d ∈ tables_1, d.before a0 Z = true) : (Jvm.Cond.selects "com/example/tristream/tristream/SampleGraph" ({ cls := "com/example/tristream/tristream/SampleGraph", name := "add", desc := "(Lcom/example/tristream/tristream/Edge;)V" } : Jvm.MethodName) ({ cls := "com/example/tristream/tristream/SampleGraph", name := "add", desc := "(Lcom/example/tristream/tristream/Edge;)V" } : Jvm.MethodName)).before a0 Z = true := hw _ (List.mem_of_getElem? (i := 60) rfl)
theorem tw61 {Z : State} {a0 : Array Value} (hw : ∀ d ∈ tables_1, d.before a0 Z = true) : (Jvm.Cond.code ({ cls := "com/example/tristream/tristream/SampleGraph", name := "add", desc := "(Lcom/example/tristream/tristream/Edge;)V" } : Jvm.MethodName) prog_40_method_2_code (2 : Nat) (Option.none : Option Jvm.ClassFile.FieldType)).before a0 Z = true := hw _ (List.mem_of_getElem? (i := 61) rfl)
theorem tw62 {Z : State} {a0 : Array Value} (hw : ∀ d ∈ tables_1, d.before a0 Z = true) : (Jvm.Cond.methodLink "com/example/tristream/tristream/SampleGraph" (20 : Nat) ({ cls := "com/example/tristream/tristream/Edge", name := "u", desc := "()J" } : Jvm.MethodName)).before a0 Z = true := hw _ (List.mem_of_getElem? (i := 62) rfl)
theorem tw63 {Z : State} {a0 : Array Value} (hw : ∀ d ∈ tables_1, d.before a0 Z = true) : (Jvm.Cond.declares ({ cls := "com/example/tristream/tristream/Edge", name := "u", desc := "()J" } : Jvm.MethodName)).before a0 Z = true := hw _ (List.mem_of_getElem? (i := 63) rfl)
theorem tw64 {Z : State} {a0 : Array Value} (hw : ∀ d ∈ tables_1, d.before a0 Z = true) : (Jvm.Cond.instanceMethod ({ cls := "com/example/tristream/tristream/Edge", name := "u", desc := "()J" } : Jvm.MethodName)).before a0 Z = true := hw _ (List.mem_of_getElem? (i := 64) rfl)
theorem tw65 {Z : State} {a0 : Array Value} (hw : ∀ d ∈ tables_1, d.before a0 Z = true) : (Jvm.Cond.selects "com/example/tristream/tristream/Edge" ({ cls := "com/example/tristream/tristream/Edge", name := "u", desc := "()J" } : Jvm.MethodName) ({ cls := "com/example/tristream/tristream/Edge", name := "u", desc := "()J" } : Jvm.MethodName)).before a0 Z = true := hw _ (List.mem_of_getElem? (i := 65) rfl)
theorem tw66 {Z : State} {a0 : Array Value} (hw : ∀ d ∈ tables_1, d.before a0 Z = true) : (Jvm.Cond.code ({ cls := "com/example/tristream/tristream/Edge", name := "u", desc := "()J" } : Jvm.MethodName) prog_8_method_2_code (1 : Nat) (Option.some Jvm.ClassFile.FieldType.long)).before a0 Z = true := hw _ (List.mem_of_getElem? (i := 66) rfl)
theorem tw67 {Z : State} {a0 : Array Value} (hw : ∀ d ∈ tables_1, d.before a0 Z = true) : (Jvm.Cond.methodLink "com/example/tristream/tristream/SampleGraph" (26 : Nat) ({ cls := "com/example/tristream/tristream/SampleGraph", name := "neighboursOf", desc := "(J)Lcom/example/tristream/tristream/LongIndex;" } : Jvm.MethodName)).before a0 Z = true := hw _ (List.mem_of_getElem? (i := 67) rfl)
theorem tw68 {Z : State} {a0 : Array Value} (hw : ∀ d ∈ tables_1, d.before a0 Z = true) : (Jvm.Cond.instanceMethod ({ cls := "com/example/tristream/tristream/SampleGraph", name := "neighboursOf", desc := "(J)Lcom/example/tristream/tristream/LongIndex;" } : Jvm.MethodName)).before a0 Z = true := hw _ (List.mem_of_getElem? (i := 68) rfl)
theorem tw69 {Z : State} {a0 : Array Value} (hw : ∀ d ∈ tables_1, d.before a0 Z = true) : (Jvm.Cond.privateMethod ({ cls := "com/example/tristream/tristream/SampleGraph", name := "neighboursOf", desc := "(J)Lcom/example/tristream/tristream/LongIndex;" } : Jvm.MethodName)).before a0 Z = true := hw _ (List.mem_of_getElem? (i := 69) rfl)
theorem tw70 {Z : State} {a0 : Array Value} (hw : ∀ d ∈ tables_1, d.before a0 Z = true) : (Jvm.Cond.code ({ cls := "com/example/tristream/tristream/SampleGraph", name := "neighboursOf", desc := "(J)Lcom/example/tristream/tristream/LongIndex;" } : Jvm.MethodName) prog_40_method_6_code (4 : Nat) (Option.some (Jvm.ClassFile.FieldType.object "com/example/tristream/tristream/LongIndex"))).before a0 Z = true := hw _ (List.mem_of_getElem? (i := 70) rfl)
theorem tw71 {Z : State} {a0 : Array Value} (hw : ∀ d ∈ tables_1, d.before a0 Z = true) : (Jvm.Cond.methodLink "com/example/tristream/tristream/SampleGraph" (33 : Nat) ({ cls := "com/example/tristream/tristream/LongIndex", name := "add", desc := "(J)I" } : Jvm.MethodName)).before a0 Z = true := hw _ (List.mem_of_getElem? (i := 71) rfl)
theorem tw72 {Z : State} {a0 : Array Value} (hw : ∀ d ∈ tables_1, d.before a0 Z = true) : (Jvm.Cond.declares ({ cls := "com/example/tristream/tristream/LongIndex", name := "add", desc := "(J)I" } : Jvm.MethodName)).before a0 Z = true := hw _ (List.mem_of_getElem? (i := 72) rfl)
theorem tw73 {Z : State} {a0 : Array Value} (hw : ∀ d ∈ tables_1, d.before a0 Z = true) : (Jvm.Cond.instanceMethod ({ cls := "com/example/tristream/tristream/LongIndex", name := "add", desc := "(J)I" } : Jvm.MethodName)).before a0 Z = true := hw _ (List.mem_of_getElem? (i := 73) rfl)
theorem tw74 {Z : State} {a0 : Array Value} (hw : ∀ d ∈ tables_1, d.before a0 Z = true) : (Jvm.Cond.selects "com/example/tristream/tristream/LongIndex" ({ cls := "com/example/tristream/tristream/LongIndex", name := "add", desc := "(J)I" } : Jvm.MethodName) ({ cls := "com/example/tristream/tristream/LongIndex", name := "add", desc := "(J)I" } : Jvm.MethodName)).before a0 Z = true := hw _ (List.mem_of_getElem? (i := 74) rfl)
theorem tw75 {Z : State} {a0 : Array Value} (hw : ∀ d ∈ tables_1, d.before a0 Z = true) : (Jvm.Cond.code ({ cls := "com/example/tristream/tristream/LongIndex", name := "add", desc := "(J)I" } : Jvm.MethodName) prog_25_method_5_code (4 : Nat) (Option.some Jvm.ClassFile.FieldType.int)).before a0 Z = true := hw _ (List.mem_of_getElem? (i := 75) rfl)
theorem tw76 {Z : State} {a0 : Array Value} (hw : ∀ d ∈ tables_1, d.before a0 Z = true) : (Jvm.Cond.methodLink "com/example/tristream/tristream/LongIndex" (30 : Nat) ({ cls := "com/example/tristream/tristream/LongIndex", name := "find", desc := "(J)I" } : Jvm.MethodName)).before a0 Z = true := hw _ (List.mem_of_getElem? (i := 76) rfl)
theorem tw77 {Z : State} {a0 : Array Value} (hw : ∀ d ∈ tables_1, d.before a0 Z = true) : (Jvm.Cond.instanceMethod ({ cls := "com/example/tristream/tristream/LongIndex", name := "find", desc := "(J)I" } : Jvm.MethodName)).before a0 Z = true := hw _ (List.mem_of_getElem? (i := 77) rfl)
theorem tw78 {Z : State} {a0 : Array Value} (hw : ∀ d ∈ tables_1, d.before a0 Z = true) : (Jvm.Cond.privateMethod ({ cls := "com/example/tristream/tristream/LongIndex", name := "find", desc := "(J)I" } : Jvm.MethodName)).before a0 Z = true := hw _ (List.mem_of_getElem? (i := 78) rfl)
theorem tw79 {Z : State} {a0 : Array Value} (hw : ∀ d ∈ tables_1, d.before a0 Z = true) : (Jvm.Cond.code ({ cls := "com/example/tristream/tristream/LongIndex", name := "find", desc := "(J)I" } : Jvm.MethodName) prog_25_method_7_code (5 : Nat) (Option.some Jvm.ClassFile.FieldType.int)).before a0 Z = true := hw _ (List.mem_of_getElem? (i := 79) rfl)
theorem tw80 {Z : State} {a0 : Array Value} (hw : ∀ d ∈ tables_1, d.before a0 Z = true) : (Jvm.Cond.methodLink "com/example/tristream/tristream/LongIndex" (55 : Nat) ({ cls := "com/example/tristream/tristream/LongIndex", name := "home", desc := "(J)I" } : Jvm.MethodName)).before a0 Z = true := hw _ (List.mem_of_getElem? (i := 80) rfl)
theorem tw81 {Z : State} {a0 : Array Value} (hw : ∀ d ∈ tables_1, d.before a0 Z = true) : (Jvm.Cond.instanceMethod ({ cls := "com/example/tristream/tristream/LongIndex", name := "home", desc := "(J)I" } : Jvm.MethodName)).before a0 Z = true := hw _ (List.mem_of_getElem? (i := 81) rfl)
theorem tw82 {Z : State} {a0 : Array Value} (hw : ∀ d ∈ tables_1, d.before a0 Z = true) : (Jvm.Cond.privateMethod ({ cls := "com/example/tristream/tristream/LongIndex", name := "home", desc := "(J)I" } : Jvm.MethodName)).before a0 Z = true := hw _ (List.mem_of_getElem? (i := 82) rfl)
theorem tw83 {Z : State} {a0 : Array Value} (hw : ∀ d ∈ tables_1, d.before a0 Z = true) : (Jvm.Cond.code ({ cls := "com/example/tristream/tristream/LongIndex", name := "home", desc := "(J)I" } : Jvm.MethodName) prog_25_method_8_code (3 : Nat) (Option.some Jvm.ClassFile.FieldType.int)).before a0 Z = true := hw _ (List.mem_of_getElem? (i := 83) rfl)
theorem tw84 {Z : State} {a0 : Array Value} (hw : ∀ d ∈ tables_1, d.before a0 Z = true) : (Jvm.Cond.constantLong "com/example/tristream/tristream/LongIndex" (58 : Nat) (-7046029254386353131 : Int64)).before a0 Z = true := hw _ (List.mem_of_getElem? (i := 84) rfl)
theorem tw85 {Z : State} {a0 : Array Value} (hw : ∀ d ∈ tables_1, d.before a0 Z = true) : (Jvm.Cond.fieldLink "com/example/tristream/tristream/LongIndex" (27 : Nat) "com/example/tristream/tristream/LongIndex" "size" "I").before a0 Z = true := hw _ (List.mem_of_getElem? (i := 85) rfl)
theorem tw86 {Z : State} {a0 : Array Value} (hw : ∀ d ∈ tables_1, d.before a0 Z = true) : (Jvm.Cond.lays "com/example/tristream/tristream/LongIndex" "com/example/tristream/tristream/LongIndex" "size" "I").before a0 Z = true := hw _ (List.mem_of_getElem? (i := 86) rfl)
theorem tw88 {Z : State} {a0 : Array Value} (hw : ∀ d ∈ tables_1, d.before a0 Z = true) : (Jvm.Cond.methodLink "com/example/tristream/tristream/SampleGraph" (30 : Nat) ({ cls := "com/example/tristream/tristream/Edge", name := "v", desc := "()J" } : Jvm.MethodName)).before a0 Z = true := hw _ (List.mem_of_getElem? (i := 88) rfl)
theorem tw89 {Z : State} {a0 : Array Value} (hw : ∀ d ∈ tables_1, d.before a0 Z = true) : (Jvm.Cond.declares ({ cls := "com/example/tristream/tristream/Edge", name := "v", desc := "()J" } : Jvm.MethodName)).before a0 Z = true := hw _ (List.mem_of_getElem? (i := 89) rfl)
theorem tw90 {Z : State} {a0 : Array Value} (hw : ∀ d ∈ tables_1, d.before a0 Z = true) : (Jvm.Cond.instanceMethod ({ cls := "com/example/tristream/tristream/Edge", name := "v", desc := "()J" } : Jvm.MethodName)).before a0 Z = true := hw _ (List.mem_of_getElem? (i := 90) rfl)
theorem tw91 {Z : State} {a0 : Array Value} (hw : ∀ d ∈ tables_1, d.before a0 Z = true) : (Jvm.Cond.selects "com/example/tristream/tristream/Edge" ({ cls := "com/example/tristream/tristream/Edge", name := "v", desc := "()J" } : Jvm.MethodName) ({ cls := "com/example/tristream/tristream/Edge", name := "v", desc := "()J" } : Jvm.MethodName)).before a0 Z = true := hw _ (List.mem_of_getElem? (i := 91) rfl)
theorem tw92 {Z : State} {a0 : Array Value} (hw : ∀ d ∈ tables_1, d.before a0 Z = true) : (Jvm.Cond.code ({ cls := "com/example/tristream/tristream/Edge", name := "v", desc := "()J" } : Jvm.MethodName) prog_8_method_3_code (1 : Nat) (Option.some Jvm.ClassFile.FieldType.long)).before a0 Z = true := hw _ (List.mem_of_getElem? (i := 92) rfl)
theorem tw93 {Z : State} {a0 : Array Value} (hw : ∀ d ∈ tables_1, d.before a0 Z = true) : (Jvm.Cond.methodLink "com/example/tristream/tristream/SampleGraphContainsPinLaw" (32 : Nat) ({ cls := "com/example/tristream/tristream/SampleGraph", name := "contains", desc := "(JJ)Z" } : Jvm.MethodName)).before a0 Z = true := hw _ (List.mem_of_getElem? (i := 93) rfl)
theorem tw94 {Z : State} {a0 : Array Value} (hw : ∀ d ∈ tables_1, d.before a0 Z = true) : (Jvm.Cond.declares ({ cls := "com/example/tristream/tristream/SampleGraph", name := "contains", desc := "(JJ)Z" } : Jvm.MethodName)).before a0 Z = true := hw _ (List.mem_of_getElem? (i := 94) rfl)
theorem tw95 {Z : State} {a0 : Array Value} (hw : ∀ d ∈ tables_1, d.before a0 Z = true) : (Jvm.Cond.instanceMethod ({ cls := "com/example/tristream/tristream/SampleGraph", name := "contains", desc := "(JJ)Z" } : Jvm.MethodName)).before a0 Z = true := hw _ (List.mem_of_getElem? (i := 95) rfl)
theorem tw96 {Z : State} {a0 : Array Value} (hw : ∀ d ∈ tables_1, d.before a0 Z = true) : (Jvm.Cond.selects "com/example/tristream/tristream/SampleGraph" ({ cls := "com/example/tristream/tristream/SampleGraph", name := "contains", desc := "(JJ)Z" } : Jvm.MethodName) ({ cls := "com/example/tristream/tristream/SampleGraph", name := "contains", desc := "(JJ)Z" } : Jvm.MethodName)).before a0 Z = true := hw _ (List.mem_of_getElem? (i := 96) rfl)
theorem tw97 {Z : State} {a0 : Array Value} (hw : ∀ d ∈ tables_1, d.before a0 Z = true) : (Jvm.Cond.code ({ cls := "com/example/tristream/tristream/SampleGraph", name := "contains", desc := "(JJ)Z" } : Jvm.MethodName) prog_40_method_4_code (6 : Nat) (Option.some Jvm.ClassFile.FieldType.boolean)).before a0 Z = true := hw _ (List.mem_of_getElem? (i := 97) rfl)
theorem tw98 {Z : State} {a0 : Array Value} (hw : ∀ d ∈ tables_1, d.before a0 Z = true) : (Jvm.Cond.methodLink "com/example/tristream/tristream/SampleGraph" (41 : Nat) ({ cls := "com/example/tristream/tristream/LongIndex", name := "indexOf", desc := "(J)I" } : Jvm.MethodName)).before a0 Z = true := hw _ (List.mem_of_getElem? (i := 98) rfl)
theorem tw99 {Z : State} {a0 : Array Value} (hw : ∀ d ∈ tables_1, d.before a0 Z = true) : (Jvm.Cond.declares ({ cls := "com/example/tristream/tristream/LongIndex", name := "indexOf", desc := "(J)I" } : Jvm.MethodName)).before a0 Z = true := hw _ (List.mem_of_getElem? (i := 99) rfl)
theorem tw100 {Z : State} {a0 : Array Value} (hw : ∀ d ∈ tables_1, d.before a0 Z = true) : (Jvm.Cond.instanceMethod ({ cls := "com/example/tristream/tristream/LongIndex", name := "indexOf", desc := "(J)I" } : Jvm.MethodName)).before a0 Z = true := hw _ (List.mem_of_getElem? (i := 100) rfl)
theorem tw101 {Z : State} {a0 : Array Value} (hw : ∀ d ∈ tables_1, d.before a0 Z = true) : (Jvm.Cond.selects "com/example/tristream/tristream/LongIndex" ({ cls := "com/example/tristream/tristream/LongIndex", name := "indexOf", desc := "(J)I" } : Jvm.MethodName) ({ cls := "com/example/tristream/tristream/LongIndex", name := "indexOf", desc := "(J)I" } : Jvm.MethodName)).before a0 Z = true := hw _ (List.mem_of_getElem? (i := 101) rfl)
theorem tw102 {Z : State} {a0 : Array Value} (hw : ∀ d ∈ tables_1, d.before a0 Z = true) : (Jvm.Cond.code ({ cls := "com/example/tristream/tristream/LongIndex", name := "indexOf", desc := "(J)I" } : Jvm.MethodName) prog_25_method_4_code (3 : Nat) (Option.some Jvm.ClassFile.FieldType.int)).before a0 Z = true := hw _ (List.mem_of_getElem? (i := 102) rfl)
theorem tw103 {Z : State} {a0 : Array Value} (hw : ∀ d ∈ tables_1, d.before a0 Z = true) : (Jvm.Cond.methodLink "com/example/tristream/tristream/SampleGraphContainsPinLaw" (36 : Nat) ({ cls := "com/example/tristream/tristream/SampleGraphContainsPinLaw", name := "same", desc := "(JJJJ)Z" } : Jvm.MethodName)).before a0 Z = true := hw _ (List.mem_of_getElem? (i := 103) rfl)
theorem tw104 {Z : State} {a0 : Array Value} (hw : ∀ d ∈ tables_1, d.before a0 Z = true) : (Jvm.Cond.static ({ cls := "com/example/tristream/tristream/SampleGraphContainsPinLaw", name := "same", desc := "(JJJJ)Z" } : Jvm.MethodName)).before a0 Z = true := hw _ (List.mem_of_getElem? (i := 104) rfl)
theorem tw105 {Z : State} {a0 : Array Value} (hw : ∀ d ∈ tables_1, d.before a0 Z = true) : (Jvm.Cond.code ({ cls := "com/example/tristream/tristream/SampleGraphContainsPinLaw", name := "same", desc := "(JJJJ)Z" } : Jvm.MethodName) method_3_code (8 : Nat) (Option.some Jvm.ClassFile.FieldType.boolean)).before a0 Z = true := hw _ (List.mem_of_getElem? (i := 105) rfl)
theorem tw106 {Z : State} {a0 : Array Value} (hw : ∀ d ∈ tables_1, d.before a0 Z = true) : (Jvm.Cond.constant "com/example/tristream/tristream/LongIndex" (34 : Nat) (1073741824 : Int32)).before a0 Z = true := hw _ (List.mem_of_getElem? (i := 106) rfl)
theorem tw107 {Z : State} {a0 : Array Value} (hw : ∀ d ∈ tables_1, d.before a0 Z = true) : (Jvm.Cond.methodLink "com/example/tristream/tristream/LongIndex" (42 : Nat) ({ cls := "com/example/tristream/tristream/LongIndex", name := "resize", desc := "(I)V" } : Jvm.MethodName)).before a0 Z = true := hw _ (List.mem_of_getElem? (i := 107) rfl)
theorem tw108 {Z : State} {a0 : Array Value} (hw : ∀ d ∈ tables_1, d.before a0 Z = true) : (Jvm.Cond.instanceMethod ({ cls := "com/example/tristream/tristream/LongIndex", name := "resize", desc := "(I)V" } : Jvm.MethodName)).before a0 Z = true := hw _ (List.mem_of_getElem? (i := 108) rfl)
theorem tw109 {Z : State} {a0 : Array Value} (hw : ∀ d ∈ tables_1, d.before a0 Z = true) : (Jvm.Cond.privateMethod ({ cls := "com/example/tristream/tristream/LongIndex", name := "resize", desc := "(I)V" } : Jvm.MethodName)).before a0 Z = true := hw _ (List.mem_of_getElem? (i := 109) rfl)
theorem tw110 {Z : State} {a0 : Array Value} (hw : ∀ d ∈ tables_1, d.before a0 Z = true) : (Jvm.Cond.code ({ cls := "com/example/tristream/tristream/LongIndex", name := "resize", desc := "(I)V" } : Jvm.MethodName) prog_25_method_10_code (5 : Nat) (Option.none : Option Jvm.ClassFile.FieldType)).before a0 Z = true := hw _ (List.mem_of_getElem? (i := 110) rfl)
theorem tw111 {Z : State} {a0 : Array Value} (hw : ∀ d ∈ tables_1, d.before a0 Z = true) : (Jvm.Cond.methodLink "com/example/tristream/tristream/LongIndex" (46 : Nat) ({ cls := "java/util/Arrays", name := "copyOf", desc := "([JI)[J" } : Jvm.MethodName)).before a0 Z = true := hw _ (List.mem_of_getElem? (i := 111) rfl)
theorem tw112 {Z : State} {a0 : Array Value} (hw : ∀ d ∈ tables_1, d.before a0 Z = true) : (Jvm.Cond.static ({ cls := "java/util/Arrays", name := "copyOf", desc := "([JI)[J" } : Jvm.MethodName)).before a0 Z = true := hw _ (List.mem_of_getElem? (i := 112) rfl)
theorem tw113 {Z : State} {a0 : Array Value} (hw : ∀ d ∈ tables_1, d.before a0 Z = true) : (Jvm.Cond.initialized "java/util/Arrays").before a0 Z = true := hw _ (List.mem_of_getElem? (i := 113) rfl)
theorem tw114 {Z : State} {a0 : Array Value} (hw : ∀ d ∈ tables_1, d.before a0 Z = true) : (Jvm.Cond.code ({ cls := "java/util/Arrays", name := "copyOf", desc := "([JI)[J" } : Jvm.MethodName) jdk_65_method_124_code (3 : Nat) (Option.some (Jvm.ClassFile.FieldType.array Jvm.ClassFile.FieldType.long))).before a0 Z = true := hw _ (List.mem_of_getElem? (i := 114) rfl)
theorem tw115 {Z : State} {a0 : Array Value} (hw : ∀ d ∈ tables_1, d.before a0 Z = true) : (Jvm.Cond.methodLink "java/util/Arrays" (304 : Nat) ({ cls := "java/lang/Math", name := "min", desc := "(II)I" } : Jvm.MethodName)).before a0 Z = true := hw _ (List.mem_of_getElem? (i := 115) rfl)
theorem tw116 {Z : State} {a0 : Array Value} (hw : ∀ d ∈ tables_1, d.before a0 Z = true) : (Jvm.Cond.static ({ cls := "java/lang/Math", name := "min", desc := "(II)I" } : Jvm.MethodName)).before a0 Z = true := hw _ (List.mem_of_getElem? (i := 116) rfl)
theorem tw117 {Z : State} {a0 : Array Value} (hw : ∀ d ∈ tables_1, d.before a0 Z = true) : (Jvm.Cond.code ({ cls := "java/lang/Math", name := "min", desc := "(II)I" } : Jvm.MethodName) jdk_29_method_69_code (2 : Nat) (Option.some Jvm.ClassFile.FieldType.int)).before a0 Z = true := hw _ (List.mem_of_getElem? (i := 117) rfl)
theorem tw118 {Z : State} {a0 : Array Value} (hw : ∀ d ∈ tables_1, d.before a0 Z = true) : (Jvm.Cond.methodLink "java/util/Arrays" (150 : Nat) ({ cls := "java/lang/System", name := "arraycopy", desc := "(Ljava/lang/Object;ILjava/lang/Object;II)V" } : Jvm.MethodName)).before a0 Z = true := hw _ (List.mem_of_getElem? (i := 118) rfl)
theorem tw119 {Z : State} {a0 : Array Value} (hw : ∀ d ∈ tables_1, d.before a0 Z = true) : (Jvm.Cond.static ({ cls := "java/lang/System", name := "arraycopy", desc := "(Ljava/lang/Object;ILjava/lang/Object;II)V" } : Jvm.MethodName)).before a0 Z = true := hw _ (List.mem_of_getElem? (i := 119) rfl)
theorem tw120 {Z : State} {a0 : Array Value} (hw : ∀ d ∈ tables_1, d.before a0 Z = true) : (Jvm.Cond.initialized "java/lang/System").before a0 Z = true := hw _ (List.mem_of_getElem? (i := 120) rfl)
theorem tw121 {Z : State} {a0 : Array Value} (hw : ∀ d ∈ tables_1, d.before a0 Z = true) : (Jvm.Cond.native ({ cls := "java/lang/System", name := "arraycopy", desc := "(Ljava/lang/Object;ILjava/lang/Object;II)V" } : Jvm.MethodName)).before a0 Z = true := hw _ (List.mem_of_getElem? (i := 121) rfl)
theorem tw122 {Z : State} {a0 : Array Value} (hw : ∀ d ∈ tables_1, d.before a0 Z = true) : (Jvm.Cond.methodLink "com/example/tristream/tristream/SampleGraphContainsPinLaw" (29 : Nat) ({ cls := "com/example/tristream/tristream/SampleGraph", name := "remove", desc := "(Lcom/example/tristream/tristream/Edge;)V" } : Jvm.MethodName)).before a0 Z = true := hw _ (List.mem_of_getElem? (i := 122) rfl)
theorem tw123 {Z : State} {a0 : Array Value} (hw : ∀ d ∈ tables_1, d.before a0 Z = true) : (Jvm.Cond.declares ({ cls := "com/example/tristream/tristream/SampleGraph", name := "remove", desc := "(Lcom/example/tristream/tristream/Edge;)V" } : Jvm.MethodName)).before a0 Z = true := hw _ (List.mem_of_getElem? (i := 123) rfl)
theorem tw124 {Z : State} {a0 : Array Value} (hw : ∀ d ∈ tables_1, d.before a0 Z = true) : (Jvm.Cond.instanceMethod ({ cls := "com/example/tristream/tristream/SampleGraph", name := "remove", desc := "(Lcom/example/tristream/tristream/Edge;)V" } : Jvm.MethodName)).before a0 Z = true := hw _ (List.mem_of_getElem? (i := 124) rfl)
theorem tw125 {Z : State} {a0 : Array Value} (hw : ∀ d ∈ tables_1, d.before a0 Z = true) : (Jvm.Cond.selects "com/example/tristream/tristream/SampleGraph" ({ cls := "com/example/tristream/tristream/SampleGraph", name := "remove", desc := "(Lcom/example/tristream/tristream/Edge;)V" } : Jvm.MethodName) ({ cls := "com/example/tristream/tristream/SampleGraph", name := "remove", desc := "(Lcom/example/tristream/tristream/Edge;)V" } : Jvm.MethodName)).before a0 Z = true := hw _ (List.mem_of_getElem? (i := 125) rfl)
theorem tw126 {Z : State} {a0 : Array Value} (hw : ∀ d ∈ tables_1, d.before a0 Z = true) : (Jvm.Cond.code ({ cls := "com/example/tristream/tristream/SampleGraph", name := "remove", desc := "(Lcom/example/tristream/tristream/Edge;)V" } : Jvm.MethodName) prog_40_method_3_code (2 : Nat) (Option.none : Option Jvm.ClassFile.FieldType)).before a0 Z = true := hw _ (List.mem_of_getElem? (i := 126) rfl)
theorem tw127 {Z : State} {a0 : Array Value} (hw : ∀ d ∈ tables_1, d.before a0 Z = true) : (Jvm.Cond.methodLink "com/example/tristream/tristream/SampleGraph" (37 : Nat) ({ cls := "com/example/tristream/tristream/SampleGraph", name := "removeNeighbour", desc := "(JJ)V" } : Jvm.MethodName)).before a0 Z = true := hw _ (List.mem_of_getElem? (i := 127) rfl)
theorem tw128 {Z : State} {a0 : Array Value} (hw : ∀ d ∈ tables_1, d.before a0 Z = true) : (Jvm.Cond.instanceMethod ({ cls := "com/example/tristream/tristream/SampleGraph", name := "removeNeighbour", desc := "(JJ)V" } : Jvm.MethodName)).before a0 Z = true := hw _ (List.mem_of_getElem? (i := 128) rfl)
theorem tw129 {Z : State} {a0 : Array Value} (hw : ∀ d ∈ tables_1, d.before a0 Z = true) : (Jvm.Cond.privateMethod ({ cls := "com/example/tristream/tristream/SampleGraph", name := "removeNeighbour", desc := "(JJ)V" } : Jvm.MethodName)).before a0 Z = true := hw _ (List.mem_of_getElem? (i := 129) rfl)
theorem tw130 {Z : State} {a0 : Array Value} (hw : ∀ d ∈ tables_1, d.before a0 Z = true) : (Jvm.Cond.code ({ cls := "com/example/tristream/tristream/SampleGraph", name := "removeNeighbour", desc := "(JJ)V" } : Jvm.MethodName) prog_40_method_7_code (7 : Nat) (Option.none : Option Jvm.ClassFile.FieldType)).before a0 Z = true := hw _ (List.mem_of_getElem? (i := 130) rfl)
theorem tw131 {Z : State} {a0 : Array Value} (hw : ∀ d ∈ tables_1, d.before a0 Z = true) : (Jvm.Cond.methodLink "com/example/tristream/tristream/SampleGraph" (65 : Nat) ({ cls := "com/example/tristream/tristream/LongIndex", name := "remove", desc := "(J)V" } : Jvm.MethodName)).before a0 Z = true := hw _ (List.mem_of_getElem? (i := 131) rfl)
theorem tw132 {Z : State} {a0 : Array Value} (hw : ∀ d ∈ tables_1, d.before a0 Z = true) : (Jvm.Cond.declares ({ cls := "com/example/tristream/tristream/LongIndex", name := "remove", desc := "(J)V" } : Jvm.MethodName)).before a0 Z = true := hw _ (List.mem_of_getElem? (i := 132) rfl)
theorem tw133 {Z : State} {a0 : Array Value} (hw : ∀ d ∈ tables_1, d.before a0 Z = true) : (Jvm.Cond.instanceMethod ({ cls := "com/example/tristream/tristream/LongIndex", name := "remove", desc := "(J)V" } : Jvm.MethodName)).before a0 Z = true := hw _ (List.mem_of_getElem? (i := 133) rfl)
theorem tw134 {Z : State} {a0 : Array Value} (hw : ∀ d ∈ tables_1, d.before a0 Z = true) : (Jvm.Cond.selects "com/example/tristream/tristream/LongIndex" ({ cls := "com/example/tristream/tristream/LongIndex", name := "remove", desc := "(J)V" } : Jvm.MethodName) ({ cls := "com/example/tristream/tristream/LongIndex", name := "remove", desc := "(J)V" } : Jvm.MethodName)).before a0 Z = true := hw _ (List.mem_of_getElem? (i := 134) rfl)
theorem tw135 {Z : State} {a0 : Array Value} (hw : ∀ d ∈ tables_1, d.before a0 Z = true) : (Jvm.Cond.code ({ cls := "com/example/tristream/tristream/LongIndex", name := "remove", desc := "(J)V" } : Jvm.MethodName) prog_25_method_6_code (7 : Nat) (Option.none : Option Jvm.ClassFile.FieldType)).before a0 Z = true := hw _ (List.mem_of_getElem? (i := 135) rfl)
theorem tw136 {Z : State} {a0 : Array Value} (hw : ∀ d ∈ tables_1, d.before a0 Z = true) : (Jvm.Cond.methodLink "com/example/tristream/tristream/LongIndex" (52 : Nat) ({ cls := "com/example/tristream/tristream/LongIndex", name := "clear", desc := "(I)V" } : Jvm.MethodName)).before a0 Z = true := hw _ (List.mem_of_getElem? (i := 136) rfl)
theorem tw137 {Z : State} {a0 : Array Value} (hw : ∀ d ∈ tables_1, d.before a0 Z = true) : (Jvm.Cond.instanceMethod ({ cls := "com/example/tristream/tristream/LongIndex", name := "clear", desc := "(I)V" } : Jvm.MethodName)).before a0 Z = true := hw _ (List.mem_of_getElem? (i := 137) rfl)
theorem tw138 {Z : State} {a0 : Array Value} (hw : ∀ d ∈ tables_1, d.before a0 Z = true) : (Jvm.Cond.privateMethod ({ cls := "com/example/tristream/tristream/LongIndex", name := "clear", desc := "(I)V" } : Jvm.MethodName)).before a0 Z = true := hw _ (List.mem_of_getElem? (i := 138) rfl)
theorem tw139 {Z : State} {a0 : Array Value} (hw : ∀ d ∈ tables_1, d.before a0 Z = true) : (Jvm.Cond.code ({ cls := "com/example/tristream/tristream/LongIndex", name := "clear", desc := "(I)V" } : Jvm.MethodName) prog_25_method_9_code (6 : Nat) (Option.none : Option Jvm.ClassFile.FieldType)).before a0 Z = true := hw _ (List.mem_of_getElem? (i := 139) rfl)
theorem tw140 {Z : State} {a0 : Array Value} (hw : ∀ d ∈ tables_1, d.before a0 Z = true) : (Jvm.Cond.methodLink "com/example/tristream/tristream/SampleGraph" (44 : Nat) ({ cls := "com/example/tristream/tristream/LongIndex", name := "size", desc := "()I" } : Jvm.MethodName)).before a0 Z = true := hw _ (List.mem_of_getElem? (i := 140) rfl)
theorem tw141 {Z : State} {a0 : Array Value} (hw : ∀ d ∈ tables_1, d.before a0 Z = true) : (Jvm.Cond.declares ({ cls := "com/example/tristream/tristream/LongIndex", name := "size", desc := "()I" } : Jvm.MethodName)).before a0 Z = true := hw _ (List.mem_of_getElem? (i := 141) rfl)
theorem tw142 {Z : State} {a0 : Array Value} (hw : ∀ d ∈ tables_1, d.before a0 Z = true) : (Jvm.Cond.instanceMethod ({ cls := "com/example/tristream/tristream/LongIndex", name := "size", desc := "()I" } : Jvm.MethodName)).before a0 Z = true := hw _ (List.mem_of_getElem? (i := 142) rfl)
theorem tw143 {Z : State} {a0 : Array Value} (hw : ∀ d ∈ tables_1, d.before a0 Z = true) : (Jvm.Cond.selects "com/example/tristream/tristream/LongIndex" ({ cls := "com/example/tristream/tristream/LongIndex", name := "size", desc := "()I" } : Jvm.MethodName) ({ cls := "com/example/tristream/tristream/LongIndex", name := "size", desc := "()I" } : Jvm.MethodName)).before a0 Z = true := hw _ (List.mem_of_getElem? (i := 143) rfl)
theorem tw144 {Z : State} {a0 : Array Value} (hw : ∀ d ∈ tables_1, d.before a0 Z = true) : (Jvm.Cond.code ({ cls := "com/example/tristream/tristream/LongIndex", name := "size", desc := "()I" } : Jvm.MethodName) prog_25_method_2_code (1 : Nat) (Option.some Jvm.ClassFile.FieldType.int)).before a0 Z = true := hw _ (List.mem_of_getElem? (i := 144) rfl)
abbrev mn0 : MethodName := ⟨"java/lang/Integer", "numberOfTrailingZeros", "(I)I"⟩
abbrev mn1 : MethodName := ⟨"java/lang/Math", "min", "(II)I"⟩
abbrev mn2 : MethodName := ⟨"com/example/tristream/tristream/LongIndex", "home", "(J)I"⟩
abbrev mn3 : MethodName := ⟨"com/example/tristream/tristream/LongIndex", "<init>", "()V"⟩
abbrev mn4 : MethodName := ⟨"com/example/tristream/tristream/LongIndex", "find", "(J)I"⟩
abbrev mn5 : MethodName := ⟨"com/example/tristream/tristream/LongIndex", "indexOf", "(J)I"⟩
abbrev mn6 : MethodName := ⟨"java/util/Arrays", "copyOf", "([JI)[J"⟩
abbrev mn7 : MethodName := ⟨"com/example/tristream/tristream/LongIndex", "resize", "(I)V"⟩
abbrev mn8 : MethodName := ⟨"com/example/tristream/tristream/LongIndex", "add", "(J)I"⟩
abbrev mn9 : MethodName := ⟨"com/example/tristream/tristream/LongIndex", "clear", "(I)V"⟩
abbrev mn10 : MethodName := ⟨"com/example/tristream/tristream/LongIndex", "remove", "(J)V"⟩
abbrev mn11 : MethodName := ⟨"com/example/tristream/tristream/SampleGraphContainsPinLaw", "same", "(JJJJ)Z"⟩
abbrev mn12 : MethodName := ⟨"com/example/tristream/tristream/SampleGraphContainsPinLaw", "pick", "(IJJJJ)J"⟩
abbrev mn13 : MethodName := ⟨"java/lang/Math", "min", "(JJ)J"⟩
abbrev mn14 : MethodName := ⟨"java/lang/Math", "max", "(JJ)J"⟩
abbrev mn15 : MethodName := ⟨"com/example/tristream/tristream/Edge", "<init>", "(JJ)V"⟩
abbrev mn16 : MethodName := ⟨"com/example/tristream/tristream/Edge", "u", "()J"⟩
abbrev mn17 : MethodName := ⟨"com/example/tristream/tristream/Edge", "v", "()J"⟩
abbrev mn18 : MethodName := ⟨"com/example/tristream/tristream/LongIndex", "size", "()I"⟩
abbrev mn19 : MethodName := ⟨"com/example/tristream/tristream/SampleGraph", "<init>", "()V"⟩
abbrev mn20 : MethodName := ⟨"com/example/tristream/tristream/SampleGraph", "neighboursOf", "(J)Lcom/example/tristream/tristream/LongIndex;"⟩
abbrev mn21 : MethodName := ⟨"com/example/tristream/tristream/SampleGraph", "add", "(Lcom/example/tristream/tristream/Edge;)V"⟩
abbrev mn22 : MethodName := ⟨"com/example/tristream/tristream/SampleGraph", "removeNeighbour", "(JJ)V"⟩
abbrev mn23 : MethodName := ⟨"com/example/tristream/tristream/SampleGraph", "remove", "(Lcom/example/tristream/tristream/Edge;)V"⟩
abbrev mn24 : MethodName := ⟨"com/example/tristream/tristream/SampleGraph", "contains", "(JJ)Z"⟩
abbrev vi (x : Int32) : Slot := .val (.int x)
abbrev vj (x : Int64) : Slot := .val (.long x)
abbrev vr (x : Addr) : Slot := .val (.ref x)
abbrev sd : Slot := .second
abbrev un : Slot := .unset
section Own
variable {p : Program} {l : Launch} {e : Env} {R : Room} {s : State} {m : MethodId} {args : Array Value} {below : List Frame} {meth : Method} {c : Code} {T : State} {locs : List Loc} {cells slots : Nat} {Z : State} {a0 : Array Value} {h h' : Heap}
/-- from S the walk comes to the method's end, where Q holds of what is returned, the heap and the written places -/
def OEnds (p : Program) (e : Env) (below : List Frame) (s : State) (Q : Option Value → Heap → List Loc → Prop) (K N : Nat) (S : State) : Prop :=
  ∃ s₂ o, Steps p.tables e below S s₂ ∧ s₂.status = .running ∧ Ended s₂ below o ∧ ∃ v L, o = .returned v ∧ Q v s₂.heap L ∧ FrameEnd s o s₂ L K N
variable {Q Q' : Option Value → Heap → List Loc → Prop} {K N : Nat} {S S' : State}
theorem own_by (st : ∀ t, Steps p.tables e below S' t → Steps p.tables e below S t) (k : OEnds p e below s Q K N S') : OEnds p e below s Q K N S := by
  obtain ⟨a, o, h1, h2⟩ := k
  exact ⟨a, o, st _ h1, h2⟩
theorem own_tr (st : Steps p.tables e below S S') (k : OEnds p e below s Q K N S') : OEnds p e below s Q K N S := by
  obtain ⟨a, o, h1, h2⟩ := k
  exact ⟨a, o, st.trans h1, h2⟩
theorem own_mono (f : ∀ v h L, Q' v h L → Q v h L) (k : OEnds p e below s Q' K N S) : OEnds p e below s Q K N S := by
  obtain ⟨a, o, h1, h2, h3, v, L, h4, h5, h6⟩ := k
  exact ⟨a, o, h1, h2, h3, v, L, h4, f _ _ _ h5, h6⟩
theorem own_fin (X : Stand p l e R s m args below meth c T locs cells slots) (hlk : meth.locks = false) {v : Option Value} (hv : meth.sig.returnType = none → v = none) (hQ : Q v T.heap locs) (hK : cells ≤ K) (hN : slots ≤ N)
    (hst : ∀ fs, (∀ (f : JFrame) (acts : List Action), f.method = m → f.locked = none → f.entered = [] → (doReturn e (T.setTop f) acts v).1 = T.setFrames fs) → Steps p.tables e below S (T.setFrames fs)) : OEnds p e below s Q K N S := by
  obtain ⟨fs, hr, hrun, hended, hW, hsame⟩ := X.leave hv hlk
  exact ⟨_, _, hst fs hr, hrun, hended, _, _, rfl, hQ, ⟨_, rfl⟩, hW, hsame.mono hK hN⟩
theorem own_retI (X : Stand p l e R s m args below meth c T locs cells slots) (hx : p.tables.exec = Jvm.exec) (hlk : meth.locks = false) {pc : Nat} {Ls : Array Slot} {z : Int32} {rest : List Value} (hret : meth.sig.returnType = some .int) (hd : decode c.code pc = .ok (.ireturn, 1))
    (hQ : Q (some (.int z)) T.heap locs) (hK : cells ≤ K) (hN : slots ≤ N) : OEnds p e below s Q K N (T.setTop (mkF m pc Ls (.int z :: rest))) :=
  own_fin X hlk (fun q => by rw [hret] at q; cases q) hQ hK hN fun _ hr => retOut X hx hret rfl (Or.inl ⟨rfl, Or.inl rfl, _, rfl⟩) hd hr
theorem own_retN (X : Stand p l e R s m args below meth c T locs cells slots) (hx : p.tables.exec = Jvm.exec) (hlk : meth.locks = false) (t : FieldType) (ht : t = .boolean ∨ t = .byte ∨ t = .char ∨ t = .short) {pc : Nat} {Ls : Array Slot} {z : Int32} {rest : List Value} (hret : meth.sig.returnType = some t) (hd : decode c.code pc = .ok (.ireturn, 1))
    (hQ : Q (some (.int (nar t z))) T.heap locs) (hK : cells ≤ K) (hN : slots ≤ N) : OEnds p e below s Q K N (T.setTop (mkF m pc Ls (.int z :: rest))) :=
  own_fin X hlk (fun q => by rw [hret] at q; cases q) hQ hK hN fun _ hr => retN X hx hret ht hd hr
theorem own_retJ (X : Stand p l e R s m args below meth c T locs cells slots) (hx : p.tables.exec = Jvm.exec) (hlk : meth.locks = false) {pc : Nat} {Ls : Array Slot} {z : Int64} {rest : List Value} (hret : meth.sig.returnType = some .long) (hd : decode c.code pc = .ok (.lreturn, 1))
    (hQ : Q (some (.long z)) T.heap locs) (hK : cells ≤ K) (hN : slots ≤ N) : OEnds p e below s Q K N (T.setTop (mkF m pc Ls (.long z :: rest))) :=
  own_fin X hlk (fun q => by rw [hret] at q; cases q) hQ hK hN fun _ hr => retOut X hx hret rfl (Or.inr (Or.inl ⟨rfl, rfl, _, rfl⟩)) hd hr
theorem own_retA (X : Stand p l e R s m args below meth c T locs cells slots) (hx : p.tables.exec = Jvm.exec) (hlk : meth.locks = false) {t : FieldType} (ht : t.isReference = true) {pc : Nat} {Ls : Array Slot} {a : Addr} {rest : List Value} (hret : meth.sig.returnType = some t) (hn : narrow t (.ref a) = .ref a) (hd : decode c.code pc = .ok (.areturn, 1))
    (hQ : Q (some (.ref a)) T.heap locs) (hK : cells ≤ K) (hN : slots ≤ N) : OEnds p e below s Q K N (T.setTop (mkF m pc Ls (.ref a :: rest))) :=
  own_fin X hlk (fun q => by rw [hret] at q; cases q) hQ hK hN fun _ hr => retOut X hx hret hn (Or.inr (Or.inr (Or.inr (Or.inr ⟨rfl, ht, rfl⟩)))) hd hr
theorem own_retV (X : Stand p l e R s m args below meth c T locs cells slots) (hx : p.tables.exec = Jvm.exec) (hlk : meth.locks = false) {pc : Nat} {Ls : Array Slot} (hret : meth.sig.returnType = none) (hd : decode c.code pc = .ok (.return_, 1))
    (hQ : Q none T.heap locs) (hK : cells ≤ K) (hN : slots ≤ N) : OEnds p e below s Q K N (T.setTop (mkF m pc Ls [])) :=
  own_fin X hlk (fun _ => rfl) hQ hK hN fun _ hr => X.returnOut hx hret hd hr
theorem own_get (X : Stand p l e R s m args below meth c T locs cells slots) (hx : p.tables.exec = Jvm.exec) (hZ : Z.Warmed39 s.vm) {own R0 n d : String} {index : Nat} (hown : s.vm.findClass own = some m.cls) (w : (Cond.fieldLink own index R0 n d).before a0 Z = true) (eT : T.heap = h) {a : Addr} {v : Value} (F : Fld Z h a R0 n d v) {g : JFrame} (hg : g.method = m) {rest : List Value} (hs : g.stack = .ref a :: rest) (hd : decode c.code g.pc = .ok (.getfield index, 3))
    (k : ∀ T', Stand p l e R s m args below meth c T' locs cells slots → T'.heap = h → OEnds p e below s Q K N (T'.setTop { g with pc := g.pc + 3, stack := v :: rest })) : OEnds p e below s Q K N (T.setTop g) := by
  obtain ⟨T', X', e', st⟩ := getF X hx hZ hown (host := "") (Or.inl w) Via.refl eT F hg hs hd
  exact own_by st (k T' X' e')
/-- what a plain method leaves: its value, nothing written, the heap as it was -/
def QP (r : Value) (h0 : Heap) (v : Option Value) (h : Heap) (L : List Loc) : Prop := v = some r ∧ L = [] ∧ h = h0
theorem own_eq {r r' : Value} {h0 : Heap} (q : r = r') (k : OEnds p e below s (QP r' h0) K N S) : OEnds p e below s (QP r h0) K N S := by subst q; exact k
theorem own_lrem {g : JFrame} {target : State} (X : Stand p l e R s m args below meth c T locs cells slots) (hx : p.tables.exec = Jvm.exec) (hg : g.method = m) {x y : Int64} {rest : List Value} (hd : decode c.code g.pc = .ok (.lrem, 1)) (hs : g.stack = .long y :: .long x :: rest) (hy : y ≠ 0)
    (hr : Steps p.tables e below (T.setTop { g with pc := g.pc + 1, stack := .long (x % y) :: rest }) target) : Steps p.tables e below (T.setTop g) target := by
  have q : x - x / y * y = x % y := lrem_mod x y
  exact XS.lrem X.here hx hg hd hs hy (by rw [q]; exact hr)
/-- a call of a plain static method by its contract -/
theorem own_callP (X : Stand p l e R s m args below meth c T locs cells slots) (hx : p.tables.exec = Jvm.exec) (hZ : Z.Warmed39 s.vm) {own : String} {index : Nat} {y : MethodName} {bytes : ByteArray} {maxL : Nat} {ret : Option FieldType} {fr lo : Nat} {r : Value} {argsL rest : List Value} {g : JFrame}
    (hown : s.vm.findClass own = some m.cls) (w1 : (Cond.methodLink own index y).before a0 Z = true) (w2 : (Cond.static y).before a0 Z = true) (w3 : (Cond.initialized y.cls).before a0 Z = true) (w4 : (Cond.code y bytes maxL ret).before a0 Z = true)
    (hy : y.cls ≠ "java/lang/invoke/MethodHandle" ∧ y.cls ≠ "java/lang/invoke/VarHandle")
    (hM : MetFree l y (head1 [Cond.code y bytes maxL ret] ({ frames := fr, cells := 0, slots := 0, locals := lo } : Room)) (fun a U => a = argsL.toArray ∧ Z.Warmed39 U.vm ∧ U.heap = h) (fun _ _ _ _ _ => True) (fun _ U o U' => ∃ v L, o = .returned v ∧ QP r h v U'.heap L ∧ FrameEnd U o U' L 0 0))
    (eT : T.heap = h) (hg : g.method = m) (hsize : g.locals.size = c.maxLocals) (hlen : ∀ sig, parseMethodDescriptor y.desc = some sig → argsL.length = sig.parameters.length) (hstack : g.stack = argsL.reverse ++ rest) {W : Nat} (hW : 2 * g.monitorRoom + (rest.map fun v => v.category).sum ≤ W)
    (hd : decode c.code g.pc = .ok (.invokestatic index, 3)) (hf : fr + 1 ≤ R.frames) (hl : W + (maxL + 11) + lo ≤ R.locals) (hc : cells ≤ R.cells) (hs : slots ≤ R.slots) :
    ∃ T', Stand p l e R s m args below meth c T' locs cells slots ∧ T'.heap = h ∧ ∀ target, Steps p.tables e below (T'.setTop { g with pc := g.pc + 3, stack := r :: rest }) target → Steps p.tables e below (T.setTop g) target := by
  obtain ⟨_, _, ⟨T1, L1, k1, n1⟩, -, X1, ⟨Lc, hQ, l1, y1, z1⟩, st⟩ := Jvm.LawKit.callS X hx (y := y) hown (mvT hZ w1) (mvT hZ w2) (mvT hZ w3) (mvT hZ w4) hy (backOf (rm := ({ frames := fr, cells := 0, slots := 0, locals := lo } : Room)) (W := W) hM hZ w4 w3 hf hl) (g := g) hg hsize (argsL := argsL) (rest := rest) hlen hstack hW hd (fun _ _ => ⟨rfl, eT, hc, hs⟩)
  dsimp only [Pt.U, Pt.locs, Pt.cells, Pt.slots] at X1 l1 y1 z1 st hQ
  subst l1 y1 z1
  obtain ⟨rfl, rfl, e1⟩ := hQ
  rw [List.append_nil] at X1
  exact ⟨T1, X1, e1, st⟩
end Own
section Own2
variable {p : Program} {l : Launch} {e : Env} {R : Room} {s : State} {m : MethodId} {args : Array Value} {below : List Frame} {meth : Method} {c : Code} {T : State} {locs : List Loc} {cells slots : Nat} {Z : State} {a0 : Array Value} {h h' : Heap}
  {a b : Addr} {C : String} {sch : List (String × String)} {vs : List Value} {ws : List Addr} {sl : Nat} {v : Value}
/-- the object at a is exactly a C, and its fields (in the order of sch) hold vs -/
def Obj (Z : State) (h : Heap) (a : Addr) (C : String) (sch : List (String × String)) (vs : List Value) : Prop :=
  Exa Z h a C ∧ ∀ (i : Nat) (n d : String) (v : Value), sch[i]? = some (n, d) → vs[i]? = some v → Fld Z h a C n d v
def SchOk (Z : State) (a0 : Array Value) (C : String) (sch : List (String × String)) : Prop :=
  (∀ q ∈ sch, Laid Z a0 C C q.1 q.2) ∧ (∀ q ∈ sch, (parseFieldDescriptor q.2).isSome = true) ∧ (sch.map (·.1)).Nodup
theorem Obj.exa (O : Obj Z h a C sch vs) : Exa Z h a C := O.1
theorem Obj.lt (O : Obj Z h a C sch vs) : a < h.size := O.1.lt
theorem Obj.fld (O : Obj Z h a C sch vs) (i : Nat) {n d : String} {v : Value} (h1 : sch[i]? = some (n, d)) (h2 : vs[i]? = some v) : Fld Z h a C n d v := O.2 i n d v h1 h2
theorem Obj.ext (O : Obj Z h a C sch vs) (E : Ext h h') : Obj Z h' a C sch vs := ⟨O.1.ext E, fun i n d v h1 h2 => (O.2 i n d v h1 h2).ext E⟩
theorem Obj.other (O : Obj Z h b C sch vs) (W : Wr h h' a sl v) (q : b ≠ a) : Obj Z h' b C sch vs := ⟨O.1.wr W, fun i n d v h1 h2 => (O.2 i n d v h1 h2).other W (Or.inl q)⟩
theorem Obj.keep (O : Obj Z h a C sch vs) (K : Keep h h' ws) (q : a ∉ ws) : Obj Z h' a C sch vs := ⟨O.1.keep K, fun i n d v h1 h2 => (O.2 i n d v h1 h2).keep K q⟩
theorem sch_ne (S : SchOk Z a0 C sch) {i j : Nat} {n d n' d' : String} (hi : sch[i]? = some (n, d)) (hj : sch[j]? = some (n', d')) (ne : i ≠ j) : n ≠ n' := by
  intro q
  have h3 := S.2.2
  rw [List.nodup_iff_pairwise_ne, List.pairwise_iff_getElem] at h3
  have e1 : (sch.map (·.1))[i]? = some n := by rw [List.getElem?_map, hi]; rfl
  have e2 : (sch.map (·.1))[j]? = some n' := by rw [List.getElem?_map, hj]; rfl
  obtain ⟨l1, f1⟩ := List.getElem?_eq_some_iff.mp e1
  obtain ⟨l2, f2⟩ := List.getElem?_eq_some_iff.mp e2
  rcases Nat.lt_or_gt_of_ne ne with k | k
  · exact h3 i j l1 l2 k (by rw [f1, f2, q])
  · exact h3 j i l2 l1 k (by rw [f1, f2, q])
theorem sch_ty (S : SchOk Z a0 C sch) {i : Nat} {n d : String} (hi : sch[i]? = some (n, d)) : ∃ t, parseFieldDescriptor d = some t :=
  Option.isSome_iff_exists.mp (S.2.1 _ (List.mem_of_getElem? hi))
theorem Obj.set (O : Obj Z h a C sch vs) (S : SchOk Z a0 C sch) {n d : String} (W : Wr h h' a (Jvm.RoadKit.slotOf Z C n d) v) (i : Nat) (hi : sch[i]? = some (n, d)) (hl : i < vs.length) : Obj Z h' a C sch (vs.set i v) := by
  refine ⟨O.1.wr W, fun j n' d' w h1 h2 => ?_⟩
  by_cases q : j = i
  · subst q
    cases hi.symm.trans h1
    rw [List.getElem?_set_self hl] at h2
    cases h2
    exact Fld.same W (O.2 j n d _ hi (List.getElem?_eq_getElem hl))
  · rw [List.getElem?_set_ne (Ne.symm q)] at h2
    obtain ⟨t, ht⟩ := sch_ty S hi
    obtain ⟨t', ht'⟩ := sch_ty S h1
    have L1 : Laid Z a0 C C n' d' := S.1 (n', d') (List.mem_of_getElem? h1)
    have L2 : Laid Z a0 C C n d := S.1 (n, d) (List.mem_of_getElem? hi)
    exact Fld.other W (O.2 j n' d' w h1 h2) (Or.inr (slot_ne L1 L2 (sch_ne S h1 hi q) ht' ht))
theorem Obj.new (S : SchOk Z a0 C sch) (A : Exa Z h a C) (D : ∀ {O nm d : String} {ty : FieldType}, Laid Z a0 C O nm d → parseFieldDescriptor d = some ty → Fld Z h a O nm d (defaultValue ty)) (tys : List FieldType) (ht : sch.map (fun q => parseFieldDescriptor q.2) = tys.map some) : Obj Z h a C sch (tys.map defaultValue) := by
  refine ⟨A, fun i n d v h1 h2 => ?_⟩
  rw [List.getElem?_map] at h2
  have e1 : (sch.map (fun q => parseFieldDescriptor q.2))[i]? = some (parseFieldDescriptor d) := by rw [List.getElem?_map, h1]; rfl
  rw [ht, List.getElem?_map] at e1
  cases hq : tys[i]? with
  | none => rw [hq] at e1; cases e1
  | some t =>
    rw [hq] at e1 h2
    cases h2
    have e2 : some (some t) = some (parseFieldDescriptor d) := e1
    exact D (O := C) (nm := n) (d := d) (ty := t) (S.1 (n, d) (List.mem_of_getElem? h1)) (Option.some.inj e2).symm
/-- an array of n places whose i-th holds f i -/
def FA (Z : State) (h : Heap) (a : Addr) (ty : FieldType) (n : Nat) (f : Nat → Value) : Prop :=
  ∃ c : Cell, Arr Z h a c ty ∧ c.slots.size = n ∧ n < 2 ^ 31 ∧ ∀ i, i < n → c.slots[i]? = some (f i)
variable {ty ty' : FieldType} {n n' : Nat} {f f' : Nat → Value}
theorem FA.lt (F : FA Z h a ty n f) : a < h.size := by obtain ⟨c, A, -⟩ := F; exact A.lt
theorem FA.ext (F : FA Z h a ty n f) (E : Ext h h') : FA Z h' a ty n f := by obtain ⟨c, A, r⟩ := F; exact ⟨c, A.ext E, r⟩
theorem FA.other (F : FA Z h b ty n f) (W : Wr h h' a sl v) (q : b ≠ a) : FA Z h' b ty n f := by obtain ⟨c, A, r⟩ := F; exact ⟨c, A.other W q, r⟩
theorem FA.keep (F : FA Z h a ty n f) (K : Keep h h' ws) (q : a ∉ ws) : FA Z h' a ty n f := by obtain ⟨c, A, r⟩ := F; exact ⟨c, ⟨K.2.1 _ _ A.1 q, A.2⟩, r⟩
theorem FA.congr (F : FA Z h a ty n f) (q : ∀ i, i < n → f i = f' i) : FA Z h a ty n f' := by
  obtain ⟨c, A, r1, r2, r3⟩ := F
  exact ⟨c, A, r1, r2, fun i hi => by rw [r3 i hi, q i hi]⟩
theorem FA.new {k : ClassId} {z : Int32} (A : Arr Z h a (newA k ty z) ty) (q : ¬ z < 0) (hn : z.toNatClampNeg = n) {d : Value} (hd : defaultValue ty = d) : FA Z h a ty n (fun _ => d) := by
  subst hn hd
  refine ⟨_, A, sz_new _ _ _, (back32 q).2, fun i hi => ?_⟩
  show (Array.replicate z.toNatClampNeg (defaultValue ty))[i]? = _
  simp [hi]
theorem FA.set (F : FA Z h a ty n f) {k : Nat} (W : Wr h h' a k v) : FA Z h' a ty n (fun i => if i = k then v else f i) := by
  obtain ⟨c, A, r1, r2, r3⟩ := F
  refine ⟨c.setSlot k v, A.same W, by rw [sz_set]; exact r1, r2, fun i hi => ?_⟩
  show (c.slots.setIfInBounds k v)[i]? = _
  by_cases q : i = k
  · subst q; simp [r1, hi]
  · rw [Array.getElem?_setIfInBounds_ne (Ne.symm q), r3 i hi]; simp [q]
theorem FA.ne_ty (F : FA Z h a ty n f) (G : FA Z h b ty' n' f') (q : ty ≠ ty') : a ≠ b := fun e => by
  subst e
  obtain ⟨c, A, -⟩ := F
  obtain ⟨c', A', -⟩ := G
  cases A.1.symm.trans A'.1
  obtain ⟨-, k1, j1, comp, j2⟩ := A.2.1
  obtain ⟨-, k2, i1, comp', i2⟩ := A'.2.1
  cases j1.symm.trans i1
  rw [j2] at i2
  cases i2
  exact q rfl
theorem Obj.ne_fa {kk : Nat} (O : Obj Z h a C sch vs) (wi : (Cond.instantiable C kk).before a0 Z = true) (F : FA Z h b ty n f) : a ≠ b := by
  obtain ⟨c, A, -⟩ := F
  exact ne_arr O.1 wi A
theorem nat_at {j : Int32} {k : Nat} (hk : j.toInt = (k : Int)) : j.toNatClampNeg = k ∧ ¬ j < 0 := by
  refine ⟨by show j.toInt.toNat = k; rw [hk]; rfl, fun q => ?_⟩
  rw [Int32.lt_iff_toInt_lt, hk] at q
  have : (0 : Int32).toInt = 0 := by decide
  omega
theorem inb {j : Int32} {k : Nat} {c : Cell} (hk : j.toInt = (k : Int)) (hn : c.slots.size = n) (hl : k < n) : ¬ (j < 0 ∨ c.slots.size ≤ j.toNatClampNeg) := by
  obtain ⟨h1, h2⟩ := nat_at hk
  rw [h1, hn]
  rintro (q | q)
  · exact h2 q
  · omega
theorem own_laload (X : Stand p l e R s m args below meth c T locs cells slots) (hx : p.tables.exec = Jvm.exec) (hZ : Z.Warmed39 s.vm) (eT : T.heap = h) (F : FA Z h a .long n f) {j : Int32} (k : Nat) (hk : j.toInt = (k : Int)) (hl : k < n) (hv : f k = v)
    {g : JFrame} (hg : g.method = m) {rest : List Value} (hs : g.stack = .int j :: .ref a :: rest) (hd : decode c.code g.pc = .ok (.laload, 1)) : ∀ target, Steps p.tables e below (T.setTop { g with pc := g.pc + 1, stack := v :: rest }) target → Steps p.tables e below (T.setTop g) target := by
  obtain ⟨cl, A, r1, r2, r3⟩ := F
  exact fun t k' => X.laload hx (by rw [eT]; exact A.1) (State.isArrayOf_alike hZ.alike A.2.1) A.2.2 (inb hk r1 hl) (by rw [(nat_at hk).1, r3 k hl, hv]) hg hs hd t k'
theorem own_iaload (X : Stand p l e R s m args below meth c T locs cells slots) (hx : p.tables.exec = Jvm.exec) (hZ : Z.Warmed39 s.vm) (eT : T.heap = h) (F : FA Z h a .int n f) {j : Int32} (k : Nat) (hk : j.toInt = (k : Int)) (hl : k < n) (hv : f k = v)
    {g : JFrame} (hg : g.method = m) {rest : List Value} (hs : g.stack = .int j :: .ref a :: rest) (hd : decode c.code g.pc = .ok (.iaload, 1)) : ∀ target, Steps p.tables e below (T.setTop { g with pc := g.pc + 1, stack := v :: rest }) target → Steps p.tables e below (T.setTop g) target := by
  obtain ⟨cl, A, r1, r2, r3⟩ := F
  exact fun t k' => X.iaload hx (by rw [eT]; exact A.1) (State.isArrayOf_alike hZ.alike A.2.1) A.2.2 (inb hk r1 hl) (by rw [(nat_at hk).1, r3 k hl, hv]) hg hs hd t k'
theorem own_baload (X : Stand p l e R s m args below meth c T locs cells slots) (hx : p.tables.exec = Jvm.exec) (hZ : Z.Warmed39 s.vm) (eT : T.heap = h) (F : FA Z h a .byte n f) {j : Int32} (k : Nat) (hk : j.toInt = (k : Int)) (hl : k < n) (hv : f k = v)
    {g : JFrame} (hg : g.method = m) {rest : List Value} (hs : g.stack = .int j :: .ref a :: rest) (hd : decode c.code g.pc = .ok (.baload, 1)) : ∀ target, Steps p.tables e below (T.setTop { g with pc := g.pc + 1, stack := v :: rest }) target → Steps p.tables e below (T.setTop g) target := by
  obtain ⟨cl, A, r1, r2, r3⟩ := F
  exact fun t k' => X.baloadBytes hx (by rw [eT]; exact A.1) (State.isArrayOf_alike hZ.alike A.2.1) A.2.2 (inb hk r1 hl) (by rw [(nat_at hk).1, r3 k hl, hv]) hg hs hd t k'
theorem own_aaload (X : Stand p l e R s m args below meth c T locs cells slots) (hx : p.tables.exec = Jvm.exec) (hZ : Z.Warmed39 s.vm) (eT : T.heap = h) (F : FA Z h a ty n f) (hty : ty.isReference = true) {j : Int32} (k : Nat) (hk : j.toInt = (k : Int)) (hl : k < n) (hv : f k = v)
    {g : JFrame} (hg : g.method = m) {rest : List Value} (hs : g.stack = .int j :: .ref a :: rest) (hd : decode c.code g.pc = .ok (.aaload, 1)) : ∀ target, Steps p.tables e below (T.setTop { g with pc := g.pc + 1, stack := v :: rest }) target → Steps p.tables e below (T.setTop g) target := by
  obtain ⟨cl, A, r1, r2, r3⟩ := F
  exact fun t k' => X.aaload hx (by rw [eT]; exact A.1) (State.isArrayOf_alike hZ.alike A.2.1) hty A.2.2 (inb hk r1 hl) (by rw [(nat_at hk).1, r3 k hl, hv]) hg hs hd t k'
theorem own_len (X : Stand p l e R s m args below meth c T locs cells slots) (hx : p.tables.exec = Jvm.exec) (hZ : Z.Warmed39 s.vm) (eT : T.heap = h) (F : FA Z h a ty n f) {z : Int32} (hz : n.toInt32 = z)
    {g : JFrame} (hg : g.method = m) {rest : List Value} (hs : g.stack = .ref a :: rest) (hd : decode c.code g.pc = .ok (.arraylength, 1)) : ∀ target, Steps p.tables e below (T.setTop { g with pc := g.pc + 1, stack := .int z :: rest }) target → Steps p.tables e below (T.setTop g) target := by
  obtain ⟨cl, A, r1, r2, r3⟩ := F
  refine fun t k' => X.arraylength hx (by rw [eT]; exact A.1) (State.isArrayOf_alike hZ.alike A.2.1) hg hs hd t ?_
  rw [r1, hz]; exact k'
theorem own_iastore (X : Stand p l e R s m args below meth c T locs cells slots) (hx : p.tables.exec = Jvm.exec) (hZ : Z.Warmed39 s.vm) (eT : T.heap = h) (F : FA Z h a .int n f) {j x : Int32} (k : Nat) (hk : j.toInt = (k : Int)) (hl : k < n)
    {g : JFrame} (hg : g.method = m) {rest : List Value} (hs : g.stack = .int x :: .int j :: .ref a :: rest) (hd : decode c.code g.pc = .ok (.iastore, 1)) :
    ∃ T' h', Stand p l e R s m args below meth c T' (locs ++ [⟨a, k⟩]) cells slots ∧ T'.heap = h' ∧ Wr h h' a k (.int x) ∧ ∀ target, Steps p.tables e below (T'.setTop { g with pc := g.pc + 1, stack := rest }) target → Steps p.tables e below (T.setTop g) target := by
  obtain ⟨cl, A, r1, r2, r3⟩ := F
  have q := stI X hx hZ eT A (x := x) (inb hk r1 hl) hg hs hd
  rw [(nat_at hk).1] at q
  exact q
theorem own_lastore (X : Stand p l e R s m args below meth c T locs cells slots) (hx : p.tables.exec = Jvm.exec) (hZ : Z.Warmed39 s.vm) (eT : T.heap = h) (F : FA Z h a .long n f) {j : Int32} {x : Int64} (k : Nat) (hk : j.toInt = (k : Int)) (hl : k < n)
    {g : JFrame} (hg : g.method = m) {rest : List Value} (hs : g.stack = .long x :: .int j :: .ref a :: rest) (hd : decode c.code g.pc = .ok (.lastore, 1)) :
    ∃ T' h', Stand p l e R s m args below meth c T' (locs ++ [⟨a, k⟩]) cells slots ∧ T'.heap = h' ∧ Wr h h' a k (.long x) ∧ ∀ target, Steps p.tables e below (T'.setTop { g with pc := g.pc + 1, stack := rest }) target → Steps p.tables e below (T.setTop g) target := by
  obtain ⟨cl, A, r1, r2, r3⟩ := F
  have q := stJ X hx hZ eT A (x := x) (inb hk r1 hl) hg hs hd
  rw [(nat_at hk).1] at q
  exact q
theorem own_bastore (X : Stand p l e R s m args below meth c T locs cells slots) (hx : p.tables.exec = Jvm.exec) (hZ : Z.Warmed39 s.vm) (eT : T.heap = h) (F : FA Z h a .byte n f) {j x : Int32} (k : Nat) (hk : j.toInt = (k : Int)) (hl : k < n)
    {g : JFrame} (hg : g.method = m) {rest : List Value} (hs : g.stack = .int x :: .int j :: .ref a :: rest) (hd : decode c.code g.pc = .ok (.bastore, 1)) :
    ∃ T' h', Stand p l e R s m args below meth c T' (locs ++ [⟨a, k⟩]) cells slots ∧ T'.heap = h' ∧ Wr h h' a k (.int (nar .byte x)) ∧ ∀ target, Steps p.tables e below (T'.setTop { g with pc := g.pc + 1, stack := rest }) target → Steps p.tables e below (T.setTop g) target := by
  obtain ⟨cl, A, r1, r2, r3⟩ := F
  have q := stB X hx hZ eT A (x := x) (inb hk r1 hl) hg hs hd
  rw [(nat_at hk).1] at q
  exact q
/-- the typed updates -/
def updL (f : Nat → Int64) (k : Nat) (x : Int64) : Nat → Int64 := fun i => if i = k then x else f i
def updI (f : Nat → Int32) (k : Nat) (x : Int32) : Nat → Int32 := fun i => if i = k then x else f i
theorem FA.setL {f : Nat → Int64} {x : Int64} (F : FA Z h a ty n (fun i => .long (f i))) {k : Nat} (W : Wr h h' a k (.long x)) : FA Z h' a ty n (fun i => .long (updL f k x i)) :=
  (F.set W).congr fun i _ => by by_cases q : i = k <;> simp [updL, q]
theorem FA.setI {f : Nat → Int32} {x : Int32} (F : FA Z h a ty n (fun i => .int (f i))) {k : Nat} (W : Wr h h' a k (.int x)) : FA Z h' a ty n (fun i => .int (updI f k x i)) :=
  (F.set W).congr fun i _ => by by_cases q : i = k <;> simp [updI, q]
/-- a call by a contract, whatever it writes or makes: static, virtual, a constructor's -/
theorem own_callS (X : Stand p l e R s m args below meth c T locs cells slots) (hx : p.tables.exec = Jvm.exec) (hZ : Z.Warmed39 s.vm) {own : String} {index : Nat} {y : MethodName} {bytes : ByteArray} {maxL : Nat} {ret : Option FieldType} {rm : Room} {Q : Option Value → Heap → List Loc → Prop} {argsL rest : List Value} {g : JFrame}
    (hown : s.vm.findClass own = some m.cls) (w1 : (Cond.methodLink own index y).before a0 Z = true) (w2 : (Cond.static y).before a0 Z = true) (w3 : (Cond.initialized y.cls).before a0 Z = true) (w4 : (Cond.code y bytes maxL ret).before a0 Z = true)
    (hy : y.cls ≠ "java/lang/invoke/MethodHandle" ∧ y.cls ≠ "java/lang/invoke/VarHandle")
    (hM : MetFree l y (head1 [Cond.code y bytes maxL ret] rm) (fun a U => a = argsL.toArray ∧ Z.Warmed39 U.vm ∧ U.heap = h) (fun _ _ _ _ _ => True) (fun _ U o U' => ∃ v L, o = .returned v ∧ Q v U'.heap L ∧ FrameEnd U o U' L rm.cells rm.slots))
    (eT : T.heap = h) (hg : g.method = m) (hsize : g.locals.size = c.maxLocals) (hlen : ∀ sig, parseMethodDescriptor y.desc = some sig → argsL.length = sig.parameters.length) (hstack : g.stack = argsL.reverse ++ rest) {W : Nat} (hW : 2 * g.monitorRoom + (rest.map fun v => v.category).sum ≤ W)
    (hd : decode c.code g.pc = .ok (.invokestatic index, 3)) (hf : rm.frames + 1 ≤ R.frames) (hl : W + (maxL + 11) + rm.locals ≤ R.locals) (hc : cells + rm.cells ≤ R.cells) (hs : slots + rm.slots ≤ R.slots) :
    ∃ v T' L h', Stand p l e R s m args below meth c T' (locs ++ L) (cells + rm.cells) (slots + rm.slots) ∧ T'.heap = h' ∧ Q v h' L ∧ Steps p.tables e below (T.setTop g) (T'.setTop { g with pc := g.pc + 3, stack := v.toList ++ rest }) := by
  obtain ⟨v, _, ⟨T1, L1, k1, n1⟩, -, X1, ⟨Lc, hQ, l1, y1, z1⟩, st⟩ := Jvm.LawKit.callS X hx (y := y) hown (mvT hZ w1) (mvT hZ w2) (mvT hZ w3) (mvT hZ w4) hy (backOf (rm := rm) (W := W) hM hZ w4 w3 hf hl) (g := g) hg hsize (argsL := argsL) (rest := rest) hlen hstack hW hd (fun _ _ => ⟨rfl, eT, hc, hs⟩)
  dsimp only [Pt.U, Pt.locs, Pt.cells, Pt.slots] at X1 l1 y1 z1 st hQ
  subst l1 y1 z1
  exact ⟨v, T1, Lc, _, X1, rfl, hQ, st _ (Steps.refl _)⟩
theorem own_callV (X : Stand p l e R s m args below meth c T locs cells slots) (hx : p.tables.exec = Jvm.exec) (hZ : Z.Warmed39 s.vm) {own : String} {index : Nat} {y : MethodName} {bytes : ByteArray} {maxL : Nat} {ret : Option FieldType} {rm : Room} {Q : Option Value → Heap → List Loc → Prop} {argsL rest : List Value} {g : JFrame}
    (hown : s.vm.findClass own = some m.cls) (w1 : (Cond.methodLink own index y).before a0 Z = true) (w2 : (Cond.declares y).before a0 Z = true) (w3 : (Cond.selects C y y).before a0 Z = true) (w4 : (Cond.instanceMethod y).before a0 Z = true) (w5 : (Cond.code y bytes maxL ret).before a0 Z = true) (w6 : (Cond.initialized y.cls).before a0 Z = true)
    (hy : y.cls ≠ "java/lang/invoke/MethodHandle" ∧ y.cls ≠ "java/lang/invoke/VarHandle") (E : Exa Z h b C)
    (hM : MetFree l y (head1 [Cond.code y bytes maxL ret] rm) (fun a U => a = (.ref b :: argsL).toArray ∧ Z.Warmed39 U.vm ∧ U.heap = h) (fun _ _ _ _ _ => True) (fun _ U o U' => ∃ v L, o = .returned v ∧ Q v U'.heap L ∧ FrameEnd U o U' L rm.cells rm.slots))
    (eT : T.heap = h) (hg : g.method = m) (hsize : g.locals.size = c.maxLocals) (hlen : ∀ sig, parseMethodDescriptor y.desc = some sig → argsL.length = sig.parameters.length) (hstack : g.stack = argsL.reverse ++ .ref b :: rest) {W : Nat} (hW : 2 * g.monitorRoom + (rest.map fun v => v.category).sum ≤ W)
    (hd : decode c.code g.pc = .ok (.invokevirtual index, 3)) (hf : rm.frames + 1 ≤ R.frames) (hl : W + (maxL + 11) + rm.locals ≤ R.locals) (hc : cells + rm.cells ≤ R.cells) (hs : slots + rm.slots ≤ R.slots) :
    ∃ v T' L h', Stand p l e R s m args below meth c T' (locs ++ L) (cells + rm.cells) (slots + rm.slots) ∧ T'.heap = h' ∧ Q v h' L ∧ Steps p.tables e below (T.setTop g) (T'.setTop { g with pc := g.pc + 3, stack := v.toList ++ rest }) := by
  obtain ⟨cq, kq, qa, qb, qc⟩ := isOf hZ eT E
  obtain ⟨v, _, ⟨T1, L1, k1, n1⟩, -, X1, ⟨Lc, hQ, l1, y1, z1⟩, st⟩ := X.virtualBack hx (y := y) (z := y) hown (mvT hZ w1) (mvT hZ w2) (notFace_of_selects (args := #[]) (mvT hZ w3)) (mvT hZ w3) (mvT hZ w4) hy (backOf (rm := rm) (W := W) hM hZ w5 w6 hf hl) qa qc (g := g) hg hsize (Steps.refl _) (argsL := argsL) (rest := rest) hlen hstack hW hd (fun _ _ => ⟨rfl, eT, hc, hs⟩)
  dsimp only [Pt.U, Pt.locs, Pt.cells, Pt.slots] at X1 l1 y1 z1 st hQ
  subst l1 y1 z1
  exact ⟨v, T1, Lc, _, X1, rfl, hQ, st⟩
theorem own_callI (X : Stand p l e R s m args below meth c T locs cells slots) (hx : p.tables.exec = Jvm.exec) (hZ : Z.Warmed39 s.vm) {own : String} {index : Nat} {y : MethodName} {bytes : ByteArray} {maxL : Nat} {rm : Room} {Q : Option Value → Heap → List Loc → Prop} {argsL rest : List Value} {g : JFrame} (hy1 : y.name = "<init>")
    (hown : s.vm.findClass own = some m.cls) (w1 : (Cond.methodLink own index y).before a0 Z = true) (w2 : (Cond.instanceMethod y).before a0 Z = true) (w3 : (Cond.code y bytes maxL none).before a0 Z = true) (w4 : (Cond.initialized y.cls).before a0 Z = true)
    (hy : y.cls ≠ "java/lang/invoke/MethodHandle" ∧ y.cls ≠ "java/lang/invoke/VarHandle")
    (hM : MetFree l y (head1 [Cond.code y bytes maxL none] rm) (fun a U => a = (.ref b :: argsL).toArray ∧ Z.Warmed39 U.vm ∧ U.heap = h) (fun _ _ _ _ _ => True) (fun _ U o U' => ∃ v L, o = .returned v ∧ Q v U'.heap L ∧ FrameEnd U o U' L rm.cells rm.slots))
    (eT : T.heap = h) (hg : g.method = m) (hsize : g.locals.size = c.maxLocals) (hlen : ∀ sig, parseMethodDescriptor y.desc = some sig → argsL.length = sig.parameters.length) (hstack : g.stack = argsL.reverse ++ .ref b :: rest) {W : Nat} (hW : 2 * g.monitorRoom + (rest.map fun v => v.category).sum ≤ W)
    (hd : decode c.code g.pc = .ok (.invokespecial index, 3)) (hf : rm.frames + 1 ≤ R.frames) (hl : W + (maxL + 11) + rm.locals ≤ R.locals) (hc : cells + rm.cells ≤ R.cells) (hs : slots + rm.slots ≤ R.slots) :
    ∃ v T' L h', Stand p l e R s m args below meth c T' (locs ++ L) (cells + rm.cells) (slots + rm.slots) ∧ T'.heap = h' ∧ Q v h' L ∧ Steps p.tables e below (T.setTop g) (T'.setTop { g with pc := g.pc + 3, stack := v.toList ++ rest }) := by
  obtain ⟨v, _, ⟨T1, L1, k1, n1⟩, -, X1, ⟨Lc, hQ, l1, y1, z1⟩, st⟩ := X.specialBack hx (y := y) hy1 hown (mvT hZ w1) (mvT hZ w2) (mvT hZ w3) hy (backOf (rm := rm) (W := W) hM hZ w3 w4 hf hl) (g := g) hg hsize (Steps.refl _) (a := b) (argsL := argsL) (rest := rest) hlen hstack hW hd (fun _ _ => ⟨rfl, eT, hc, hs⟩)
  dsimp only [Pt.U, Pt.locs, Pt.cells, Pt.slots] at X1 l1 y1 z1 st hQ
  subst l1 y1 z1
  exact ⟨v, T1, Lc, _, X1, rfl, hQ, st⟩
end Own2
section Own3
variable {p : Program} {l : Launch} {e : Env} {R : Room} {s : State} {m : MethodId} {args : Array Value} {below : List Frame} {meth : Method} {c : Code} {T : State} {locs : List Loc} {cells slots : Nat} {Z : State} {a0 : Array Value} {h h' : Heap} {a b : Addr} {C : String}
/-- a call of an instance method that writes nothing -/
theorem own_callR (X : Stand p l e R s m args below meth c T locs cells slots) (hx : p.tables.exec = Jvm.exec) (hZ : Z.Warmed39 s.vm) {own : String} {index : Nat} {y : MethodName} {bytes : ByteArray} {maxL : Nat} {ret : Option FieldType} {fr lo : Nat} {r : Value} {argsL rest : List Value} {g : JFrame}
    (hown : s.vm.findClass own = some m.cls) (w1 : (Cond.methodLink own index y).before a0 Z = true) (w2 : (Cond.declares y).before a0 Z = true) (w3 : (Cond.selects C y y).before a0 Z = true) (w4 : (Cond.instanceMethod y).before a0 Z = true) (w5 : (Cond.code y bytes maxL ret).before a0 Z = true) (w6 : (Cond.initialized y.cls).before a0 Z = true)
    (hy : y.cls ≠ "java/lang/invoke/MethodHandle" ∧ y.cls ≠ "java/lang/invoke/VarHandle") (E : Exa Z h b C)
    (hM : MetFree l y (head1 [Cond.code y bytes maxL ret] ({ frames := fr, cells := 0, slots := 0, locals := lo } : Room)) (fun a U => a = (.ref b :: argsL).toArray ∧ Z.Warmed39 U.vm ∧ U.heap = h) (fun _ _ _ _ _ => True) (fun _ U o U' => ∃ v L, o = .returned v ∧ QP r h v U'.heap L ∧ FrameEnd U o U' L 0 0))
    (eT : T.heap = h) (hg : g.method = m) (hsize : g.locals.size = c.maxLocals) (hlen : ∀ sig, parseMethodDescriptor y.desc = some sig → argsL.length = sig.parameters.length) (hstack : g.stack = argsL.reverse ++ .ref b :: rest) {W : Nat} (hW : 2 * g.monitorRoom + (rest.map fun v => v.category).sum ≤ W)
    (hd : decode c.code g.pc = .ok (.invokevirtual index, 3)) (hf : fr + 1 ≤ R.frames) (hl : W + (maxL + 11) + lo ≤ R.locals) (hc : cells ≤ R.cells) (hs : slots ≤ R.slots) :
    ∃ T', Stand p l e R s m args below meth c T' locs cells slots ∧ T'.heap = h ∧ ∀ target, Steps p.tables e below (T'.setTop { g with pc := g.pc + 3, stack := r :: rest }) target → Steps p.tables e below (T.setTop g) target := by
  obtain ⟨v, T1, L1, h1, X1, e1, ⟨rfl, rfl, q⟩, st⟩ := own_callV X hx hZ hown w1 w2 w3 w4 w5 w6 hy E (rm := ({ frames := fr, cells := 0, slots := 0, locals := lo } : Room)) hM eT hg hsize hlen hstack hW hd hf hl hc hs
  rw [List.append_nil] at X1
  exact ⟨T1, X1, e1.trans q, fun t k => st.trans k⟩
/-- a call of a private instance method by its contract -/
theorem own_callX (X : Stand p l e R s m args below meth c T locs cells slots) (hx : p.tables.exec = Jvm.exec) (hZ : Z.Warmed39 s.vm) {own : String} {index : Nat} {y : MethodName} {bytes : ByteArray} {maxL kk : Nat} {ret : Option FieldType} {rm : Room} {Q : Option Value → Heap → List Loc → Prop} {argsL rest : List Value} {g : JFrame}
    (hown : s.vm.findClass own = some m.cls) (w1 : (Cond.methodLink own index y).before a0 Z = true) (w2 : (Cond.instanceMethod y).before a0 Z = true) (w3 : (Cond.privateMethod y).before a0 Z = true) (w4 : (Cond.code y bytes maxL ret).before a0 Z = true) (w5 : (Cond.initialized y.cls).before a0 Z = true) (w6 : (Cond.instantiable y.cls kk).before a0 Z = true)
    (hy : y.cls ≠ "java/lang/invoke/MethodHandle" ∧ y.cls ≠ "java/lang/invoke/VarHandle") (E : Exa Z h b C)
    (hM : MetFree l y (head1 [Cond.code y bytes maxL ret] rm) (fun a U => a = (.ref b :: argsL).toArray ∧ Z.Warmed39 U.vm ∧ U.heap = h) (fun _ _ _ _ _ => True) (fun _ U o U' => ∃ v L, o = .returned v ∧ Q v U'.heap L ∧ FrameEnd U o U' L rm.cells rm.slots))
    (eT : T.heap = h) (hg : g.method = m) (hsize : g.locals.size = c.maxLocals) (hlen : ∀ sig, parseMethodDescriptor y.desc = some sig → argsL.length = sig.parameters.length) (hstack : g.stack = argsL.reverse ++ .ref b :: rest) {W : Nat} (hW : 2 * g.monitorRoom + (rest.map fun v => v.category).sum ≤ W)
    (hd : decode c.code g.pc = .ok (.invokevirtual index, 3)) (hf : rm.frames + 1 ≤ R.frames) (hl : W + (maxL + 11) + rm.locals ≤ R.locals) (hc : cells + rm.cells ≤ R.cells) (hs : slots + rm.slots ≤ R.slots) :
    ∃ v T' L h', Stand p l e R s m args below meth c T' (locs ++ L) (cells + rm.cells) (slots + rm.slots) ∧ T'.heap = h' ∧ Q v h' L ∧ Steps p.tables e below (T.setTop g) (T'.setTop { g with pc := g.pc + 3, stack := v.toList ++ rest }) := by
  have v2 : (Cond.instanceMethod y).before args s = true := mvT hZ w2
  have v4 : (Cond.code y bytes maxL ret).before args s = true := mvT hZ w4
  have v6 : (Cond.instantiable y.cls kk).before args s = true := mv hZ w6
  obtain ⟨mk, me, n1, n2, n3, n4⟩ := Cond.instanceMethod_spec v2
  obtain ⟨me', cM, n5, -, -, -, -, -, -, n6⟩ := Cond.code_spec n1 v4
  cases n2.symm.trans n5
  obtain ⟨cI, kI, i1, i2, -, i4, -⟩ := Cond.instantiable_spec v6
  cases (findClass_of_methodNamed n1).symm.trans i1
  have ni : kI.isInterface = false := by simp only [Bool.or_eq_false_iff] at i4; exact i4.1
  obtain ⟨cell, c1, c2⟩ := E.cell
  have pr := Cond.privateMethod_at (mvP hZ w3 (args := args)) mk me n1 n2
  obtain ⟨vm₁, X₁, s₁⟩ := X.invokevirtual hx hown (mvT hZ w1) n1 n2 n3 i2 ni hy (a := b) (cell := cell) (by rw [eT]; exact c1) c2 (selectMethod_private n2 pr) n2 n4 i2 ni (g := g) hg (argsL := argsL) (rest := rest) (hlen _ n6) hstack hd
  obtain ⟨v, ⟨T1, L1, k1, n1'⟩, X1, ⟨Lc, hQ, l1, y1, z1⟩, st⟩ := backOf (rm := rm) (W := W) hM hZ w4 w5 hf hl m meth c ⟨T.setVm vm₁, locs, cells, slots⟩ { g with stack := rest } (.invokevirtual index) mk (.ref b :: argsL).toArray X₁ hg hsize hd hW (X₁.named n1) ⟨rfl, eT, hc, hs⟩
  dsimp only [Pt.U, Pt.locs, Pt.cells, Pt.slots] at X1 l1 y1 z1 st hQ
  subst l1 y1 z1
  exact ⟨v, T1, Lc, _, X1, rfl, hQ, (s₁ _ fun acts => by rw [doInvoke_state]; exact Steps.refl _).trans st⟩
theorem own_callXR (X : Stand p l e R s m args below meth c T locs cells slots) (hx : p.tables.exec = Jvm.exec) (hZ : Z.Warmed39 s.vm) {own : String} {index : Nat} {y : MethodName} {bytes : ByteArray} {maxL kk : Nat} {ret : Option FieldType} {fr lo : Nat} {r : Value} {argsL rest : List Value} {g : JFrame}
    (hown : s.vm.findClass own = some m.cls) (w1 : (Cond.methodLink own index y).before a0 Z = true) (w2 : (Cond.instanceMethod y).before a0 Z = true) (w3 : (Cond.privateMethod y).before a0 Z = true) (w4 : (Cond.code y bytes maxL ret).before a0 Z = true) (w5 : (Cond.initialized y.cls).before a0 Z = true) (w6 : (Cond.instantiable y.cls kk).before a0 Z = true)
    (hy : y.cls ≠ "java/lang/invoke/MethodHandle" ∧ y.cls ≠ "java/lang/invoke/VarHandle") (E : Exa Z h b C)
    (hM : MetFree l y (head1 [Cond.code y bytes maxL ret] ({ frames := fr, cells := 0, slots := 0, locals := lo } : Room)) (fun a U => a = (.ref b :: argsL).toArray ∧ Z.Warmed39 U.vm ∧ U.heap = h) (fun _ _ _ _ _ => True) (fun _ U o U' => ∃ v L, o = .returned v ∧ QP r h v U'.heap L ∧ FrameEnd U o U' L 0 0))
    (eT : T.heap = h) (hg : g.method = m) (hsize : g.locals.size = c.maxLocals) (hlen : ∀ sig, parseMethodDescriptor y.desc = some sig → argsL.length = sig.parameters.length) (hstack : g.stack = argsL.reverse ++ .ref b :: rest) {W : Nat} (hW : 2 * g.monitorRoom + (rest.map fun v => v.category).sum ≤ W)
    (hd : decode c.code g.pc = .ok (.invokevirtual index, 3)) (hf : fr + 1 ≤ R.frames) (hl : W + (maxL + 11) + lo ≤ R.locals) (hc : cells ≤ R.cells) (hs : slots ≤ R.slots) :
    ∃ T', Stand p l e R s m args below meth c T' locs cells slots ∧ T'.heap = h ∧ ∀ target, Steps p.tables e below (T'.setTop { g with pc := g.pc + 3, stack := r :: rest }) target → Steps p.tables e below (T.setTop g) target := by
  obtain ⟨v, T1, L1, h1, X1, e1, ⟨rfl, rfl, q⟩, st⟩ := own_callX X hx hZ hown w1 w2 w3 w4 w5 w6 hy E (rm := ({ frames := fr, cells := 0, slots := 0, locals := lo } : Room)) hM eT hg hsize hlen hstack hW hd hf hl hc hs
  rw [List.append_nil] at X1
  exact ⟨T1, X1, e1.trans q, fun t k => st.trans k⟩
end Own3
section Own5
variable {p : Program} {l : Launch} {e : Env} {R : Room} {s : State} {m : MethodId} {args : Array Value} {below : List Frame} {meth : Method} {c : Code} {T : State} {locs : List Loc} {cells slots : Nat} {Z : State} {a0 : Array Value} {h h' : Heap} {a b : Addr} {ty : FieldType} {n n' : Nat} {f f' : Nat → Value}
theorem i32_of {n : Nat} (hn : n < 2 ^ 31) : (Int32.ofNat n).toInt = (n : Int) := by
  have h1 : (Int32.ofNat n).toInt = (n : Int).bmod (2 ^ 32) := Int32.toInt_ofNat'
  have h2 := bm32 (n : Int)
  have h3 := rng32 (Int32.ofNat n)
  rw [h1] at h3 ⊢
  omega
theorem FA.toArv (F : FA Z h a ty n f) (hf : ∀ i, i < n → fits ty (f i) = true) (d : Value) : ∃ k, Arv Z h a k ty (Int32.ofNat n) ((List.range n).map f) d := by
  obtain ⟨c, A, r1, r2, r3⟩ := F
  have hk := nat_at (i32_of r2)
  have hg : ∀ i, i < n → ((List.range n).map f).getD i d = f i := fun i hi => by simp [List.getD, hi]
  exact ⟨c.cls, c, A, rfl, by rw [r1, hk.1], hk.2, fun k hk => by rw [r3 k (by omega), hg k (by omega)], fun i hi => by rw [hg i (by omega)]; exact hf i (by omega)⟩
theorem FA.ofArv {k : ClassId} {z : Int32} {vs : List Value} {d : Value} (A : Arv Z h a k ty z vs d) (hz : z.toInt = (n : Int)) : FA Z h a ty n (fun i => vs.getD i d) := by
  obtain ⟨c, A1, -, r2, -, r4, -⟩ := A
  rw [(nat_at hz).1] at r2
  have hr := rng32 z
  exact ⟨c, A1, r2, by omega, fun i hi => r4 i (by omega)⟩
/-- System.arraycopy from the beginning of one array to the beginning of another of its kind -/
theorem own_arraycopy (X : Stand p l e R s m args below meth c T locs cells slots) (hx : p.tables.exec = Jvm.exec) (hZ : Z.Warmed39 s.vm) {own : String} {index : Nat} (hown : s.vm.findClass own = some m.cls)
    (w1 : (Cond.methodLink own index Jvm.Stand.acN).before a0 Z = true) (w2 : (Cond.native Jvm.Stand.acN).before a0 Z = true) (w3 : (Cond.static Jvm.Stand.acN).before a0 Z = true) (w4 : (Cond.initialized "java/lang/System").before a0 Z = true) (eT : T.heap = h)
    (A : FA Z h a ty n f) (B : FA Z h b ty n' f') (hty : refKind ty = false) (hfa : ∀ i, i < n → fits ty (f i) = true) (hfb : ∀ i, i < n' → fits ty (f' i) = true) {nn : Int32} (k : Nat) (hk : nn.toInt = (k : Int)) (hkn : k ≤ n) (hkn' : k ≤ n') {n0 : Nat} (N : Fr n0 locs) (ge : n0 ≤ b)
    {g : JFrame} (hg : g.method = m) (hsize : g.locals.size = c.maxLocals) {rest : List Value} (hs : g.stack = .int nn :: .int 0 :: .ref b :: .int 0 :: .ref a :: rest) (hd : decode c.code g.pc = .ok (.invokestatic index, 3))
    (hf : 1 ≤ R.frames) {W : Nat} (hW : 2 * g.monitorRoom + (rest.map fun v => v.category).sum ≤ W) (hlo : W + (nativeFrameWords "java/lang/System" "arraycopy" 5 + 11) ≤ R.locals) :
    ∃ T' h' L, Stand p l e R s m args below meth c T' L cells slots ∧ T'.heap = h' ∧ Fr n0 L ∧ Keep h h' [b] ∧ FA Z h' b ty n' (fun i => if i < k then f i else f' i) ∧
      ∀ target, Steps p.tables e below (T'.setTop { g with pc := g.pc + 3, stack := rest }) target → Steps p.tables e below (T.setTop g) target := by
  obtain ⟨kA, AA⟩ := A.toArv hfa (.int 0)
  obtain ⟨kB, BB⟩ := B.toArv hfb (.int 0)
  obtain ⟨c1, -, r1, r2, -⟩ := A
  obtain ⟨c2, -, q1, q2, -⟩ := B
  have ha := nat_at (i32_of r2)
  have hb := nat_at (i32_of q2)
  have hk' := nat_at hk
  have z0 : ((0 : Int32)).toNatClampNeg = 0 := rfl
  obtain ⟨T', h', L, X', e', N', K', V', st⟩ := cpA X hx hZ hown w1 w2 w3 w4 eT (sp := 0) (dp := 0) (nn := nn) AA BB (Or.inl ⟨rfl, hty⟩) (by decide) (by decide) hk'.2 (by rw [z0, hk'.1, ha.1]; omega) (by rw [z0, hk'.1, hb.1]; omega) rfl (by rw [z0, hk'.1]; simp; omega) N ge hg hsize hs hd hf hW hlo
  refine ⟨T', h', L, X', e', N', K', (FA.ofArv V' (i32_of q2)).congr fun i hi => ?_, st⟩
  rw [z0, hk'.1]
  simp only [List.take_zero, List.nil_append, Nat.zero_add]
  by_cases q : i < k
  · rw [if_pos q]
    simp only [List.getD]
    rw [List.getElem?_append_left (by simp; omega)]
    have : i < n := by omega
    simp [q, this]
  · rw [if_neg q]
    simp only [List.getD]
    rw [List.getElem?_append_right (by simp; omega)]
    have : k + (i - k) = i := by omega
    simp [this, hi]
end Own5
section Own6
variable {p : Program} {l : Launch} {e : Env} {R : Room} {s : State} {m : MethodId} {args : Array Value} {below : List Frame} {meth : Method} {c : Code} {T : State} {locs : List Loc} {cells slots : Nat} {Z : State} {a0 : Array Value} {h h' : Heap} {Q : Option Value → Heap → List Loc → Prop} {K N : Nat} {pc : Nat} {L : Array Slot} {S : List Value} {cd : ByteArray}
theorem qaN (pc' : Nat) (X : Stand p l e R s m args below meth c T locs cells slots) (hx : p.tables.exec = Jvm.exec) (hby : c.code = cd) {k : Fin 4} {a : Addr} (hd : decode cd pc = .ok (.aload_n k, 1)) (hp : pc + 1 = pc') (hl : L[k.val]? = some ((vr a))) (k' : OEnds p e below s Q K N (T.setTop (mkF m pc' L (.ref a :: S)))) : OEnds p e below s Q K N (T.setTop (mkF m pc L S)) := by
  subst hp; exact own_by (fun _ q => XS.aloadN X.here hx rfl (hb hby hd) hl rfl q) k'
theorem qa (pc' : Nat) (X : Stand p l e R s m args below meth c T locs cells slots) (hx : p.tables.exec = Jvm.exec) (hby : c.code = cd) {k : Nat} {a : Addr} (hd : decode cd pc = .ok (.aload k, 2)) (hp : pc + 2 = pc') (hl : L[k]? = some ((vr a))) (k' : OEnds p e below s Q K N (T.setTop (mkF m pc' L (.ref a :: S)))) : OEnds p e below s Q K N (T.setTop (mkF m pc L S)) := by
  subst hp; exact own_by (fun _ q => XS.aload X.here hx rfl (hb hby hd) hl rfl q) k'
theorem qsaN (pc' : Nat) (L' : Array Slot) (X : Stand p l e R s m args below meth c T locs cells slots) (hx : p.tables.exec = Jvm.exec) (hby : c.code = cd) {k : Fin 4} {a : Addr} (hd : decode cd pc = .ok (.astore_n k, 1)) (hp : pc + 1 = pc') (hl : storeLocals L k.val (.ref a) = some L') (k' : OEnds p e below s Q K N (T.setTop (mkF m pc' L' S))) : OEnds p e below s Q K N (T.setTop (mkF m pc L (.ref a :: S))) := by
  subst hp; exact own_by (fun _ q => XS.astoreN X.here hx rfl (hb hby hd) rfl rfl (l' := L') hl q) k'
theorem qsa (pc' : Nat) (L' : Array Slot) (X : Stand p l e R s m args below meth c T locs cells slots) (hx : p.tables.exec = Jvm.exec) (hby : c.code = cd) {k : Nat} {a : Addr} (hd : decode cd pc = .ok (.astore k, 2)) (hp : pc + 2 = pc') (hl : storeLocals L k (.ref a) = some L') (k' : OEnds p e below s Q K N (T.setTop (mkF m pc' L' S))) : OEnds p e below s Q K N (T.setTop (mkF m pc L (.ref a :: S))) := by
  subst hp; exact own_by (fun _ q => XS.astore X.here hx rfl (hb hby hd) rfl rfl (l' := L') hl q) k'
theorem qiN (pc' : Nat) (X : Stand p l e R s m args below meth c T locs cells slots) (hx : p.tables.exec = Jvm.exec) (hby : c.code = cd) {k : Fin 4} {a : Int32} (hd : decode cd pc = .ok (.iload_n k, 1)) (hp : pc + 1 = pc') (hl : L[k.val]? = some ((vi a))) (k' : OEnds p e below s Q K N (T.setTop (mkF m pc' L (.int a :: S)))) : OEnds p e below s Q K N (T.setTop (mkF m pc L S)) := by
  subst hp; exact own_by (fun _ q => XS.iloadN X.here hx rfl (hb hby hd) hl q) k'
theorem qi (pc' : Nat) (X : Stand p l e R s m args below meth c T locs cells slots) (hx : p.tables.exec = Jvm.exec) (hby : c.code = cd) {k : Nat} {a : Int32} (hd : decode cd pc = .ok (.iload k, 2)) (hp : pc + 2 = pc') (hl : L[k]? = some ((vi a))) (k' : OEnds p e below s Q K N (T.setTop (mkF m pc' L (.int a :: S)))) : OEnds p e below s Q K N (T.setTop (mkF m pc L S)) := by
  subst hp; exact own_by (fun _ q => XS.iload X.here hx rfl (hb hby hd) hl q) k'
theorem qsiN (pc' : Nat) (L' : Array Slot) (X : Stand p l e R s m args below meth c T locs cells slots) (hx : p.tables.exec = Jvm.exec) (hby : c.code = cd) {k : Fin 4} {a : Int32} (hd : decode cd pc = .ok (.istore_n k, 1)) (hp : pc + 1 = pc') (hl : storeLocals L k.val (.int a) = some L') (k' : OEnds p e below s Q K N (T.setTop (mkF m pc' L' S))) : OEnds p e below s Q K N (T.setTop (mkF m pc L (.int a :: S))) := by
  subst hp; exact own_by (fun _ q => XS.istoreN X.here hx rfl (hb hby hd) rfl (l' := L') hl q) k'
theorem qsi (pc' : Nat) (L' : Array Slot) (X : Stand p l e R s m args below meth c T locs cells slots) (hx : p.tables.exec = Jvm.exec) (hby : c.code = cd) {k : Nat} {a : Int32} (hd : decode cd pc = .ok (.istore k, 2)) (hp : pc + 2 = pc') (hl : storeLocals L k (.int a) = some L') (k' : OEnds p e below s Q K N (T.setTop (mkF m pc' L' S))) : OEnds p e below s Q K N (T.setTop (mkF m pc L (.int a :: S))) := by
  subst hp; exact own_by (fun _ q => XS.istore X.here hx rfl (hb hby hd) rfl (l' := L') hl q) k'
theorem qlN (pc' : Nat) (X : Stand p l e R s m args below meth c T locs cells slots) (hx : p.tables.exec = Jvm.exec) (hby : c.code = cd) {k : Fin 4} {a : Int64} (hd : decode cd pc = .ok (.lload_n k, 1)) (hp : pc + 1 = pc') (hl : L[k.val]? = some ((vj a))) (k' : OEnds p e below s Q K N (T.setTop (mkF m pc' L (.long a :: S)))) : OEnds p e below s Q K N (T.setTop (mkF m pc L S)) := by
  subst hp; exact own_by (fun _ q => XS.lloadN X.here hx rfl (hb hby hd) hl q) k'
theorem ql (pc' : Nat) (X : Stand p l e R s m args below meth c T locs cells slots) (hx : p.tables.exec = Jvm.exec) (hby : c.code = cd) {k : Nat} {a : Int64} (hd : decode cd pc = .ok (.lload k, 2)) (hp : pc + 2 = pc') (hl : L[k]? = some ((vj a))) (k' : OEnds p e below s Q K N (T.setTop (mkF m pc' L (.long a :: S)))) : OEnds p e below s Q K N (T.setTop (mkF m pc L S)) := by
  subst hp; exact own_by (fun _ q => XS.lload X.here hx rfl (hb hby hd) hl q) k'
theorem qsl (pc' : Nat) (L' : Array Slot) (X : Stand p l e R s m args below meth c T locs cells slots) (hx : p.tables.exec = Jvm.exec) (hby : c.code = cd) {k : Nat} {a : Int64} (hd : decode cd pc = .ok (.lstore k, 2)) (hp : pc + 2 = pc') (hl : storeLocals L k (.long a) = some L') (k' : OEnds p e below s Q K N (T.setTop (mkF m pc' L' S))) : OEnds p e below s Q K N (T.setTop (mkF m pc L (.long a :: S))) := by
  subst hp; exact own_by (fun _ q => XS.lstore X.here hx rfl (hb hby hd) rfl (l' := L') hl q) k'
theorem qc1 (pc' : Nat) (z : Int32) (X : Stand p l e R s m args below meth c T locs cells slots) (hx : p.tables.exec = Jvm.exec) (hby : c.code = cd) {i : Int} (hd : decode cd pc = .ok (.iconst i, 1)) (hp : pc + 1 = pc') (hz : Int32.ofInt i = z) (k' : OEnds p e below s Q K N (T.setTop (mkF m pc' L (.int z :: S)))) : OEnds p e below s Q K N (T.setTop (mkF m pc L S)) := by
  subst hp hz; exact own_by (fun _ q => XS.iconst X.here hx rfl (hb hby hd) q) k'
theorem qc2 (pc' : Nat) (z : Int32) (X : Stand p l e R s m args below meth c T locs cells slots) (hx : p.tables.exec = Jvm.exec) (hby : c.code = cd) {i : Int} (hd : decode cd pc = .ok (.bipush i, 2)) (hp : pc + 2 = pc') (hz : (Int8.ofInt i).toInt32 = z) (k' : OEnds p e below s Q K N (T.setTop (mkF m pc' L (.int z :: S)))) : OEnds p e below s Q K N (T.setTop (mkF m pc L S)) := by
  subst hp hz; exact own_by (fun _ q => XS.bipush X.here hx rfl (hb hby hd) q) k'
theorem q_iadd (pc' : Nat) (X : Stand p l e R s m args below meth c T locs cells slots) (hx : p.tables.exec = Jvm.exec) (hby : c.code = cd) {x y : Int32} (hd : decode cd pc = .ok (.iadd, 1)) (hp : pc + 1 = pc') (k' : OEnds p e below s Q K N (T.setTop (mkF m pc' L (.int (x + y) :: S)))) : OEnds p e below s Q K N (T.setTop (mkF m pc L (.int y :: .int x :: S))) := by
  subst hp; exact own_by (fun _ q => XS.iadd X.here hx rfl (hb hby hd) rfl q) k'
theorem q_isub (pc' : Nat) (X : Stand p l e R s m args below meth c T locs cells slots) (hx : p.tables.exec = Jvm.exec) (hby : c.code = cd) {x y : Int32} (hd : decode cd pc = .ok (.isub, 1)) (hp : pc + 1 = pc') (k' : OEnds p e below s Q K N (T.setTop (mkF m pc' L (.int (x - y) :: S)))) : OEnds p e below s Q K N (T.setTop (mkF m pc L (.int y :: .int x :: S))) := by
  subst hp; exact own_by (fun _ q => XS.isub X.here hx rfl (hb hby hd) rfl q) k'
theorem q_imul (pc' : Nat) (X : Stand p l e R s m args below meth c T locs cells slots) (hx : p.tables.exec = Jvm.exec) (hby : c.code = cd) {x y : Int32} (hd : decode cd pc = .ok (.imul, 1)) (hp : pc + 1 = pc') (k' : OEnds p e below s Q K N (T.setTop (mkF m pc' L (.int (x * y) :: S)))) : OEnds p e below s Q K N (T.setTop (mkF m pc L (.int y :: .int x :: S))) := by
  subst hp; exact own_by (fun _ q => XS.imul X.here hx rfl (hb hby hd) rfl q) k'
theorem q_iand (pc' : Nat) (X : Stand p l e R s m args below meth c T locs cells slots) (hx : p.tables.exec = Jvm.exec) (hby : c.code = cd) {x y : Int32} (hd : decode cd pc = .ok (.iand, 1)) (hp : pc + 1 = pc') (k' : OEnds p e below s Q K N (T.setTop (mkF m pc' L (.int (x &&& y) :: S)))) : OEnds p e below s Q K N (T.setTop (mkF m pc L (.int y :: .int x :: S))) := by
  subst hp; exact own_by (fun _ q => XS.iand X.here hx rfl (hb hby hd) rfl q) k'
theorem q_lmul (pc' : Nat) (X : Stand p l e R s m args below meth c T locs cells slots) (hx : p.tables.exec = Jvm.exec) (hby : c.code = cd) {x y : Int64} (hd : decode cd pc = .ok (.lmul, 1)) (hp : pc + 1 = pc') (k' : OEnds p e below s Q K N (T.setTop (mkF m pc' L (.long (x * y) :: S)))) : OEnds p e below s Q K N (T.setTop (mkF m pc L (.long y :: .long x :: S))) := by
  subst hp; exact own_by (fun _ q => XS.lmul X.here hx rfl (hb hby hd) rfl q) k'
theorem q_land (pc' : Nat) (X : Stand p l e R s m args below meth c T locs cells slots) (hx : p.tables.exec = Jvm.exec) (hby : c.code = cd) {x y : Int64} (hd : decode cd pc = .ok (.land, 1)) (hp : pc + 1 = pc') (k' : OEnds p e below s Q K N (T.setTop (mkF m pc' L (.long (x &&& y) :: S)))) : OEnds p e below s Q K N (T.setTop (mkF m pc L (.long y :: .long x :: S))) := by
  subst hp; exact own_by (fun _ q => XS.land X.here hx rfl (hb hby hd) rfl q) k'
theorem q_dup (pc' : Nat) (X : Stand p l e R s m args below meth c T locs cells slots) (hx : p.tables.exec = Jvm.exec) (hby : c.code = cd) {x : Value} (hd : decode cd pc = .ok (.dup, 1)) (hp : pc + 1 = pc') (hc : x.category = 1) (k' : OEnds p e below s Q K N (T.setTop (mkF m pc' L (x :: x :: S)))) : OEnds p e below s Q K N (T.setTop (mkF m pc L (x :: S))) := by
  subst hp; exact own_by (fun _ q => XS.dup X.here hx rfl (hb hby hd) rfl hc q) k'
theorem q_goto (pc' : Nat) (X : Stand p l e R s m args below meth c T locs cells slots) (hx : p.tables.exec = Jvm.exec) (hby : c.code = cd) {o : Int} (hd : decode cd pc = .ok (.goto o, 3)) (hp : (pc : Int) + o = (pc' : Int)) (k' : OEnds p e below s Q K N (T.setTop (mkF m pc' L S))) : OEnds p e below s Q K N (T.setTop (mkF m pc L S)) := by
  have ho : 0 ≤ (pc : Int) + o := by omega
  have hq : ((pc : Int) + o).toNat = pc' := by omega
  exact own_by (fun _ q => XS.goto X.here hx rfl (pc0 := pc) (pc' := pc') rfl (hb hby hd) ho hq q) k'
theorem q_ify (pc' : Nat) (X : Stand p l e R s m args below meth c T locs cells slots) (hx : p.tables.exec = Jvm.exec) (hby : c.code = cd) {w : ClassFile.Cond} {x : Int32} {o : Int} (hd : decode cd pc = .ok (.ifCond w o, 3)) (hp : (pc : Int) + o = (pc' : Int)) (hc : ifCond.holds w x = true) (k' : OEnds p e below s Q K N (T.setTop (mkF m pc' L S))) : OEnds p e below s Q K N (T.setTop (mkF m pc L (.int x :: S))) := by
  have ho : 0 ≤ (pc : Int) + o := by omega
  have hq : ((pc : Int) + o).toNat = pc' := by omega
  exact own_by (fun _ q => XS.ifYes X.here hx rfl (pc0 := pc) (pc' := pc') rfl (hb hby hd) rfl hc ho hq q) k'
theorem q_ifn (pc' : Nat) (X : Stand p l e R s m args below meth c T locs cells slots) (hx : p.tables.exec = Jvm.exec) (hby : c.code = cd) {w : ClassFile.Cond} {x : Int32} {o : Int} (hd : decode cd pc = .ok (.ifCond w o, 3)) (hp : pc + 3 = pc') (hc : ifCond.holds w x = false) (k' : OEnds p e below s Q K N (T.setTop (mkF m pc' L S))) : OEnds p e below s Q K N (T.setTop (mkF m pc L (.int x :: S))) := by
  subst hp; exact own_by (fun _ q => XS.ifNo X.here hx rfl (hb hby hd) rfl hc q) k'
theorem q_cmy (pc' : Nat) (X : Stand p l e R s m args below meth c T locs cells slots) (hx : p.tables.exec = Jvm.exec) (hby : c.code = cd) {w : ClassFile.Cond} {x y : Int32} {o : Int} (hd : decode cd pc = .ok (.if_icmp w o, 3)) (hp : (pc : Int) + o = (pc' : Int)) (hc : if_icmp.holds w x y = true) (k' : OEnds p e below s Q K N (T.setTop (mkF m pc' L S))) : OEnds p e below s Q K N (T.setTop (mkF m pc L (.int y :: .int x :: S))) := by
  have ho : 0 ≤ (pc : Int) + o := by omega
  have hq : ((pc : Int) + o).toNat = pc' := by omega
  exact own_by (fun _ q => XS.icmpYes X.here hx rfl (pc0 := pc) (pc' := pc') rfl (hb hby hd) rfl hc ho hq q) k'
theorem q_cmn (pc' : Nat) (X : Stand p l e R s m args below meth c T locs cells slots) (hx : p.tables.exec = Jvm.exec) (hby : c.code = cd) {w : ClassFile.Cond} {x y : Int32} {o : Int} (hd : decode cd pc = .ok (.if_icmp w o, 3)) (hp : pc + 3 = pc') (hc : if_icmp.holds w x y = false) (k' : OEnds p e below s Q K N (T.setTop (mkF m pc' L S))) : OEnds p e below s Q K N (T.setTop (mkF m pc L (.int y :: .int x :: S))) := by
  subst hp; exact own_by (fun _ q => XS.icmpNo X.here hx rfl (hb hby hd) rfl hc q) k'
theorem q_inc (pc' : Nat) (L' : Array Slot) (X : Stand p l e R s m args below meth c T locs cells slots) (hx : p.tables.exec = Jvm.exec) (hby : c.code = cd) {k : Nat} {z : Int} {x : Int32} (hd : decode cd pc = .ok (.iinc k z, 3)) (hp : pc + 3 = pc') (hl : L[k]? = some ((vi x))) (hm : storeLocals L k (.int (x + Int32.ofInt z)) = some L') (k' : OEnds p e below s Q K N (T.setTop (mkF m pc' L' S))) : OEnds p e below s Q K N (T.setTop (mkF m pc L S)) := by
  subst hp; exact own_by (fun _ q => XS.iinc X.here hx rfl (hb hby hd) hl (l' := L') hm q) k'
theorem qg (pc' : Nat) (X : Stand p l e R s m args below meth c T locs cells slots) (hx : p.tables.exec = Jvm.exec) (hZ : Z.Warmed39 s.vm) {own R0 n d : String} {index : Nat} (hown : s.vm.findClass own = some m.cls) (w : (Cond.fieldLink own index R0 n d).before a0 Z = true) (eT : T.heap = h) {a : Addr} {v : Value} (F : Fld Z h a R0 n d v) (hby : c.code = cd) (hd : decode cd pc = .ok (.getfield index, 3)) (hp : pc + 3 = pc')
    (k : ∀ T', Stand p l e R s m args below meth c T' locs cells slots → T'.heap = h → OEnds p e below s Q K N (T'.setTop (mkF m pc' L (v :: S)))) : OEnds p e below s Q K N (T.setTop (mkF m pc L (.ref a :: S))) := by
  subst hp
  obtain ⟨T', X', e', st⟩ := getF X hx hZ hown (host := "") (Or.inl w) Via.refl eT F (g := mkF m pc L (.ref a :: S)) rfl rfl (hb hby hd)
  exact own_by st (k T' X' e')
theorem qJ (pc' : Nat) (X : Stand p l e R s m args below meth c T locs cells slots) (hx : p.tables.exec = Jvm.exec) (hZ : Z.Warmed39 s.vm) (eT : T.heap = h) {a : Addr} {n : Nat} {f : Nat → Value} {v : Value} (F : FA Z h a .long n f) {j : Int32} (k : Nat) (hk : j.toInt = (k : Int)) (hl : k < n) (hv : f k = v) (hby : c.code = cd) (hd : decode cd pc = .ok (.laload, 1)) (hp : pc + 1 = pc')
    (k' : OEnds p e below s Q K N (T.setTop (mkF m pc' L (v :: S)))) : OEnds p e below s Q K N (T.setTop (mkF m pc L (.int j :: .ref a :: S))) := by
  subst hp; exact own_by (own_laload X hx hZ eT F k hk hl hv (g := mkF m pc L (.int j :: .ref a :: S)) rfl rfl (hb hby hd)) k'
theorem qI (pc' : Nat) (X : Stand p l e R s m args below meth c T locs cells slots) (hx : p.tables.exec = Jvm.exec) (hZ : Z.Warmed39 s.vm) (eT : T.heap = h) {a : Addr} {n : Nat} {f : Nat → Value} {v : Value} (F : FA Z h a .int n f) {j : Int32} (k : Nat) (hk : j.toInt = (k : Int)) (hl : k < n) (hv : f k = v) (hby : c.code = cd) (hd : decode cd pc = .ok (.iaload, 1)) (hp : pc + 1 = pc')
    (k' : OEnds p e below s Q K N (T.setTop (mkF m pc' L (v :: S)))) : OEnds p e below s Q K N (T.setTop (mkF m pc L (.int j :: .ref a :: S))) := by
  subst hp; exact own_by (own_iaload X hx hZ eT F k hk hl hv (g := mkF m pc L (.int j :: .ref a :: S)) rfl rfl (hb hby hd)) k'
theorem qn (pc' : Nat) (z : Int32) (X : Stand p l e R s m args below meth c T locs cells slots) (hx : p.tables.exec = Jvm.exec) (hZ : Z.Warmed39 s.vm) (eT : T.heap = h) {a : Addr} {n : Nat} {ty : FieldType} {f : Nat → Value} (F : FA Z h a ty n f) (hz : n.toInt32 = z) (hby : c.code = cd) (hd : decode cd pc = .ok (.arraylength, 1)) (hp : pc + 1 = pc')
    (k' : OEnds p e below s Q K N (T.setTop (mkF m pc' L (.int z :: S)))) : OEnds p e below s Q K N (T.setTop (mkF m pc L (.ref a :: S))) := by
  subst hp; exact own_by (own_len X hx hZ eT F hz (g := mkF m pc L (.ref a :: S)) rfl rfl (hb hby hd)) k'
/-- the frame behind a step, said in its short form -/
theorem qat {S0 T' : State} (pc' : Nat) (L' : Array Slot) (S' : List Value) (st : ∀ t, Steps p.tables e below (T'.setTop (mkF m pc' L' S')) t → Steps p.tables e below S0 t) (k : OEnds p e below s Q K N (T'.setTop (mkF m pc' L' S'))) : OEnds p e below s Q K N S0 := own_by st k
theorem qtr {S0 T' : State} (pc' : Nat) (L' : Array Slot) (S' : List Value) (st : Steps p.tables e below S0 (T'.setTop (mkF m pc' L' S'))) (k : OEnds p e below s Q K N (T'.setTop (mkF m pc' L' S'))) : OEnds p e below s Q K N S0 := own_tr st k
theorem wi {α : Type} {a : α} {ws : List α} {P : Prop} (i : Nat) (q : ws[i]? = some a) : a ∈ ws ∨ P := Or.inl (List.mem_of_getElem? q)
end Own6
theorem pd_prI : parseMethodDescriptor "()I" = some ⟨[], some .int⟩ := by decide +kernel
theorem pd_prJ : parseMethodDescriptor "()J" = some ⟨[], some .long⟩ := by decide +kernel
theorem pd_prV : parseMethodDescriptor "()V" = some ⟨[], none⟩ := by decide +kernel
theorem pd_pIrI : parseMethodDescriptor "(I)I" = some ⟨[.int], some .int⟩ := by decide +kernel
theorem pd_pIrV : parseMethodDescriptor "(I)V" = some ⟨[.int], none⟩ := by decide +kernel
theorem pd_pIIrI : parseMethodDescriptor "(II)I" = some ⟨[.int, .int], some .int⟩ := by decide +kernel
theorem pd_pIJJJJrJ : parseMethodDescriptor "(IJJJJ)J" = some ⟨[.int, .long, .long, .long, .long], some .long⟩ := by decide +kernel
theorem pd_pJrI : parseMethodDescriptor "(J)I" = some ⟨[.long], some .int⟩ := by decide +kernel
theorem pd_pJrLcom_example_tristream_tristream_LongIndex_ : parseMethodDescriptor "(J)Lcom/example/tristream/tristream/LongIndex;" = some ⟨[.long], some (.object "com/example/tristream/tristream/LongIndex")⟩ := by decide +kernel
theorem pd_pJrV : parseMethodDescriptor "(J)V" = some ⟨[.long], none⟩ := by decide +kernel
theorem pd_pJJrJ : parseMethodDescriptor "(JJ)J" = some ⟨[.long, .long], some .long⟩ := by decide +kernel
theorem pd_pJJrV : parseMethodDescriptor "(JJ)V" = some ⟨[.long, .long], none⟩ := by decide +kernel
theorem pd_pJJrZ : parseMethodDescriptor "(JJ)Z" = some ⟨[.long, .long], some .boolean⟩ := by decide +kernel
theorem pd_pJJJJrZ : parseMethodDescriptor "(JJJJ)Z" = some ⟨[.long, .long, .long, .long], some .boolean⟩ := by decide +kernel
theorem pd_pLcom_example_tristream_tristream_Edge_rV : parseMethodDescriptor "(Lcom/example/tristream/tristream/Edge;)V" = some ⟨[(.object "com/example/tristream/tristream/Edge")], none⟩ := by decide +kernel
theorem pd_paJIraJ : parseMethodDescriptor "([JI)[J" = some ⟨[(.array .long), .int], some (.array .long)⟩ := by decide +kernel
def sch_li : List (String × String) := [("keys", "[J"), ("slots", "[I"), ("shift", "I"), ("size", "I")]
theorem so_sch_li {Z : State} {a0 : Array Value} (hw : ∀ d ∈ tables_1, d.before a0 Z = true) : SchOk Z a0 "com/example/tristream/tristream/LongIndex" sch_li := by
  refine ⟨fun q hq => ?_, by decide, by decide⟩
  simp only [sch_li, List.mem_cons, List.not_mem_nil, or_false] at hq
  rcases hq with rfl | rfl | rfl | rfl
  · exact Or.inl (tw23 hw)
  · exact Or.inl (tw26 hw)
  · exact Or.inl (tw33 hw)
  · exact Or.inl (tw86 hw)
def sch_sg : List (String × String) := [("nodes", "Lcom/example/tristream/tristream/LongIndex;"), ("neighbours", "[Lcom/example/tristream/tristream/LongIndex;")]
theorem so_sch_sg {Z : State} {a0 : Array Value} (hw : ∀ d ∈ tables_1, d.before a0 Z = true) : SchOk Z a0 "com/example/tristream/tristream/SampleGraph" sch_sg := by
  refine ⟨fun q hq => ?_, by decide, by decide⟩
  simp only [sch_sg, List.mem_cons, List.not_mem_nil, or_false] at hq
  rcases hq with rfl | rfl
  · exact Or.inr (tw35 hw)
  · exact Or.inl (tw38 hw)
def sch_e : List (String × String) := [("u", "J"), ("v", "J")]
theorem so_sch_e {Z : State} {a0 : Array Value} (hw : ∀ d ∈ tables_1, d.before a0 Z = true) : SchOk Z a0 "com/example/tristream/tristream/Edge" sch_e := by
  refine ⟨fun q hq => ?_, by decide, by decide⟩
  simp only [sch_e, List.mem_cons, List.not_mem_nil, or_false] at hq
  rcases hq with rfl | rfl
  · exact Or.inr (tw51 hw)
  · exact Or.inr (tw56 hw)
theorem d5_0 : decode jdk_33_method_48_code 0 = .ok (.iload_n 0, 1) := by decide +kernel
theorem d5_1 : decode jdk_33_method_48_code 1 = .ok (.iconst (-1), 1) := by decide +kernel
theorem d5_2 : decode jdk_33_method_48_code 2 = .ok (.ixor, 1) := by decide +kernel
theorem d5_3 : decode jdk_33_method_48_code 3 = .ok (.iload_n 0, 1) := by decide +kernel
theorem d5_4 : decode jdk_33_method_48_code 4 = .ok (.iconst 1, 1) := by decide +kernel
theorem d5_5 : decode jdk_33_method_48_code 5 = .ok (.isub, 1) := by decide +kernel
theorem d5_6 : decode jdk_33_method_48_code 6 = .ok (.iand, 1) := by decide +kernel
theorem d5_7 : decode jdk_33_method_48_code 7 = .ok (.istore_n 0, 1) := by decide +kernel
theorem d5_8 : decode jdk_33_method_48_code 8 = .ok (.iload_n 0, 1) := by decide +kernel
theorem d5_9 : decode jdk_33_method_48_code 9 = .ok (.ifCond .gt 8, 3) := by decide +kernel
theorem d5_12 : decode jdk_33_method_48_code 12 = .ok (.iload_n 0, 1) := by decide +kernel
theorem d5_13 : decode jdk_33_method_48_code 13 = .ok (.bipush 32, 2) := by decide +kernel
theorem d5_15 : decode jdk_33_method_48_code 15 = .ok (.iand, 1) := by decide +kernel
theorem d5_16 : decode jdk_33_method_48_code 16 = .ok (.ireturn, 1) := by decide +kernel
theorem d5_17 : decode jdk_33_method_48_code 17 = .ok (.iconst 1, 1) := by decide +kernel
theorem d5_18 : decode jdk_33_method_48_code 18 = .ok (.istore_n 1, 1) := by decide +kernel
theorem d5_19 : decode jdk_33_method_48_code 19 = .ok (.iload_n 0, 1) := by decide +kernel
theorem d5_20 : decode jdk_33_method_48_code 20 = .ok (.ldc_w 264, 3) := by decide +kernel
theorem d5_23 : decode jdk_33_method_48_code 23 = .ok (.if_icmp .le 11, 3) := by decide +kernel
theorem d5_26 : decode jdk_33_method_48_code 26 = .ok (.iinc 1 16, 3) := by decide +kernel
theorem d5_29 : decode jdk_33_method_48_code 29 = .ok (.iload_n 0, 1) := by decide +kernel
theorem d5_30 : decode jdk_33_method_48_code 30 = .ok (.bipush 16, 2) := by decide +kernel
theorem d5_32 : decode jdk_33_method_48_code 32 = .ok (.iushr, 1) := by decide +kernel
theorem d5_33 : decode jdk_33_method_48_code 33 = .ok (.istore_n 0, 1) := by decide +kernel
theorem d5_34 : decode jdk_33_method_48_code 34 = .ok (.iload_n 0, 1) := by decide +kernel
theorem d5_35 : decode jdk_33_method_48_code 35 = .ok (.sipush 256, 3) := by decide +kernel
theorem d5_38 : decode jdk_33_method_48_code 38 = .ok (.if_icmp .le 11, 3) := by decide +kernel
theorem d5_41 : decode jdk_33_method_48_code 41 = .ok (.iinc 1 8, 3) := by decide +kernel
theorem d5_44 : decode jdk_33_method_48_code 44 = .ok (.iload_n 0, 1) := by decide +kernel
theorem d5_45 : decode jdk_33_method_48_code 45 = .ok (.bipush 8, 2) := by decide +kernel
theorem d5_47 : decode jdk_33_method_48_code 47 = .ok (.iushr, 1) := by decide +kernel
theorem d5_48 : decode jdk_33_method_48_code 48 = .ok (.istore_n 0, 1) := by decide +kernel
theorem d5_49 : decode jdk_33_method_48_code 49 = .ok (.iload_n 0, 1) := by decide +kernel
theorem d5_50 : decode jdk_33_method_48_code 50 = .ok (.bipush 16, 2) := by decide +kernel
theorem d5_52 : decode jdk_33_method_48_code 52 = .ok (.if_icmp .le 10, 3) := by decide +kernel
theorem d5_55 : decode jdk_33_method_48_code 55 = .ok (.iinc 1 4, 3) := by decide +kernel
theorem d5_58 : decode jdk_33_method_48_code 58 = .ok (.iload_n 0, 1) := by decide +kernel
theorem d5_59 : decode jdk_33_method_48_code 59 = .ok (.iconst 4, 1) := by decide +kernel
theorem d5_60 : decode jdk_33_method_48_code 60 = .ok (.iushr, 1) := by decide +kernel
theorem d5_61 : decode jdk_33_method_48_code 61 = .ok (.istore_n 0, 1) := by decide +kernel
theorem d5_62 : decode jdk_33_method_48_code 62 = .ok (.iload_n 0, 1) := by decide +kernel
theorem d5_63 : decode jdk_33_method_48_code 63 = .ok (.iconst 4, 1) := by decide +kernel
theorem d5_64 : decode jdk_33_method_48_code 64 = .ok (.if_icmp .le 10, 3) := by decide +kernel
theorem d5_67 : decode jdk_33_method_48_code 67 = .ok (.iinc 1 2, 3) := by decide +kernel
theorem d5_70 : decode jdk_33_method_48_code 70 = .ok (.iload_n 0, 1) := by decide +kernel
theorem d5_71 : decode jdk_33_method_48_code 71 = .ok (.iconst 2, 1) := by decide +kernel
theorem d5_72 : decode jdk_33_method_48_code 72 = .ok (.iushr, 1) := by decide +kernel
theorem d5_73 : decode jdk_33_method_48_code 73 = .ok (.istore_n 0, 1) := by decide +kernel
theorem d5_74 : decode jdk_33_method_48_code 74 = .ok (.iload_n 1, 1) := by decide +kernel
theorem d5_75 : decode jdk_33_method_48_code 75 = .ok (.iload_n 0, 1) := by decide +kernel
theorem d5_76 : decode jdk_33_method_48_code 76 = .ok (.iconst 1, 1) := by decide +kernel
theorem d5_77 : decode jdk_33_method_48_code 77 = .ok (.iushr, 1) := by decide +kernel
theorem d5_78 : decode jdk_33_method_48_code 78 = .ok (.iadd, 1) := by decide +kernel
theorem d5_79 : decode jdk_33_method_48_code 79 = .ok (.ireturn, 1) := by decide +kernel
theorem pn_5 : plainName "java/lang/Integer" = true := by first | (simp [plainName, overriddenIn]; done) | decide +kernel
theorem ef_5 (m : MethodId) (q0 : Int32) : entryFrame m #[(.int q0)] 2 = mkF m 0 #[.val (.int q0), .unset] [] := by first | (simp [entryFrame, mkF, argsToLocals, Value.category]; done) | rfl
def ntz_74 (v74_0 : Int32) (v74_1 : Int32) : Int32 := (v74_1 + ((v74_0.toUInt32 >>> ((1 : Int32) &&& 31).toUInt32).toInt32))
def ntz_62 (v62_0 : Int32) (v62_1 : Int32) : Int32 := if (4 : Int32) < v62_0 then (ntz_74 ((v62_0.toUInt32 >>> ((2 : Int32) &&& 31).toUInt32).toInt32) (v62_1 + (2 : Int32))) else (ntz_74 v62_0 v62_1)
def ntz_49 (v49_0 : Int32) (v49_1 : Int32) : Int32 := if (16 : Int32) < v49_0 then (ntz_62 ((v49_0.toUInt32 >>> ((4 : Int32) &&& 31).toUInt32).toInt32) (v49_1 + (4 : Int32))) else (ntz_62 v49_0 v49_1)
def ntz_34 (v34_0 : Int32) (v34_1 : Int32) : Int32 := if (256 : Int32) < v34_0 then (ntz_49 ((v34_0.toUInt32 >>> ((8 : Int32) &&& 31).toUInt32).toInt32) (v34_1 + (8 : Int32))) else (ntz_49 v34_0 v34_1)
def ntz (q0 : Int32) : Int32 := if (0 : Int32) < ((q0 ^^^ (-1 : Int32)) &&& (q0 - (1 : Int32))) then if (65536 : Int32) < ((q0 ^^^ (-1 : Int32)) &&& (q0 - (1 : Int32))) then (ntz_34 ((((q0 ^^^ (-1 : Int32)) &&& (q0 - (1 : Int32))).toUInt32 >>> ((16 : Int32) &&& 31).toUInt32).toInt32) (17 : Int32)) else (ntz_34 ((q0 ^^^ (-1 : Int32)) &&& (q0 - (1 : Int32))) (1 : Int32)) else (((q0 ^^^ (-1 : Int32)) &&& (q0 - (1 : Int32))) &&& (32 : Int32))
set_option maxRecDepth 65536 in
set_option maxHeartbeats 40000000 in
theorem rm_ntz (l : Launch) (Z : State) (a0 : Array Value) (hw : ∀ d ∈ tables_1, d.before a0 Z = true) (ws : List Jvm.Cond) (q0 : Int32) (h0 : Heap) :
    MetFree l mn0 (head1 (Jvm.Cond.code mn0 jdk_33_method_48_code 2 (some .int) :: ws) ({ frames := 0, cells := 0, slots := 0, locals := 0 } : Room)) (fun a U => a = #[(.int q0)] ∧ Z.Warmed39 U.vm ∧ U.heap = h0) (fun _ _ _ _ _ => True) (fun _ U o U' => ∃ v L, o = .returned v ∧ QP (Value.int (ntz q0)) h0 v U'.heap L ∧ FrameEnd U o U' L 0 0) := by
  refine MetFree.of_bodySF (plainFor_of_name pn_5) hisR ?_
  intro p e s m args below meth c s₁ Bd hml0 hP hK
  obtain ⟨rfl, hZ, hh⟩ := hP
  have hx := Bd.exec
  have hby := Bd.bytes
  have hlk : meth.locks = false := Bd.notSynchronized
  have hml : c.maxLocals = 2 := hml0
  have hown : s.vm.findClass "java/lang/Integer" = some m.cls := findClass_of_methodNamed Bd.named
  have X0 : Stand p l e ({ frames := 0, cells := 0, slots := 0, locals := 0 } : Room) s m #[(.int q0)] below meth c s₁ [] 0 0 := Stand.of_body Bd
  have e0 : s₁.heap = h0 := by rw [← hh, Bd.state]; rfl
  have bntz_74 : ∀ (T : State) (X : Stand p l e ({ frames := 0, cells := 0, slots := 0, locals := 0 } : Room) s m #[(.int q0)] below meth c T [] 0 0) (eT : T.heap = h0) (v74_0 : Int32) (v74_1 : Int32), OEnds p e below s (QP (Value.int (ntz_74 v74_0 v74_1)) h0) 0 0 (T.setTop (mkF m 74 #[(vi v74_0), (vi v74_1)] [])) := by
    intro T X eT v74_0 v74_1
    refine own_by (fun _ k => XS.iloadN X.here hx rfl (hb hby d5_74) rfl k) ?_
    show OEnds p e below s _ _ _ (T.setTop (mkF m 75 #[(vi v74_0), (vi v74_1)] [(.int v74_1)]))
    refine own_by (fun _ k => XS.iloadN X.here hx rfl (hb hby d5_75) rfl k) ?_
    show OEnds p e below s _ _ _ (T.setTop (mkF m 76 #[(vi v74_0), (vi v74_1)] [(.int v74_0), (.int v74_1)]))
    refine own_by (fun _ k => XS.iconst X.here hx rfl (hb hby d5_76) k) ?_
    show OEnds p e below s _ _ _ (T.setTop (mkF m 77 #[(vi v74_0), (vi v74_1)] [(.int 1), (.int v74_0), (.int v74_1)]))
    refine own_by (fun _ k => XS.iushr X.here hx rfl (hb hby d5_77) rfl k) ?_
    show OEnds p e below s _ _ _ (T.setTop (mkF m 78 #[(vi v74_0), (vi v74_1)] [(.int ((v74_0.toUInt32 >>> ((1 : Int32) &&& 31).toUInt32).toInt32)), (.int v74_1)]))
    refine own_by (fun _ k => XS.iadd X.here hx rfl (hb hby d5_78) rfl k) ?_
    show OEnds p e below s _ _ _ (T.setTop (mkF m 79 #[(vi v74_0), (vi v74_1)] [(.int (v74_1 + ((v74_0.toUInt32 >>> ((1 : Int32) &&& 31).toUInt32).toInt32)))]))
    exact own_retI X hx hlk Bd.returns (hb hby d5_79) ⟨congrArg (fun z => some (Value.int z)) (Eq.symm (by rw [ntz_74] <;> rfl)), rfl, eT⟩ (Nat.le_refl _) (Nat.le_refl _)
  have bntz_62 : ∀ (T : State) (X : Stand p l e ({ frames := 0, cells := 0, slots := 0, locals := 0 } : Room) s m #[(.int q0)] below meth c T [] 0 0) (eT : T.heap = h0) (v62_0 : Int32) (v62_1 : Int32), OEnds p e below s (QP (Value.int (ntz_62 v62_0 v62_1)) h0) 0 0 (T.setTop (mkF m 62 #[(vi v62_0), (vi v62_1)] [])) := by
    intro T X eT v62_0 v62_1
    refine own_by (fun _ k => XS.iloadN X.here hx rfl (hb hby d5_62) rfl k) ?_
    show OEnds p e below s _ _ _ (T.setTop (mkF m 63 #[(vi v62_0), (vi v62_1)] [(.int v62_0)]))
    refine own_by (fun _ k => XS.iconst X.here hx rfl (hb hby d5_63) k) ?_
    show OEnds p e below s _ _ _ (T.setTop (mkF m 64 #[(vi v62_0), (vi v62_1)] [(.int 4), (.int v62_0)]))
    by_cases hc64 : (4 : Int32) < v62_0
    · refine own_by (fun _ k => XS.icmpNo X.here hx rfl (hb hby d5_64) rfl (tlt hc64).2.2.2 k) ?_
      show OEnds p e below s _ _ _ (T.setTop (mkF m 67 #[(vi v62_0), (vi v62_1)] []))
      refine own_by (fun _ k => XS.iinc X.here hx rfl (hb hby d5_67) rfl (l' := #[(vi v62_0), (vi (v62_1 + (2 : Int32)))]) rfl k) ?_
      show OEnds p e below s _ _ _ (T.setTop (mkF m 70 #[(vi v62_0), (vi (v62_1 + (2 : Int32)))] []))
      refine own_by (fun _ k => XS.iloadN X.here hx rfl (hb hby d5_70) rfl k) ?_
      show OEnds p e below s _ _ _ (T.setTop (mkF m 71 #[(vi v62_0), (vi (v62_1 + (2 : Int32)))] [(.int v62_0)]))
      refine own_by (fun _ k => XS.iconst X.here hx rfl (hb hby d5_71) k) ?_
      show OEnds p e below s _ _ _ (T.setTop (mkF m 72 #[(vi v62_0), (vi (v62_1 + (2 : Int32)))] [(.int 2), (.int v62_0)]))
      refine own_by (fun _ k => XS.iushr X.here hx rfl (hb hby d5_72) rfl k) ?_
      show OEnds p e below s _ _ _ (T.setTop (mkF m 73 #[(vi v62_0), (vi (v62_1 + (2 : Int32)))] [(.int ((v62_0.toUInt32 >>> ((2 : Int32) &&& 31).toUInt32).toInt32))]))
      refine own_by (fun _ k => XS.istoreN X.here hx rfl (hb hby d5_73) rfl (l' := #[(vi ((v62_0.toUInt32 >>> ((2 : Int32) &&& 31).toUInt32).toInt32)), (vi (v62_1 + (2 : Int32)))]) rfl k) ?_
      show OEnds p e below s _ _ _ (T.setTop (mkF m 74 #[(vi ((v62_0.toUInt32 >>> ((2 : Int32) &&& 31).toUInt32).toInt32)), (vi (v62_1 + (2 : Int32)))] []))
      exact own_eq (congrArg Value.int (by rw [ntz_62, if_pos hc64] <;> rfl)) (bntz_74 T X eT ((v62_0.toUInt32 >>> ((2 : Int32) &&& 31).toUInt32).toInt32) (v62_1 + (2 : Int32)))
    · refine own_by (fun _ k => XS.icmpYes X.here hx rfl (pc0 := 64) (pc' := 74) rfl (hb hby d5_64) rfl (flt hc64).2.2.2 (by decide) (by decide) k) ?_
      show OEnds p e below s _ _ _ (T.setTop (mkF m 74 #[(vi v62_0), (vi v62_1)] []))
      exact own_eq (congrArg Value.int (by rw [ntz_62, if_neg hc64] <;> rfl)) (bntz_74 T X eT v62_0 v62_1)
  have bntz_49 : ∀ (T : State) (X : Stand p l e ({ frames := 0, cells := 0, slots := 0, locals := 0 } : Room) s m #[(.int q0)] below meth c T [] 0 0) (eT : T.heap = h0) (v49_0 : Int32) (v49_1 : Int32), OEnds p e below s (QP (Value.int (ntz_49 v49_0 v49_1)) h0) 0 0 (T.setTop (mkF m 49 #[(vi v49_0), (vi v49_1)] [])) := by
    intro T X eT v49_0 v49_1
    refine own_by (fun _ k => XS.iloadN X.here hx rfl (hb hby d5_49) rfl k) ?_
    show OEnds p e below s _ _ _ (T.setTop (mkF m 50 #[(vi v49_0), (vi v49_1)] [(.int v49_0)]))
    refine own_by (fun _ k => XS.bipush X.here hx rfl (hb hby d5_50) k) ?_
    show OEnds p e below s _ _ _ (T.setTop (mkF m 52 #[(vi v49_0), (vi v49_1)] [(.int 16), (.int v49_0)]))
    by_cases hc52 : (16 : Int32) < v49_0
    · refine own_by (fun _ k => XS.icmpNo X.here hx rfl (hb hby d5_52) rfl (tlt hc52).2.2.2 k) ?_
      show OEnds p e below s _ _ _ (T.setTop (mkF m 55 #[(vi v49_0), (vi v49_1)] []))
      refine own_by (fun _ k => XS.iinc X.here hx rfl (hb hby d5_55) rfl (l' := #[(vi v49_0), (vi (v49_1 + (4 : Int32)))]) rfl k) ?_
      show OEnds p e below s _ _ _ (T.setTop (mkF m 58 #[(vi v49_0), (vi (v49_1 + (4 : Int32)))] []))
      refine own_by (fun _ k => XS.iloadN X.here hx rfl (hb hby d5_58) rfl k) ?_
      show OEnds p e below s _ _ _ (T.setTop (mkF m 59 #[(vi v49_0), (vi (v49_1 + (4 : Int32)))] [(.int v49_0)]))
      refine own_by (fun _ k => XS.iconst X.here hx rfl (hb hby d5_59) k) ?_
      show OEnds p e below s _ _ _ (T.setTop (mkF m 60 #[(vi v49_0), (vi (v49_1 + (4 : Int32)))] [(.int 4), (.int v49_0)]))
      refine own_by (fun _ k => XS.iushr X.here hx rfl (hb hby d5_60) rfl k) ?_
      show OEnds p e below s _ _ _ (T.setTop (mkF m 61 #[(vi v49_0), (vi (v49_1 + (4 : Int32)))] [(.int ((v49_0.toUInt32 >>> ((4 : Int32) &&& 31).toUInt32).toInt32))]))
      refine own_by (fun _ k => XS.istoreN X.here hx rfl (hb hby d5_61) rfl (l' := #[(vi ((v49_0.toUInt32 >>> ((4 : Int32) &&& 31).toUInt32).toInt32)), (vi (v49_1 + (4 : Int32)))]) rfl k) ?_
      show OEnds p e below s _ _ _ (T.setTop (mkF m 62 #[(vi ((v49_0.toUInt32 >>> ((4 : Int32) &&& 31).toUInt32).toInt32)), (vi (v49_1 + (4 : Int32)))] []))
      exact own_eq (congrArg Value.int (by rw [ntz_49, if_pos hc52] <;> rfl)) (bntz_62 T X eT ((v49_0.toUInt32 >>> ((4 : Int32) &&& 31).toUInt32).toInt32) (v49_1 + (4 : Int32)))
    · refine own_by (fun _ k => XS.icmpYes X.here hx rfl (pc0 := 52) (pc' := 62) rfl (hb hby d5_52) rfl (flt hc52).2.2.2 (by decide) (by decide) k) ?_
      show OEnds p e below s _ _ _ (T.setTop (mkF m 62 #[(vi v49_0), (vi v49_1)] []))
      exact own_eq (congrArg Value.int (by rw [ntz_49, if_neg hc52] <;> rfl)) (bntz_62 T X eT v49_0 v49_1)
  have bntz_34 : ∀ (T : State) (X : Stand p l e ({ frames := 0, cells := 0, slots := 0, locals := 0 } : Room) s m #[(.int q0)] below meth c T [] 0 0) (eT : T.heap = h0) (v34_0 : Int32) (v34_1 : Int32), OEnds p e below s (QP (Value.int (ntz_34 v34_0 v34_1)) h0) 0 0 (T.setTop (mkF m 34 #[(vi v34_0), (vi v34_1)] [])) := by
    intro T X eT v34_0 v34_1
    refine own_by (fun _ k => XS.iloadN X.here hx rfl (hb hby d5_34) rfl k) ?_
    show OEnds p e below s _ _ _ (T.setTop (mkF m 35 #[(vi v34_0), (vi v34_1)] [(.int v34_0)]))
    refine own_by (fun _ k => XS.sipush X.here hx rfl (hb hby d5_35) k) ?_
    show OEnds p e below s _ _ _ (T.setTop (mkF m 38 #[(vi v34_0), (vi v34_1)] [(.int 256), (.int v34_0)]))
    by_cases hc38 : (256 : Int32) < v34_0
    · refine own_by (fun _ k => XS.icmpNo X.here hx rfl (hb hby d5_38) rfl (tlt hc38).2.2.2 k) ?_
      show OEnds p e below s _ _ _ (T.setTop (mkF m 41 #[(vi v34_0), (vi v34_1)] []))
      refine own_by (fun _ k => XS.iinc X.here hx rfl (hb hby d5_41) rfl (l' := #[(vi v34_0), (vi (v34_1 + (8 : Int32)))]) rfl k) ?_
      show OEnds p e below s _ _ _ (T.setTop (mkF m 44 #[(vi v34_0), (vi (v34_1 + (8 : Int32)))] []))
      refine own_by (fun _ k => XS.iloadN X.here hx rfl (hb hby d5_44) rfl k) ?_
      show OEnds p e below s _ _ _ (T.setTop (mkF m 45 #[(vi v34_0), (vi (v34_1 + (8 : Int32)))] [(.int v34_0)]))
      refine own_by (fun _ k => XS.bipush X.here hx rfl (hb hby d5_45) k) ?_
      show OEnds p e below s _ _ _ (T.setTop (mkF m 47 #[(vi v34_0), (vi (v34_1 + (8 : Int32)))] [(.int 8), (.int v34_0)]))
      refine own_by (fun _ k => XS.iushr X.here hx rfl (hb hby d5_47) rfl k) ?_
      show OEnds p e below s _ _ _ (T.setTop (mkF m 48 #[(vi v34_0), (vi (v34_1 + (8 : Int32)))] [(.int ((v34_0.toUInt32 >>> ((8 : Int32) &&& 31).toUInt32).toInt32))]))
      refine own_by (fun _ k => XS.istoreN X.here hx rfl (hb hby d5_48) rfl (l' := #[(vi ((v34_0.toUInt32 >>> ((8 : Int32) &&& 31).toUInt32).toInt32)), (vi (v34_1 + (8 : Int32)))]) rfl k) ?_
      show OEnds p e below s _ _ _ (T.setTop (mkF m 49 #[(vi ((v34_0.toUInt32 >>> ((8 : Int32) &&& 31).toUInt32).toInt32)), (vi (v34_1 + (8 : Int32)))] []))
      exact own_eq (congrArg Value.int (by rw [ntz_34, if_pos hc38] <;> rfl)) (bntz_49 T X eT ((v34_0.toUInt32 >>> ((8 : Int32) &&& 31).toUInt32).toInt32) (v34_1 + (8 : Int32)))
    · refine own_by (fun _ k => XS.icmpYes X.here hx rfl (pc0 := 38) (pc' := 49) rfl (hb hby d5_38) rfl (flt hc38).2.2.2 (by decide) (by decide) k) ?_
      show OEnds p e below s _ _ _ (T.setTop (mkF m 49 #[(vi v34_0), (vi v34_1)] []))
      exact own_eq (congrArg Value.int (by rw [ntz_34, if_neg hc38] <;> rfl)) (bntz_49 T X eT v34_0 v34_1)
  show OEnds p e below s _ _ _ _
  refine own_by (fun t k => castTop (ef_5 m q0) k) ?_
  show OEnds p e below s _ _ _ (s₁.setTop (mkF m 0 #[(vi q0), un] []))
  refine own_by (fun _ k => XS.iloadN X0.here hx rfl (hb hby d5_0) rfl k) ?_
  show OEnds p e below s _ _ _ (s₁.setTop (mkF m 1 #[(vi q0), un] [(.int q0)]))
  refine own_by (fun _ k => XS.iconst X0.here hx rfl (hb hby d5_1) k) ?_
  show OEnds p e below s _ _ _ (s₁.setTop (mkF m 2 #[(vi q0), un] [(.int (-1)), (.int q0)]))
  refine own_by (fun _ k => XS.ixor X0.here hx rfl (hb hby d5_2) rfl k) ?_
  show OEnds p e below s _ _ _ (s₁.setTop (mkF m 3 #[(vi q0), un] [(.int (q0 ^^^ (-1 : Int32)))]))
  refine own_by (fun _ k => XS.iloadN X0.here hx rfl (hb hby d5_3) rfl k) ?_
  show OEnds p e below s _ _ _ (s₁.setTop (mkF m 4 #[(vi q0), un] [(.int q0), (.int (q0 ^^^ (-1 : Int32)))]))
  refine own_by (fun _ k => XS.iconst X0.here hx rfl (hb hby d5_4) k) ?_
  show OEnds p e below s _ _ _ (s₁.setTop (mkF m 5 #[(vi q0), un] [(.int 1), (.int q0), (.int (q0 ^^^ (-1 : Int32)))]))
  refine own_by (fun _ k => XS.isub X0.here hx rfl (hb hby d5_5) rfl k) ?_
  show OEnds p e below s _ _ _ (s₁.setTop (mkF m 6 #[(vi q0), un] [(.int (q0 - (1 : Int32))), (.int (q0 ^^^ (-1 : Int32)))]))
  refine own_by (fun _ k => XS.iand X0.here hx rfl (hb hby d5_6) rfl k) ?_
  show OEnds p e below s _ _ _ (s₁.setTop (mkF m 7 #[(vi q0), un] [(.int ((q0 ^^^ (-1 : Int32)) &&& (q0 - (1 : Int32))))]))
  refine own_by (fun _ k => XS.istoreN X0.here hx rfl (hb hby d5_7) rfl (l' := #[(vi ((q0 ^^^ (-1 : Int32)) &&& (q0 - (1 : Int32)))), un]) rfl k) ?_
  show OEnds p e below s _ _ _ (s₁.setTop (mkF m 8 #[(vi ((q0 ^^^ (-1 : Int32)) &&& (q0 - (1 : Int32)))), un] []))
  refine own_by (fun _ k => XS.iloadN X0.here hx rfl (hb hby d5_8) rfl k) ?_
  show OEnds p e below s _ _ _ (s₁.setTop (mkF m 9 #[(vi ((q0 ^^^ (-1 : Int32)) &&& (q0 - (1 : Int32)))), un] [(.int ((q0 ^^^ (-1 : Int32)) &&& (q0 - (1 : Int32))))]))
  by_cases hc9 : (0 : Int32) < ((q0 ^^^ (-1 : Int32)) &&& (q0 - (1 : Int32)))
  · refine own_by (fun _ k => XS.ifYes X0.here hx rfl (pc0 := 9) (pc' := 17) rfl (hb hby d5_9) rfl ((if0 _ _).trans (tlt hc9).2.2.1) (by decide) (by decide) k) ?_
    show OEnds p e below s _ _ _ (s₁.setTop (mkF m 17 #[(vi ((q0 ^^^ (-1 : Int32)) &&& (q0 - (1 : Int32)))), un] []))
    refine own_by (fun _ k => XS.iconst X0.here hx rfl (hb hby d5_17) k) ?_
    show OEnds p e below s _ _ _ (s₁.setTop (mkF m 18 #[(vi ((q0 ^^^ (-1 : Int32)) &&& (q0 - (1 : Int32)))), un] [(.int 1)]))
    refine own_by (fun _ k => XS.istoreN X0.here hx rfl (hb hby d5_18) rfl (l' := #[(vi ((q0 ^^^ (-1 : Int32)) &&& (q0 - (1 : Int32)))), (vi 1)]) rfl k) ?_
    show OEnds p e below s _ _ _ (s₁.setTop (mkF m 19 #[(vi ((q0 ^^^ (-1 : Int32)) &&& (q0 - (1 : Int32)))), (vi 1)] []))
    refine own_by (fun _ k => XS.iloadN X0.here hx rfl (hb hby d5_19) rfl k) ?_
    show OEnds p e below s _ _ _ (s₁.setTop (mkF m 20 #[(vi ((q0 ^^^ (-1 : Int32)) &&& (q0 - (1 : Int32)))), (vi 1)] [(.int ((q0 ^^^ (-1 : Int32)) &&& (q0 - (1 : Int32))))]))
    refine own_by (X0.ldcwInt hx hown (mvT hZ (tw31 hw)) (g := (mkF m 20 #[(vi ((q0 ^^^ (-1 : Int32)) &&& (q0 - (1 : Int32)))), (vi 1)] [(.int ((q0 ^^^ (-1 : Int32)) &&& (q0 - (1 : Int32))))])) rfl (hb hby d5_20)) ?_
    show OEnds p e below s _ _ _ (s₁.setTop (mkF m 23 #[(vi ((q0 ^^^ (-1 : Int32)) &&& (q0 - (1 : Int32)))), (vi 1)] [(.int 65536), (.int ((q0 ^^^ (-1 : Int32)) &&& (q0 - (1 : Int32))))]))
    by_cases hc23 : (65536 : Int32) < ((q0 ^^^ (-1 : Int32)) &&& (q0 - (1 : Int32)))
    · refine own_by (fun _ k => XS.icmpNo X0.here hx rfl (hb hby d5_23) rfl (tlt hc23).2.2.2 k) ?_
      show OEnds p e below s _ _ _ (s₁.setTop (mkF m 26 #[(vi ((q0 ^^^ (-1 : Int32)) &&& (q0 - (1 : Int32)))), (vi 1)] []))
      refine own_by (fun _ k => XS.iinc X0.here hx rfl (hb hby d5_26) rfl (l' := #[(vi ((q0 ^^^ (-1 : Int32)) &&& (q0 - (1 : Int32)))), (vi 17)]) rfl k) ?_
      show OEnds p e below s _ _ _ (s₁.setTop (mkF m 29 #[(vi ((q0 ^^^ (-1 : Int32)) &&& (q0 - (1 : Int32)))), (vi 17)] []))
      refine own_by (fun _ k => XS.iloadN X0.here hx rfl (hb hby d5_29) rfl k) ?_
      show OEnds p e below s _ _ _ (s₁.setTop (mkF m 30 #[(vi ((q0 ^^^ (-1 : Int32)) &&& (q0 - (1 : Int32)))), (vi 17)] [(.int ((q0 ^^^ (-1 : Int32)) &&& (q0 - (1 : Int32))))]))
      refine own_by (fun _ k => XS.bipush X0.here hx rfl (hb hby d5_30) k) ?_
      show OEnds p e below s _ _ _ (s₁.setTop (mkF m 32 #[(vi ((q0 ^^^ (-1 : Int32)) &&& (q0 - (1 : Int32)))), (vi 17)] [(.int 16), (.int ((q0 ^^^ (-1 : Int32)) &&& (q0 - (1 : Int32))))]))
      refine own_by (fun _ k => XS.iushr X0.here hx rfl (hb hby d5_32) rfl k) ?_
      show OEnds p e below s _ _ _ (s₁.setTop (mkF m 33 #[(vi ((q0 ^^^ (-1 : Int32)) &&& (q0 - (1 : Int32)))), (vi 17)] [(.int ((((q0 ^^^ (-1 : Int32)) &&& (q0 - (1 : Int32))).toUInt32 >>> ((16 : Int32) &&& 31).toUInt32).toInt32))]))
      refine own_by (fun _ k => XS.istoreN X0.here hx rfl (hb hby d5_33) rfl (l' := #[(vi ((((q0 ^^^ (-1 : Int32)) &&& (q0 - (1 : Int32))).toUInt32 >>> ((16 : Int32) &&& 31).toUInt32).toInt32)), (vi 17)]) rfl k) ?_
      show OEnds p e below s _ _ _ (s₁.setTop (mkF m 34 #[(vi ((((q0 ^^^ (-1 : Int32)) &&& (q0 - (1 : Int32))).toUInt32 >>> ((16 : Int32) &&& 31).toUInt32).toInt32)), (vi 17)] []))
      exact own_eq (congrArg Value.int (by rw [ntz, if_pos hc9, if_pos hc23] <;> rfl)) (bntz_34 s₁ X0 e0 ((((q0 ^^^ (-1 : Int32)) &&& (q0 - (1 : Int32))).toUInt32 >>> ((16 : Int32) &&& 31).toUInt32).toInt32) (17 : Int32))
    · refine own_by (fun _ k => XS.icmpYes X0.here hx rfl (pc0 := 23) (pc' := 34) rfl (hb hby d5_23) rfl (flt hc23).2.2.2 (by decide) (by decide) k) ?_
      show OEnds p e below s _ _ _ (s₁.setTop (mkF m 34 #[(vi ((q0 ^^^ (-1 : Int32)) &&& (q0 - (1 : Int32)))), (vi 1)] []))
      exact own_eq (congrArg Value.int (by rw [ntz, if_pos hc9, if_neg hc23] <;> rfl)) (bntz_34 s₁ X0 e0 ((q0 ^^^ (-1 : Int32)) &&& (q0 - (1 : Int32))) (1 : Int32))
  · refine own_by (fun _ k => XS.ifNo X0.here hx rfl (hb hby d5_9) rfl ((if0 _ _).trans (flt hc9).2.2.1) k) ?_
    show OEnds p e below s _ _ _ (s₁.setTop (mkF m 12 #[(vi ((q0 ^^^ (-1 : Int32)) &&& (q0 - (1 : Int32)))), un] []))
    refine own_by (fun _ k => XS.iloadN X0.here hx rfl (hb hby d5_12) rfl k) ?_
    show OEnds p e below s _ _ _ (s₁.setTop (mkF m 13 #[(vi ((q0 ^^^ (-1 : Int32)) &&& (q0 - (1 : Int32)))), un] [(.int ((q0 ^^^ (-1 : Int32)) &&& (q0 - (1 : Int32))))]))
    refine own_by (fun _ k => XS.bipush X0.here hx rfl (hb hby d5_13) k) ?_
    show OEnds p e below s _ _ _ (s₁.setTop (mkF m 15 #[(vi ((q0 ^^^ (-1 : Int32)) &&& (q0 - (1 : Int32)))), un] [(.int 32), (.int ((q0 ^^^ (-1 : Int32)) &&& (q0 - (1 : Int32))))]))
    refine own_by (fun _ k => XS.iand X0.here hx rfl (hb hby d5_15) rfl k) ?_
    show OEnds p e below s _ _ _ (s₁.setTop (mkF m 16 #[(vi ((q0 ^^^ (-1 : Int32)) &&& (q0 - (1 : Int32)))), un] [(.int (((q0 ^^^ (-1 : Int32)) &&& (q0 - (1 : Int32))) &&& (32 : Int32)))]))
    exact own_retI X0 hx hlk Bd.returns (hb hby d5_16) ⟨congrArg (fun z => some (Value.int z)) (Eq.symm (by rw [ntz, if_neg hc9] <;> rfl)), rfl, e0⟩ (Nat.le_refl _) (Nat.le_refl _)
theorem d21_0 : decode jdk_29_method_69_code 0 = .ok (.iload_n 0, 1) := by decide +kernel
theorem d21_1 : decode jdk_29_method_69_code 1 = .ok (.iload_n 1, 1) := by decide +kernel
theorem d21_2 : decode jdk_29_method_69_code 2 = .ok (.if_icmp .gt 7, 3) := by decide +kernel
theorem d21_5 : decode jdk_29_method_69_code 5 = .ok (.iload_n 0, 1) := by decide +kernel
theorem d21_6 : decode jdk_29_method_69_code 6 = .ok (.goto 4, 3) := by decide +kernel
theorem d21_9 : decode jdk_29_method_69_code 9 = .ok (.iload_n 1, 1) := by decide +kernel
theorem d21_10 : decode jdk_29_method_69_code 10 = .ok (.ireturn, 1) := by decide +kernel
theorem ef_21 (m : MethodId) (q0 : Int32) (q1 : Int32) : entryFrame m #[(.int q0), (.int q1)] 2 = mkF m 0 #[.val (.int q0), .val (.int q1)] [] := by first | (simp [entryFrame, mkF, argsToLocals, Value.category]; done) | rfl
def jmin_10 (v10_s0 : Int32) : Int32 := v10_s0
def jmin (q0 : Int32) (q1 : Int32) : Int32 := if q1 < q0 then (jmin_10 q1) else (jmin_10 q0)
set_option maxRecDepth 65536 in
set_option maxHeartbeats 40000000 in
theorem rm_jmin (l : Launch) (Z : State) (a0 : Array Value) (hw : ∀ d ∈ tables_1, d.before a0 Z = true) (ws : List Jvm.Cond) (q0 : Int32) (q1 : Int32) (h0 : Heap) :
    MetFree l mn1 (head1 (Jvm.Cond.code mn1 jdk_29_method_69_code 2 (some .int) :: ws) ({ frames := 0, cells := 0, slots := 0, locals := 0 } : Room)) (fun a U => a = #[(.int q0), (.int q1)] ∧ Z.Warmed39 U.vm ∧ U.heap = h0) (fun _ _ _ _ _ => True) (fun _ U o U' => ∃ v L, o = .returned v ∧ QP (Value.int (jmin q0 q1)) h0 v U'.heap L ∧ FrameEnd U o U' L 0 0) := by
  refine MetFree.of_bodySF (Jvm.Free.JP.mathPlain rfl (by decide +kernel)) hisR ?_
  intro p e s m args below meth c s₁ Bd hml0 hP hK
  obtain ⟨rfl, hZ, hh⟩ := hP
  have hx := Bd.exec
  have hby := Bd.bytes
  have hlk : meth.locks = false := Bd.notSynchronized
  have hml : c.maxLocals = 2 := hml0
  have hown : s.vm.findClass "java/lang/Math" = some m.cls := findClass_of_methodNamed Bd.named
  have X0 : Stand p l e ({ frames := 0, cells := 0, slots := 0, locals := 0 } : Room) s m #[(.int q0), (.int q1)] below meth c s₁ [] 0 0 := Stand.of_body Bd
  have e0 : s₁.heap = h0 := by rw [← hh, Bd.state]; rfl
  have bjmin_10 : ∀ (T : State) (X : Stand p l e ({ frames := 0, cells := 0, slots := 0, locals := 0 } : Room) s m #[(.int q0), (.int q1)] below meth c T [] 0 0) (eT : T.heap = h0) (v10_s0 : Int32), OEnds p e below s (QP (Value.int (jmin_10 v10_s0)) h0) 0 0 (T.setTop (mkF m 10 #[(vi q0), (vi q1)] [(.int v10_s0)])) := by
    intro T X eT v10_s0
    exact own_retI X hx hlk Bd.returns (hb hby d21_10) ⟨congrArg (fun z => some (Value.int z)) (Eq.symm (by rw [jmin_10] <;> rfl)), rfl, eT⟩ (Nat.le_refl _) (Nat.le_refl _)
  show OEnds p e below s _ _ _ _
  refine own_by (fun t k => castTop (ef_21 m q0 q1) k) ?_
  show OEnds p e below s _ _ _ (s₁.setTop (mkF m 0 #[(vi q0), (vi q1)] []))
  refine own_by (fun _ k => XS.iloadN X0.here hx rfl (hb hby d21_0) rfl k) ?_
  show OEnds p e below s _ _ _ (s₁.setTop (mkF m 1 #[(vi q0), (vi q1)] [(.int q0)]))
  refine own_by (fun _ k => XS.iloadN X0.here hx rfl (hb hby d21_1) rfl k) ?_
  show OEnds p e below s _ _ _ (s₁.setTop (mkF m 2 #[(vi q0), (vi q1)] [(.int q1), (.int q0)]))
  by_cases hc2 : q1 < q0
  · refine own_by (fun _ k => XS.icmpYes X0.here hx rfl (pc0 := 2) (pc' := 9) rfl (hb hby d21_2) rfl (tlt hc2).2.2.1 (by decide) (by decide) k) ?_
    show OEnds p e below s _ _ _ (s₁.setTop (mkF m 9 #[(vi q0), (vi q1)] []))
    refine own_by (fun _ k => XS.iloadN X0.here hx rfl (hb hby d21_9) rfl k) ?_
    show OEnds p e below s _ _ _ (s₁.setTop (mkF m 10 #[(vi q0), (vi q1)] [(.int q1)]))
    exact own_eq (congrArg Value.int (by rw [jmin, if_pos hc2] <;> rfl)) (bjmin_10 s₁ X0 e0 q1)
  · refine own_by (fun _ k => XS.icmpNo X0.here hx rfl (hb hby d21_2) rfl (flt hc2).2.2.1 k) ?_
    show OEnds p e below s _ _ _ (s₁.setTop (mkF m 5 #[(vi q0), (vi q1)] []))
    refine own_by (fun _ k => XS.iloadN X0.here hx rfl (hb hby d21_5) rfl k) ?_
    show OEnds p e below s _ _ _ (s₁.setTop (mkF m 6 #[(vi q0), (vi q1)] [(.int q0)]))
    refine own_by (fun _ k => XS.goto X0.here hx rfl (pc0 := 6) (pc' := 10) rfl (hb hby d21_6) (by decide) (by decide) k) ?_
    show OEnds p e below s _ _ _ (s₁.setTop (mkF m 10 #[(vi q0), (vi q1)] [(.int q0)]))
    exact own_eq (congrArg Value.int (by rw [jmin, if_neg hc2] <;> rfl)) (bjmin_10 s₁ X0 e0 q0)
theorem d14_0 : decode prog_25_method_8_code 0 = .ok (.lload_n 1, 1) := by decide +kernel
theorem d14_1 : decode prog_25_method_8_code 1 = .ok (.ldc2_w 58, 3) := by decide +kernel
theorem d14_4 : decode prog_25_method_8_code 4 = .ok (.lmul, 1) := by decide +kernel
theorem d14_5 : decode prog_25_method_8_code 5 = .ok (.aload_n 0, 1) := by decide +kernel
theorem d14_6 : decode prog_25_method_8_code 6 = .ok (.getfield 23, 3) := by decide +kernel
theorem d14_9 : decode prog_25_method_8_code 9 = .ok (.lushr, 1) := by decide +kernel
theorem d14_10 : decode prog_25_method_8_code 10 = .ok (.l2i, 1) := by decide +kernel
theorem d14_11 : decode prog_25_method_8_code 11 = .ok (.ireturn, 1) := by decide +kernel
theorem pn_14 : plainName "com/example/tristream/tristream/LongIndex" = true := by first | (simp [plainName, overriddenIn]; done) | decide +kernel
theorem ef_14 (m : MethodId) (x0 : Addr) (x1 : Int64) : entryFrame m #[(.ref x0), (.long x1)] 3 = mkF m 0 #[.val (.ref x0), .val (.long x1), .second] [] := by first | (simp [entryFrame, mkF, argsToLocals, Value.category]; done) | rfl
def home_r (kk : Int64) (sf : Int32) : Int32 := ((((kk * (-7046029254386353131 : Int64)).toUInt64 >>> (sf &&& 0x3f).toInt64.toUInt64).toInt64).toInt32)
set_option maxRecDepth 65536 in
set_option maxHeartbeats 40000000 in
theorem rm_home (l : Launch) (Z : State) (a0 : Array Value) (hw : ∀ d ∈ tables_1, d.before a0 Z = true) (ws : List Jvm.Cond) (a : Addr) (kk : Int64) (kb : Addr) (sb : Addr) (sf : Int32) (z : Int32) (h0 : Heap) (n0 : Nat) (Z0 : n0 ≤ h0.size) (O0 : Obj Z h0 a "com/example/tristream/tristream/LongIndex" sch_li [(.ref kb), (.ref sb), (.int sf), (.int z)]) :
    MetFree l mn2 (head1 (Jvm.Cond.code mn2 prog_25_method_8_code 3 (some .int) :: ws) ({ frames := 0, cells := 0, slots := 0, locals := 0 } : Room)) (fun a_ U => a_ = #[(.ref a), (.long kk)] ∧ Z.Warmed39 U.vm ∧ U.heap = h0) (fun _ _ _ _ _ => True) (fun _ U o U' => ∃ v_ L_, o = .returned v_ ∧ QP (.int (home_r kk sf)) h0 v_ U'.heap L_ ∧ FrameEnd U o U' L_ ({ frames := 0, cells := 0, slots := 0, locals := 0 } : Room).cells ({ frames := 0, cells := 0, slots := 0, locals := 0 } : Room).slots) := by
  refine MetFree.of_bodySF (plainFor_of_name pn_14) hisR ?_
  intro p e s m args below meth c s₁ Bd hml0 hP hK
  obtain ⟨rfl, hZ, hh⟩ := hP
  have hx := Bd.exec
  have hby := Bd.bytes
  have hlk : meth.locks = false := Bd.notSynchronized
  have hml : c.maxLocals = 3 := hml0
  have hown : s.vm.findClass "com/example/tristream/tristream/LongIndex" = some m.cls := findClass_of_methodNamed Bd.named
  have hnm := (name_of_methodNamed Bd.named Bd.method).1
  have X0 : Stand p l e ({ frames := 0, cells := 0, slots := 0, locals := 0 } : Room) s m #[(.ref a), (.long kk)] below meth c s₁ [] 0 0 := Stand.of_body Bd
  have e0 : s₁.heap = h0 := by rw [← hh, Bd.state]; rfl
  have N0 := Fr.nil n0
  have K0 : Keep h0 h0 [] := Keep.refl _ _
  show OEnds p e below s (QP (.int (home_r kk sf)) h0) _ _ _
  refine own_by (fun t k => castTop (ef_14 m a kk) k) ?_
  show OEnds p e below s _ _ _ (s₁.setTop (mkF m 0 #[(vr a), (vj kk), sd] []))
  refine qlN 1 X0 hx hby d14_0 rfl rfl ?_
  refine own_by (X0.ldc2Long hx hown (mvT hZ (tw84 hw)) (g := (mkF m 1 #[(vr a), (vj kk), sd] [(.long kk)])) rfl (hb hby d14_1)) ?_
  show OEnds p e below s _ _ _ (s₁.setTop (mkF m 4 #[(vr a), (vj kk), sd] [(.long (-7046029254386353131)), (.long kk)]))
  refine q_lmul 5 X0 hx hby d14_4 rfl ?_
  refine qaN 6 X0 hx hby d14_5 rfl rfl ?_
  refine qg 9 X0 hx hZ hown (tw32 hw) e0 (O0.fld 2 rfl rfl) hby d14_6 rfl fun T1 X1 e1 => ?_
  refine own_by (fun _ k => XS.lushr X1.here hx rfl (hb hby d14_9) rfl k) ?_
  show OEnds p e below s _ _ _ (T1.setTop (mkF m 10 #[(vr a), (vj kk), sd] [(.long (((kk * (-7046029254386353131 : Int64)).toUInt64 >>> (sf &&& 0x3f).toInt64.toUInt64).toInt64))]))
  refine own_by (fun _ k => XS.l2i X1.here hx rfl (hb hby d14_10) rfl k) ?_
  show OEnds p e below s _ _ _ (T1.setTop (mkF m 11 #[(vr a), (vj kk), sd] [(.int ((((kk * (-7046029254386353131 : Int64)).toUInt64 >>> (sf &&& 0x3f).toInt64.toUInt64).toInt64).toInt32))]))
  exact own_retI X1 hx hlk Bd.returns (hb hby d14_11) ⟨congrArg (fun z => some (Value.int z)) (Eq.symm (by rw [home_r] <;> rfl)), rfl, e1⟩ (by decide) (by decide)
/-- S slots; hm i: the home of the i-th key; g s: 0, or 1 + the index of the key that lies in the slot s; P: which indices lie in the table -/
def Inv (S : Nat) (hm : Nat → Nat) (g : Nat → Nat) (P : Nat → Prop) : Prop :=
  (∀ s, s < S → g s ≠ 0 → P (g s - 1)) ∧ (∀ i, P i → ∃ s, s < S ∧ g s = i + 1) ∧ (∀ s t, s < S → t < S → g s = g t → g s ≠ 0 → s = t) ∧
  (∀ s, s < S → g s ≠ 0 → ∃ d, d < S ∧ s = (hm (g s - 1) + d) % S ∧ ∀ e, e < d → g ((hm (g s - 1) + e) % S) ≠ 0)
theorem pigeon : ∀ (n z : Nat) (f : Nat → Nat), (∀ s, s < n → f s < z) → (∀ s t, s < n → t < n → f s = f t → s = t) → n ≤ z := by
  intro n
  induction n with
  | zero => intros; omega
  | succ n ih =>
    intro z f h1 h2
    cases z with
    | zero => have := h1 0 (by omega); omega
    | succ z =>
      have hn := h1 n (by omega)
      have := ih z (fun s => if f s = z then f n else f s) (by
        intro s hs
        by_cases q : f s = z
        · have : f n ≠ z := fun e => by have := h2 s n (by omega) (by omega) (by omega); omega
          simp only [q, if_true]; omega
        · have := h1 s (by omega)
          simp only [q, if_false]; omega) (by
        intro s t hs ht e
        by_cases q : f s = z <;> by_cases r : f t = z <;> simp only [q, r, if_true, if_false] at e
        · exact h2 s t (by omega) (by omega) (q.trans r.symm)
        · have := h2 n t (by omega) (by omega) e; omega
        · have := h2 s n (by omega) (by omega) e; omega
        · exact h2 s t (by omega) (by omega) e)
      omega
theorem inv_zero {S z : Nat} {hm g : Nat → Nat} {P : Nat → Prop} (h : Inv S hm g P) (hP : ∀ i, P i → i < z) (hz : z < S) : ∃ s, s < S ∧ g s = 0 := by
  refine Classical.byContradiction fun hn => ?_
  have hp : ∀ s, s < S → g s ≠ 0 := fun s hs e => hn ⟨s, hs, e⟩
  have := pigeon S z (fun s => g s - 1) (fun s hs => hP _ (h.1 s hs (hp s hs))) (fun s t hs ht e => h.2.2.1 s t hs ht (by have := hp s hs; have := hp t ht; have e' : g s - 1 = g t - 1 := e; omega) (hp s hs))
  omega
/-- where the probe for a key stops -/
def Stop (S : Nat) (g : Nat → Nat) (is : Nat → Prop) (hk r : Nat) : Prop :=
  ∃ d, d < S ∧ r = (hk + d) % S ∧ (g r = 0 ∨ is (g r - 1)) ∧ ∀ e, e < d → g ((hk + e) % S) ≠ 0 ∧ ¬ is (g ((hk + e) % S) - 1)
theorem Stop.lt {S : Nat} {g : Nat → Nat} {is : Nat → Prop} {hk r : Nat} (st : Stop S g is hk r) : r < S := by
  obtain ⟨d, hd, hr, -⟩ := st
  rw [hr]; exact Nat.mod_lt _ (by omega)
theorem stop_hit {S : Nat} {hm g : Nat → Nat} {P is : Nat → Prop} {hk r i : Nat} (h : Inv S hm g P) (st : Stop S g is hk r) (hi : P i) (his : is i) (hu : ∀ j, P j → is j → j = i) (hh : hm i = hk) : g r = i + 1 := by
  have hS := st.lt
  obtain ⟨d, hd, hr, hs, hp⟩ := st
  obtain ⟨s, hs1, hs2⟩ := h.2.1 i hi
  obtain ⟨d0, hd0, e0, hp0⟩ := h.2.2.2 s hs1 (by omega)
  have eg : g s - 1 = i := by omega
  rw [eg, hh] at e0 hp0
  rcases Nat.lt_trichotomy d d0 with q | q | q
  · have h1 := hp0 d q
    rw [← hr] at h1
    have h2 : is (g r - 1) := hs.resolve_left h1
    have := hu (g r - 1) (h.1 r hS h1) h2
    omega
  · subst q; rw [hr, ← e0]; exact hs2
  · have := (hp d0 q).2
    rw [← e0, eg] at this
    exact absurd his this
theorem stop_miss {S : Nat} {hm g : Nat → Nat} {P is : Nat → Prop} {hk r : Nat} (h : Inv S hm g P) (st : Stop S g is hk r) (hn : ∀ j, P j → ¬ is j) : g r = 0 := by
  have hS := st.lt
  obtain ⟨d, hd, hr, hs, hp⟩ := st
  refine Classical.byContradiction fun q => ?_
  exact hn (g r - 1) (h.1 r hS q) (hs.resolve_left q)
theorem inv_empty (S : Nat) (hm : Nat → Nat) : Inv S hm (fun _ => 0) (fun i => i < 0) :=
  ⟨fun s _ h => absurd rfl h, fun i hi => absurd hi (Nat.not_lt_zero _), fun s t _ _ _ h => absurd rfl h, fun s _ h => absurd rfl h⟩
theorem inv_add {S z : Nat} {hm g : Nat → Nat} {P : Nat → Prop} {hk r : Nat} (h : Inv S hm g P) (hz : ¬ P z) (hr0 : g r = 0) (hd : ∃ d, d < S ∧ r = (hk + d) % S ∧ ∀ e, e < d → g ((hk + e) % S) ≠ 0) :
    Inv S (fun i => if i = z then hk else hm i) (fun s => if s = r then z + 1 else g s) (fun i => i = z ∨ P i) := by
  obtain ⟨d, hd1, hd2, hd3⟩ := hd
  have hrS : r < S := by rw [hd2]; exact Nat.mod_lt _ (by omega)
  have nz : ∀ s, s < S → g s ≠ 0 → g s - 1 ≠ z := fun s hs hn e => hz (e ▸ h.1 s hs hn)
  refine ⟨fun s hs hn => ?_, fun i hi => ?_, fun s t hs ht e hn => ?_, fun s hs hn => ?_⟩
  · by_cases q : s = r
    · simp [q]
    · simp only [q, if_false] at hn ⊢; exact Or.inr (h.1 s hs hn)
  · rcases hi with rfl | hi
    · exact ⟨r, hrS, by simp⟩
    · obtain ⟨s, h1, h2⟩ := h.2.1 i hi
      have : s ≠ r := fun e => by rw [e, hr0] at h2; omega
      exact ⟨s, h1, by simp only [this, if_false]; exact h2⟩
  · by_cases q : s = r <;> by_cases q' : t = r <;> simp only [q, q', if_true, if_false] at e hn
    · rw [q, q']
    · have := nz t ht (by omega); omega
    · have := nz s hs hn; omega
    · exact h.2.2.1 s t hs ht e hn
  · by_cases q : s = r
    · refine ⟨d, hd1, ?_, ?_⟩
      · simp only [q, if_true, Nat.add_sub_cancel]; exact hd2
      · intro e he
        simp only [q, if_true, Nat.add_sub_cancel]
        by_cases q2 : (hk + e) % S = r
        · simp [q2]
        · simp only [q2, if_false]; exact hd3 e he
    · simp only [q, if_false] at hn
      obtain ⟨d0, h1, h2, h3⟩ := h.2.2.2 s hs hn
      have hne := nz s hs hn
      refine ⟨d0, h1, ?_, ?_⟩
      · simp only [q, if_false, hne]; exact h2
      · intro e he
        simp only [q, if_false, hne]
        by_cases q2 : (hm (g s - 1) + e) % S = r
        · simp [q2]
        · simp only [q2, if_false]; exact h3 e he
/-- the table while a hole travels: H has 0 at the hole; nx = hole + K is looked at next -/
def Part (S : Nat) (hm : Nat → Nat) (H : Nat → Nat) (P : Nat → Prop) (hole K : Nat) : Prop :=
  hole < S ∧ H hole = 0 ∧ (∀ s, s < S → H s ≠ 0 → P (H s - 1)) ∧ (∀ i, P i → ∃ s, s < S ∧ H s = i + 1) ∧ (∀ s t, s < S → t < S → H s = H t → H s ≠ 0 → s = t) ∧
  (∀ j, 0 < j → j < K → H ((hole + j) % S) ≠ 0) ∧
  (∀ s, s < S → H s ≠ 0 → ∃ d, d < S ∧ s = (hm (H s - 1) + d) % S ∧ ∀ e, e < d → H ((hm (H s - 1) + e) % S) ≠ 0 ∨ ((hm (H s - 1) + e) % S = hole ∧ K ≤ d - e))
theorem part_done {S : Nat} (hS : S = 4 ∨ S = 8) {hm H : Nat → Nat} {P : Nat → Prop} {hole K : Nat} (h : Part S hm H P hole K) (hK : 0 < K) (h0 : H ((hole + K) % S) = 0) : Inv S hm H P := by
  obtain ⟨h1, h2, h3, h4, h5, h6, h7⟩ := h
  refine ⟨h3, h4, h5, fun s hs hn => ?_⟩
  obtain ⟨d, d1, d2, d3⟩ := h7 s hs hn
  refine ⟨d, d1, d2, fun e he => ?_⟩
  rcases d3 e he with q | ⟨q, r⟩
  · exact q
  · exfalso
    by_cases k : K = d - e
    · have e1 : (hole + K) % S = s := by rcases hS with rfl | rfl <;> omega
      rw [e1] at h0
      exact hn h0
    · have e3 : (hm (H s - 1) + (e + K)) % S = (hole + K) % S := by rcases hS with rfl | rfl <;> omega
      rcases d3 (e + K) (by omega) with w | ⟨w, -⟩
      · rw [e3] at w; exact w h0
      · rcases hS with rfl | rfl <;> omega
theorem part_skip {S : Nat} (hS : S = 4 ∨ S = 8) {hm H : Nat → Nat} {P : Nat → Prop} {hole K : Nat} (h : Part S hm H P hole K) (hK : 0 < K) (hKS : K < S) (h0 : H ((hole + K) % S) ≠ 0) {d : Nat} (hd : d < S) (hnx : (hole + K) % S = (hm (H ((hole + K) % S) - 1) + d) % S) (hlt : d < K) : Part S hm H P hole (K + 1) := by
  obtain ⟨h1, h2, h3, h4, h5, h6, h7⟩ := h
  refine ⟨h1, h2, h3, h4, h5, fun j j0 j1 => ?_, fun s hs hn => ?_⟩
  · by_cases q : j = K
    · rw [q]; exact h0
    · exact h6 j j0 (by omega)
  · obtain ⟨d', d1, d2, d3⟩ := h7 s hs hn
    refine ⟨d', d1, d2, fun e he => ?_⟩
    rcases d3 e he with q | ⟨q, r⟩
    · exact Or.inl q
    · refine Or.inr ⟨q, ?_⟩
      by_cases k : K = d' - e
      · exfalso
        have e1 : s = (hole + K) % S := by rcases hS with rfl | rfl <;> omega
        rw [← e1] at hnx
        rcases hS with rfl | rfl <;> omega
      · omega
theorem part_move {S : Nat} (hS : S = 4 ∨ S = 8) {hm H : Nat → Nat} {P : Nat → Prop} {hole K : Nat} (h : Part S hm H P hole K) (hK : 0 < K) (hKS : K < S) {nx : Nat} (enx : nx = (hole + K) % S) (h0 : H nx ≠ 0) {d : Nat} (hd : d < S) (hnx : nx = (hm (H nx - 1) + d) % S) (hge : K ≤ d) : Part S hm (fun s => if s = nx then 0 else if s = hole then H nx else H s) P nx 1 := by
  obtain ⟨h1, h2, h3, h4, h5, h6, h7⟩ := h
  have n1 : nx < S := by rcases hS with rfl | rfl <;> omega
  have n2 : hole ≠ nx := by rcases hS with rfl | rfl <;> omega
  refine ⟨n1, by simp, fun s hs hn => ?_, fun i hi => ?_, fun s t hs ht e hn => ?_, fun j j0 j1 => by omega, fun s hs hn => ?_⟩
  · by_cases q : s = nx
    · simp [q] at hn
    · by_cases q' : s = hole
      · simp only [q, q', if_true, if_false, n2]; exact h3 nx n1 h0
      · simp only [q, q', if_false] at hn ⊢; exact h3 s hs hn
  · obtain ⟨s, s1, s2⟩ := h4 i hi
    by_cases q : s = nx
    · exact ⟨hole, h1, by simp only [n2, if_true, if_false]; rw [← q]; exact s2⟩
    · have q' : s ≠ hole := fun e => by rw [e, h2] at s2; omega
      exact ⟨s, s1, by simp only [q, q', if_false]; exact s2⟩
  · by_cases q1 : s = nx
    · simp [q1] at hn
    · by_cases q2 : t = nx
      · simp only [q1, q2, if_true, if_false] at e hn
        exact absurd e hn
      · by_cases q3 : s = hole <;> by_cases q4 : t = hole
        · rw [q3, q4]
        · subst q3
          simp only [q1, q2, q4, if_true, if_false] at e hn
          exact absurd (h5 nx t n1 ht e h0).symm q2
        · subst q4
          simp only [q1, q2, q3, if_true, if_false] at e hn
          exact absurd (h5 s nx hs n1 e hn) q1
        · simp only [q1, q2, q3, q4, if_false] at e hn
          exact h5 s t hs ht e hn
  · by_cases q1 : s = nx
    · simp [q1] at hn
    · by_cases q3 : s = hole
      · obtain ⟨d', d1, d2, d3⟩ := h7 nx n1 h0
        have ed : d' = d := by rcases hS with rfl | rfl <;> omega
        subst ed
        have es : (if s = nx then 0 else if s = hole then H nx else H s) = H nx := by simp only [q3, n2, if_true, if_false]
        refine ⟨d' - K, by omega, ?_, fun e he => ?_⟩
        · show s = (hm ((if s = nx then 0 else if s = hole then H nx else H s) - 1) + (d' - K)) % S
          rw [es, q3]; rcases hS with rfl | rfl <;> omega
        · left
          show (if (hm ((if s = nx then 0 else if s = hole then H nx else H s) - 1) + e) % S = nx then 0 else if (hm ((if s = nx then 0 else if s = hole then H nx else H s) - 1) + e) % S = hole then H nx else H ((hm ((if s = nx then 0 else if s = hole then H nx else H s) - 1) + e) % S)) ≠ 0
          rw [es]
          have w1 : (hm (H nx - 1) + e) % S ≠ nx := by rcases hS with rfl | rfl <;> omega
          have w2 : (hm (H nx - 1) + e) % S ≠ hole := by rcases hS with rfl | rfl <;> omega
          rw [if_neg w1, if_neg w2]
          rcases d3 e (by omega) with w | ⟨w, -⟩
          · exact w
          · exact absurd w w2
      · have es : (if s = nx then 0 else if s = hole then H nx else H s) = H s := by simp only [q1, q3, if_false]
        have hn' : H s ≠ 0 := by have : (if s = nx then 0 else if s = hole then H nx else H s) ≠ 0 := hn; rwa [es] at this
        obtain ⟨d', d1, d2, d3⟩ := h7 s hs hn'
        refine ⟨d', d1, ?_, fun e he => ?_⟩
        · show s = (hm ((if s = nx then 0 else if s = hole then H nx else H s) - 1) + d') % S
          rw [es]; exact d2
        · show (if (hm ((if s = nx then 0 else if s = hole then H nx else H s) - 1) + e) % S = nx then 0 else if (hm ((if s = nx then 0 else if s = hole then H nx else H s) - 1) + e) % S = hole then H nx else H ((hm ((if s = nx then 0 else if s = hole then H nx else H s) - 1) + e) % S)) ≠ 0 ∨ ((hm ((if s = nx then 0 else if s = hole then H nx else H s) - 1) + e) % S = nx ∧ 1 ≤ d' - e)
          rw [es]
          by_cases w1 : (hm (H s - 1) + e) % S = nx
          · exact Or.inr ⟨w1, by omega⟩
          · by_cases w2 : (hm (H s - 1) + e) % S = hole
            · left; rw [if_neg w1, if_pos w2]; exact h0
            · left; rw [if_neg w1, if_neg w2]
              rcases d3 e he with w | ⟨w, -⟩
              · exact w
              · exact absurd w w2
theorem part_init {S : Nat} {hm g : Nat → Nat} {P : Nat → Prop} {r i0 : Nat} (h : Inv S hm g P) (hr : r < S) (hg : g r = i0 + 1) : Part S hm (fun s => if s = r then 0 else g s) (fun j => P j ∧ j ≠ i0) r 1 := by
  obtain ⟨h1, h2, h3, h4⟩ := h
  refine ⟨hr, by simp, fun s hs hn => ?_, fun i hi => ?_, fun s t hs ht e hn => ?_, fun j j0 j1 => by omega, fun s hs hn => ?_⟩
  · by_cases q : s = r
    · simp [q] at hn
    · simp only [q, if_false] at hn ⊢
      refine ⟨h1 s hs hn, fun e => q (h3 s r hs hr (by omega) hn)⟩
  · obtain ⟨s, s1, s2⟩ := h2 i hi.1
    have : s ≠ r := fun e => hi.2 (by rw [e, hg] at s2; omega)
    exact ⟨s, s1, by simp only [this, if_false]; exact s2⟩
  · by_cases q : s = r
    · simp [q] at hn
    · by_cases q' : t = r
      · simp only [q, q', if_true, if_false] at e hn
        exact absurd e hn
      · simp only [q, q', if_false] at e hn
        exact h3 s t hs ht e hn
  · by_cases q : s = r
    · simp [q] at hn
    · have es : (if s = r then 0 else g s) = g s := by simp only [q, if_false]
      have hn' : g s ≠ 0 := by have : (if s = r then 0 else g s) ≠ 0 := hn; rwa [es] at this
      obtain ⟨d, d1, d2, d3⟩ := h4 s hs hn'
      refine ⟨d, d1, ?_, fun e he => ?_⟩
      · show s = (hm ((if s = r then 0 else g s) - 1) + d) % S
        rw [es]; exact d2
      · show (if (hm ((if s = r then 0 else g s) - 1) + e) % S = r then 0 else g ((hm ((if s = r then 0 else g s) - 1) + e) % S)) ≠ 0 ∨ ((hm ((if s = r then 0 else g s) - 1) + e) % S = r ∧ 1 ≤ d - e)
        rw [es]
        by_cases w : (hm (g s - 1) + e) % S = r
        · exact Or.inr ⟨w, by omega⟩
        · left; rw [if_neg w]; exact d3 e he
theorem inv_congr {S : Nat} {hm hm' g g' : Nat → Nat} {P P' : Nat → Prop} (h : Inv S hm g P) (hg : ∀ s, s < S → g' s = g s) (hP : ∀ i, P i ↔ P' i) (hh : ∀ i, P i → hm' i = hm i) : Inv S hm' g' P' := by
  obtain ⟨h1, h2, h3, h4⟩ := h
  refine ⟨fun s hs hn => ?_, fun i hi => ?_, fun s t hs ht e hn => ?_, fun s hs hn => ?_⟩
  · rw [hg s hs] at hn ⊢; exact (hP _).mp (h1 s hs hn)
  · obtain ⟨s, s1, s2⟩ := h2 i ((hP i).mpr hi); exact ⟨s, s1, by rw [hg s s1]; exact s2⟩
  · rw [hg s hs, hg t ht] at e; rw [hg s hs] at hn; exact h3 s t hs ht e hn
  · rw [hg s hs] at hn ⊢
    obtain ⟨d, d1, d2, d3⟩ := h4 s hs hn
    have hS : 0 < S := by omega
    rw [hh _ (h1 s hs hn)]
    exact ⟨d, d1, d2, fun e he => by rw [hg _ (Nat.mod_lt _ hS)]; exact d3 e he⟩
theorem inv_relabel {S : Nat} {hm g : Nat → Nat} {P : Nat → Prop} {r m i : Nat} (h : Inv S hm g P) (hr : r < S) (hg : g r = m + 1) (hi : ¬ P i) (him : i ≠ m) : Inv S (fun j => if j = i then hm m else hm j) (fun s => if s = r then i + 1 else g s) (fun j => j = i ∨ (P j ∧ j ≠ m)) := by
  obtain ⟨h1, h2, h3, h4⟩ := h
  have ni : ∀ s, s < S → g s ≠ 0 → g s - 1 ≠ i := fun s hs hn e => hi (e ▸ h1 s hs hn)
  refine ⟨fun s hs hn => ?_, fun j hj => ?_, fun s t hs ht e hn => ?_, fun s hs hn => ?_⟩
  · by_cases q : s = r
    · simp [q]
    · simp only [q, if_false] at hn ⊢
      exact Or.inr ⟨h1 s hs hn, fun e => q (h3 s r hs hr (by omega) hn)⟩
  · rcases hj with rfl | ⟨hj, hm'⟩
    · exact ⟨r, hr, by simp⟩
    · obtain ⟨s, s1, s2⟩ := h2 j hj
      have : s ≠ r := fun e => hm' (by rw [e, hg] at s2; omega)
      exact ⟨s, s1, by simp only [this, if_false]; exact s2⟩
  · by_cases q : s = r <;> by_cases q' : t = r <;> simp only [q, q', if_true, if_false] at e hn
    · rw [q, q']
    · have := ni t ht (by omega); omega
    · have := ni s hs hn; omega
    · exact h3 s t hs ht e hn
  · have hS : 0 < S := by omega
    have tr : ∀ x, x < S → g x ≠ 0 → (if x = r then i + 1 else g x) ≠ 0 := fun x _ hx => by by_cases q : x = r <;> simp [q, hx]
    by_cases q : s = r
    · obtain ⟨d, d1, d2, d3⟩ := h4 r hr (by omega)
      rw [hg, Nat.add_sub_cancel] at d2 d3
      refine ⟨d, d1, ?_, fun e he => ?_⟩
      · simp only [q, if_true, Nat.add_sub_cancel]; exact d2
      · simp only [q, if_true, Nat.add_sub_cancel]; exact tr _ (Nat.mod_lt _ hS) (d3 e he)
    · simp only [q, if_false] at hn
      obtain ⟨d, d1, d2, d3⟩ := h4 s hs hn
      have hne := ni s hs hn
      refine ⟨d, d1, ?_, fun e he => ?_⟩
      · simp only [q, if_false, hne]; exact d2
      · simp only [q, if_false, hne]; exact tr _ (Nat.mod_lt _ hS) (d3 e he)
def gn (sl : Nat → Int32) (s : Nat) : Nat := (sl s).toInt.toNat
/-- the slots and the shift go together -/
def Sz (S : Nat) (sf : Int32) : Prop := (S = 4 ∧ sf = 62) ∨ (S = 8 ∧ sf = 61)
theorem Sz.or {S : Nat} {sf : Int32} (h : Sz S sf) : S = 4 ∨ S = 8 := by rcases h with h | h; exact Or.inl h.1; exact Or.inr h.1
def hm (sf : Int32) (k : Int64) : Nat := (home_r k sf).toInt.toNat
theorem hm_spec {S : Nat} {sf : Int32} (h : Sz S sf) (k : Int64) : (home_r k sf).toInt = ((hm sf k : Nat) : Int) ∧ hm sf k < S := by
  rw [hm]
  have hr := rng64 (k * (-7046029254386353131 : Int64))
  rcases h with ⟨rfl, rfl⟩ | ⟨rfl, rfl⟩
  · have h1 := c_lushr (k * (-7046029254386353131 : Int64)) 62 62 (by decide) (by decide)
    have h2 := c_l2i (((k * (-7046029254386353131 : Int64)).toUInt64 >>> ((62 : Int32) &&& 0x3f).toInt64.toUInt64).toInt64)
    have h3 := rng32 (home_r k 62)
    rw [home_r] at h3 ⊢
    omega
  · have h1 := c_lushr (k * (-7046029254386353131 : Int64)) 61 61 (by decide) (by decide)
    have h2 := c_l2i (((k * (-7046029254386353131 : Int64)).toUInt64 >>> ((61 : Int32) &&& 0x3f).toInt64.toUInt64).toInt64)
    have h3 := rng32 (home_r k 61)
    rw [home_r] at h3 ⊢
    omega
/-- what a probe needs: no minus, the indices within the keys, a free slot -/
def Fo (S : Nat) (sf : Int32) (sl : Nat → Int32) (kn : Nat) : Prop := Sz S sf ∧ kn ≤ 4 ∧ (∀ s, s < S → 0 ≤ (sl s).toInt) ∧ (∀ s, s < S → gn sl s ≠ 0 → gn sl s - 1 < kn) ∧ ∃ s, s < S ∧ gn sl s = 0
theorem gn_zero {sl : Nat → Int32} {s : Nat} (h : 0 ≤ (sl s).toInt) (h0 : gn sl s = 0) : sl s = (0 : Int32) := by
  apply Int32.toInt_inj.mp
  have : (0 : Int32).toInt = 0 := by decide
  rw [this]; rw [gn] at h0; omega
theorem gn_of {sl : Nat → Int32} {s : Nat} (h : sl s = (0 : Int32)) : gn sl s = 0 := by rw [gn, h]; decide
theorem gn_pos {sl : Nat → Int32} {s : Nat} (h : 0 ≤ (sl s).toInt) (h0 : ¬ sl s = (0 : Int32)) : gn sl s ≠ 0 := fun e => h0 (gn_zero h e)
theorem idx_of {sl : Nat → Int32} {s : Nat} (h : 0 ≤ (sl s).toInt) (h0 : gn sl s ≠ 0) : ((sl s) - (1 : Int32)).toInt = ((gn sl s - 1 : Nat) : Int) := by
  have h1 := c_isub (sl s) 1
  have h2 := rng32 ((sl s) - 1)
  have h3 : (1 : Int32).toInt = 1 := by decide
  have h4 := rng32 (sl s)
  rw [gn] at h0 ⊢
  omega
theorem nxt {S : Nat} (hS : S = 4 ∨ S = 8) {pp : Int32} {n : Nat} (h : pp.toInt = (n : Int)) (hn : n < S) : ((pp + (1 : Int32)) &&& ((Int32.ofNat S) - (1 : Int32))).toInt = (((n + 1) % S : Nat) : Int) := by
  have h1 := c_iadd pp 1
  have h2 := rng32 (pp + 1)
  have h3 : (1 : Int32).toInt = 1 := by decide
  rcases hS with rfl | rfl
  · have e : (Int32.ofNat 4) - (1 : Int32) = 3 := by decide
    rw [e, c_mask (pp + 1) 3 2 (by decide) (by decide)]
    omega
  · have e : (Int32.ofNat 8) - (1 : Int32) = 7 := by decide
    rw [e, c_mask (pp + 1) 7 3 (by decide) (by decide)]
    omega
theorem dist {S : Nat} (hS : S = 4 ∨ S = 8) {x y n1 n2 : Nat} {a b : Int32} (h1 : a.toInt = (n1 : Int)) (h2 : b.toInt = (n2 : Int)) (b1 : n1 < S) (b2 : n2 < S) : ((a - b) &&& ((Int32.ofNat S) - (1 : Int32))).toInt = (((n1 + S - n2) % S : Nat) : Int) := by
  have h3 := c_isub a b
  have h4 := rng32 (a - b)
  rcases hS with rfl | rfl
  · have e : (Int32.ofNat 4) - (1 : Int32) = 3 := by decide
    rw [e, c_mask (a - b) 3 2 (by decide) (by decide)]
    omega
  · have e : (Int32.ofNat 8) - (1 : Int32) = 7 := by decide
    rw [e, c_mask (a - b) 7 3 (by decide) (by decide)]
    omega
theorem far {S : Nat} (hS : S = 4 ∨ S = 8) {hk s : Nat} (h1 : hk < S) (h2 : s < S) : ∃ d, d < S ∧ (hk + d) % S = s := ⟨(s + S - hk) % S, by rcases hS with rfl | rfl <;> omega, by rcases hS with rfl | rfl <;> omega⟩
def IdxR (ks : List Int64) (k : Int64) (r : Int32) : Prop := (∃ i, i < ks.length ∧ ks.getD i 0 = k ∧ r.toInt = ((i : Nat) : Int)) ∨ ((∀ i, i < ks.length → ks.getD i 0 ≠ k) ∧ r = (-1 : Int32))
def Dis (ks : List Int64) : Prop := ∀ i j, i < ks.length → j < ks.length → ks.getD i 0 = ks.getD j 0 → i = j
/-- the state of a LongIndex that holds the keys ks, in order -/
def LI (S : Nat) (sf z : Int32) (sl : Nat → Int32) (kf : Nat → Int64) (kn : Nat) (ks : List Int64) : Prop :=
  Sz S sf ∧ 2 * kn = S ∧ z.toInt = (ks.length : Int) ∧ 2 * ks.length ≤ S ∧ (∀ i, i < ks.length → kf i = ks.getD i 0) ∧ Dis ks ∧ (∀ s, s < S → 0 ≤ (sl s).toInt) ∧ Inv S (fun i => hm sf (kf i)) (gn sl) (fun i => i < ks.length)
theorem LI.fo {S kn : Nat} {sf z : Int32} {sl : Nat → Int32} {kf : Nat → Int64} {ks : List Int64} (h : LI S sf z sl kf kn ks) : Fo S sf sl kn := by
  obtain ⟨h1, h2, h3, h4, h5, h6, h7, h8⟩ := h
  have hS := h1.or
  refine ⟨h1, by omega, h7, fun s hs hn => ?_, inv_zero h8 (fun i hi => hi) (by omega)⟩
  have := h8.1 s hs hn
  omega
theorem li_hit {S kn : Nat} {sf z : Int32} {sl : Nat → Int32} {kf : Nat → Int64} {ks : List Int64} {k : Int64} {r i : Nat} (h : LI S sf z sl kf kn ks) (st : Stop S (gn sl) (fun i => kf i = k) (hm sf k) r) (hi : i < ks.length) (hk : ks.getD i 0 = k) : gn sl r = i + 1 := by
  obtain ⟨h1, h2, h3, h4, h5, h6, h7, h8⟩ := h
  exact stop_hit h8 st hi ((h5 i hi).trans hk) (fun j hj e => h6 j i hj hi (by rw [← h5 j hj, e, hk])) (by show hm sf (kf i) = _; rw [h5 i hi, hk])
theorem li_miss {S kn : Nat} {sf z : Int32} {sl : Nat → Int32} {kf : Nat → Int64} {ks : List Int64} {k : Int64} {r : Nat} (h : LI S sf z sl kf kn ks) (st : Stop S (gn sl) (fun i => kf i = k) (hm sf k) r) (hk : ∀ i, i < ks.length → ks.getD i 0 ≠ k) : gn sl r = 0 := by
  obtain ⟨h1, h2, h3, h4, h5, h6, h7, h8⟩ := h
  exact stop_miss h8 st (fun j hj e => hk j hj (by rw [← h5 j hj]; exact e))
theorem mem_or (ks : List Int64) (k : Int64) : (∃ i, i < ks.length ∧ ks.getD i 0 = k) ∨ (∀ i, i < ks.length → ks.getD i 0 ≠ k) := by
  by_cases h : ∃ i, i < ks.length ∧ ks.getD i 0 = k
  · exact Or.inl h
  · exact Or.inr fun i hi e => h ⟨i, hi, e⟩
theorem li_idx {S kn : Nat} {sf z : Int32} {sl : Nat → Int32} {kf : Nat → Int64} {ks : List Int64} {k : Int64} {r : Nat} (h : LI S sf z sl kf kn ks) (st : Stop S (gn sl) (fun i => kf i = k) (hm sf k) r) : IdxR ks k ((sl r) - (1 : Int32)) := by
  have hr := st.lt
  have h7 := h.2.2.2.2.2.2.1 r hr
  rcases mem_or ks k with ⟨i, hi, hk⟩ | hk
  · have hg := li_hit h st hi hk
    refine Or.inl ⟨i, hi, hk, ?_⟩
    rw [idx_of h7 (by omega), hg]; rfl
  · refine Or.inr ⟨hk, ?_⟩
    rw [gn_zero h7 (li_miss h st hk)]; decide
theorem getD_app {ks : List Int64} {k : Int64} {i : Nat} : (ks ++ [k]).getD i 0 = if i < ks.length then ks.getD i 0 else if i = ks.length then k else 0 := by
  simp only [List.getD]
  by_cases h : i < ks.length
  · rw [if_pos h, List.getElem?_append_left h]
  · rw [if_neg h, List.getElem?_append_right (by omega)]
    by_cases q : i = ks.length
    · subst q; simp
    · rw [if_neg q]
      have : i - ks.length ≠ 0 := by omega
      obtain ⟨m, hm⟩ : ∃ m, i - ks.length = m + 1 := ⟨i - ks.length - 1, by omega⟩
      rw [hm]; simp
theorem li_put {S kn : Nat} {sf zv : Int32} {sl : Nat → Int32} {kf kf' : Nat → Int64} {ks : List Int64} {k : Int64} {r : Nat} (h1 : Sz S sf) (h2 : 2 * kn = S) (h4 : 2 * (ks.length + 1) ≤ S) (h5 : ∀ i, i < ks.length → kf i = ks.getD i 0) (h6 : Dis ks) (hn : ∀ i, i < ks.length → ks.getD i 0 ≠ k) (h7 : ∀ s, s < S → 0 ≤ (sl s).toInt) (h8 : Inv S (fun i => hm sf (kf i)) (gn sl) (fun i => i < ks.length))
    (st : Stop S (gn sl) (fun i => kf i = k) (hm sf k) r) (hz : zv.toInt = ((ks.length + 1 : Nat) : Int)) (k1 : ∀ i, i < ks.length → kf' i = kf i) (k2 : kf' ks.length = k) : LI S sf zv (updI sl r zv) kf' kn (ks ++ [k]) := by
  have hr := st.lt
  have hg : gn sl r = 0 := stop_miss h8 st (fun j hj e => hn j hj (by rw [← h5 j hj]; exact e))
  have hl : (ks ++ [k]).length = ks.length + 1 := by simp
  refine ⟨h1, h2, by rw [hl]; exact hz, by rw [hl]; exact h4, fun i hi => ?_, fun i j hi hj e => ?_, fun s hs => ?_, ?_⟩
  · rw [hl] at hi
    rw [getD_app]
    by_cases q : i < ks.length
    · rw [if_pos q, k1 i q, h5 i q]
    · have : i = ks.length := by omega
      rw [if_neg q, if_pos this, this, k2]
  · rw [hl] at hi hj
    rw [getD_app, getD_app] at e
    by_cases q : i < ks.length <;> by_cases q' : j < ks.length
    · rw [if_pos q, if_pos q'] at e; exact h6 i j q q' e
    · rw [if_pos q, if_neg q', if_pos (by omega)] at e; exact absurd e (hn i q)
    · rw [if_neg q, if_pos q', if_pos (by omega)] at e; exact absurd e.symm (hn j q')
    · omega
  · by_cases q : s = r
    · rw [updI, if_pos q, hz]; omega
    · rw [updI, if_neg q]; exact h7 s hs
  · obtain ⟨d, d1, d2, -, d4⟩ := st
    refine inv_congr (inv_add (z := ks.length) h8 (Nat.lt_irrefl _) hg ⟨d, d1, d2, fun e he => (d4 e he).1⟩) (fun s hs => ?_) (fun i => ?_) (fun i hi => ?_)
    · by_cases q : s = r
      · rw [if_pos q, gn, updI, if_pos q, hz]; omega
      · rw [if_neg q, gn, updI, if_neg q]; rfl
    · rw [hl]; constructor
      · intro h; rcases h with h | h <;> omega
      · intro h; by_cases q : i = ks.length
        · exact Or.inl q
        · exact Or.inr (by omega)
    · by_cases q : i = ks.length
      · rw [if_pos q, q, k2]
      · rw [if_neg q, k1 i (by rcases hi with h | h; exact absurd h q; exact h)]
def AddR (ks : List Int64) (k : Int64) (ks' : List Int64) : Prop := (∃ i, i < ks.length ∧ ks.getD i 0 = k ∧ ks' = ks) ∨ ((∀ i, i < ks.length → ks.getD i 0 ≠ k) ∧ ks' = ks ++ [k])
theorem zinc {z : Int32} {n : Nat} (h : z.toInt = (n : Int)) (hn : n ≤ 100) : (z + (1 : Int32)).toInt = ((n + 1 : Nat) : Int) := by
  have h1 := c_iadd z 1
  have h2 := rng32 (z + 1)
  have h3 : (1 : Int32).toInt = 1 := by decide
  omega
theorem zdec {z : Int32} {n : Nat} (h : z.toInt = ((n + 1 : Nat) : Int)) (hn : n ≤ 100) : (z - (1 : Int32)).toInt = (n : Int) := by
  have h1 := c_isub z 1
  have h2 := rng32 (z - 1)
  have h3 : (1 : Int32).toInt = 1 := by decide
  omega
theorem idx_new {ks : List Int64} {k : Int64} {r : Int32} (hr : r.toInt = (ks.length : Int)) : IdxR (ks ++ [k]) k r := Or.inl ⟨ks.length, by simp, by rw [getD_app, if_neg (Nat.lt_irrefl _), if_pos rfl], hr⟩
theorem inv0 (S : Nat) (hmm : Nat → Nat) : Inv S hmm (gn fun _ => (0 : Int32)) (fun i => i < 0) := inv_congr (inv_empty S hmm) (fun s _ => rfl) (fun i => Iff.rfl) (fun i _ => rfl)
theorem gn_upd (sl : Nat → Int32) (r : Nat) {v : Int32} {n : Nat} (h : v.toInt = (n : Int)) (s : Nat) : gn (updI sl r v) s = if s = r then n else gn sl s := by
  by_cases q : s = r
  · rw [gn, updI, if_pos q, if_pos q, h]; omega
  · rw [gn, updI, if_neg q, if_neg q]; rfl
/-- the table of two keys, put anew into 8 slots -/
theorem rs8 {kf : Nat → Int64} {p0 p1 d : Nat} (h0 : p0 = hm 61 (kf 0)) (hd : (d = 0 ∧ p1 = hm 61 (kf 1) ∧ p1 ≠ p0) ∨ (d = 1 ∧ p0 = hm 61 (kf 1) ∧ p1 = (p0 + 1) % 8)) : Inv 8 (fun i => hm 61 (kf i)) (gn (updI (updI (fun _ => (0 : Int32)) p0 (1 : Int32)) p1 (2 : Int32))) (fun i => i < 2) := by
  have z8 : Sz 8 61 := Or.inr ⟨rfl, rfl⟩
  have b0 := (hm_spec z8 (kf 0)).2
  have b1 := (hm_spec z8 (kf 1)).2
  have e1 : (1 : Int32).toInt = ((1 : Nat) : Int) := by decide
  have e2 : (2 : Int32).toInt = ((2 : Nat) : Int) := by decide
  have g0 : ∀ s, gn (fun _ => (0 : Int32)) s = 0 := fun s => rfl
  have i1 := inv_add (z := 0) (hk := hm 61 (kf 0)) (r := p0) (inv0 8 (fun i => hm 61 (kf i))) (Nat.lt_irrefl _) rfl ⟨0, by omega, by omega, fun e he => absurd he (Nat.not_lt_zero e)⟩
  have i2 := inv_add (z := 1) (hk := hm 61 (kf 1)) (r := p1) i1 (by omega) (by
    show (if p1 = p0 then 0 + 1 else gn (fun _ => (0 : Int32)) p1) = 0
    rw [if_neg (by rcases hd with h | h <;> omega)]; rfl) ⟨d, by omega, by rcases hd with ⟨rfl, h, -⟩ | ⟨rfl, h, h'⟩ <;> omega, fun e he => by
      rcases hd with ⟨rfl, -, -⟩ | ⟨rfl, h, -⟩
      · omega
      · have : e = 0 := by omega
        subst this
        have q : (hm 61 (kf 1) + 0) % 8 = p0 := by omega
        show (if (hm 61 (kf 1) + 0) % 8 = p0 then 0 + 1 else _) ≠ 0
        rw [if_pos q]; omega⟩
  refine inv_congr i2 (fun s hs => ?_) (fun i => ?_) (fun i hi => ?_)
  · rw [gn_upd _ _ e2, gn_upd _ _ e1]
  · constructor
    · intro h; rcases h with h | h | h <;> omega
    · intro h; by_cases q : i = 1
      · exact Or.inl q
      · exact Or.inr (Or.inl (by omega))
  · by_cases q : i = 1
    · rw [if_pos q, q]
    · rw [if_neg q]
      by_cases q' : i = 0
      · rw [if_pos q', q']
      · rw [if_neg q']
def rmL (ks : List Int64) (i : Nat) : List Int64 := (ks.set i (ks.getD (ks.length - 1) 0)).take (ks.length - 1)
theorem rmL_len (ks : List Int64) (i : Nat) : (rmL ks i).length = ks.length - 1 := by rw [rmL, List.length_take, List.length_set]; omega
theorem rmL_get {ks : List Int64} {i j : Nat} (hj : j < ks.length - 1) : (rmL ks i).getD j 0 = if j = i then ks.getD (ks.length - 1) 0 else ks.getD j 0 := by
  rw [rmL]
  simp only [List.getD]
  rw [List.getElem?_take_of_lt hj, List.getElem?_set]
  by_cases q : i = j
  · subst q; rw [if_pos rfl, if_pos (by omega), if_pos rfl]; rfl
  · rw [if_neg q, if_neg (fun e => q e.symm)]
def RemR (ks : List Int64) (k : Int64) (ks' : List Int64) : Prop := (∃ i, i < ks.length ∧ ks.getD i 0 = k ∧ ks' = rmL ks i) ∨ ((∀ i, i < ks.length → ks.getD i 0 ≠ k) ∧ ks' = ks)
theorem rmL_dis {ks : List Int64} {i : Nat} (h : Dis ks) (hi : i < ks.length) : Dis (rmL ks i) := by
  intro a b ha hb e
  rw [rmL_len] at ha hb
  rw [rmL_get ha, rmL_get hb] at e
  by_cases q : a = i <;> by_cases q' : b = i
  · omega
  · rw [if_pos q, if_neg q'] at e; have := h _ _ (by omega) (by omega) e; omega
  · rw [if_neg q, if_pos q'] at e; have := h _ _ (by omega) (by omega) e; omega
  · rw [if_neg q, if_neg q'] at e; exact h _ _ (by omega) (by omega) e
/-- what clear leaves -/
def Cl (S : Nat) (sf : Int32) (sl : Nat → Int32) (kf : Nat → Int64) (P : Nat → Prop) : Prop := (∀ s, s < S → 0 ≤ (sl s).toInt) ∧ Inv S (fun i => hm sf (kf i)) (gn sl) P
/-- the last key goes -/
theorem li_remA {S kn n : Nat} {sf z zv : Int32} {sl sl' : Nat → Int32} {kf : Nat → Int64} {ks : List Int64} {i : Nat} (h : LI S sf z sl kf kn ks) (hn : ks.length = n + 1) (hi : i = n) (hc : Cl S sf sl' kf (fun j => j < ks.length ∧ j ≠ i)) (hz : zv.toInt = (n : Int)) : LI S sf zv sl' kf kn (rmL ks i) := by
  obtain ⟨h1, h2, h3, h4, h5, h6, h7, h8⟩ := h
  refine ⟨h1, h2, by rw [rmL_len, hn]; exact hz, by rw [rmL_len]; omega, fun j hj => ?_, rmL_dis h6 (by omega), hc.1, inv_congr hc.2 (fun _ _ => rfl) (fun j => ?_) (fun _ _ => rfl)⟩
  · rw [rmL_len] at hj
    rw [rmL_get hj, if_neg (by omega)]; exact h5 j (by omega)
  · rw [rmL_len]; constructor
    · intro q; omega
    · intro q; omega
/-- another key goes, the last one takes its place -/
theorem li_remB {S kn n : Nat} {sf z zv iv : Int32} {sl sl' : Nat → Int32} {kf : Nat → Int64} {ks : List Int64} {i r : Nat} (h : LI S sf z sl kf kn ks) (hn : ks.length = n + 1) (hi : i < n) (hc : Cl S sf sl' kf (fun j => j < ks.length ∧ j ≠ i)) (hz : zv.toInt = (n : Int)) (st : Stop S (gn sl') (fun j => updL kf i (kf n) j = kf n) (hm sf (kf n)) r) (hiv : iv.toInt = ((i + 1 : Nat) : Int)) : LI S sf zv (updI sl' r iv) (updL kf i (kf n)) kn (rmL ks i) := by
  obtain ⟨h1, h2, h3, h4, h5, h6, h7, h8⟩ := h
  have ne : ∀ j, j ≠ i → updL kf i (kf n) j = kf j := fun j hj => by rw [updL, if_neg hj]
  have hv : Inv S (fun j => hm sf (updL kf i (kf n) j)) (gn sl') (fun j => j < ks.length ∧ j ≠ i) := inv_congr hc.2 (fun _ _ => rfl) (fun _ => Iff.rfl) (fun j hj => by show hm sf (updL kf i (kf n) j) = hm sf (kf j); rw [ne j hj.2])
  have hg : gn sl' r = n + 1 := stop_hit hv st (i := n) ⟨by omega, by omega⟩ (ne n (by omega)) (fun j hj e => by
    have e' : updL kf i (kf n) j = kf n := e
    rw [ne j hj.2, h5 j hj.1, h5 n (by omega)] at e'
    exact h6 j n hj.1 (by omega) e') (by show hm sf (updL kf i (kf n) n) = _; rw [ne n (by omega)])
  have hr := st.lt
  refine ⟨h1, h2, by rw [rmL_len, hn]; exact hz, by rw [rmL_len]; omega, fun j hj => ?_, rmL_dis h6 (by omega), fun s hs => ?_, ?_⟩
  · rw [rmL_len] at hj
    rw [rmL_get hj]
    by_cases q : j = i
    · rw [if_pos q, updL, if_pos q, h5 n (by omega), show ks.length - 1 = n by omega]
    · rw [if_neg q, ne j q]; exact h5 j (by omega)
  · by_cases q : s = r
    · rw [updI, if_pos q, hiv]; omega
    · rw [updI, if_neg q]; exact hc.1 s hs
  · refine inv_congr (inv_relabel (i := i) hv hr hg (fun q => q.2 rfl) (by omega)) (fun s hs => gn_upd _ _ hiv s) (fun j => ?_) (fun j hj => ?_)
    · rw [rmL_len]; constructor
      · intro q; rcases q with q | q <;> omega
      · intro q; by_cases w : j = i
        · exact Or.inl w
        · exact Or.inr ⟨⟨by omega, w⟩, by omega⟩
    · by_cases q : j = i
      · rw [if_pos q, q, updL, if_pos rfl, ne n (by omega)]
      · rw [if_neg q]
/-- the hole's table beside the array -/
def hol (sl : Nat → Int32) (hole : Nat) (s : Nat) : Nat := if s = hole then 0 else gn sl s
theorem cl_move {S : Nat} (hS : S = 4 ∨ S = 8) {hmm : Nat → Nat} {sl : Nat → Int32} {P : Nat → Prop} {hole K nx : Nat} (h : Part S hmm (hol sl hole) P hole K) (hK : 0 < K) (hKS : K < S) (enx : nx = (hole + K) % S) (h0 : gn sl nx ≠ 0) {d : Nat} (hd : d < S) (hnx : nx = (hmm (gn sl nx - 1) + d) % S) (hge : K ≤ d) : Part S hmm (hol (updI sl hole (sl nx)) nx) P nx 1 := by
  have hne : nx ≠ hole := by have := h.1; rcases hS with rfl | rfl <;> omega
  have e1 : hol sl hole nx = gn sl nx := by rw [hol, if_neg hne]
  have h2 := part_move hS h hK hKS enx (by rw [e1]; exact h0) hd (by rw [e1]; exact hnx) hge
  have e2 : (fun s => if s = nx then 0 else if s = hole then hol sl hole nx else hol sl hole s) = hol (updI sl hole (sl nx)) nx := by
    funext s
    show (if s = nx then 0 else if s = hole then hol sl hole nx else hol sl hole s) = (if s = nx then 0 else gn (updI sl hole (sl nx)) s)
    rw [e1]
    by_cases q : s = nx
    · rw [if_pos q, if_pos q]
    · rw [if_neg q, if_neg q]
      by_cases q' : s = hole
      · rw [if_pos q', gn, gn, updI, if_pos q']
      · rw [if_neg q', gn, updI, if_neg q', hol, if_neg q']; rfl
  rw [e2] at h2
  exact h2
theorem cl_done {S : Nat} (hS : S = 4 ∨ S = 8) {hmm : Nat → Nat} {sl : Nat → Int32} {P : Nat → Prop} {hole K : Nat} (h : Part S hmm (hol sl hole) P hole K) (hK : 0 < K) (hKS : K < S) (h0 : gn sl ((hole + K) % S) = 0) : Inv S hmm (gn (updI sl hole (0 : Int32))) P := by
  have e : ∀ s, gn (updI sl hole (0 : Int32)) s = hol sl hole s := fun s => by
    rw [gn_upd _ _ (show (0 : Int32).toInt = ((0 : Nat) : Int) by decide)]; rfl
  exact inv_congr (part_done hS h hK (by rw [hol]; by_cases q : (hole + K) % S = hole <;> simp [q, h0])) (fun s _ => e s) (fun _ => Iff.rfl) (fun _ _ => rfl)
theorem nxt8 {pp : Int32} {n : Nat} (h : pp.toInt = (n : Int)) (hn : n < 8) : ((pp + (1 : Int32)) &&& (7 : Int32)).toInt = (((n + 1) % 8 : Nat) : Int) := by
  have h1 := c_iadd pp 1
  have h2 := rng32 (pp + 1)
  have h3 : (1 : Int32).toInt = 1 := by decide
  rw [c_mask (pp + 1) 7 3 (by decide) (by decide)]
  omega
theorem z8 : Sz 8 61 := Or.inr ⟨rfl, rfl⟩
theorem rs_ne {p0 p1 : Nat} (h : updI (fun _ => (0 : Int32)) p0 (1 : Int32) p1 = (0 : Int32)) : p1 ≠ p0 := by
  intro e
  rw [updI, if_pos e] at h
  exact absurd h (by decide)
theorem rs_eq {p0 p1 : Nat} (h : ¬ updI (fun _ => (0 : Int32)) p0 (1 : Int32) p1 = (0 : Int32)) : p1 = p0 := by
  refine Classical.byContradiction fun q => h ?_
  rw [updI, if_neg q]
theorem rs_free {p0 p1 : Nat} (hb : p1 < 8) (h : ¬ updI (fun _ => (0 : Int32)) p0 (1 : Int32) p1 = (0 : Int32)) : updI (fun _ => (0 : Int32)) p0 (1 : Int32) ((p1 + 1) % 8) = (0 : Int32) := by
  have := rs_eq h
  rw [updI, if_neg (by omega)]
theorem rs_nn (p0 p1 : Nat) : ∀ s, s < 8 → 0 ≤ (updI (updI (fun _ => (0 : Int32)) p0 (1 : Int32)) p1 (2 : Int32) s).toInt := by
  intro s _
  rw [updI]
  by_cases q : s = p1
  · rw [if_pos q]; decide
  · rw [if_neg q, updI]
    by_cases q' : s = p0
    · rw [if_pos q']; decide
    · rw [if_neg q']; decide
theorem fo_rs {sl : Nat → Int32} {hmm : Nat → Nat} (h1 : ∀ s, s < 8 → 0 ≤ (sl s).toInt) (h2 : Inv 8 hmm (gn sl) (fun i => i < 2)) : Fo 8 61 sl 2 :=
  ⟨z8, by decide, h1, fun s hs hn => h2.1 s hs hn, inv_zero h2 (fun i hi => hi) (by decide)⟩
theorem li_len {S kn : Nat} {sf z : Int32} {sl : Nat → Int32} {kf : Nat → Int64} {ks : List Int64} (h : LI S sf z sl kf kn ks) : z.toInt = (ks.length : Int) ∧ 2 * ks.length ≤ S ∧ 2 * kn = S ∧ (S = 4 ∨ S = 8) := ⟨h.2.2.1, h.2.2.2.1, h.2.1, h.1.or⟩
theorem grow_2 {z : Int32} {n : Nat} (h : z.toInt = (n : Int)) (hn : 2 * n ≤ 4) (hg : (4 : Int32) < ((z + (1 : Int32)) * (2 : Int32))) : z = (2 : Int32) ∧ n = 2 := by
  have h1 := zinc h (by omega)
  have h2 := c_imul (z + (1 : Int32)) 2
  have h3 := rng32 ((z + (1 : Int32)) * 2)
  have h4 : (2 : Int32).toInt = 2 := by decide
  have h5 : (4 : Int32).toInt = 4 := by decide
  rw [Int32.lt_iff_toInt_lt, h5] at hg
  rw [h1, h4] at h2
  have : n = 2 := by omega
  exact ⟨Int32.toInt_inj.mp (by rw [h, h4, this]; rfl), this⟩
theorem grow_n {z : Int32} {n : Nat} (h : z.toInt = (n : Int)) (hn : 2 * n ≤ 4) (hg : ¬ (4 : Int32) < ((z + (1 : Int32)) * (2 : Int32))) : n ≤ 1 := by
  have h1 := zinc h (by omega)
  have h2 := c_imul (z + (1 : Int32)) 2
  have h3 := rng32 ((z + (1 : Int32)) * 2)
  have h4 : (2 : Int32).toInt = 2 := by decide
  have h5 : (4 : Int32).toInt = 4 := by decide
  rw [Int32.lt_iff_toInt_lt, h5] at hg
  rw [h1, h4] at h2
  omega
theorem ne_2 {z : Int32} {n : Nat} (h : z.toInt = (n : Int)) (hn : n ≤ 1) : ¬ z = (2 : Int32) := by
  intro q
  have h4 : (2 : Int32).toInt = 2 := by decide
  rw [q, h4] at h; omega
theorem add_found {S kn : Nat} {sf z : Int32} {sl : Nat → Int32} {kf : Nat → Int64} {ks : List Int64} {k : Int64} {r : Nat} (h : LI S sf z sl kf kn ks) (st : Stop S (gn sl) (fun i => kf i = k) (hm sf k) r) (hz : ¬ sl r = (0 : Int32)) : AddR ks k ks ∧ ∃ i, i < ks.length ∧ ks.getD i 0 = k ∧ gn sl r = i + 1 := by
  rcases mem_or ks k with ⟨i, hi, hk⟩ | hk
  · exact ⟨Or.inl ⟨i, hi, hk, rfl⟩, i, hi, hk, li_hit h st hi hk⟩
  · exact absurd (gn_zero (h.2.2.2.2.2.2.1 r st.lt) (li_miss h st hk)) hz
theorem add_new {S kn : Nat} {sf z : Int32} {sl : Nat → Int32} {kf : Nat → Int64} {ks : List Int64} {k : Int64} {r : Nat} (h : LI S sf z sl kf kn ks) (st : Stop S (gn sl) (fun i => kf i = k) (hm sf k) r) (hz : sl r = (0 : Int32)) : ∀ i, i < ks.length → ks.getD i 0 ≠ k := by
  intro i hi hk
  have := li_hit h st hi hk
  rw [gn_of hz] at this
  omega
theorem li_add4 {z : Int32} {sl : Nat → Int32} {kf : Nat → Int64} {ks : List Int64} {k : Int64} {r : Nat} (h : LI 4 62 z sl kf 2 ks) (st : Stop 4 (gn sl) (fun i => kf i = k) (hm 62 k) r) (hz : sl r = (0 : Int32)) (hn : ks.length ≤ 1) : LI 4 62 (z + (1 : Int32)) (updI sl r (z + (1 : Int32))) (updL kf ks.length k) 2 (ks ++ [k]) := by
  have hw := add_new h st hz
  obtain ⟨h1, h2, h3, h4, h5, h6, h7, h8⟩ := h
  exact li_put h1 h2 (by omega) h5 h6 hw h7 h8 st (zinc h3 (by omega)) (fun i hi => by rw [updL, if_neg (by omega)]) (by rw [updL, if_pos rfl])
theorem li_add8 {z : Int32} {sl sl' : Nat → Int32} {kf : Nat → Int64} {ks : List Int64} {k : Int64} {r r' : Nat} (h : LI 4 62 z sl kf 2 ks) (st : Stop 4 (gn sl) (fun i => kf i = k) (hm 62 k) r) (hz : sl r = (0 : Int32)) (hn : ks.length = 2) (n1 : ∀ s, s < 8 → 0 ≤ (sl' s).toInt) (n2 : Inv 8 (fun i => hm 61 (kf i)) (gn sl') (fun i => i < 2)) (st' : Stop 8 (gn sl') (fun i => kf i = k) (hm 61 k) r') : LI 8 61 (3 : Int32) (updI sl' r' (3 : Int32)) (updL (fun i => if i < 2 then kf i else (0 : Int64)) 2 k) 4 (ks ++ [k]) := by
  have hw := add_new h st hz
  obtain ⟨h1, h2, h3, h4, h5, h6, h7, h8⟩ := h
  exact li_put z8 rfl (by omega) h5 h6 hw n1 (by rw [hn]; exact n2) st' (by rw [hn]; decide) (fun i hi => by rw [updL, if_neg (by omega), if_pos (by omega)]) (by rw [updL, hn, if_pos rfl])
/-- one turn of clear: the entry stays -/
theorem cl_skip {S : Nat} (hS : S = 4 ∨ S = 8) {hmm : Nat → Nat} {sl : Nat → Int32} {P : Nat → Prop} {hole K nx hk : Nat} (h : Part S hmm (hol sl hole) P hole K) (hK : 0 < K) (hKS : K < S) (enx : nx = (hole + K) % S) (h0 : gn sl nx ≠ 0) (hkk : hk = hmm (gn sl nx - 1)) (hkS : hk < S) (hlt : (nx + S - hk) % S < (nx + S - hole) % S) : Part S hmm (hol sl hole) P hole (K + 1) := by
  have hh := h.1
  have hne : nx ≠ hole := by rcases hS with rfl | rfl <;> omega
  have e1 : hol sl hole nx = gn sl nx := by rw [hol, if_neg hne]
  refine part_skip hS h hK hKS (by rw [← enx, e1]; exact h0) (d := (nx + S - hk) % S) (by rcases hS with rfl | rfl <;> omega) ?_ (by rcases hS with rfl | rfl <;> omega)
  rw [← enx, e1, ← hkk]
  rcases hS with rfl | rfl <;> omega
theorem cl_mv {S : Nat} (hS : S = 4 ∨ S = 8) {hmm : Nat → Nat} {sl : Nat → Int32} {P : Nat → Prop} {hole K nx hk : Nat} (h : Part S hmm (hol sl hole) P hole K) (hK : 0 < K) (hKS : K < S) (enx : nx = (hole + K) % S) (h0 : gn sl nx ≠ 0) (hkk : hk = hmm (gn sl nx - 1)) (hkS : hk < S) (hlt : ¬ (nx + S - hk) % S < (nx + S - hole) % S) : Part S hmm (hol (updI sl hole (sl nx)) nx) P nx 1 := by
  have hh := h.1
  refine cl_move hS h hK hKS enx h0 (d := (nx + S - hk) % S) (by rcases hS with rfl | rfl <;> omega) ?_ (by rcases hS with rfl | rfl <;> omega)
  rw [← hkk]
  rcases hS with rfl | rfl <;> omega
theorem nn_upd {S : Nat} {sl : Nat → Int32} {i : Nat} {v : Int32} (h : ∀ s, s < S → 0 ≤ (sl s).toInt) (hv : 0 ≤ v.toInt) : ∀ s, s < S → 0 ≤ (updI sl i v s).toInt := by
  intro s hs
  by_cases q : s = i
  · rw [updI, if_pos q]; exact hv
  · rw [updI, if_neg q]; exact h s hs
theorem gn_ne {sl : Nat → Int32} {i s : Nat} {v : Int32} (h : s ≠ i) : gn (updI sl i v) s = gn sl s := by rw [gn, gn, updI, if_neg h]
theorem bd_upd {S kn : Nat} {sl : Nat → Int32} {i x : Nat} (h : ∀ s, s < S → gn sl s ≠ 0 → gn sl s - 1 < kn) (hx : x < S) : ∀ s, s < S → gn (updI sl i (sl x)) s ≠ 0 → gn (updI sl i (sl x)) s - 1 < kn := by
  intro s hs hn
  by_cases q : s = i
  · have e : gn (updI sl i (sl x)) s = gn sl x := by rw [gn, gn, updI, if_pos q]
    rw [e] at hn ⊢; exact h x hx hn
  · rw [gn_ne q] at hn ⊢; exact h s hs hn
theorem lt_toI {a b : Int32} {x y : Nat} (h1 : a.toInt = (x : Int)) (h2 : b.toInt = (y : Int)) (h : a < b) : x < y := by
  rw [Int32.lt_iff_toInt_lt] at h; omega
theorem ge_toI {a b : Int32} {x y : Nat} (h1 : a.toInt = (x : Int)) (h2 : b.toInt = (y : Int)) (h : ¬ a < b) : ¬ x < y := by
  rw [Int32.lt_iff_toInt_lt] at h; omega
theorem cl_fo {S kn : Nat} {sf z : Int32} {sl sl' : Nat → Int32} {kf kf' : Nat → Int64} {ks : List Int64} {i : Nat} (h : LI S sf z sl kf kn ks) (hc : Cl S sf sl' kf (fun j => j < ks.length ∧ j ≠ i)) : Fo S sf sl' kn := by
  obtain ⟨h1, h2, h3, h4, h5, h6, h7, h8⟩ := h
  have hS := h1.or
  refine ⟨h1, by omega, hc.1, fun s hs hn => ?_, inv_zero hc.2 (fun i hi => hi.1) (by omega)⟩
  have := (hc.2.1 s hs hn).1
  omega
theorem no_shrink {z : Int32} {n S : Nat} (h : z.toInt = (n : Int)) (hn : 1 ≤ n) (hn4 : n ≤ 100) (hS : S = 8) : ¬ (z * (8 : Int32)) < (Int32.ofNat S) := by
  subst hS
  have h2 := c_imul z 8
  have h3 := rng32 (z * 8)
  have h4 : (8 : Int32).toInt = 8 := by decide
  have h5 : (Int32.ofNat 8).toInt = 8 := by decide
  rw [Int32.lt_iff_toInt_lt, h5]
  rw [h, h4] at h2
  omega
theorem is_8 {S : Nat} (hS : S = 4 ∨ S = 8) (h : (4 : Int32) < (Int32.ofNat S)) : S = 8 := by
  rcases hS with rfl | rfl
  · exact absurd h (by decide)
  · rfl
def GIn (ks : List Int64) (k : Int64) : Prop := ∃ j, j < ks.length ∧ ks.getD j 0 = k
def gup {α : Type} (f : Nat → α) (k : Nat) (x : α) : Nat → α := fun i => if i = k then x else f i
theorem gup_same {α : Type} (f : Nat → α) (k : Nat) (x : α) : gup f k x k = x := if_pos rfl
theorem gup_ne {α : Type} {f : Nat → α} {k i : Nat} {x : α} (h : i ≠ k) : gup f k x i = f i := if_neg h
/-- x's list of neighbours holds y -/
def GEd (c : Nat) (KS : Nat → List Int64) (x y : Int64) : Prop := ∃ i, i < c ∧ (KS 0).getD i 0 = x ∧ GIn (KS (i + 1)) y
def Sm (a b p q : Int64) : Prop := (a = p ∧ b = q) ∨ (a = q ∧ b = p)
/-- what neighboursOf(k) makes of the lists: k's place is i -/
def NbR (c : Nat) (KS : Nat → List Int64) (k : Int64) (c' : Nat) (KS' : Nat → List Int64) (i : Nat) : Prop :=
  i < c' ∧ (KS' 0).getD i 0 = k ∧ ((c' = c ∧ KS' = KS) ∨ (¬ GIn (KS 0) k ∧ c' = c + 1 ∧ i = c ∧ KS' 0 = KS 0 ++ [k] ∧ (∀ j, 1 ≤ j → j ≤ c → KS' j = KS j) ∧ KS' (c + 1) = []))
theorem gin_nil (k : Int64) : ¬ GIn [] k := fun ⟨_, h, _⟩ => absurd h (Nat.not_lt_zero _)
theorem nb_old {c c' i j : Nat} {KS KS' : Nat → List Int64} {k : Int64} (hc : (KS 0).length = c) (h : NbR c KS k c' KS' i) (hj : j < c) : (KS' 0).getD j 0 = (KS 0).getD j 0 := by
  obtain ⟨-, -, ⟨-, rfl⟩ | ⟨-, -, -, e, -, -⟩⟩ := h
  · rfl
  · rw [e, getD_app, if_pos (by omega)]
theorem nb_c {c c' i : Nat} {KS KS' : Nat → List Int64} {k : Int64} (h : NbR c KS k c' KS' i) : c ≤ c' ∧ c' ≤ c + 1 := by
  obtain ⟨-, -, ⟨e, -⟩ | ⟨-, e, -⟩⟩ := h <;> omega
theorem nb_len0 {c c' i : Nat} {KS KS' : Nat → List Int64} {k : Int64} (hc : (KS 0).length = c) (h : NbR c KS k c' KS' i) : (KS' 0).length = c' := by
  obtain ⟨-, -, ⟨e, rfl⟩ | ⟨-, e, -, e0, -, -⟩⟩ := h
  · rw [e]; exact hc
  · rw [e0, List.length_append, e, hc]; rfl
theorem nb_found {c c' i : Nat} {KS KS' : Nat → List Int64} {k : Int64} (h : NbR c KS k c' KS' i) (hk : GIn (KS 0) k) : c' = c ∧ KS' = KS := by
  obtain ⟨-, -, h | ⟨e, -⟩⟩ := h
  · exact h
  · exact absurd hk e
theorem nb_in {c c' i : Nat} {KS KS' : Nat → List Int64} {k x : Int64} (hc : (KS 0).length = c) (h : NbR c KS k c' KS' i) (hk : GIn (KS 0) x) : GIn (KS' 0) x := by
  obtain ⟨j, h1, h2⟩ := hk
  have h3 := nb_c h
  exact ⟨j, by rw [nb_len0 hc h]; omega, by rw [nb_old hc h (by omega)]; exact h2⟩
theorem nb_list {c c' i : Nat} {KS KS' : Nat → List Int64} {k : Int64} (h : NbR c KS k c' KS' i) {j : Nat} (hj : j < c') : (j < c ∧ KS' (j + 1) = KS (j + 1)) ∨ (j = c ∧ KS' (j + 1) = [] ∧ i = c) := by
  obtain ⟨-, -, ⟨rfl, rfl⟩ | ⟨-, rfl, e2, -, e3, e4⟩⟩ := h
  · exact Or.inl ⟨hj, rfl⟩
  · by_cases q : j = c
    · subst q; exact Or.inr ⟨rfl, e4, e2⟩
    · exact Or.inl ⟨by omega, e3 _ (by omega) (by omega)⟩
theorem nb_len {c c' i L : Nat} {KS KS' : Nat → List Int64} {k : Int64} (h : NbR c KS k c' KS' i) (hL : ∀ j, j < c → (KS (j + 1)).length ≤ L) : ∀ j, j < c' → (KS' (j + 1)).length ≤ L := by
  intro j hj
  rcases nb_list h hj with ⟨h1, h2⟩ | ⟨-, h2, -⟩
  · rw [h2]; exact hL j h1
  · rw [h2]; exact Nat.zero_le _
theorem nb_ed {c c' i : Nat} {KS KS' : Nat → List Int64} {k : Int64} (hc : (KS 0).length = c) (h : NbR c KS k c' KS' i) (x y : Int64) : GEd c' KS' x y ↔ GEd c KS x y := by
  have h3 := nb_c h
  constructor
  · rintro ⟨j, h1, h2, h4⟩
    rcases nb_list h h1 with ⟨q1, q2⟩ | ⟨-, q2, -⟩
    · exact ⟨j, q1, by rw [← nb_old hc h q1]; exact h2, by rw [← q2]; exact h4⟩
    · rw [q2] at h4; exact absurd h4 (gin_nil y)
  · rintro ⟨j, h1, h2, h4⟩
    rcases nb_list h (show j < c' by omega) with ⟨q1, q2⟩ | ⟨q1, -⟩
    · exact ⟨j, by omega, by rw [nb_old hc h h1]; exact h2, by rw [q2]; exact h4⟩
    · omega
theorem addR_len {ks ks' : List Int64} {k : Int64} {m : Nat} (h : AddR ks k ks') (hm : ks.length ≤ m) : ks'.length ≤ m + 1 := by
  rcases h with ⟨-, -, -, rfl⟩ | ⟨-, rfl⟩
  · omega
  · rw [List.length_append]; simp; omega
theorem add_in {ks ks' : List Int64} {q : Int64} (h : AddR ks q ks') (y : Int64) : GIn ks' y ↔ GIn ks y ∨ y = q := by
  rcases h with ⟨i, h1, h2, rfl⟩ | ⟨h1, rfl⟩
  · exact ⟨Or.inl, fun h => h.elim id fun e => ⟨i, h1, by rw [h2, e]⟩⟩
  · constructor
    · rintro ⟨j, h2, h3⟩
      rw [List.length_append] at h2
      have h2 : j < ks.length + 1 := h2
      rw [getD_app] at h3
      by_cases e : j < ks.length
      · rw [if_pos e] at h3; exact Or.inl ⟨j, e, h3⟩
      · rw [if_neg e, if_pos (by omega)] at h3; exact Or.inr h3.symm
    · rintro (⟨j, h2, h3⟩ | rfl)
      · exact ⟨j, by rw [List.length_append]; exact Nat.lt_of_lt_of_le h2 (Nat.le_add_right _ _), by rw [getD_app, if_pos h2]; exact h3⟩
      · exact ⟨ks.length, by rw [List.length_append]; exact Nat.lt_succ_self _, by rw [getD_app, if_neg (Nat.lt_irrefl _), if_pos rfl]⟩
theorem add_ed {c i : Nat} {KS : Nat → List Int64} {q : Int64} {ks' : List Int64} (hi : i < c) (h : AddR (KS (i + 1)) q ks') (x y : Int64) : GEd c (gup KS (i + 1) ks') x y ↔ GEd c KS x y ∨ (x = (KS 0).getD i 0 ∧ y = q) := by
  have e0 : gup KS (i + 1) ks' 0 = KS 0 := gup_ne (by omega)
  constructor
  · rintro ⟨j, h1, h2, h3⟩
    rw [e0] at h2
    by_cases e : j = i
    · subst e
      rw [gup_same] at h3
      rcases (add_in h y).mp h3 with h4 | h4
      · exact Or.inl ⟨j, h1, h2, h4⟩
      · exact Or.inr ⟨h2.symm, h4⟩
    · rw [gup_ne (by omega)] at h3; exact Or.inl ⟨j, h1, h2, h3⟩
  · rintro (⟨j, h1, h2, h3⟩ | ⟨h1, h2⟩)
    · refine ⟨j, h1, by rw [e0]; exact h2, ?_⟩
      by_cases e : j = i
      · subst e; rw [gup_same]; exact (add_in h y).mpr (Or.inl h3)
      · rw [gup_ne (by omega)]; exact h3
    · exact ⟨i, hi, by rw [e0]; exact h1.symm, by rw [gup_same]; exact (add_in h y).mpr (Or.inr h2)⟩
theorem add_len {c i L : Nat} {KS : Nat → List Int64} {ks' : List Int64} (h : ks'.length ≤ L + 1) (hL : ∀ j, j < c → j ≠ i → (KS (j + 1)).length ≤ L + 1) : ∀ j, j < c → (gup KS (i + 1) ks' (j + 1)).length ≤ L + 1 := by
  intro j hj
  by_cases e : j = i
  · subst e; rw [gup_same]; exact h
  · rw [gup_ne (by omega)]; exact hL j hj e
/-- add(p, q), its four steps together -/
theorem all_add {c c1 c3 i1 i2 : Nat} {KS KS1 KS3 : Nat → List Int64} {p q : Int64} {x1 x2 : List Int64} (hc : (KS 0).length = c) (hpq : p ≠ q) (h1 : NbR c KS p c1 KS1 i1) (h2 : AddR (KS1 (i1 + 1)) q x1) (h3 : NbR c1 (gup KS1 (i1 + 1) x1) q c3 KS3 i2) (h4 : AddR (KS3 (i2 + 1)) p x2) :
    ∀ x y, GEd c3 (gup KS3 (i2 + 1) x2) x y ↔ GEd c KS x y ∨ Sm x y p q := by
  intro x y
  have e0 : gup KS1 (i1 + 1) x1 0 = KS1 0 := gup_ne (by omega)
  have l1 := nb_len0 hc h1
  rw [add_ed h3.1 h4, nb_ed (by rw [e0]; exact l1) h3, add_ed h1.1 h2, nb_ed hc h1, h3.2.1, h1.2.1]
  constructor
  · rintro ((h | h) | h)
    · exact Or.inl h
    · exact Or.inr (Or.inl h)
    · exact Or.inr (Or.inr h)
  · rintro (h | h | h)
    · exact Or.inl (Or.inl h)
    · exact Or.inl (Or.inr h)
    · exact Or.inr h
theorem mid_len {c c1 c3 i1 i2 L : Nat} {KS KS1 KS3 : Nat → List Int64} {p q : Int64} {x1 : List Int64} (hc : (KS 0).length = c) (hpq : p ≠ q) (h1 : NbR c KS p c1 KS1 i1) (h3 : NbR c1 (gup KS1 (i1 + 1) x1) q c3 KS3 i2) (hL : ∀ j, j < c → (KS (j + 1)).length ≤ L) : (KS3 (i2 + 1)).length ≤ L := by
  have e0 : gup KS1 (i1 + 1) x1 0 = KS1 0 := gup_ne (by omega)
  have l1 := nb_len0 hc h1
  have n12 : i2 ≠ i1 := by
    intro e
    subst e
    have h5 := nb_old (by rw [e0]; exact l1) h3 h1.1
    rw [h3.2.1, e0, h1.2.1] at h5
    exact hpq h5.symm
  rcases nb_list h3 h3.1 with ⟨a1, a2⟩ | ⟨-, a2, -⟩
  · rw [a2, gup_ne (by omega)]
    exact nb_len h1 hL i2 a1
  · rw [a2]; exact Nat.zero_le _
theorem end_len {c c1 c3 i1 i2 L : Nat} {KS KS1 KS3 : Nat → List Int64} {p q : Int64} {x1 x2 : List Int64} (h1 : NbR c KS p c1 KS1 i1) (b1 : x1.length ≤ L + 1) (h3 : NbR c1 (gup KS1 (i1 + 1) x1) q c3 KS3 i2) (b2 : x2.length ≤ L + 1) (hL : ∀ j, j < c → (KS (j + 1)).length ≤ L) : ∀ j, j < c3 → (gup KS3 (i2 + 1) x2 (j + 1)).length ≤ L + 1 :=
  add_len b2 fun j hj _ => nb_len h3 (add_len b1 fun j hj _ => Nat.le_succ_of_le (nb_len h1 hL j hj)) j hj
theorem rm_in {ks ks' : List Int64} {q : Int64} (hd : Dis ks) (h : RemR ks q ks') (y : Int64) : GIn ks' y ↔ GIn ks y ∧ y ≠ q := by
  rcases h with ⟨i, h1, h2, rfl⟩ | ⟨h1, rfl⟩
  · constructor
    · rintro ⟨j, h3, h4⟩
      rw [rmL_len] at h3
      rw [rmL_get h3] at h4
      by_cases e : j = i
      · subst e
        rw [if_pos rfl] at h4
        refine ⟨⟨ks.length - 1, by omega, h4⟩, fun e2 => ?_⟩
        have := hd (ks.length - 1) j (by omega) h1 (by rw [h4, h2, e2])
        omega
      · rw [if_neg e] at h4
        refine ⟨⟨j, by omega, h4⟩, fun e2 => e (hd j i (by omega) h1 (by rw [h4, h2, e2]))⟩
    · rintro ⟨⟨j, h3, h4⟩, h5⟩
      have hji : j ≠ i := fun e => by subst e; exact h5 (h4.symm.trans h2)
      by_cases e : j = ks.length - 1
      · exact ⟨i, by rw [rmL_len]; omega, by rw [rmL_get (by omega), if_pos rfl, ← e]; exact h4⟩
      · exact ⟨j, by rw [rmL_len]; omega, by rw [rmL_get (by omega), if_neg hji]; exact h4⟩
  · exact ⟨fun h => ⟨h, fun e => by obtain ⟨j, h3, h4⟩ := h; exact h1 j h3 (h4.trans e)⟩, fun h => h.1⟩
theorem rem_ed {c i : Nat} {KS : Nat → List Int64} {k b : Int64} {ks' : List Int64} (hc : (KS 0).length = c) (hd0 : Dis (KS 0)) (hi : i < c) (hk : (KS 0).getD i 0 = k) (hd : Dis (KS (i + 1))) (h : RemR (KS (i + 1)) b ks') (x y : Int64) : GEd c (gup KS (i + 1) ks') x y ↔ GEd c KS x y ∧ ¬ (x = k ∧ y = b) := by
  have e0 : gup KS (i + 1) ks' 0 = KS 0 := gup_ne (by omega)
  constructor
  · rintro ⟨j, h1, h2, h3⟩
    rw [e0] at h2
    by_cases e : j = i
    · subst e
      rw [gup_same] at h3
      obtain ⟨h4, h5⟩ := (rm_in hd h y).mp h3
      exact ⟨⟨j, h1, h2, h4⟩, fun z => h5 z.2⟩
    · rw [gup_ne (by omega)] at h3
      exact ⟨⟨j, h1, h2, h3⟩, fun z => e (hd0 j i (by omega) (by omega) (by rw [h2, hk, z.1]))⟩
  · rintro ⟨⟨j, h1, h2, h3⟩, h4⟩
    refine ⟨j, h1, by rw [e0]; exact h2, ?_⟩
    by_cases e : j = i
    · subst e; rw [gup_same]; exact (rm_in hd h y).mpr ⟨h3, fun z => h4 ⟨h2.symm.trans hk, z⟩⟩
    · rw [gup_ne (by omega)]; exact h3
theorem rem_ed0 {cl i : Nat} {KS KS' : Nat → List Int64} {k b : Int64} {ns : List Int64} (hc : (KS 0).length = cl + 1) (hd0 : Dis (KS 0)) (hi : i < cl + 1) (hk : (KS 0).getD i 0 = k) (hd : Dis (KS (i + 1))) (h : RemR (KS (i + 1)) b []) (hn : RemR (KS 0) k ns)
    (e0 : KS' 0 = ns) (e1 : ∀ j, j < cl → KS' (j + 1) = if j = i then KS (cl + 1) else KS (j + 1)) (x y : Int64) : GEd cl KS' x y ↔ GEd (cl + 1) KS x y ∧ ¬ (x = k ∧ y = b) := by
  have en : ns = rmL (KS 0) i := by
    rcases hn with ⟨j, h1, h2, rfl⟩ | ⟨h1, -⟩
    · rw [hd0 j i h1 (by omega) (by rw [h2, hk])]
    · exact absurd hk (h1 i (by omega))
  have eg : ∀ j, j < cl → (KS' 0).getD j 0 = if j = i then (KS 0).getD cl 0 else (KS 0).getD j 0 := fun j hj => by
    rw [e0, en, rmL_get (by omega), show (KS 0).length - 1 = cl by omega]
  constructor
  · rintro ⟨j, h1, h2, h3⟩
    rw [eg j h1] at h2
    rw [e1 j h1] at h3
    by_cases e : j = i
    · rw [if_pos e] at h2 h3
      exact ⟨⟨cl, by omega, h2, h3⟩, fun z => by have := hd0 cl i (by omega) (by omega) (by rw [h2, hk, z.1]); omega⟩
    · rw [if_neg e] at h2 h3
      exact ⟨⟨j, by omega, h2, h3⟩, fun z => e (hd0 j i (by omega) (by omega) (by rw [h2, hk, z.1]))⟩
  · rintro ⟨⟨j, h1, h2, h3⟩, h4⟩
    have hji : j ≠ i := fun e => by
      subst e
      have := (rm_in hd h y).mpr ⟨h3, fun z => h4 ⟨h2.symm.trans hk, z⟩⟩
      exact gin_nil y this
    by_cases e : j = cl
    · subst e
      exact ⟨i, by omega, by rw [eg i (by omega), if_pos rfl]; exact h2, by rw [e1 i (by omega), if_pos rfl]; exact h3⟩
    · exact ⟨j, by omega, by rw [eg j (by omega), if_neg hji]; exact h2, by rw [e1 j (by omega), if_neg hji]; exact h3⟩
theorem rem_len {ks ns : List Int64} {k : Int64} {n i : Nat} (h : RemR ks k ns) (hi : i < ks.length) (hk : ks.getD i 0 = k) (hn : ks.length = n + 1) : ns.length = n := by
  rcases h with ⟨j, h1, h2, rfl⟩ | ⟨h1, -⟩
  · rw [rmL_len]; omega
  · exact absurd hk (h1 i hi)
theorem idx_in {ks : List Int64} {k : Int64} {r : Int32} (h : IdxR ks k r) (hk : GIn ks k) : ∃ i, i < ks.length ∧ ks.getD i 0 = k ∧ r.toInt = ((i : Nat) : Int) := by
  rcases h with h | ⟨h, -⟩
  · exact h
  · obtain ⟨j, h1, h2⟩ := hk; exact absurd h2 (h j h1)
theorem idx_app {ks : List Int64} {k : Int64} {r : Int32} (h : IdxR (ks ++ [k]) k r) (hk : ¬ GIn ks k) : r.toInt = (ks.length : Int) := by
  rcases h with ⟨i, h1, h2, h3⟩ | ⟨h, -⟩
  · rw [List.length_append] at h1
    have h1 : i < ks.length + 1 := h1
    rw [getD_app] at h2
    by_cases e : i < ks.length
    · rw [if_pos e] at h2; exact absurd ⟨i, e, h2⟩ hk
    · rw [h3, show i = ks.length by omega]
  · exact absurd (by rw [getD_app, if_neg (Nat.lt_irrefl _), if_pos rfl]) (h ks.length (by rw [List.length_append]; exact Nat.lt_succ_self _))
theorem idx_ne16 {ks : List Int64} {k : Int64} {r : Int32} (h : IdxR ks k r) (hl : ks.length ≤ 4) : ¬ r = (16 : Int32) := by
  rintro rfl
  have t : (16 : Int32).toInt = 16 := by decide
  rcases h with ⟨i, h1, -, h3⟩ | ⟨-, h3⟩
  · rw [t] at h3; omega
  · exact absurd h3 (by decide)
theorem addR_new {ks ks' : List Int64} {k : Int64} (h : AddR ks k ks') (hk : ¬ GIn ks k) : ks' = ks ++ [k] := by
  rcases h with ⟨i, h1, h2, -⟩ | ⟨-, h⟩
  · exact absurd ⟨i, h1, h2⟩ hk
  · exact h
theorem neg_idx {ks : List Int64} {k : Int64} {r : Int32} (h : IdxR ks k r) (hn : r < (0 : Int32)) : ¬ GIn ks k := by
  rcases h with ⟨i, -, -, hr⟩ | ⟨h, -⟩
  · have t0 : (0 : Int32).toInt = 0 := by decide
    rw [Int32.lt_iff_toInt_lt, t0, hr] at hn; omega
  · exact fun ⟨j, h1, h2⟩ => h j h1 h2
theorem pos_idx {ks : List Int64} {k : Int64} {r : Int32} (h : IdxR ks k r) (hn : ¬ r < (0 : Int32)) : ∃ i, i < ks.length ∧ ks.getD i 0 = k ∧ r.toInt = ((i : Nat) : Int) := by
  rcases h with h | ⟨-, h⟩
  · exact h
  · exact absurd (by rw [h]; decide) hn
theorem ed_no {c : Nat} {KS : Nat → List Int64} {x y : Int64} (hc : (KS 0).length = c) (h : ¬ GIn (KS 0) x) : ¬ GEd c KS x y := fun ⟨i, h1, h2, _⟩ => h ⟨i, by omega, h2⟩
theorem ed_at {c i : Nat} {KS : Nat → List Int64} {x y : Int64} (hc : (KS 0).length = c) (hd : Dis (KS 0)) (hi : i < c) (hk : (KS 0).getD i 0 = x) : GEd c KS x y ↔ GIn (KS (i + 1)) y := by
  constructor
  · rintro ⟨j, h1, h2, h3⟩
    have e := hd j i (by omega) (by omega) (by rw [h2, hk])
    subst e; exact h3
  · exact fun h => ⟨i, hi, hk, h⟩
theorem ed_node {c : Nat} {KS : Nat → List Int64} {x y : Int64} (hc : (KS 0).length = c) (h : GEd c KS x y) : GIn (KS 0) x := by
  obtain ⟨i, h1, h2, -⟩ := h; exact ⟨i, by omega, h2⟩
theorem sm_swap {a b p q : Int64} : Sm a b p q ↔ Sm a b q p := ⟨Or.symm, Or.symm⟩
theorem sm_congr {a b u v p q : Int64} (h : Sm a b u v) : Sm a b p q ↔ Sm u v p q := by
  rcases h with ⟨rfl, rfl⟩ | ⟨rfl, rfl⟩
  · exact Iff.rfl
  · exact ⟨fun h => h.elim (fun z => Or.inr ⟨z.2, z.1⟩) (fun z => Or.inl ⟨z.2, z.1⟩), fun h => h.elim (fun z => Or.inr ⟨z.2, z.1⟩) (fun z => Or.inl ⟨z.2, z.1⟩)⟩
/-- what the law expects, in its own words -/
def Fexp (s2 dr : Int32) (rp rq u v t a b : Int64) : Prop := (¬ (dr ≠ 0 ∧ Sm u v rp rq) ∧ Sm a b u v) ∨ ((s2 ≠ 0 ∧ ¬ (dr ≠ 0 ∧ Sm v t rp rq)) ∧ Sm a b v t)
theorem fexp_iff {s2 dr : Int32} {rp rq u v t a b : Int64} : Fexp s2 dr rp rq u v t a b ↔ (Sm a b u v ∨ (s2 ≠ 0 ∧ Sm a b v t)) ∧ ¬ (dr ≠ 0 ∧ Sm a b rp rq) := by
  constructor
  · rintro (⟨h1, h2⟩ | ⟨⟨h1, h2⟩, h3⟩)
    · exact ⟨Or.inl h2, fun z => h1 ⟨z.1, (sm_congr h2).mp z.2⟩⟩
    · exact ⟨Or.inr ⟨h1, h3⟩, fun z => h2 ⟨z.1, (sm_congr h3).mp z.2⟩⟩
  · rintro ⟨h1 | ⟨h1, h2⟩, h3⟩
    · exact Or.inl ⟨fun z => h3 ⟨z.1, (sm_congr h1).mpr z.2⟩, h1⟩
    · exact Or.inr ⟨⟨h1, fun z => h3 ⟨z.1, (sm_congr h2).mpr z.2⟩⟩, h2⟩
theorem res_is {r : Int32} {P Q : Prop} (h : (r = 1 ∧ P) ∨ (r = 0 ∧ ¬ P)) (e : P ↔ Q) : (r = 1 ∧ Q) ∨ (r = 0 ∧ ¬ Q) := by rw [← e]; exact h
theorem res_1 {r : Int32} {P : Prop} (h : (r = 1 ∧ P) ∨ (r = 0 ∧ ¬ P)) (p : P) : r = 1 := h.elim (fun z => z.1) (fun z => absurd p z.2)
theorem res_0 {r : Int32} {P : Prop} (h : (r = 1 ∧ P) ∨ (r = 0 ∧ ¬ P)) (p : ¬ P) : r = 0 := h.elim (fun z => absurd z.2 p) (fun z => z.1)
section Graph
variable {p : Program} {l : Launch} {e : Env} {R : Room} {s : State} {m : MethodId} {args : Array Value} {below : List Frame} {meth : Method} {c : Code} {T : State} {locs : List Loc} {cells slots : Nat} {Z : State} {a0 : Array Value} {h h0 h' : Heap} {a b : Addr} {ty : FieldType} {n : Nat} {f : Nat → Value}
/-- the array at a is over C's own class -/
def OvA (Z : State) (h : Heap) (a : Addr) (C : String) : Prop := ∃ c : Cell, h[a]? = some c ∧ Ovr Z c.cls C
theorem OvA.keep {C : String} {ws : List Addr} (O : OvA Z h a C) (K : Keep h h' ws) : OvA Z h' a C := by
  obtain ⟨c, h1, h2⟩ := O
  obtain ⟨c', q1, q2, -⟩ := K.2.2 a c h1
  exact ⟨c', q1, by rw [q2]; exact h2⟩
theorem OvA.ext {C : String} (O : OvA Z h a C) (E : Ext h h') : OvA Z h' a C := by
  obtain ⟨c, h1, h2⟩ := O
  exact ⟨c, E.2 _ _ h1, h2⟩
theorem own_aastore (X : Stand p l e R s m args below meth c T locs cells slots) (hx : p.tables.exec = Jvm.exec) (hZ : Z.Warmed39 s.vm) (eT : T.heap = h) (F : FA Z h a ty n f) (hty : ty.isReference = true) {j : Int32} {v : Value} (k : Nat) (hk : j.toInt = (k : Int)) (hl : k < n) (S : Sto Z h a v)
    {g : JFrame} (hg : g.method = m) {rest : List Value} (hs : g.stack = v :: .int j :: .ref a :: rest) (hd : decode c.code g.pc = .ok (.aastore, 1)) :
    ∃ T' h', Stand p l e R s m args below meth c T' (locs ++ [⟨a, k⟩]) cells slots ∧ T'.heap = h' ∧ Wr h h' a k v ∧ ∀ target, Steps p.tables e below (T'.setTop { g with pc := g.pc + 1, stack := rest }) target → Steps p.tables e below (T.setTop g) target := by
  obtain ⟨cl, A, r1, r2, r3⟩ := F
  have q := stR X hx hZ eT A (inb hk r1 hl) hty S hg hs hd
  rw [(nat_at hk).1] at q
  exact q
theorem sto_ref {C : String} {y : Addr} (F : FA Z h a ty n f) (O : OvA Z h a C) (E : Exa Z h y C) : Sto Z h a (.ref y) := by
  obtain ⟨cl, A, -⟩ := F
  obtain ⟨c, q1, q2⟩ := O
  cases A.1.symm.trans q1
  exact Sto.of A q2 (Ins.self E)
end Graph
theorem ne_sl : "com/example/tristream/tristream/SampleGraph" ≠ "com/example/tristream/tristream/LongIndex" := by decide
theorem ne_el : "com/example/tristream/tristream/Edge" ≠ "com/example/tristream/tristream/LongIndex" := by decide
theorem ne_se : "com/example/tristream/tristream/SampleGraph" ≠ "com/example/tristream/tristream/Edge" := by decide
section Graph2
variable {Z : State} {a0 : Array Value} {h h0 h' : Heap} {a b kb sb : Addr} {S : Nat} {ks : List Int64}
/-- a LongIndex at a, with its arrays at kb and sb, that holds the keys ks -/
def LIO (Z : State) (h : Heap) (a kb sb : Addr) (S : Nat) (ks : List Int64) : Prop :=
  ∃ (z sf : Int32) (kn : Nat) (kf : Nat → Int64) (sl : Nat → Int32), Obj Z h a "com/example/tristream/tristream/LongIndex" sch_li [(.ref kb), (.ref sb), (.int sf), (.int z)] ∧ FA Z h kb .long kn (fun i => .long (kf i)) ∧ FA Z h sb .int S (fun i => .int (sl i)) ∧ LI S sf z sl kf kn ks
theorem LIO.keep {ws : List Addr} (P : LIO Z h a kb sb S ks) (K : Keep h h' ws) (q : a ∉ ws ∧ kb ∉ ws ∧ sb ∉ ws) : LIO Z h' a kb sb S ks := by
  obtain ⟨z, sf, kn, kf, sl, h1, h2, h3, h4⟩ := P
  exact ⟨z, sf, kn, kf, sl, h1.keep K q.1, h2.keep K q.2.1, h3.keep K q.2.2, h4⟩
theorem LIO.ext (P : LIO Z h a kb sb S ks) (E : Ext h h') : LIO Z h' a kb sb S ks := by
  obtain ⟨z, sf, kn, kf, sl, h1, h2, h3, h4⟩ := P
  exact ⟨z, sf, kn, kf, sl, h1.ext E, h2.ext E, h3.ext E, h4⟩
theorem LIO.lt (P : LIO Z h a kb sb S ks) : a < h.size ∧ kb < h.size ∧ sb < h.size := by
  obtain ⟨z, sf, kn, kf, sl, h1, h2, h3, h4⟩ := P
  exact ⟨h1.lt, h2.lt, h3.lt⟩
theorem LIO.exa (P : LIO Z h a kb sb S ks) : Exa Z h a "com/example/tristream/tristream/LongIndex" := by
  obtain ⟨z, sf, kn, kf, sl, h1, -⟩ := P
  exact h1.exa
theorem LIO.dis (P : LIO Z h a kb sb S ks) : Dis ks := by
  obtain ⟨z, sf, kn, kf, sl, -, -, -, h4⟩ := P
  exact h4.2.2.2.2.2.1
theorem LIO.le (P : LIO Z h a kb sb S ks) : 2 * ks.length ≤ S := by
  obtain ⟨z, sf, kn, kf, sl, -, -, -, h4⟩ := P
  exact h4.2.2.2.1
theorem LIO.ne (wi : (Cond.instantiable "com/example/tristream/tristream/LongIndex" 4).before a0 Z = true) {a' kb' sb' : Addr} {S' : Nat} {ks' : List Int64} (P : LIO Z h a kb sb S ks) (P' : LIO Z h a' kb' sb' S' ks') : a ≠ kb' ∧ a ≠ sb' ∧ kb ≠ sb' := by
  obtain ⟨z, sf, kn, kf, sl, h1, h2, h3, -⟩ := P
  obtain ⟨z', sf', kn', kf', sl', g1, g2, g3, -⟩ := P'
  exact ⟨h1.ne_fa wi g2, h1.ne_fa wi g3, h2.ne_ty g3 (by decide)⟩
theorem LIO.neF (wi : (Cond.instantiable "com/example/tristream/tristream/LongIndex" 4).before a0 Z = true) {nb : Addr} {C : String} {n : Nat} {f : Nat → Value} (P : LIO Z h a kb sb S ks) (F : FA Z h nb (.object C) n f) : a ≠ nb ∧ kb ≠ nb ∧ sb ≠ nb := by
  obtain ⟨z, sf, kn, kf, sl, h1, h2, h3, -⟩ := P
  exact ⟨h1.ne_fa wi F, h2.ne_ty F (fun q => by cases q), h3.ne_ty F (fun q => by cases q)⟩
theorem LIO.neO {D : String} {kk : Nat} {sch : List (String × String)} {vs : List Value} {x : Addr} (hD : D ≠ "com/example/tristream/tristream/LongIndex") (wd : (Cond.instantiable D kk).before a0 Z = true) (P : LIO Z h a kb sb S ks) (O : Obj Z h x D sch vs) : x ≠ a ∧ x ≠ kb ∧ x ≠ sb := by
  obtain ⟨z, sf, kn, kf, sl, h1, h2, h3, -⟩ := P
  exact ⟨O.exa.ne h1.exa hD, O.ne_fa wd h2, O.ne_fa wd h3⟩
-- a graph's parts: nodes at 0, the neighbours of the i-th node at i + 1
abbrev GSt : Type := Addr × Nat × (Nat → Addr) × (Nat → Addr) × (Nat → Addr) × (Nat → Nat) × (Nat → List Int64)
abbrev GSt.nb (G : GSt) : Addr := G.1
abbrev GSt.c (G : GSt) : Nat := G.2.1
abbrev GSt.A (G : GSt) : Nat → Addr := G.2.2.1
abbrev GSt.KB (G : GSt) : Nat → Addr := G.2.2.2.1
abbrev GSt.SB (G : GSt) : Nat → Addr := G.2.2.2.2.1
abbrev GSt.SS (G : GSt) : Nat → Nat := G.2.2.2.2.2.1
abbrev GSt.KS (G : GSt) : Nat → List Int64 := G.2.2.2.2.2.2
def nbf (G : GSt) : Nat → Value := fun i => if i < G.c then .ref (G.A (i + 1)) else .null
def GR (Z : State) (h : Heap) (n0 : Nat) (g : Addr) (G : GSt) : Prop :=
  Obj Z h g "com/example/tristream/tristream/SampleGraph" sch_sg [(.ref (G.A 0)), (.ref G.nb)] ∧ FA Z h G.nb (.object "com/example/tristream/tristream/LongIndex") 16 (nbf G) ∧ OvA Z h G.nb "com/example/tristream/tristream/LongIndex" ∧ n0 ≤ G.nb ∧
  (∀ i, i ≤ G.c → LIO Z h (G.A i) (G.KB i) (G.SB i) (G.SS i) (G.KS i)) ∧
  (∀ i j, i ≤ G.c → j ≤ G.c → i ≠ j → G.A i ≠ G.A j ∧ G.KB i ≠ G.KB j ∧ G.SB i ≠ G.SB j) ∧
  (∀ i, i ≤ G.c → n0 ≤ G.A i ∧ n0 ≤ G.KB i ∧ n0 ≤ G.SB i) ∧ (G.KS 0).length = G.c ∧ (∀ i, i < G.c → G.SS (i + 1) = 4)
def EK (Z : State) (h h' : Heap) : Prop := ∀ (x : Addr) (vs : List Value), Obj Z h x "com/example/tristream/tristream/Edge" sch_e vs → Obj Z h' x "com/example/tristream/tristream/Edge" sch_e vs
theorem EK.refl : EK Z h h := fun _ _ O => O
theorem EK.trans {h1 h2 h3 : Heap} (E : EK Z h1 h2) (F : EK Z h2 h3) : EK Z h1 h3 := fun x vs O => F x vs (E x vs O)
variable {n0 : Nat} {g : Addr} {G : GSt}
theorem gr_sep (wi : (Cond.instantiable "com/example/tristream/tristream/LongIndex" 4).before a0 Z = true) (R : GR Z h n0 g G) {i j : Nat} (hi : i ≤ G.c) (hj : j ≤ G.c) (ij : i ≠ j) {ws : List Addr} (q : G.A i ∉ ws ∧ G.KB i ∉ ws ∧ G.SB i ∉ ws) :
    G.A i ∉ G.A j :: G.KB j :: G.SB j :: ws ∧ G.KB i ∉ G.A j :: G.KB j :: G.SB j :: ws ∧ G.SB i ∉ G.A j :: G.KB j :: G.SB j :: ws := by
  obtain ⟨-, -, -, -, r5, r6, -⟩ := R
  obtain ⟨n1, n2, n3⟩ := r6 i j hi hj ij
  obtain ⟨a1, a2, a3⟩ := LIO.ne wi (r5 i hi) (r5 j hj)
  obtain ⟨b1, b2, b3⟩ := LIO.ne wi (r5 j hj) (r5 i hi)
  exact ⟨ninS n1 (ninS a1 (ninS a2 q.1)), ninS b1.symm (ninS n2 (ninS a3 q.2.1)), ninS b2.symm (ninS b3.symm (ninS n3 q.2.2))⟩
theorem gr_sepn (wi : (Cond.instantiable "com/example/tristream/tristream/LongIndex" 4).before a0 Z = true) (R : GR Z h n0 g G) {i : Nat} (hi : i ≤ G.c) : G.A i ∉ [G.nb] ∧ G.KB i ∉ [G.nb] ∧ G.SB i ∉ [G.nb] := by
  obtain ⟨-, r2, -, -, r5, -⟩ := R
  obtain ⟨a1, a2, a3⟩ := LIO.neF wi (r5 i hi) r2
  exact ⟨ninS a1 nin0, ninS a2 nin0, ninS a3 nin0⟩
theorem gr_sepO {D : String} {kk : Nat} {sch : List (String × String)} {vs : List Value} {x : Addr} (hD : D ≠ "com/example/tristream/tristream/LongIndex") (wd : (Cond.instantiable D kk).before a0 Z = true) (R : GR Z h n0 g G) (O : Obj Z h x D sch vs) {i : Nat} (hi : i ≤ G.c) {ws : List Addr} (q : x ∉ ws) : x ∉ G.A i :: G.KB i :: G.SB i :: ws := by
  obtain ⟨n1, n2, n3⟩ := LIO.neO hD wd (R.2.2.2.2.1 i hi) O
  exact ninS n1 (ninS n2 (ninS n3 q))
theorem gr_sepOn {D : String} {kk : Nat} {sch : List (String × String)} {vs : List Value} {x : Addr} (wd : (Cond.instantiable D kk).before a0 Z = true) (R : GR Z h n0 g G) (O : Obj Z h x D sch vs) : x ∉ [G.nb] := ninS (O.ne_fa wd R.2.1) nin0
theorem gr_nbn (wi : (Cond.instantiable "com/example/tristream/tristream/LongIndex" 4).before a0 Z = true) (R : GR Z h n0 g G) {i : Nat} (hi : i ≤ G.c) {ws : List Addr} (q : G.nb ∉ ws) : G.nb ∉ G.A i :: G.KB i :: G.SB i :: ws := by
  obtain ⟨-, r2, -, -, r5, -⟩ := R
  obtain ⟨a1, a2, a3⟩ := LIO.neF wi (r5 i hi) r2
  exact ninS a1.symm (ninS a2.symm (ninS a3.symm q))
theorem gr_ext (R : GR Z h n0 g G) (E : Ext h h') : GR Z h' n0 g G := by
  obtain ⟨r1, r2, r3, r4, r5, r6, r7, r8, r9⟩ := R
  exact ⟨r1.ext E, r2.ext E, r3.ext E, r4, fun i hi => (r5 i hi).ext E, r6, r7, r8, r9⟩
theorem gr_keepE (we : (Cond.instantiable "com/example/tristream/tristream/Edge" 2).before a0 Z = true) (R : GR Z h n0 g G) {x : Addr} {vs : List Value} (K : Keep h h' [x]) (O : Obj Z h x "com/example/tristream/tristream/Edge" sch_e vs) : GR Z h' n0 g G := by
  have R0 := R
  obtain ⟨r1, r2, r3, r4, r5, r6, r7, r8, r9⟩ := R
  refine ⟨r1.keep K (ninS (r1.exa.ne O.exa ne_se) nin0), r2.keep K (ninS (Ne.symm (O.ne_fa we r2)) nin0), r3.keep K, r4, fun i hi => ?_, r6, r7, r8, r9⟩
  obtain ⟨n1, n2, n3⟩ := LIO.neO ne_el we (r5 i hi) O
  exact (r5 i hi).keep K ⟨ninS n1.symm nin0, ninS n2.symm nin0, ninS n3.symm nin0⟩
theorem gr_init {N nb kb sb : Addr} (O : Obj Z h g "com/example/tristream/tristream/SampleGraph" sch_sg [(.ref N), (.ref nb)]) (F : FA Z h nb (.object "com/example/tristream/tristream/LongIndex") 16 (fun _ => .null)) (V : OvA Z h nb "com/example/tristream/tristream/LongIndex") (P : LIO Z h N kb sb 4 []) (g1 : n0 ≤ nb) (g2 : n0 ≤ N) (g3 : n0 ≤ kb) (g4 : n0 ≤ sb) : GR Z h n0 g ⟨nb, 0, fun _ => N, fun _ => kb, fun _ => sb, fun _ => 4, fun _ => []⟩ :=
  ⟨O, F.congr (fun i _ => (if_neg (Nat.not_lt_zero i)).symm), V, g1, fun _ _ => P, fun i j hi hj ij => absurd ((Nat.le_zero.mp hi).trans (Nat.le_zero.mp hj).symm) ij, fun _ _ => ⟨g2, g3, g4⟩, rfl, fun _ _ => rfl⟩
theorem gr_nodes (R : GR Z h n0 g G) : ∃ (nb N kb sb : Addr) (z sf : Int32) (kn : Nat) (kf : Nat → Int64) (S : Nat) (sl : Nat → Int32), nb = G.nb ∧ N = G.A 0 ∧ kb = G.KB 0 ∧ sb = G.SB 0 ∧ S = G.SS 0 ∧ n0 ≤ nb ∧ n0 ≤ N ∧ n0 ≤ kb ∧ n0 ≤ sb ∧
    Obj Z h g "com/example/tristream/tristream/SampleGraph" sch_sg [(.ref N), (.ref nb)] ∧ FA Z h nb (.object "com/example/tristream/tristream/LongIndex") 16 (nbf G) ∧ Obj Z h N "com/example/tristream/tristream/LongIndex" sch_li [(.ref kb), (.ref sb), (.int sf), (.int z)] ∧ FA Z h kb .long kn (fun i => .long (kf i)) ∧ FA Z h sb .int S (fun i => .int (sl i)) ∧ LI S sf z sl kf kn (G.KS 0) := by
  obtain ⟨r1, r2, r3, r4, r5, r6, r7, r8, r9⟩ := R
  obtain ⟨z, sf, kn, kf, sl, h1, h2, h3, h4⟩ := r5 0 (Nat.zero_le _)
  obtain ⟨g1, g2, g3⟩ := r7 0 (Nat.zero_le _)
  exact ⟨_, _, _, _, z, sf, kn, kf, _, sl, rfl, rfl, rfl, rfl, rfl, r4, g1, g2, g3, r1, r2, h1, h2, h3, h4⟩
theorem li_four {S kn : Nat} {sf z : Int32} {sl : Nat → Int32} {kf : Nat → Int64} {ks : List Int64} (h : LI S sf z sl kf kn ks) (e : S = 4) : sf = 62 ∧ kn = 2 := by
  obtain ⟨h1, h2, -⟩ := h
  rcases h1 with ⟨-, h1⟩ | ⟨h1, -⟩
  · exact ⟨h1, by omega⟩
  · omega
theorem gr_mem (R : GR Z h n0 g G) {i : Nat} (hi : i < G.c) : ∃ (M mk ms : Addr) (z : Int32) (kf : Nat → Int64) (sl : Nat → Int32), M = G.A (i + 1) ∧ mk = G.KB (i + 1) ∧ ms = G.SB (i + 1) ∧ n0 ≤ M ∧ n0 ≤ mk ∧ n0 ≤ ms ∧
    Obj Z h M "com/example/tristream/tristream/LongIndex" sch_li [(.ref mk), (.ref ms), (.int 62), (.int z)] ∧ FA Z h mk .long 2 (fun i => .long (kf i)) ∧ FA Z h ms .int 4 (fun i => .int (sl i)) ∧ LI 4 62 z sl kf 2 (G.KS (i + 1)) := by
  obtain ⟨r1, r2, r3, r4, r5, r6, r7, r8, r9⟩ := R
  obtain ⟨z, sf, kn, kf, sl, h1, h2, h3, h4⟩ := r5 (i + 1) hi
  obtain ⟨g1, g2, g3⟩ := r7 (i + 1) hi
  rw [r9 i hi] at h3 h4
  obtain ⟨rfl, rfl⟩ := li_four h4 rfl
  exact ⟨_, _, _, z, kf, sl, rfl, rfl, rfl, g1, g2, g3, h1, h2, h3, h4⟩
theorem gr_ne (R : GR Z h n0 g G) {i : Nat} (hi : i < G.c) {M mk ms N kb sb : Addr} (eM : M = G.A (i + 1)) (ek : mk = G.KB (i + 1)) (es : ms = G.SB (i + 1)) (eN : N = G.A 0) (ekb : kb = G.KB 0) (esb : sb = G.SB 0) : M ≠ N ∧ mk ≠ kb ∧ ms ≠ sb := by
  subst eM ek es eN ekb esb
  exact R.2.2.2.2.2.1 (i + 1) 0 hi (Nat.zero_le _) (Nat.succ_ne_zero i)
theorem gr_len (R : GR Z h n0 g G) : (G.KS 0).length = G.c := R.2.2.2.2.2.2.2.1
theorem gr_le (R : GR Z h n0 g G) : 2 * G.c ≤ G.SS 0 := by rw [← gr_len R]; exact (R.2.2.2.2.1 0 (Nat.zero_le _)).le
theorem gr_dis (R : GR Z h n0 g G) {i : Nat} (hi : i ≤ G.c) : Dis (G.KS i) := (R.2.2.2.2.1 i hi).dis
theorem nbf_at {i : Nat} (hi : i < G.c) {M : Addr} (eM : M = G.A (i + 1)) : nbf G i = .ref M := by rw [nbf, if_pos hi, eM]
theorem nbf_out {i : Nat} (hi : ¬ i < G.c) : nbf G i = .null := by rw [nbf, if_neg hi]
theorem own_ne {x y : Addr} {k : Nat} (o : x = y ∨ k ≤ x) {z : Addr} (n : z ≠ y) (l : z < k) : z ≠ x := by
  rcases o with rfl | o
  · exact n
  · exact Nat.ne_of_lt (Nat.lt_of_lt_of_le l o)
/-- one list of neighbours is another -/
theorem gr_upd (wi : (Cond.instantiable "com/example/tristream/tristream/LongIndex" 4).before a0 Z = true) (wg : (Cond.instantiable "com/example/tristream/tristream/SampleGraph" 2).before a0 Z = true) (R : GR Z h n0 g G) {i : Nat} (hi : i < G.c) {M mk ms kb' sb' : Addr} {ks' : List Int64} (K : Keep h h' [M, mk, ms]) (eM : M = G.A (i + 1)) (ek : mk = G.KB (i + 1)) (es : ms = G.SB (i + 1))
    (P : LIO Z h' M kb' sb' 4 ks') (o1 : kb' = mk ∨ h.size ≤ kb') (o2 : sb' = ms ∨ h.size ≤ sb') (g1 : n0 ≤ kb') (g2 : n0 ≤ sb') : GR Z h' n0 g ⟨G.nb, G.c, G.A, gup G.KB (i + 1) kb', gup G.SB (i + 1) sb', G.SS, gup G.KS (i + 1) ks'⟩ := by
  subst eM ek es
  have R0 := R
  obtain ⟨r1, r2, r3, r4, r5, r6, r7, r8, r9⟩ := R
  refine ⟨r1.keep K (gr_sepO ne_sl wg R0 r1 hi nin0), r2.keep K (gr_nbn wi R0 hi nin0), r3.keep K, r4, fun j hj => ?_, fun j k hj hk jk => ?_, fun j hj => ?_, ?_, r9⟩
  · have hj : j ≤ G.c := hj
    show LIO Z h' (G.A j) (gup G.KB (i + 1) kb' j) (gup G.SB (i + 1) sb' j) (G.SS j) (gup G.KS (i + 1) ks' j)
    by_cases e : j = i + 1
    · subst e; rw [gup_same, gup_same, gup_same, r9 i hi]; exact P
    · rw [gup_ne e, gup_ne e, gup_ne e]; exact (r5 j hj).keep K (gr_sep wi R0 hj hi e ⟨nin0, nin0, nin0⟩)
  · have hj : j ≤ G.c := hj
    have hk : k ≤ G.c := hk
    show G.A j ≠ G.A k ∧ gup G.KB (i + 1) kb' j ≠ gup G.KB (i + 1) kb' k ∧ gup G.SB (i + 1) sb' j ≠ gup G.SB (i + 1) sb' k
    have q := r6 j k hj hk jk
    by_cases e : j = i + 1
    · subst e
      have ek : k ≠ i + 1 := Ne.symm jk
      rw [gup_same, gup_same, gup_ne ek, gup_ne ek]
      exact ⟨q.1, (own_ne o1 q.2.1.symm (r5 k hk).lt.2.1).symm, (own_ne o2 q.2.2.symm (r5 k hk).lt.2.2).symm⟩
    · rw [gup_ne e, gup_ne e]
      by_cases e2 : k = i + 1
      · subst e2
        rw [gup_same, gup_same]
        exact ⟨q.1, own_ne o1 q.2.1 (r5 j hj).lt.2.1, own_ne o2 q.2.2 (r5 j hj).lt.2.2⟩
      · rw [gup_ne e2, gup_ne e2]; exact q
  · have hj : j ≤ G.c := hj
    show n0 ≤ G.A j ∧ n0 ≤ gup G.KB (i + 1) kb' j ∧ n0 ≤ gup G.SB (i + 1) sb' j
    by_cases e : j = i + 1
    · subst e; rw [gup_same, gup_same]; exact ⟨(r7 _ hi).1, g1, g2⟩
    · rw [gup_ne e, gup_ne e]; exact r7 j hj
  · show (gup G.KS (i + 1) ks' 0).length = G.c
    rw [gup_ne (by omega)]; exact r8
theorem ek_upd (we : (Cond.instantiable "com/example/tristream/tristream/Edge" 2).before a0 Z = true) (R : GR Z h n0 g G) {i : Nat} (hi : i < G.c) {M mk ms : Addr} (K : Keep h h' [M, mk, ms]) (eM : M = G.A (i + 1)) (ek : mk = G.KB (i + 1)) (es : ms = G.SB (i + 1)) : EK Z h h' := by
  subst eM ek es
  exact fun x vs O => O.keep K (gr_sepO ne_el we R O hi nin0)
/-- a node more -/
theorem gr_new (wi : (Cond.instantiable "com/example/tristream/tristream/LongIndex" 4).before a0 Z = true) (wg : (Cond.instantiable "com/example/tristream/tristream/SampleGraph" 2).before a0 Z = true) (R : GR Z h0 n0 g G) {nb N kb sb M kb' sb' kb1 sb1 : Addr} {S' : Nat} {ks' : List Int64} (K : Keep h0 h [N, kb, sb, nb]) (en : nb = G.nb) (eN : N = G.A 0) (ek : kb = G.KB 0) (es : sb = G.SB 0)
    (F : FA Z h nb (.object "com/example/tristream/tristream/LongIndex") 16 (fun i => if i = G.c then .ref M else nbf G i)) (P : LIO Z h N kb' sb' S' ks') (o1 : kb' = kb ∨ h0.size ≤ kb') (o2 : sb' = sb ∨ h0.size ≤ sb') (g1 : n0 ≤ kb') (g2 : n0 ≤ sb') (P1 : LIO Z h M kb1 sb1 4 []) (s1 : h0.size ≤ M) (s2 : h0.size ≤ kb1) (s3 : h0.size ≤ sb1) (g3 : n0 ≤ M) (g4 : n0 ≤ kb1) (g5 : n0 ≤ sb1) (n1 : kb' ≠ kb1) (n2 : sb' ≠ sb1) (hl : ks'.length = G.c + 1) :
    GR Z h n0 g ⟨G.nb, G.c + 1, gup G.A (G.c + 1) M, gup (gup G.KB 0 kb') (G.c + 1) kb1, gup (gup G.SB 0 sb') (G.c + 1) sb1, gup (gup G.SS 0 S') (G.c + 1) 4, gup (gup G.KS 0 ks') (G.c + 1) []⟩ := by
  subst en eN ek es
  have R0 := R
  obtain ⟨r1, r2, r3, r4, r5, r6, r7, r8, r9⟩ := R
  have hz : (0 : Nat) ≤ G.c := Nat.zero_le _
  have h0c : (0 : Nat) ≠ G.c + 1 := by omega
  have old : ∀ j, j ≤ G.c → (gup (gup G.KB 0 kb') (G.c + 1) kb1 j = kb' ∧ gup (gup G.SB 0 sb') (G.c + 1) sb1 j = sb' ∧ j = 0) ∨ (gup (gup G.KB 0 kb') (G.c + 1) kb1 j = G.KB j ∧ gup (gup G.SB 0 sb') (G.c + 1) sb1 j = G.SB j ∧ j ≠ 0) := fun j hj => by
    have e1 : j ≠ G.c + 1 := by omega
    rw [gup_ne e1, gup_ne e1]
    by_cases e : j = 0
    · subst e; exact Or.inl ⟨gup_same _ _ _, gup_same _ _ _, rfl⟩
    · exact Or.inr ⟨gup_ne e, gup_ne e, e⟩
  have lts : ∀ j, j ≤ G.c → G.A j ≠ M ∧ gup (gup G.KB 0 kb') (G.c + 1) kb1 j ≠ kb1 ∧ gup (gup G.SB 0 sb') (G.c + 1) sb1 j ≠ sb1 := fun j hj => by
    have l := (r5 j hj).lt
    refine ⟨Nat.ne_of_lt (Nat.lt_of_lt_of_le l.1 s1), ?_, ?_⟩
    · rcases old j hj with q | q
      · rw [q.1]; exact n1
      · rw [q.1]; exact Nat.ne_of_lt (Nat.lt_of_lt_of_le l.2.1 s2)
    · rcases old j hj with q | q
      · rw [q.2.1]; exact n2
      · rw [q.2.1]; exact Nat.ne_of_lt (Nat.lt_of_lt_of_le l.2.2 s3)
  have pair : ∀ j k, j ≤ G.c → k ≤ G.c → j ≠ k → gup (gup G.KB 0 kb') (G.c + 1) kb1 j ≠ gup (gup G.KB 0 kb') (G.c + 1) kb1 k ∧ gup (gup G.SB 0 sb') (G.c + 1) sb1 j ≠ gup (gup G.SB 0 sb') (G.c + 1) sb1 k := fun j k hj hk jk => by
    have q := r6 j k hj hk jk
    rcases old j hj with x | x <;> rcases old k hk with y | y
    · omega
    · obtain ⟨x1, x2, rfl⟩ := x
      rw [x1, x2, y.1, y.2.1]
      exact ⟨(own_ne o1 q.2.1.symm (r5 k hk).lt.2.1).symm, (own_ne o2 q.2.2.symm (r5 k hk).lt.2.2).symm⟩
    · obtain ⟨y1, y2, rfl⟩ := y
      rw [x.1, x.2.1, y1, y2]
      exact ⟨own_ne o1 q.2.1 (r5 j hj).lt.2.1, own_ne o2 q.2.2 (r5 j hj).lt.2.2⟩
    · rw [x.1, x.2.1, y.1, y.2.1]; exact q.2
  refine ⟨?_, F.congr fun i hi => ?_, r3.keep K, r4, fun j hj => ?_, fun j k hj hk jk => ?_, fun j hj => ?_, ?_, fun j hj => ?_⟩
  · show Obj Z h g "com/example/tristream/tristream/SampleGraph" sch_sg [(.ref (gup G.A (G.c + 1) M 0)), (.ref G.nb)]
    rw [gup_ne h0c]; exact r1.keep K (gr_sepO ne_sl wg R0 r1 hz (gr_sepOn wg R0 r1))
  · show (if i = G.c then Value.ref M else nbf G i) = (if i < G.c + 1 then Value.ref (gup G.A (G.c + 1) M (i + 1)) else Value.null)
    by_cases e : i = G.c
    · subst e; rw [if_pos rfl, if_pos (Nat.lt_succ_self _), gup_same]
    · rw [if_neg e, gup_ne (by omega), nbf]
      by_cases e2 : i < G.c
      · rw [if_pos e2, if_pos (by omega)]
      · rw [if_neg e2, if_neg (by omega)]
  · have hj : j ≤ G.c + 1 := hj
    show LIO Z h (gup G.A (G.c + 1) M j) (gup (gup G.KB 0 kb') (G.c + 1) kb1 j) (gup (gup G.SB 0 sb') (G.c + 1) sb1 j) (gup (gup G.SS 0 S') (G.c + 1) 4 j) (gup (gup G.KS 0 ks') (G.c + 1) [] j)
    by_cases e : j = G.c + 1
    · subst e; rw [gup_same, gup_same, gup_same, gup_same, gup_same]; exact P1
    · rw [gup_ne e, gup_ne e, gup_ne e, gup_ne e, gup_ne e]
      by_cases e2 : j = 0
      · subst e2; rw [gup_same, gup_same, gup_same, gup_same]; exact P
      · rw [gup_ne e2, gup_ne e2, gup_ne e2, gup_ne e2]
        exact (r5 j (by omega)).keep K (gr_sep wi R0 (by omega) hz e2 (gr_sepn wi R0 (by omega)))
  · have hj : j ≤ G.c + 1 := hj
    have hk : k ≤ G.c + 1 := hk
    show gup G.A (G.c + 1) M j ≠ gup G.A (G.c + 1) M k ∧ gup (gup G.KB 0 kb') (G.c + 1) kb1 j ≠ gup (gup G.KB 0 kb') (G.c + 1) kb1 k ∧ gup (gup G.SB 0 sb') (G.c + 1) sb1 j ≠ gup (gup G.SB 0 sb') (G.c + 1) sb1 k
    by_cases e : j = G.c + 1
    · have e2 : k ≠ G.c + 1 := fun q => jk (e.trans q.symm)
      have l := lts k (by omega)
      rw [e, gup_same, gup_ne e2]
      refine ⟨l.1.symm, ?_, ?_⟩
      · rw [gup_same]; exact l.2.1.symm
      · rw [gup_same]; exact l.2.2.symm
    · by_cases e2 : k = G.c + 1
      · have l := lts j (by omega)
        rw [e2, gup_same, gup_ne e]
        refine ⟨l.1, ?_, ?_⟩
        · rw [gup_same]; exact l.2.1
        · rw [gup_same]; exact l.2.2
      · have q := pair j k (by omega) (by omega) jk
        refine ⟨?_, q.1, q.2⟩
        rw [gup_ne e, gup_ne e2]; exact (r6 j k (by omega) (by omega) jk).1
  · have hj : j ≤ G.c + 1 := hj
    show n0 ≤ gup G.A (G.c + 1) M j ∧ n0 ≤ gup (gup G.KB 0 kb') (G.c + 1) kb1 j ∧ n0 ≤ gup (gup G.SB 0 sb') (G.c + 1) sb1 j
    by_cases e : j = G.c + 1
    · subst e; rw [gup_same, gup_same, gup_same]; exact ⟨g3, g4, g5⟩
    · have l := r7 j (by omega)
      rw [gup_ne e]
      rcases old j (by omega) with q | q
      · rw [q.1, q.2.1]; exact ⟨l.1, g1, g2⟩
      · rw [q.1, q.2.1]; exact l
  · show (gup (gup G.KS 0 ks') (G.c + 1) [] 0).length = G.c + 1
    rw [gup_ne h0c, gup_same]; exact hl
  · have hj : j < G.c + 1 := hj
    show gup (gup G.SS 0 S') (G.c + 1) 4 (j + 1) = 4
    by_cases e : j = G.c
    · subst e; rw [gup_same]
    · rw [gup_ne (by omega), gup_ne (by omega)]; exact r9 j (by omega)
theorem ek_new (we : (Cond.instantiable "com/example/tristream/tristream/Edge" 2).before a0 Z = true) (R : GR Z h0 n0 g G) {nb N kb sb : Addr} (K : Keep h0 h [N, kb, sb, nb]) (en : nb = G.nb) (eN : N = G.A 0) (ek : kb = G.KB 0) (es : sb = G.SB 0) : EK Z h0 h := by
  subst en eN ek es
  exact fun x vs O => O.keep K (gr_sepO ne_el we R O (Nat.zero_le _) (gr_sepOn we R O))
/-- a node less: the last takes its place -/
theorem gr_rem (wi : (Cond.instantiable "com/example/tristream/tristream/LongIndex" 4).before a0 Z = true) (wg : (Cond.instantiable "com/example/tristream/tristream/SampleGraph" 2).before a0 Z = true) (R : GR Z h0 n0 g G) {i cl : Nat} (hc : G.c = cl + 1) (hi : i < cl + 1) {nb N kb sb M mk ms Ml kb' sb' : Addr} {S' : Nat} {ns : List Int64} (K : Keep h0 h [M, mk, ms, N, kb, sb, nb]) (en : nb = G.nb) (eN : N = G.A 0) (ek : kb = G.KB 0) (es : sb = G.SB 0) (eM : M = G.A (i + 1)) (emk : mk = G.KB (i + 1)) (ems : ms = G.SB (i + 1)) (eMl : Ml = G.A (cl + 1))
    (F : FA Z h nb (.object "com/example/tristream/tristream/LongIndex") 16 (fun j => if j = cl then .null else (fun j => if j = i then .ref Ml else nbf G j) j)) (P : LIO Z h N kb' sb' S' ns) (o1 : kb' = kb ∨ h0.size ≤ kb') (o2 : sb' = sb ∨ h0.size ≤ sb') (g1 : n0 ≤ kb') (g2 : n0 ≤ sb') (hl : ns.length = cl) :
    GR Z h n0 g ⟨G.nb, cl, gup G.A (i + 1) (G.A (cl + 1)), gup (gup G.KB (i + 1) (G.KB (cl + 1))) 0 kb', gup (gup G.SB (i + 1) (G.SB (cl + 1))) 0 sb', gup G.SS 0 S', gup (gup G.KS (i + 1) (G.KS (cl + 1))) 0 ns⟩ := by
  subst en eN ek es eM emk ems eMl
  have R0 := R
  obtain ⟨r1, r2, r3, r4, r5, r6, r7, r8, r9⟩ := R
  have hz : (0 : Nat) ≤ G.c := Nat.zero_le _
  have hi1 : i + 1 ≤ G.c := by omega
  have hL : cl + 1 ≤ G.c := by omega
  -- the old place of the part that now stands at j
  have pl : ∀ j, j ≤ cl → ∃ j', j' ≤ G.c ∧ (j = 0 → j' = 0) ∧ (j ≠ 0 → j' ≠ 0 ∧ j' ≠ i + 1) ∧ (j ≠ 0 → j = i + 1 → j' = cl + 1) ∧ (j ≠ 0 → j ≠ i + 1 → j' = j) ∧ gup G.A (i + 1) (G.A (cl + 1)) j = G.A j' ∧ (j ≠ 0 → gup (gup G.KB (i + 1) (G.KB (cl + 1))) 0 kb' j = G.KB j' ∧ gup (gup G.SB (i + 1) (G.SB (cl + 1))) 0 sb' j = G.SB j' ∧ gup (gup G.KS (i + 1) (G.KS (cl + 1))) 0 ns j = G.KS j') := fun j hj => by
    by_cases e : j = i + 1
    · subst e
      refine ⟨cl + 1, hL, fun q => absurd q (Nat.succ_ne_zero i), fun _ => ⟨Nat.succ_ne_zero cl, by omega⟩, fun _ _ => rfl, fun _ q => absurd rfl q, gup_same _ _ _, fun q => ?_⟩
      rw [gup_ne q, gup_ne q, gup_ne q, gup_same, gup_same, gup_same]
      exact ⟨rfl, rfl, rfl⟩
    · refine ⟨j, by omega, id, fun q => ⟨q, e⟩, fun _ q => absurd q e, fun _ _ => rfl, gup_ne e, fun q => ?_⟩
      rw [gup_ne q, gup_ne q, gup_ne q, gup_ne e, gup_ne e, gup_ne e]
      exact ⟨rfl, rfl, rfl⟩
  refine ⟨?_, F.congr fun j hj => ?_, r3.keep K, r4, fun j hj => ?_, fun j k hj hk jk => ?_, fun j hj => ?_, ?_, fun j hj => ?_⟩
  · show Obj Z h g "com/example/tristream/tristream/SampleGraph" sch_sg [(.ref (gup G.A (i + 1) (G.A (cl + 1)) 0)), (.ref G.nb)]
    rw [gup_ne (by omega)]; exact r1.keep K (gr_sepO ne_sl wg R0 r1 hi1 (gr_sepO ne_sl wg R0 r1 hz (gr_sepOn wg R0 r1)))
  · show (if j = cl then Value.null else if j = i then Value.ref (G.A (cl + 1)) else nbf G j) = (if j < cl then Value.ref (gup G.A (i + 1) (G.A (cl + 1)) (j + 1)) else Value.null)
    by_cases e : j = cl
    · rw [if_pos e, if_neg (by omega)]
    · rw [if_neg e]
      by_cases e2 : j = i
      · subst e2; rw [if_pos rfl, if_pos (by omega), gup_same]
      · rw [if_neg e2, gup_ne (by omega), nbf]
        by_cases e3 : j < cl
        · rw [if_pos e3, if_pos (by omega)]
        · rw [if_neg e3, if_neg (by omega)]
  · have hj : j ≤ cl := hj
    show LIO Z h (gup G.A (i + 1) (G.A (cl + 1)) j) (gup (gup G.KB (i + 1) (G.KB (cl + 1))) 0 kb' j) (gup (gup G.SB (i + 1) (G.SB (cl + 1))) 0 sb' j) (gup G.SS 0 S' j) (gup (gup G.KS (i + 1) (G.KS (cl + 1))) 0 ns j)
    obtain ⟨j', b1, b2, b3, b4, b5, b6, b7⟩ := pl j hj
    by_cases e : j = 0
    · subst e; rw [gup_same, gup_same, gup_same, gup_same, gup_ne (by omega)]; exact P
    · obtain ⟨c1, c2, c3⟩ := b7 e
      obtain ⟨d1, d2⟩ := b3 e
      rw [b6, c1, c2, c3, gup_ne e]
      have es : G.SS j = G.SS j' := by
        obtain ⟨x, rfl⟩ : ∃ x, j = x + 1 := ⟨j - 1, by omega⟩
        obtain ⟨y, rfl⟩ : ∃ y, j' = y + 1 := ⟨j' - 1, by omega⟩
        rw [r9 x (by omega), r9 y (by omega)]
      rw [es]
      exact (r5 j' b1).keep K (gr_sep wi R0 b1 hi1 d2 (gr_sep wi R0 b1 hz d1 (gr_sepn wi R0 b1)))
  · have hj : j ≤ cl := hj
    have hk : k ≤ cl := hk
    show gup G.A (i + 1) (G.A (cl + 1)) j ≠ gup G.A (i + 1) (G.A (cl + 1)) k ∧ gup (gup G.KB (i + 1) (G.KB (cl + 1))) 0 kb' j ≠ gup (gup G.KB (i + 1) (G.KB (cl + 1))) 0 kb' k ∧ gup (gup G.SB (i + 1) (G.SB (cl + 1))) 0 sb' j ≠ gup (gup G.SB (i + 1) (G.SB (cl + 1))) 0 sb' k
    obtain ⟨j', b1, b2, b3, b4, b5, b6, b7⟩ := pl j hj
    obtain ⟨k', c1, c2, c3, c4, c5, c6, c7⟩ := pl k hk
    have jk' : j' ≠ k' := by
      by_cases e : j = 0 <;> by_cases e2 : k = 0 <;> by_cases e3 : j = i + 1 <;> by_cases e4 : k = i + 1 <;> simp [e, e2, e3, e4] at * <;> omega
    have q := r6 j' k' b1 c1 jk'
    refine ⟨by rw [b6, c6]; exact q.1, ?_⟩
    by_cases e : j = 0
    · have e2 : k ≠ 0 := fun z => jk (e.trans z.symm)
      obtain ⟨d1, d2, -⟩ := c7 e2
      rw [b2 e] at q
      rw [e, gup_same, gup_same, d1, d2]
      exact ⟨(own_ne o1 q.2.1.symm (r5 k' c1).lt.2.1).symm, (own_ne o2 q.2.2.symm (r5 k' c1).lt.2.2).symm⟩
    · obtain ⟨d1, d2, -⟩ := b7 e
      rw [d1, d2]
      by_cases e2 : k = 0
      · rw [c2 e2] at q
        rw [e2, gup_same, gup_same]
        exact ⟨own_ne o1 q.2.1 (r5 j' b1).lt.2.1, own_ne o2 q.2.2 (r5 j' b1).lt.2.2⟩
      · obtain ⟨d3, d4, -⟩ := c7 e2
        rw [d3, d4]; exact q.2
  · have hj : j ≤ cl := hj
    show n0 ≤ gup G.A (i + 1) (G.A (cl + 1)) j ∧ n0 ≤ gup (gup G.KB (i + 1) (G.KB (cl + 1))) 0 kb' j ∧ n0 ≤ gup (gup G.SB (i + 1) (G.SB (cl + 1))) 0 sb' j
    obtain ⟨j', b1, b2, b3, b4, b5, b6, b7⟩ := pl j hj
    have l := r7 j' b1
    rw [b6]
    by_cases e : j = 0
    · rw [e, gup_same, gup_same]; exact ⟨l.1, g1, g2⟩
    · obtain ⟨d1, d2, -⟩ := b7 e
      rw [d1, d2]; exact l
  · show (gup (gup G.KS (i + 1) (G.KS (cl + 1))) 0 ns 0).length = cl
    rw [gup_same]; exact hl
  · have hj : j < cl := hj
    show gup G.SS 0 S' (j + 1) = 4
    rw [gup_ne (by omega)]; exact r9 j (by omega)
theorem ek_rem (we : (Cond.instantiable "com/example/tristream/tristream/Edge" 2).before a0 Z = true) (R : GR Z h0 n0 g G) {i : Nat} (hi : i < G.c) {nb N kb sb M mk ms : Addr} (K : Keep h0 h [M, mk, ms, N, kb, sb, nb]) (en : nb = G.nb) (eN : N = G.A 0) (ek : kb = G.KB 0) (es : sb = G.SB 0) (eM : M = G.A (i + 1)) (emk : mk = G.KB (i + 1)) (ems : ms = G.SB (i + 1)) : EK Z h0 h := by
  subst en eN ek es eM emk ems
  exact fun x vs O => O.keep K (gr_sepO ne_el we R O hi (gr_sepO ne_el we R O (Nat.zero_le _) (gr_sepOn we R O)))
end Graph2
section Graph3
variable {Z : State} {a0 : Array Value} {h h0 h' : Heap} {n0 : Nat} {g : Addr} {G : GSt}
theorem gr_memM (R : GR Z h n0 g G) {i : Nat} (hi : i < G.c) {M : Addr} (eM : M = G.A (i + 1)) : ∃ (mk ms : Addr) (z : Int32) (kf : Nat → Int64) (sl : Nat → Int32), mk = G.KB (i + 1) ∧ ms = G.SB (i + 1) ∧ n0 ≤ M ∧ n0 ≤ mk ∧ n0 ≤ ms ∧
    Obj Z h M "com/example/tristream/tristream/LongIndex" sch_li [(.ref mk), (.ref ms), (.int 62), (.int z)] ∧ FA Z h mk .long 2 (fun i => .long (kf i)) ∧ FA Z h ms .int 4 (fun i => .int (sl i)) ∧ LI 4 62 z sl kf 2 (G.KS (i + 1)) := by
  obtain ⟨M', mk, ms, z, kf, sl, e, r⟩ := gr_mem R hi
  subst eM e
  exact ⟨mk, ms, z, kf, sl, r⟩
theorem gr_updQ (wi : (Cond.instantiable "com/example/tristream/tristream/LongIndex" 4).before a0 Z = true) (wg : (Cond.instantiable "com/example/tristream/tristream/SampleGraph" 2).before a0 Z = true) (R : GR Z h n0 g G) {i : Nat} (hi : i < G.c) {M mk ms kb' sb' : Addr} {ks' : List Int64} (K : Keep h h' [M, mk, ms]) (eM : M = G.A (i + 1)) (ek : mk = G.KB (i + 1)) (es : ms = G.SB (i + 1))
    (P : LIO Z h' M kb' sb' 4 ks') (o1 : kb' = mk ∨ h.size ≤ kb') (o2 : sb' = ms ∨ h.size ≤ sb') (g1 : n0 ≤ kb') (g2 : n0 ≤ sb') : ∃ G' : GSt, GR Z h' n0 g G' ∧ G'.c = G.c ∧ G'.SS = G.SS ∧ G'.KS = gup G.KS (i + 1) ks' :=
  ⟨_, gr_upd wi wg R hi K eM ek es P o1 o2 g1 g2, rfl, rfl, rfl⟩
theorem gr_newQ (wi : (Cond.instantiable "com/example/tristream/tristream/LongIndex" 4).before a0 Z = true) (wg : (Cond.instantiable "com/example/tristream/tristream/SampleGraph" 2).before a0 Z = true) (R : GR Z h0 n0 g G) {nb N kb sb M kb' sb' kb1 sb1 : Addr} {S' : Nat} {kk : Int64} (K : Keep h0 h [N, kb, sb, nb]) (en : nb = G.nb) (eN : N = G.A 0) (ek : kb = G.KB 0) (es : sb = G.SB 0)
    (F : FA Z h nb (.object "com/example/tristream/tristream/LongIndex") 16 (fun i => if i = G.c then .ref M else nbf G i)) (P : LIO Z h N kb' sb' S' (G.KS 0 ++ [kk])) (o1 : kb' = kb ∨ h0.size ≤ kb') (o2 : sb' = sb ∨ h0.size ≤ sb') (g1 : n0 ≤ kb') (g2 : n0 ≤ sb') (P1 : LIO Z h M kb1 sb1 4 []) (s1 : h0.size ≤ M) (s2 : h0.size ≤ kb1) (s3 : h0.size ≤ sb1) (g3 : n0 ≤ M) (g4 : n0 ≤ kb1) (g5 : n0 ≤ sb1) (n1 : kb' ≠ kb1) (n2 : sb' ≠ sb1) (hin : ¬ GIn (G.KS 0) kk) (hs : (G.KS 0 ++ [kk]).length ≤ 2 → S' = 4) :
    ∃ (G' : GSt) (i : Nat), GR Z h n0 g G' ∧ M = G'.A (i + 1) ∧ NbR G.c G.KS kk G'.c G'.KS i ∧ ((G.c ≤ 2 → G.SS 0 = 4) → G'.c ≤ 2 → G'.SS 0 = 4) ∧ (GIn (G.KS 0) kk → G'.SS 0 = G.SS 0) := by
  have hl := gr_len R
  have hl2 : (G.KS 0 ++ [kk]).length = G.c + 1 := by rw [List.length_append, hl]; rfl
  have h0c : (0 : Nat) ≠ G.c + 1 := by omega
  refine ⟨_, G.c, gr_new wi wg R K en eN ek es F P o1 o2 g1 g2 P1 s1 s2 s3 g3 g4 g5 n1 n2 hl2, (gup_same _ _ _).symm, ⟨Nat.lt_succ_self _, ?_, Or.inr ⟨hin, rfl, rfl, ?_, fun j j1 j2 => ?_, gup_same _ _ _⟩⟩, fun _ hc => ?_, fun q => absurd q hin⟩
  · show (gup (gup G.KS 0 (G.KS 0 ++ [kk])) (G.c + 1) [] 0).getD G.c 0 = kk
    rw [gup_ne h0c, gup_same, getD_app, if_neg (by omega), if_pos hl.symm]
  · show gup (gup G.KS 0 (G.KS 0 ++ [kk])) (G.c + 1) [] 0 = _
    rw [gup_ne h0c, gup_same]
  · show gup (gup G.KS 0 (G.KS 0 ++ [kk])) (G.c + 1) [] j = _
    rw [gup_ne (by omega), gup_ne (by omega)]
  · show gup (gup G.SS 0 S') (G.c + 1) 4 0 = 4
    have hc : G.c + 1 ≤ 2 := hc
    rw [gup_ne h0c, gup_same]; exact hs (by omega)
theorem gr_remQ (wi : (Cond.instantiable "com/example/tristream/tristream/LongIndex" 4).before a0 Z = true) (wg : (Cond.instantiable "com/example/tristream/tristream/SampleGraph" 2).before a0 Z = true) (R : GR Z h0 n0 g G) {i cl : Nat} (hc : G.c = cl + 1) (hi : i < cl + 1) {nb N kb sb M mk ms Ml kb' sb' : Addr} {S' : Nat} {ns : List Int64} {k b : Int64} (K : Keep h0 h [M, mk, ms, N, kb, sb, nb]) (en : nb = G.nb) (eN : N = G.A 0) (ek : kb = G.KB 0) (es : sb = G.SB 0) (eM : M = G.A (i + 1)) (emk : mk = G.KB (i + 1)) (ems : ms = G.SB (i + 1)) (eMl : Ml = G.A (cl + 1))
    (F : FA Z h nb (.object "com/example/tristream/tristream/LongIndex") 16 (fun j => if j = cl then .null else (fun j => if j = i then .ref Ml else nbf G j) j)) (P : LIO Z h N kb' sb' S' ns) (o1 : kb' = kb ∨ h0.size ≤ kb') (o2 : sb' = sb ∨ h0.size ≤ sb') (g1 : n0 ≤ kb') (g2 : n0 ≤ sb') (hS : S' = G.SS 0) (hk : (G.KS 0).getD i 0 = k) (hr : RemR (G.KS (i + 1)) b []) (hn : RemR (G.KS 0) k ns) :
    ∃ G' : GSt, GR Z h n0 g G' ∧ (∀ x y, GEd G'.c G'.KS x y ↔ GEd G.c G.KS x y ∧ ¬ (x = k ∧ y = b)) ∧ G'.SS 0 = G.SS 0 ∧ G.c ≤ G'.c + 1 := by
  have hl := gr_len R
  have d0 := gr_dis R (Nat.zero_le _)
  have d1 := gr_dis R (show i + 1 ≤ G.c by omega)
  refine ⟨_, gr_rem wi wg R hc hi K en eN ek es eM emk ems eMl F P o1 o2 g1 g2 (rem_len hn (show i < (G.KS 0).length by omega) hk (by omega)), fun x y => ?_, ?_, Nat.le_of_eq hc⟩
  · rw [hc]
    exact rem_ed0 (by omega) d0 hi hk d1 hr hn (gup_same _ _ _) (fun j hj => by
      show gup (gup G.KS (i + 1) (G.KS (cl + 1))) 0 ns (j + 1) = _
      rw [gup_ne (Nat.succ_ne_zero j)]
      by_cases e : j = i
      · subst e; rw [gup_same, if_pos rfl]
      · rw [gup_ne (by omega), if_neg e]) x y
  · show gup G.SS 0 S' 0 = _
    rw [gup_same]; exact hS
theorem li_zero {S kn : Nat} {sf z : Int32} {sl : Nat → Int32} {kf : Nat → Int64} {ks : List Int64} (h : LI S sf z sl kf kn ks) (hz : z = (0 : Int32)) : ks = [] := by
  have h3 := (li_len h).1
  rw [hz] at h3
  have t : (0 : Int32).toInt = 0 := by decide
  rw [t] at h3
  exact List.length_eq_zero_iff.mp (by omega)
theorem li_4 {S kn : Nat} {sf z : Int32} {sl : Nat → Int32} {kf : Nat → Int64} {ks : List Int64} (h : LI S sf z sl kf kn ks) : ks.length ≤ 4 := by
  obtain ⟨-, h2, -, h4⟩ := li_len h
  rcases h4 with h4 | h4 <;> omega
end Graph3
theorem d4_0 : decode prog_25_method_1_code 0 = .ok (.aload_n 0, 1) := by decide +kernel
theorem d4_1 : decode prog_25_method_1_code 1 = .ok (.invokespecial 1, 3) := by decide +kernel
theorem d4_4 : decode prog_25_method_1_code 4 = .ok (.aload_n 0, 1) := by decide +kernel
theorem d4_5 : decode prog_25_method_1_code 5 = .ok (.iconst 2, 1) := by decide +kernel
theorem d4_6 : decode prog_25_method_1_code 6 = .ok (.newarray .long, 2) := by decide +kernel
theorem d4_8 : decode prog_25_method_1_code 8 = .ok (.putfield 9, 3) := by decide +kernel
theorem d4_11 : decode prog_25_method_1_code 11 = .ok (.aload_n 0, 1) := by decide +kernel
theorem d4_12 : decode prog_25_method_1_code 12 = .ok (.iconst 4, 1) := by decide +kernel
theorem d4_13 : decode prog_25_method_1_code 13 = .ok (.newarray .int, 2) := by decide +kernel
theorem d4_15 : decode prog_25_method_1_code 15 = .ok (.putfield 13, 3) := by decide +kernel
theorem d4_18 : decode prog_25_method_1_code 18 = .ok (.aload_n 0, 1) := by decide +kernel
theorem d4_19 : decode prog_25_method_1_code 19 = .ok (.bipush 64, 2) := by decide +kernel
theorem d4_21 : decode prog_25_method_1_code 21 = .ok (.iconst 4, 1) := by decide +kernel
theorem d4_22 : decode prog_25_method_1_code 22 = .ok (.invokestatic 17, 3) := by decide +kernel
theorem d4_25 : decode prog_25_method_1_code 25 = .ok (.isub, 1) := by decide +kernel
theorem d4_26 : decode prog_25_method_1_code 26 = .ok (.putfield 23, 3) := by decide +kernel
theorem d4_29 : decode prog_25_method_1_code 29 = .ok (.return_, 1) := by decide +kernel
theorem pn_4 : plainName "com/example/tristream/tristream/LongIndex" = true := by first | (simp [plainName, overriddenIn]; done) | decide +kernel
theorem ef_4 (m : MethodId) (x0 : Addr) : entryFrame m #[(.ref x0)] 1 = mkF m 0 #[.val (.ref x0)] [] := by first | (simp [entryFrame, mkF, argsToLocals, Value.category]; done) | rfl
def Q_liinit (Z : State) (a : Addr) (h0 : Heap) (n0 : Nat) (r : Option Value) (h : Heap) (L : List Loc) : Prop := r = none ∧ Fr n0 L ∧ Keep h0 h [a] ∧ ∃ kb sb : Addr, (h0.size ≤ kb ∧ h0.size ≤ sb) ∧ (n0 ≤ kb ∧ n0 ≤ sb) ∧ kb ≠ sb ∧ Obj Z h a "com/example/tristream/tristream/LongIndex" sch_li [(.ref kb), (.ref sb), (.int 62), (.int 0)] ∧ FA Z h kb .long 2 (fun i => .long ((fun _ => (0 : Int64)) i)) ∧ FA Z h sb .int 4 (fun i => .int ((fun _ => (0 : Int32)) i))
set_option maxRecDepth 65536 in
set_option maxHeartbeats 40000000 in
theorem rm_liinit (l : Launch) (Z : State) (a0 : Array Value) (hw : ∀ d ∈ tables_1, d.before a0 Z = true) (ws : List Jvm.Cond) (a : Addr) (h0 : Heap) (n0 : Nat) (Z0 : n0 ≤ h0.size) (O0 : Obj Z h0 a "com/example/tristream/tristream/LongIndex" sch_li [.null, .null, (.int 0), (.int 0)]) (ga : n0 ≤ a) :
    MetFree l mn3 (head1 (Jvm.Cond.code mn3 prog_25_method_1_code 1 none :: ws) ({ frames := 1, cells := 2, slots := 6, locals := 15 } : Room)) (fun a_ U => a_ = #[(.ref a)] ∧ Z.Warmed39 U.vm ∧ U.heap = h0) (fun _ _ _ _ _ => True) (fun _ U o U' => ∃ v_ L_, o = .returned v_ ∧ Q_liinit Z a h0 n0 v_ U'.heap L_ ∧ FrameEnd U o U' L_ ({ frames := 1, cells := 2, slots := 6, locals := 15 } : Room).cells ({ frames := 1, cells := 2, slots := 6, locals := 15 } : Room).slots) := by
  refine MetFree.of_bodySF (plainFor_of_name pn_4) hisR ?_
  intro p e s m args below meth c s₁ Bd hml0 hP hK
  obtain ⟨rfl, hZ, hh⟩ := hP
  have hx := Bd.exec
  have hby := Bd.bytes
  have hlk : meth.locks = false := Bd.notSynchronized
  have hml : c.maxLocals = 1 := hml0
  have hown : s.vm.findClass "com/example/tristream/tristream/LongIndex" = some m.cls := findClass_of_methodNamed Bd.named
  have hnm := (name_of_methodNamed Bd.named Bd.method).1
  have X0 : Stand p l e ({ frames := 1, cells := 2, slots := 6, locals := 15 } : Room) s m #[(.ref a)] below meth c s₁ [] 0 0 := Stand.of_body Bd
  have e0 : s₁.heap = h0 := by rw [← hh, Bd.state]; rfl
  have N0 := Fr.nil n0
  have K0 : Keep h0 h0 [a] := Keep.refl _ _
  show OEnds p e below s (Q_liinit Z a h0 n0) _ _ _
  refine own_by (fun t k => castTop (ef_4 m a) k) ?_
  show OEnds p e below s _ _ _ (s₁.setTop (mkF m 0 #[(vr a)] []))
  refine qaN 1 X0 hx hby d4_0 rfl rfl ?_
  obtain ⟨T1, X1, e1, st1⟩ := initO X0 hx hZ hown (tw20 hw) (tw12 hw) (tw13 hw) e0 (g := (mkF m 1 #[(vr a)] [(.ref a)])) rfl (by rw [hml]; rfl) rfl (hb hby d4_1) (by decide) (W := 0) (by show 2 * 0 + _ ≤ _; exact Nat.le_of_eq rfl) (by decide)
  refine qat 4 #[(vr a)] [] st1 ?_
  refine qaN 5 X1 hx hby d4_4 rfl rfl ?_
  refine qc1 6 2 X1 hx hby d4_5 rfl rfl ?_
  obtain ⟨T2, h2, k2, X2, e2, E2, A2, st2⟩ := newP X1 hx hZ (aty := .long) (tw21 hw) e1 (g := (mkF m 6 #[(vr a)] [(.int 2), (.ref a)])) rfl (hb hby d4_6) rfl (by decide) (cap := 2) (by decide) (by decide) (by decide) (by decide)
  obtain ⟨nb2, g2⟩ : ∃ z, z = h0.size := ⟨_, rfl⟩
  rw [← g2] at A2 st2
  have g_nb2 : n0 ≤ nb2 := Nat.le_trans Z0 (Nat.le_of_eq g2.symm)
  have sz_nb2 : h0.size ≤ nb2 := Nat.le_trans K0.1 (Nat.le_of_eq g2.symm)
  have K2 := K0.ext E2
  have Z2 := Nat.le_trans Z0 E2.1
  have F2 : FA Z h2 nb2 .long 2 (fun i => .long ((fun _ => (0 : Int64)) i)) := FA.new A2 (by decide) (by decide) rfl
  refine qat 8 #[(vr a)] [(.ref nb2), (.ref a)] st2 ?_
  have O4 := (O0.ext E2)
  obtain ⟨T3, h3, X3, e3, W3, st3⟩ := putF X2 hx hZ hown (host := "") (Or.inl (tw22 hw)) Via.refl e2 (O4.fld 0 rfl rfl) O4.exa (Or.inl (tw23 hw)) (tw15 hw) (ty := (.array .long)) (by decide) rfl rfl (g := (mkF m 8 #[(vr a)] [(.ref nb2), (.ref a)])) rfl rfl (hb hby d4_8)
  have O3 : Obj Z h3 a "com/example/tristream/tristream/LongIndex" sch_li [(.ref nb2), .null, (.int 0), (.int 0)] := O4.set (so_sch_li hw) W3 0 rfl (Nat.le_of_ble_eq_true rfl)
  have N3 := Fr.snoc X3 N0 ga
  have Z3 := Nat.le_trans Z2 (Keep.of_wr W3).1
  have K3 := K2.wr W3 (wi 0 rfl)
  refine qat 11 #[(vr a)] [] st3 ?_
  refine qaN 12 X3 hx hby d4_11 rfl rfl ?_
  refine qc1 13 4 X3 hx hby d4_12 rfl rfl ?_
  obtain ⟨T5, h5, k5, X5, e5, E5, A5, st5⟩ := newP X3 hx hZ (aty := .int) (tw24 hw) e3 (g := (mkF m 13 #[(vr a)] [(.int 4), (.ref a)])) rfl (hb hby d4_13) rfl (by decide) (cap := 4) (by decide) (by decide) (by decide) (by decide)
  obtain ⟨nb5, g5⟩ : ∃ z, z = h3.size := ⟨_, rfl⟩
  rw [← g5] at A5 st5
  have F6 := (F2.other W3 (Ne.symm (Nat.ne_of_lt (Nat.lt_of_lt_of_le O0.lt (Nat.le_of_eq g2.symm)))))
  have ne_nb5 : nb2 ≠ nb5 := (Nat.ne_of_lt (Nat.lt_of_lt_of_le F6.lt (Nat.le_of_eq g5.symm)))
  have g_nb5 : n0 ≤ nb5 := Nat.le_trans Z3 (Nat.le_of_eq g5.symm)
  have sz_nb5 : h0.size ≤ nb5 := Nat.le_trans K3.1 (Nat.le_of_eq g5.symm)
  have K5 := K3.ext E5
  have Z5 := Nat.le_trans Z3 E5.1
  have F5 : FA Z h5 nb5 .int 4 (fun i => .int ((fun _ => (0 : Int32)) i)) := FA.new A5 (by decide) (by decide) rfl
  refine qat 15 #[(vr a)] [(.ref nb5), (.ref a)] st5 ?_
  have O8 := (O3.ext E5)
  have F9 := (F6.ext E5)
  obtain ⟨T7, h7, X7, e7, W7, st7⟩ := putF X5 hx hZ hown (host := "") (Or.inl (tw25 hw)) Via.refl e5 (O8.fld 1 rfl rfl) O8.exa (Or.inl (tw26 hw)) (tw15 hw) (ty := (.array .int)) (by decide) rfl rfl (g := (mkF m 15 #[(vr a)] [(.ref nb5), (.ref a)])) rfl rfl (hb hby d4_15)
  have O7 : Obj Z h7 a "com/example/tristream/tristream/LongIndex" sch_li [(.ref nb2), (.ref nb5), (.int 0), (.int 0)] := O8.set (so_sch_li hw) W7 1 rfl (Nat.le_of_ble_eq_true rfl)
  have N7 := Fr.snoc X7 N3 ga
  have Z7 := Nat.le_trans Z5 (Keep.of_wr W7).1
  have K7 := K5.wr W7 (wi 0 rfl)
  refine qat 18 #[(vr a)] [] st7 ?_
  refine qaN 19 X7 hx hby d4_18 rfl rfl ?_
  refine qc2 21 64 X7 hx hby d4_19 rfl rfl ?_
  refine qc1 22 4 X7 hx hby d4_21 rfl rfl ?_
  obtain ⟨T10, X10, e10, st10⟩ := own_callP X7 hx hZ (y := mn0) hown (tw27 hw) (tw28 hw) (tw29 hw) (tw30 hw) (by decide) (rm_ntz l Z a0 hw [] (4 : Int32) h7) e7 (g := (mkF m 22 #[(vr a)] [(.int 4), (.int 64), (.ref a)])) rfl (by rw [hml]; rfl) (argsL := [(.int 4)]) (rest := [(.int 64), (.ref a)]) (lenOf pd_pIrI rfl) rfl (W := 2) (by show 2 * 0 + _ ≤ _; exact Nat.le_of_eq rfl) (hb hby d4_22) (by decide) (by decide) (by decide) (by decide)
  refine qat 25 #[(vr a)] [(.int (ntz (4 : Int32))), (.int 64), (.ref a)] st10 ?_
  refine q_isub 26 X10 hx hby d4_25 rfl ?_
  rw [show ((64 : Int32) - (ntz (4 : Int32))) = (62 : Int32) by decide]
  show OEnds p e below s _ _ _ (T10.setTop (mkF m 26 #[(vr a)] [(.int 62), (.ref a)]))
  have F12 := (F9.other W7 (Ne.symm (Nat.ne_of_lt (Nat.lt_of_lt_of_le O0.lt (Nat.le_of_eq g2.symm)))))
  have F13 := (F5.other W7 (Ne.symm (Nat.ne_of_lt (Nat.lt_of_lt_of_le O3.lt (Nat.le_of_eq g5.symm)))))
  obtain ⟨T11, h11, X11, e11, W11, st11⟩ := putF X10 hx hZ hown (host := "") (Or.inl (tw32 hw)) Via.refl e10 (O7.fld 2 rfl rfl) O7.exa (Or.inl (tw33 hw)) (tw15 hw) (ty := .int) (by decide) rfl rfl (g := (mkF m 26 #[(vr a)] [(.int 62), (.ref a)])) rfl rfl (hb hby d4_26)
  have O11 : Obj Z h11 a "com/example/tristream/tristream/LongIndex" sch_li [(.ref nb2), (.ref nb5), (.int 62), (.int 0)] := O7.set (so_sch_li hw) W11 2 rfl (Nat.le_of_ble_eq_true rfl)
  have N11 := Fr.snoc X11 N7 ga
  have Z11 := Nat.le_trans Z7 (Keep.of_wr W11).1
  have K11 := K7.wr W11 (wi 0 rfl)
  refine qat 29 #[(vr a)] [] st11 ?_
  have F14 := (F12.other W11 (Ne.symm (Nat.ne_of_lt (Nat.lt_of_lt_of_le O0.lt (Nat.le_of_eq g2.symm)))))
  have F15 := (F13.other W11 (Ne.symm (Nat.ne_of_lt (Nat.lt_of_lt_of_le O3.lt (Nat.le_of_eq g5.symm)))))
  exact own_retV X11 hx hlk Bd.returns (hb hby d4_29) (by rw [e11]; exact ⟨rfl, N11, K11, nb2, nb5, ⟨sz_nb2, sz_nb5⟩, ⟨g_nb2, g_nb5⟩, ne_nb5, O11, F14, F15⟩) (by decide) (by decide)
theorem li_new : LI 4 62 0 (fun _ => (0 : Int32)) (fun _ => (0 : Int64)) 2 [] := ⟨Or.inl ⟨rfl, rfl⟩, rfl, by decide, by decide, fun i hi => absurd hi (Nat.not_lt_zero i), fun i j hi => absurd hi (Nat.not_lt_zero i), fun _ _ => (by decide : 0 ≤ (0 : Int32).toInt), inv0 4 _⟩
theorem nx_mod {S : Nat} (hS : S = 4 ∨ S = 8) {pp : Int32} {hk d : Nat} (h : pp.toInt = (((hk + d) % S : Nat) : Int)) (hn : (hk + d) % S < S) : ((pp + (1 : Int32)) &&& ((Int32.ofNat S) - (1 : Int32))).toInt = (((hk + (d + 1)) % S : Nat) : Int) := by
  rw [nxt hS h hn]
  congr 1
  rcases hS with rfl | rfl <;> omega
theorem pre_snoc {S hk d : Nat} {sl : Nat → Int32} {kf : Nat → Int64} {kk : Int64} (h : ∀ e, e < d → gn sl ((hk + e) % S) ≠ 0 ∧ ¬ kf (gn sl ((hk + e) % S) - 1) = kk) (h1 : gn sl ((hk + d) % S) ≠ 0) (h2 : ¬ kf (gn sl ((hk + d) % S) - 1) = kk) : ∀ e, e < d + 1 → gn sl ((hk + e) % S) ≠ 0 ∧ ¬ kf (gn sl ((hk + e) % S) - 1) = kk := by
  intro e he
  by_cases q : e = d
  · rw [q]; exact ⟨h1, h2⟩
  · exact h e (by omega)
theorem d13_0 : decode prog_25_method_7_code 0 = .ok (.aload_n 0, 1) := by decide +kernel
theorem d13_1 : decode prog_25_method_7_code 1 = .ok (.getfield 13, 3) := by decide +kernel
theorem d13_4 : decode prog_25_method_7_code 4 = .ok (.arraylength, 1) := by decide +kernel
theorem d13_5 : decode prog_25_method_7_code 5 = .ok (.iconst 1, 1) := by decide +kernel
theorem d13_6 : decode prog_25_method_7_code 6 = .ok (.isub, 1) := by decide +kernel
theorem d13_7 : decode prog_25_method_7_code 7 = .ok (.istore_n 3, 1) := by decide +kernel
theorem d13_8 : decode prog_25_method_7_code 8 = .ok (.aload_n 0, 1) := by decide +kernel
theorem d13_9 : decode prog_25_method_7_code 9 = .ok (.lload_n 1, 1) := by decide +kernel
theorem d13_10 : decode prog_25_method_7_code 10 = .ok (.invokevirtual 55, 3) := by decide +kernel
theorem d13_13 : decode prog_25_method_7_code 13 = .ok (.istore 4, 2) := by decide +kernel
theorem d13_15 : decode prog_25_method_7_code 15 = .ok (.aload_n 0, 1) := by decide +kernel
theorem d13_16 : decode prog_25_method_7_code 16 = .ok (.getfield 13, 3) := by decide +kernel
theorem d13_19 : decode prog_25_method_7_code 19 = .ok (.iload 4, 2) := by decide +kernel
theorem d13_21 : decode prog_25_method_7_code 21 = .ok (.iaload, 1) := by decide +kernel
theorem d13_22 : decode prog_25_method_7_code 22 = .ok (.ifCond .eq 33, 3) := by decide +kernel
theorem d13_25 : decode prog_25_method_7_code 25 = .ok (.aload_n 0, 1) := by decide +kernel
theorem d13_26 : decode prog_25_method_7_code 26 = .ok (.getfield 9, 3) := by decide +kernel
theorem d13_29 : decode prog_25_method_7_code 29 = .ok (.aload_n 0, 1) := by decide +kernel
theorem d13_30 : decode prog_25_method_7_code 30 = .ok (.getfield 13, 3) := by decide +kernel
theorem d13_33 : decode prog_25_method_7_code 33 = .ok (.iload 4, 2) := by decide +kernel
theorem d13_35 : decode prog_25_method_7_code 35 = .ok (.iaload, 1) := by decide +kernel
theorem d13_36 : decode prog_25_method_7_code 36 = .ok (.iconst 1, 1) := by decide +kernel
theorem d13_37 : decode prog_25_method_7_code 37 = .ok (.isub, 1) := by decide +kernel
theorem d13_38 : decode prog_25_method_7_code 38 = .ok (.laload, 1) := by decide +kernel
theorem d13_39 : decode prog_25_method_7_code 39 = .ok (.lload_n 1, 1) := by decide +kernel
theorem d13_40 : decode prog_25_method_7_code 40 = .ok (.lcmp, 1) := by decide +kernel
theorem d13_41 : decode prog_25_method_7_code 41 = .ok (.ifCond .eq 14, 3) := by decide +kernel
theorem d13_44 : decode prog_25_method_7_code 44 = .ok (.iload 4, 2) := by decide +kernel
theorem d13_46 : decode prog_25_method_7_code 46 = .ok (.iconst 1, 1) := by decide +kernel
theorem d13_47 : decode prog_25_method_7_code 47 = .ok (.iadd, 1) := by decide +kernel
theorem d13_48 : decode prog_25_method_7_code 48 = .ok (.iload_n 3, 1) := by decide +kernel
theorem d13_49 : decode prog_25_method_7_code 49 = .ok (.iand, 1) := by decide +kernel
theorem d13_50 : decode prog_25_method_7_code 50 = .ok (.istore 4, 2) := by decide +kernel
theorem d13_52 : decode prog_25_method_7_code 52 = .ok (.goto (-37), 3) := by decide +kernel
theorem d13_55 : decode prog_25_method_7_code 55 = .ok (.iload 4, 2) := by decide +kernel
theorem d13_57 : decode prog_25_method_7_code 57 = .ok (.ireturn, 1) := by decide +kernel
theorem pn_13 : plainName "com/example/tristream/tristream/LongIndex" = true := by first | (simp [plainName, overriddenIn]; done) | decide +kernel
theorem ef_13 (m : MethodId) (x0 : Addr) (x1 : Int64) : entryFrame m #[(.ref x0), (.long x1)] 5 = mkF m 0 #[.val (.ref x0), .val (.long x1), .second, .unset, .unset] [] := by first | (simp [entryFrame, mkF, argsToLocals, Value.category]; done) | rfl
def Q_lifind (S : Nat) (sf : Int32) (sl : Nat → Int32) (kf : Nat → Int64) (kk : Int64) (h0 : Heap) (v : Option Value) (h : Heap) (L : List Loc) : Prop := ∃ (r : Int32) (rn : Nat), v = some (.int r) ∧ L = [] ∧ h = h0 ∧ r.toInt = (rn : Int) ∧ Stop S (gn sl) (fun i => kf i = kk) (hm sf kk) rn
set_option maxRecDepth 65536 in
set_option maxHeartbeats 40000000 in
theorem rm_lifind (l : Launch) (Z : State) (a0 : Array Value) (hw : ∀ d ∈ tables_1, d.before a0 Z = true) (ws : List Jvm.Cond) (a : Addr) (kk : Int64) (kb : Addr) (sb : Addr) (z : Int32) (sf : Int32) (kn : Nat) (kf : Nat → Int64) (S : Nat) (sl : Nat → Int32) (h0 : Heap) (n0 : Nat) (Z0 : n0 ≤ h0.size) (O0 : Obj Z h0 a "com/example/tristream/tristream/LongIndex" sch_li [(.ref kb), (.ref sb), (.int sf), (.int z)]) (F_kb : FA Z h0 kb .long kn (fun i => .long (kf i))) (F_sb : FA Z h0 sb .int S (fun i => .int (sl i))) (hFo : Fo S sf sl kn) :
    MetFree l mn4 (head1 (Jvm.Cond.code mn4 prog_25_method_7_code 5 (some .int) :: ws) ({ frames := 1, cells := 0, slots := 0, locals := 14 } : Room)) (fun a_ U => a_ = #[(.ref a), (.long kk)] ∧ Z.Warmed39 U.vm ∧ U.heap = h0) (fun _ _ _ _ _ => True) (fun _ U o U' => ∃ v_ L_, o = .returned v_ ∧ Q_lifind S sf sl kf kk h0 v_ U'.heap L_ ∧ FrameEnd U o U' L_ ({ frames := 1, cells := 0, slots := 0, locals := 14 } : Room).cells ({ frames := 1, cells := 0, slots := 0, locals := 14 } : Room).slots) := by
  refine MetFree.of_bodySF (plainFor_of_name pn_13) hisR ?_
  intro p e s m args below meth c s₁ Bd hml0 hP hK
  obtain ⟨rfl, hZ, hh⟩ := hP
  have hx := Bd.exec
  have hby := Bd.bytes
  have hlk : meth.locks = false := Bd.notSynchronized
  have hml : c.maxLocals = 5 := hml0
  have hown : s.vm.findClass "com/example/tristream/tristream/LongIndex" = some m.cls := findClass_of_methodNamed Bd.named
  have hnm := (name_of_methodNamed Bd.named Bd.method).1
  have X0 : Stand p l e ({ frames := 1, cells := 0, slots := 0, locals := 14 } : Room) s m #[(.ref a), (.long kk)] below meth c s₁ [] 0 0 := Stand.of_body Bd
  have e0 : s₁.heap = h0 := by rw [← hh, Bd.state]; rfl
  have N0 := Fr.nil n0
  have K0 : Keep h0 h0 [] := Keep.refl _ _
  show OEnds p e below s (Q_lifind S sf sl kf kk h0) _ _ _
  refine own_by (fun t k => castTop (ef_13 m a kk) k) ?_
  show OEnds p e below s _ _ _ (s₁.setTop (mkF m 0 #[(vr a), (vj kk), sd, un, un] []))
  refine qaN 1 X0 hx hby d13_0 rfl rfl ?_
  refine qg 4 X0 hx hZ hown (tw25 hw) e0 (O0.fld 1 rfl rfl) hby d13_1 rfl fun T1 X1 e1 => ?_
  refine qn 5 (Int32.ofNat S) X1 hx hZ e1 F_sb rfl hby d13_4 rfl ?_
  refine qc1 6 1 X1 hx hby d13_5 rfl rfl ?_
  refine q_isub 7 X1 hx hby d13_6 rfl ?_
  refine qsiN 8 #[(vr a), (vj kk), sd, (vi ((Int32.ofNat S) - (1 : Int32))), un] X1 hx hby d13_7 rfl rfl ?_
  refine qaN 9 X1 hx hby d13_8 rfl rfl ?_
  refine qlN 10 X1 hx hby d13_9 rfl rfl ?_
  obtain ⟨T2, X2, e2, st2⟩ := own_callXR X1 hx hZ (y := mn2) hown (tw80 hw) (tw81 hw) (tw82 hw) (tw83 hw) (tw16 hw) (tw15 hw) (by decide) O0.exa (rm_home l Z a0 hw [] a kk kb sb sf z h0 n0 Z0 O0) e1 (g := (mkF m 10 #[(vr a), (vj kk), sd, (vi ((Int32.ofNat S) - (1 : Int32))), un] [(.long kk), (.ref a)])) rfl (by rw [hml]; rfl) (argsL := [(.long kk)]) (rest := []) (lenOf pd_pJrI rfl) rfl (W := 0) (by show 2 * 0 + _ ≤ _; exact Nat.le_of_eq rfl) (hb hby d13_10) (by decide) (by decide) (by decide) (by decide)
  refine qat 13 #[(vr a), (vj kk), sd, (vi ((Int32.ofNat S) - (1 : Int32))), un] [(.int (home_r kk sf))] st2 ?_
  refine qsi 15 #[(vr a), (vj kk), sd, (vi ((Int32.ofNat S) - (1 : Int32))), (vi (home_r kk sf))] X2 hx hby d13_13 rfl rfl ?_
  obtain ⟨hSz, hk4, hnn, hbd, s0, hs1, hs0⟩ := hFo
  have hS0 : 0 < S := by omega
  obtain ⟨hh1, hh2⟩ := hm_spec hSz kk
  obtain ⟨d0, hd1, hd0⟩ := far hSz.or hh2 hs1
  have lp : ∀ (j : Nat) (T : State) (lo : List Loc) (pp : Int32) (d : Nat) (X_lp : Stand p l e ({ frames := 1, cells := 0, slots := 0, locals := 14 } : Room) s m #[(.ref a), (.long kk)] below meth c T lo 0 0) (e_lp : T.heap = h0) (N_lp : Fr n0 lo) (hlo : lo = []) (hpp : pp.toInt = ((((hm sf kk + d) % S) : Nat) : Int)) (hpre : ∀ e, e < d → gn sl ((hm sf kk + e) % S) ≠ 0 ∧ ¬ kf (gn sl ((hm sf kk + e) % S) - 1) = kk) (hj : d + j = d0), OEnds p e below s (Q_lifind S sf sl kf kk h0) 0 0 (T.setTop (mkF m 15 #[(vr a), (vj kk), sd, (vi ((Int32.ofNat S) - (1 : Int32))), (vi pp)] [])) := by
    intro j
    induction j with
    | zero =>
      intro T lo pp d X_lp e_lp N_lp hlo hpp hpre hj
      show OEnds p e below s _ _ _ (T.setTop (mkF m 15 #[(vr a), (vj kk), sd, (vi ((Int32.ofNat S) - (1 : Int32))), (vi pp)] []))
      have hlt : ((hm sf kk + d) % S) < S := Nat.mod_lt _ hS0
      have hnn0 := hnn _ hlt
      have hdd : d = d0 := by omega
      have hz0 : sl ((hm sf kk + d) % S) = (0 : Int32) := gn_zero hnn0 (by rw [hdd, hd0]; exact hs0)
      show OEnds p e below s _ _ _ (T.setTop (mkF m 15 #[(vr a), (vj kk), sd, (vi ((Int32.ofNat S) - (1 : Int32))), (vi pp)] []))
      refine qaN 16 X_lp hx hby d13_15 rfl rfl ?_
      refine qg 19 X_lp hx hZ hown (tw25 hw) e_lp (O0.fld 1 rfl rfl) hby d13_16 rfl fun T3 X3 e3 => ?_
      refine qi 21 X3 hx hby d13_19 rfl rfl ?_
      refine qI 22 X3 hx hZ e3 F_sb ((hm sf kk + d) % S) hpp hlt (v := (.int (sl ((hm sf kk + d) % S)))) rfl hby d13_21 rfl ?_
      refine q_ify 55 X3 hx hby d13_22 rfl ((if0 _ _).trans (teq hz0).1) ?_
      refine qi 57 X3 hx hby d13_55 rfl rfl ?_
      exact own_retI X3 hx hlk Bd.returns (hb hby d13_57) ⟨_, _, rfl, hlo, e3, hpp, d, by omega, rfl, Or.inl (gn_of hz0), hpre⟩ (by decide) (by decide)
    | succ j ih_lp =>
      intro T lo pp d X_lp e_lp N_lp hlo hpp hpre hj
      show OEnds p e below s _ _ _ (T.setTop (mkF m 15 #[(vr a), (vj kk), sd, (vi ((Int32.ofNat S) - (1 : Int32))), (vi pp)] []))
      have hlt : ((hm sf kk + d) % S) < S := Nat.mod_lt _ hS0
      have hnn0 := hnn _ hlt
      show OEnds p e below s _ _ _ (T.setTop (mkF m 15 #[(vr a), (vj kk), sd, (vi ((Int32.ofNat S) - (1 : Int32))), (vi pp)] []))
      refine qaN 16 X_lp hx hby d13_15 rfl rfl ?_
      refine qg 19 X_lp hx hZ hown (tw25 hw) e_lp (O0.fld 1 rfl rfl) hby d13_16 rfl fun T4 X4 e4 => ?_
      refine qi 21 X4 hx hby d13_19 rfl rfl ?_
      refine qI 22 X4 hx hZ e4 F_sb ((hm sf kk + d) % S) hpp hlt (v := (.int (sl ((hm sf kk + d) % S)))) rfl hby d13_21 rfl ?_
      by_cases hc22_5 : (sl ((hm sf kk + d) % S)) = (0 : Int32)
      · refine q_ify 55 X4 hx hby d13_22 rfl ((if0 _ _).trans (teq hc22_5).1) ?_
        refine qi 57 X4 hx hby d13_55 rfl rfl ?_
        exact own_retI X4 hx hlk Bd.returns (hb hby d13_57) ⟨_, _, rfl, hlo, e4, hpp, d, by omega, rfl, Or.inl (gn_of hc22_5), hpre⟩ (by decide) (by decide)
      · refine q_ifn 25 X4 hx hby d13_22 rfl ((if0 _ _).trans (feq hc22_5).1) ?_
        refine qaN 26 X4 hx hby d13_25 rfl rfl ?_
        refine qg 29 X4 hx hZ hown (tw22 hw) e4 (O0.fld 0 rfl rfl) hby d13_26 rfl fun T6 X6 e6 => ?_
        refine qaN 30 X6 hx hby d13_29 rfl rfl ?_
        refine qg 33 X6 hx hZ hown (tw25 hw) e6 (O0.fld 1 rfl rfl) hby d13_30 rfl fun T7 X7 e7 => ?_
        refine qi 35 X7 hx hby d13_33 rfl rfl ?_
        refine qI 36 X7 hx hZ e7 F_sb ((hm sf kk + d) % S) hpp hlt (v := (.int (sl ((hm sf kk + d) % S)))) rfl hby d13_35 rfl ?_
        refine qc1 37 1 X7 hx hby d13_36 rfl rfl ?_
        refine q_isub 38 X7 hx hby d13_37 rfl ?_
        have hgp := gn_pos hnn0 hc22_5
        refine qJ 39 X7 hx hZ e7 F_kb (gn sl ((hm sf kk + d) % S) - 1) (idx_of hnn0 hgp) (hbd _ hlt hgp) (v := (.long (kf (gn sl ((hm sf kk + d) % S) - 1)))) rfl hby d13_38 rfl ?_
        refine qlN 40 X7 hx hby d13_39 rfl rfl ?_
        refine own_by (fun _ k => XS.lcmp X7.here hx rfl (hb hby d13_40) rfl k) ?_
        show OEnds p e below s _ _ _ (T7.setTop (mkF m 41 #[(vr a), (vj kk), sd, (vi ((Int32.ofNat S) - (1 : Int32))), (vi pp)] [(.int (lcmpW (kf (gn sl ((hm sf kk + d) % S) - 1)) kk))]))
        by_cases hc41_8 : (kf (gn sl ((hm sf kk + d) % S) - 1)) = kk
        · refine q_ify 55 X7 hx hby d13_41 rfl ((if0 _ _).trans (teq ((lw_eq _ _).mpr hc41_8)).1) ?_
          refine qi 57 X7 hx hby d13_55 rfl rfl ?_
          exact own_retI X7 hx hlk Bd.returns (hb hby d13_57) ⟨_, _, rfl, hlo, e7, hpp, d, by omega, rfl, Or.inr hc41_8, hpre⟩ (by decide) (by decide)
        · refine q_ifn 44 X7 hx hby d13_41 rfl ((if0 _ _).trans (feq (fun q => hc41_8 ((lw_eq _ _).mp q))).1) ?_
          refine qi 46 X7 hx hby d13_44 rfl rfl ?_
          refine qc1 47 1 X7 hx hby d13_46 rfl rfl ?_
          refine q_iadd 48 X7 hx hby d13_47 rfl ?_
          refine qiN 49 X7 hx hby d13_48 rfl rfl ?_
          refine q_iand 50 X7 hx hby d13_49 rfl ?_
          refine qsi 52 #[(vr a), (vj kk), sd, (vi ((Int32.ofNat S) - (1 : Int32))), (vi ((pp + (1 : Int32)) &&& ((Int32.ofNat S) - (1 : Int32))))] X7 hx hby d13_50 rfl rfl ?_
          refine q_goto 15 X7 hx hby d13_52 rfl ?_
          exact ih_lp T7 _ ((pp + (1 : Int32)) &&& ((Int32.ofNat S) - (1 : Int32))) (d + 1) X7 e7 N_lp hlo (nx_mod hSz.or hpp hlt) (pre_snoc hpre hgp hc41_8) (by omega)
  exact lp d0 T2 _ (home_r kk sf) 0 X2 e2 N0 rfl (by rw [Nat.add_zero, Nat.mod_eq_of_lt hh2]; exact hh1) (fun e he => absurd he (Nat.not_lt_zero e)) (Nat.zero_add d0)
theorem d17_0 : decode prog_25_method_4_code 0 = .ok (.aload_n 0, 1) := by decide +kernel
theorem d17_1 : decode prog_25_method_4_code 1 = .ok (.getfield 13, 3) := by decide +kernel
theorem d17_4 : decode prog_25_method_4_code 4 = .ok (.aload_n 0, 1) := by decide +kernel
theorem d17_5 : decode prog_25_method_4_code 5 = .ok (.lload_n 1, 1) := by decide +kernel
theorem d17_6 : decode prog_25_method_4_code 6 = .ok (.invokevirtual 30, 3) := by decide +kernel
theorem d17_9 : decode prog_25_method_4_code 9 = .ok (.iaload, 1) := by decide +kernel
theorem d17_10 : decode prog_25_method_4_code 10 = .ok (.iconst 1, 1) := by decide +kernel
theorem d17_11 : decode prog_25_method_4_code 11 = .ok (.isub, 1) := by decide +kernel
theorem d17_12 : decode prog_25_method_4_code 12 = .ok (.ireturn, 1) := by decide +kernel
theorem pn_17 : plainName "com/example/tristream/tristream/LongIndex" = true := by first | (simp [plainName, overriddenIn]; done) | decide +kernel
theorem ef_17 (m : MethodId) (x0 : Addr) (x1 : Int64) : entryFrame m #[(.ref x0), (.long x1)] 3 = mkF m 0 #[.val (.ref x0), .val (.long x1), .second] [] := by first | (simp [entryFrame, mkF, argsToLocals, Value.category]; done) | rfl
def Q_liidx (ks : List Int64) (kk : Int64) (h0 : Heap) (v : Option Value) (h : Heap) (L : List Loc) : Prop := ∃ r : Int32, v = some (.int r) ∧ L = [] ∧ h = h0 ∧ IdxR ks kk r
set_option maxRecDepth 65536 in
set_option maxHeartbeats 40000000 in
theorem rm_liidx (l : Launch) (Z : State) (a0 : Array Value) (hw : ∀ d ∈ tables_1, d.before a0 Z = true) (ws : List Jvm.Cond) (a : Addr) (kk : Int64) (kb : Addr) (sb : Addr) (z : Int32) (sf : Int32) (kn : Nat) (kf : Nat → Int64) (S : Nat) (sl : Nat → Int32) (ks : List Int64) (h0 : Heap) (n0 : Nat) (Z0 : n0 ≤ h0.size) (O0 : Obj Z h0 a "com/example/tristream/tristream/LongIndex" sch_li [(.ref kb), (.ref sb), (.int sf), (.int z)]) (F_kb : FA Z h0 kb .long kn (fun i => .long (kf i))) (F_sb : FA Z h0 sb .int S (fun i => .int (sl i))) (hLI : LI S sf z sl kf kn ks) :
    MetFree l mn5 (head1 (Jvm.Cond.code mn5 prog_25_method_4_code 3 (some .int) :: ws) ({ frames := 2, cells := 0, slots := 0, locals := 31 } : Room)) (fun a_ U => a_ = #[(.ref a), (.long kk)] ∧ Z.Warmed39 U.vm ∧ U.heap = h0) (fun _ _ _ _ _ => True) (fun _ U o U' => ∃ v_ L_, o = .returned v_ ∧ Q_liidx ks kk h0 v_ U'.heap L_ ∧ FrameEnd U o U' L_ ({ frames := 2, cells := 0, slots := 0, locals := 31 } : Room).cells ({ frames := 2, cells := 0, slots := 0, locals := 31 } : Room).slots) := by
  refine MetFree.of_bodySF (plainFor_of_name pn_17) hisR ?_
  intro p e s m args below meth c s₁ Bd hml0 hP hK
  obtain ⟨rfl, hZ, hh⟩ := hP
  have hx := Bd.exec
  have hby := Bd.bytes
  have hlk : meth.locks = false := Bd.notSynchronized
  have hml : c.maxLocals = 3 := hml0
  have hown : s.vm.findClass "com/example/tristream/tristream/LongIndex" = some m.cls := findClass_of_methodNamed Bd.named
  have hnm := (name_of_methodNamed Bd.named Bd.method).1
  have X0 : Stand p l e ({ frames := 2, cells := 0, slots := 0, locals := 31 } : Room) s m #[(.ref a), (.long kk)] below meth c s₁ [] 0 0 := Stand.of_body Bd
  have e0 : s₁.heap = h0 := by rw [← hh, Bd.state]; rfl
  have N0 := Fr.nil n0
  have K0 : Keep h0 h0 [] := Keep.refl _ _
  show OEnds p e below s (Q_liidx ks kk h0) _ _ _
  refine own_by (fun t k => castTop (ef_17 m a kk) k) ?_
  show OEnds p e below s _ _ _ (s₁.setTop (mkF m 0 #[(vr a), (vj kk), sd] []))
  refine qaN 1 X0 hx hby d17_0 rfl rfl ?_
  refine qg 4 X0 hx hZ hown (tw25 hw) e0 (O0.fld 1 rfl rfl) hby d17_1 rfl fun T1 X1 e1 => ?_
  refine qaN 5 X1 hx hby d17_4 rfl rfl ?_
  refine qlN 6 X1 hx hby d17_5 rfl rfl ?_
  obtain ⟨v2, T2, L2, h2, X2, e2, hQ2, st2⟩ := own_callX X1 hx hZ (y := mn4) hown (tw76 hw) (tw77 hw) (tw78 hw) (tw79 hw) (tw16 hw) (tw15 hw) (by decide) O0.exa (rm_lifind l Z a0 hw [] a kk kb sb z sf kn kf S sl h0 n0 Z0 O0 F_kb F_sb hLI.fo) e1 (g := (mkF m 6 #[(vr a), (vj kk), sd] [(.long kk), (.ref a), (.ref sb)])) rfl (by rw [hml]; rfl) (argsL := [(.long kk)]) (rest := [(.ref sb)]) (lenOf pd_pJrI rfl) rfl (W := 1) (by show 2 * 0 + _ ≤ _; exact Nat.le_of_eq rfl) (hb hby d17_6) (by decide) (by decide) (by decide) (by decide)
  obtain ⟨r2, rn2, rfl, rfl, hq2, hr2, hst2⟩ := hQ2
  rw [hq2] at e2
  have N2 := Fr.app N0 (Fr.nil n0)
  refine qtr 9 #[(vr a), (vj kk), sd] [(.int r2), (.ref sb)] st2 ?_
  refine qI 10 X2 hx hZ e2 F_sb rn2 hr2 hst2.lt (v := (.int (sl rn2))) rfl hby d17_9 rfl ?_
  refine qc1 11 1 X2 hx hby d17_10 rfl rfl ?_
  refine q_isub 12 X2 hx hby d17_11 rfl ?_
  exact own_retI X2 hx hlk Bd.returns (hb hby d17_12) ⟨_, rfl, rfl, e2, li_idx hLI hst2⟩ (by decide) (by decide)
theorem d20_0 : decode jdk_65_method_124_code 0 = .ok (.iload_n 1, 1) := by decide +kernel
theorem d20_1 : decode jdk_65_method_124_code 1 = .ok (.aload_n 0, 1) := by decide +kernel
theorem d20_2 : decode jdk_65_method_124_code 2 = .ok (.arraylength, 1) := by decide +kernel
theorem d20_3 : decode jdk_65_method_124_code 3 = .ok (.if_icmp .ne 11, 3) := by decide +kernel
theorem d20_14 : decode jdk_65_method_124_code 14 = .ok (.iload_n 1, 1) := by decide +kernel
theorem d20_15 : decode jdk_65_method_124_code 15 = .ok (.newarray .long, 2) := by decide +kernel
theorem d20_17 : decode jdk_65_method_124_code 17 = .ok (.astore_n 2, 1) := by decide +kernel
theorem d20_18 : decode jdk_65_method_124_code 18 = .ok (.aload_n 0, 1) := by decide +kernel
theorem d20_19 : decode jdk_65_method_124_code 19 = .ok (.iconst 0, 1) := by decide +kernel
theorem d20_20 : decode jdk_65_method_124_code 20 = .ok (.aload_n 2, 1) := by decide +kernel
theorem d20_21 : decode jdk_65_method_124_code 21 = .ok (.iconst 0, 1) := by decide +kernel
theorem d20_22 : decode jdk_65_method_124_code 22 = .ok (.aload_n 0, 1) := by decide +kernel
theorem d20_23 : decode jdk_65_method_124_code 23 = .ok (.arraylength, 1) := by decide +kernel
theorem d20_24 : decode jdk_65_method_124_code 24 = .ok (.iload_n 1, 1) := by decide +kernel
theorem d20_25 : decode jdk_65_method_124_code 25 = .ok (.invokestatic 304, 3) := by decide +kernel
theorem d20_28 : decode jdk_65_method_124_code 28 = .ok (.invokestatic 150, 3) := by decide +kernel
theorem d20_31 : decode jdk_65_method_124_code 31 = .ok (.aload_n 2, 1) := by decide +kernel
theorem d20_32 : decode jdk_65_method_124_code 32 = .ok (.areturn, 1) := by decide +kernel
theorem pn_20 : plainName "java/util/Arrays" = true := by first | (simp [plainName, overriddenIn]; done) | decide +kernel
theorem ef_20 (m : MethodId) (x0 : Addr) (x1 : Int32) : entryFrame m #[(.ref x0), (.int x1)] 3 = mkF m 0 #[.val (.ref x0), .val (.int x1), .unset] [] := by first | (simp [entryFrame, mkF, argsToLocals, Value.category]; done) | rfl
def Q_cpl (Z : State) (f : Nat → Int64) (h0 : Heap) (n0 : Nat) (r : Option Value) (h : Heap) (L : List Loc) : Prop := ∃ b : Addr, r = some (.ref b) ∧ Fr n0 L ∧ Keep h0 h [] ∧ h0.size ≤ b ∧ n0 ≤ b ∧ FA Z h b .long 4 (fun i => .long ((fun i => if i < 2 then f i else (0 : Int64)) i))
set_option maxRecDepth 65536 in
set_option maxHeartbeats 40000000 in
theorem rm_cpl (l : Launch) (Z : State) (a0 : Array Value) (hw : ∀ d ∈ tables_1, d.before a0 Z = true) (ws : List Jvm.Cond) (b : Addr) (f : Nat → Int64) (h0 : Heap) (n0 : Nat) (Z0 : n0 ≤ h0.size) (F0 : FA Z h0 b .long 2 (fun i => .long (f i))) :
    MetFree l mn6 (head1 (Jvm.Cond.code mn6 jdk_65_method_124_code 3 (some (.array .long)) :: ws) ({ frames := 1, cells := 1, slots := 4, locals := 18 } : Room)) (fun a_ U => a_ = #[(.ref b), (.int 4)] ∧ Z.Warmed39 U.vm ∧ U.heap = h0) (fun _ _ _ _ _ => True) (fun _ U o U' => ∃ v_ L_, o = .returned v_ ∧ Q_cpl Z f h0 n0 v_ U'.heap L_ ∧ FrameEnd U o U' L_ ({ frames := 1, cells := 1, slots := 4, locals := 18 } : Room).cells ({ frames := 1, cells := 1, slots := 4, locals := 18 } : Room).slots) := by
  refine MetFree.of_bodySF (plainFor_of_name pn_20) hisR ?_
  intro p e s m args below meth c s₁ Bd hml0 hP hK
  obtain ⟨rfl, hZ, hh⟩ := hP
  have hx := Bd.exec
  have hby := Bd.bytes
  have hlk : meth.locks = false := Bd.notSynchronized
  have hml : c.maxLocals = 3 := hml0
  have hown : s.vm.findClass "java/util/Arrays" = some m.cls := findClass_of_methodNamed Bd.named
  have hnm := (name_of_methodNamed Bd.named Bd.method).1
  have X0 : Stand p l e ({ frames := 1, cells := 1, slots := 4, locals := 18 } : Room) s m #[(.ref b), (.int 4)] below meth c s₁ [] 0 0 := Stand.of_body Bd
  have e0 : s₁.heap = h0 := by rw [← hh, Bd.state]; rfl
  have N0 := Fr.nil n0
  have K0 : Keep h0 h0 [] := Keep.refl _ _
  show OEnds p e below s (Q_cpl Z f h0 n0) _ _ _
  refine own_by (fun t k => castTop (ef_20 m b (4 : Int32)) k) ?_
  show OEnds p e below s _ _ _ (s₁.setTop (mkF m 0 #[(vr b), (vi 4), un] []))
  refine qiN 1 X0 hx hby d20_0 rfl rfl ?_
  refine qaN 2 X0 hx hby d20_1 rfl rfl ?_
  refine qn 3 (2 : Int32) X0 hx hZ e0 F0 (by decide) hby d20_2 rfl ?_
  refine q_cmy 14 X0 hx hby d20_3 rfl (feq (by decide : ¬ ((4 : Int32) = (2 : Int32)))).2 ?_
  refine qiN 15 X0 hx hby d20_14 rfl rfl ?_
  obtain ⟨T1, h1, k1, X1, e1, E1, A1, st1⟩ := newP X0 hx hZ (aty := .long) (tw21 hw) e0 (g := (mkF m 15 #[(vr b), (vi 4), un] [(.int 4)])) rfl (hb hby d20_15) rfl (by decide) (cap := 4) (by decide) (by decide) (by decide) (by decide)
  obtain ⟨nb1, g1⟩ : ∃ z, z = h0.size := ⟨_, rfl⟩
  rw [← g1] at A1 st1
  have g_nb1 : n0 ≤ nb1 := Nat.le_trans Z0 (Nat.le_of_eq g1.symm)
  have sz_nb1 : h0.size ≤ nb1 := Nat.le_trans K0.1 (Nat.le_of_eq g1.symm)
  have K1 := K0.ext E1
  have Z1 := Nat.le_trans Z0 E1.1
  have F1 : FA Z h1 nb1 .long 4 (fun i => .long ((fun _ => (0 : Int64)) i)) := FA.new A1 (by decide) (by decide) rfl
  refine qat 17 #[(vr b), (vi 4), un] [(.ref nb1)] st1 ?_
  refine qsaN 18 #[(vr b), (vi 4), (vr nb1)] X1 hx hby d20_17 rfl rfl ?_
  refine qaN 19 X1 hx hby d20_18 rfl rfl ?_
  refine qc1 20 0 X1 hx hby d20_19 rfl rfl ?_
  refine qaN 21 X1 hx hby d20_20 rfl rfl ?_
  refine qc1 22 0 X1 hx hby d20_21 rfl rfl ?_
  refine qaN 23 X1 hx hby d20_22 rfl rfl ?_
  have F2 := (F0.ext E1)
  refine qn 24 (2 : Int32) X1 hx hZ e1 F2 (by decide) hby d20_23 rfl ?_
  refine qiN 25 X1 hx hby d20_24 rfl rfl ?_
  obtain ⟨T3, X3, e3, st3⟩ := own_callP X1 hx hZ (y := mn1) hown (tw115 hw) (tw116 hw) (tw48 hw) (tw117 hw) (by decide) (rm_jmin l Z a0 hw [] (2 : Int32) (4 : Int32) h1) e1 (g := (mkF m 25 #[(vr b), (vi 4), (vr nb1)] [(.int 4), (.int 2), (.int 0), (.ref nb1), (.int 0), (.ref b)])) rfl (by rw [hml]; rfl) (argsL := [(.int 2), (.int 4)]) (rest := [(.int 0), (.ref nb1), (.int 0), (.ref b)]) (lenOf pd_pIIrI rfl) rfl (W := 4) (by show 2 * 0 + _ ≤ _; exact Nat.le_of_eq rfl) (hb hby d20_25) (by decide) (by decide) (by decide) (by decide)
  refine qat 28 #[(vr b), (vi 4), (vr nb1)] [(.int (jmin (2 : Int32) (4 : Int32))), (.int 0), (.ref nb1), (.int 0), (.ref b)] st3 ?_
  obtain ⟨T4, h4, L4, X4, e4, N4, Kq4, F4, st4⟩ := own_arraycopy X3 hx hZ hown (tw118 hw) (tw121 hw) (tw119 hw) (tw120 hw) e3 F2 F1 rfl (fun _ _ => rfl) (fun _ _ => rfl) 2 (by decide) (by decide) (by decide) N0 g_nb1 (g := (mkF m 28 #[(vr b), (vi 4), (vr nb1)] [(.int (jmin (2 : Int32) (4 : Int32))), (.int 0), (.ref nb1), (.int 0), (.ref b)])) rfl (by rw [hml]; rfl) rfl (hb hby d20_28) (by decide) (W := 0) (by show 2 * 0 + _ ≤ _; exact Nat.le_of_eq rfl) (by decide)
  have K4 : Keep h0 h4 [] := K1.trans Kq4 (allS (Or.inr sz_nb1) all0)
  have Z4 : n0 ≤ h4.size := Nat.le_trans Z1 Kq4.1
  have F4c : FA Z h4 nb1 .long 4 (fun i => .long ((fun i => if i < 2 then f i else (fun _ => (0 : Int64)) i) i)) := F4.congr fun i _ => by by_cases q : i < 2 <;> simp [q]
  refine qat 31 #[(vr b), (vi 4), (vr nb1)] [] st4 ?_
  refine qaN 32 X4 hx hby d20_31 rfl rfl ?_
  exact own_retA X4 hx hlk rfl Bd.returns rfl (hb hby d20_32) (by rw [e4]; exact ⟨_, rfl, N4, K4, sz_nb1, g_nb1, F4c⟩) (by decide) (by decide)
theorem d19_0 : decode prog_25_method_10_code 0 = .ok (.aload_n 0, 1) := by decide +kernel
theorem d19_1 : decode prog_25_method_10_code 1 = .ok (.iload_n 1, 1) := by decide +kernel
theorem d19_2 : decode prog_25_method_10_code 2 = .ok (.newarray .int, 2) := by decide +kernel
theorem d19_4 : decode prog_25_method_10_code 4 = .ok (.putfield 13, 3) := by decide +kernel
theorem d19_7 : decode prog_25_method_10_code 7 = .ok (.aload_n 0, 1) := by decide +kernel
theorem d19_8 : decode prog_25_method_10_code 8 = .ok (.bipush 64, 2) := by decide +kernel
theorem d19_10 : decode prog_25_method_10_code 10 = .ok (.iload_n 1, 1) := by decide +kernel
theorem d19_11 : decode prog_25_method_10_code 11 = .ok (.invokestatic 17, 3) := by decide +kernel
theorem d19_14 : decode prog_25_method_10_code 14 = .ok (.isub, 1) := by decide +kernel
theorem d19_15 : decode prog_25_method_10_code 15 = .ok (.putfield 23, 3) := by decide +kernel
theorem d19_18 : decode prog_25_method_10_code 18 = .ok (.iload_n 1, 1) := by decide +kernel
theorem d19_19 : decode prog_25_method_10_code 19 = .ok (.iconst 1, 1) := by decide +kernel
theorem d19_20 : decode prog_25_method_10_code 20 = .ok (.isub, 1) := by decide +kernel
theorem d19_21 : decode prog_25_method_10_code 21 = .ok (.istore_n 2, 1) := by decide +kernel
theorem d19_22 : decode prog_25_method_10_code 22 = .ok (.iconst 0, 1) := by decide +kernel
theorem d19_23 : decode prog_25_method_10_code 23 = .ok (.istore_n 3, 1) := by decide +kernel
theorem d19_24 : decode prog_25_method_10_code 24 = .ok (.iload_n 3, 1) := by decide +kernel
theorem d19_25 : decode prog_25_method_10_code 25 = .ok (.aload_n 0, 1) := by decide +kernel
theorem d19_26 : decode prog_25_method_10_code 26 = .ok (.getfield 27, 3) := by decide +kernel
theorem d19_29 : decode prog_25_method_10_code 29 = .ok (.if_icmp .ge 52, 3) := by decide +kernel
theorem d19_32 : decode prog_25_method_10_code 32 = .ok (.aload_n 0, 1) := by decide +kernel
theorem d19_33 : decode prog_25_method_10_code 33 = .ok (.aload_n 0, 1) := by decide +kernel
theorem d19_34 : decode prog_25_method_10_code 34 = .ok (.getfield 9, 3) := by decide +kernel
theorem d19_37 : decode prog_25_method_10_code 37 = .ok (.iload_n 3, 1) := by decide +kernel
theorem d19_38 : decode prog_25_method_10_code 38 = .ok (.laload, 1) := by decide +kernel
theorem d19_39 : decode prog_25_method_10_code 39 = .ok (.invokevirtual 55, 3) := by decide +kernel
theorem d19_42 : decode prog_25_method_10_code 42 = .ok (.istore 4, 2) := by decide +kernel
theorem d19_44 : decode prog_25_method_10_code 44 = .ok (.aload_n 0, 1) := by decide +kernel
theorem d19_45 : decode prog_25_method_10_code 45 = .ok (.getfield 13, 3) := by decide +kernel
theorem d19_48 : decode prog_25_method_10_code 48 = .ok (.iload 4, 2) := by decide +kernel
theorem d19_50 : decode prog_25_method_10_code 50 = .ok (.iaload, 1) := by decide +kernel
theorem d19_51 : decode prog_25_method_10_code 51 = .ok (.ifCond .eq 14, 3) := by decide +kernel
theorem d19_54 : decode prog_25_method_10_code 54 = .ok (.iload 4, 2) := by decide +kernel
theorem d19_56 : decode prog_25_method_10_code 56 = .ok (.iconst 1, 1) := by decide +kernel
theorem d19_57 : decode prog_25_method_10_code 57 = .ok (.iadd, 1) := by decide +kernel
theorem d19_58 : decode prog_25_method_10_code 58 = .ok (.iload_n 2, 1) := by decide +kernel
theorem d19_59 : decode prog_25_method_10_code 59 = .ok (.iand, 1) := by decide +kernel
theorem d19_60 : decode prog_25_method_10_code 60 = .ok (.istore 4, 2) := by decide +kernel
theorem d19_62 : decode prog_25_method_10_code 62 = .ok (.goto (-18), 3) := by decide +kernel
theorem d19_65 : decode prog_25_method_10_code 65 = .ok (.aload_n 0, 1) := by decide +kernel
theorem d19_66 : decode prog_25_method_10_code 66 = .ok (.getfield 13, 3) := by decide +kernel
theorem d19_69 : decode prog_25_method_10_code 69 = .ok (.iload 4, 2) := by decide +kernel
theorem d19_71 : decode prog_25_method_10_code 71 = .ok (.iload_n 3, 1) := by decide +kernel
theorem d19_72 : decode prog_25_method_10_code 72 = .ok (.iconst 1, 1) := by decide +kernel
theorem d19_73 : decode prog_25_method_10_code 73 = .ok (.iadd, 1) := by decide +kernel
theorem d19_74 : decode prog_25_method_10_code 74 = .ok (.iastore, 1) := by decide +kernel
theorem d19_75 : decode prog_25_method_10_code 75 = .ok (.iinc 3 1, 3) := by decide +kernel
theorem d19_78 : decode prog_25_method_10_code 78 = .ok (.goto (-54), 3) := by decide +kernel
theorem d19_81 : decode prog_25_method_10_code 81 = .ok (.return_, 1) := by decide +kernel
theorem pn_19 : plainName "com/example/tristream/tristream/LongIndex" = true := by first | (simp [plainName, overriddenIn]; done) | decide +kernel
theorem ef_19 (m : MethodId) (x0 : Addr) (x1 : Int32) : entryFrame m #[(.ref x0), (.int x1)] 5 = mkF m 0 #[.val (.ref x0), .val (.int x1), .unset, .unset, .unset] [] := by first | (simp [entryFrame, mkF, argsToLocals, Value.category]; done) | rfl
def Q_rs8 (Z : State) (a kb : Addr) (kf : Nat → Int64) (h0 : Heap) (n0 : Nat) (r : Option Value) (h : Heap) (L : List Loc) : Prop := r = none ∧ Fr n0 L ∧ Keep h0 h [a] ∧ ∃ (sb : Addr) (sl : Nat → Int32), h0.size ≤ sb ∧ n0 ≤ sb ∧ (∀ s, s < 8 → 0 ≤ (sl s).toInt) ∧ Inv 8 (fun i => hm 61 (kf i)) (gn sl) (fun i => i < 2) ∧ Obj Z h a "com/example/tristream/tristream/LongIndex" sch_li [(.ref kb), (.ref sb), (.int 61), (.int 2)] ∧ FA Z h sb .int 8 (fun i => .int (sl i))
set_option maxRecDepth 65536 in
set_option maxHeartbeats 40000000 in
theorem rm_rs8 (l : Launch) (Z : State) (a0 : Array Value) (hw : ∀ d ∈ tables_1, d.before a0 Z = true) (ws : List Jvm.Cond) (a : Addr) (kb : Addr) (sb : Addr) (sf : Int32) (kf : Nat → Int64) (h0 : Heap) (n0 : Nat) (Z0 : n0 ≤ h0.size) (O0 : Obj Z h0 a "com/example/tristream/tristream/LongIndex" sch_li [(.ref kb), (.ref sb), (.int sf), (.int 2)]) (F_kb : FA Z h0 kb .long 2 (fun i => .long (kf i))) (ga : n0 ≤ a) :
    MetFree l mn7 (head1 (Jvm.Cond.code mn7 prog_25_method_10_code 5 none :: ws) ({ frames := 1, cells := 1, slots := 8, locals := 15 } : Room)) (fun a_ U => a_ = #[(.ref a), (.int 8)] ∧ Z.Warmed39 U.vm ∧ U.heap = h0) (fun _ _ _ _ _ => True) (fun _ U o U' => ∃ v_ L_, o = .returned v_ ∧ Q_rs8 Z a kb kf h0 n0 v_ U'.heap L_ ∧ FrameEnd U o U' L_ ({ frames := 1, cells := 1, slots := 8, locals := 15 } : Room).cells ({ frames := 1, cells := 1, slots := 8, locals := 15 } : Room).slots) := by
  refine MetFree.of_bodySF (plainFor_of_name pn_19) hisR ?_
  intro p e s m args below meth c s₁ Bd hml0 hP hK
  obtain ⟨rfl, hZ, hh⟩ := hP
  have hx := Bd.exec
  have hby := Bd.bytes
  have hlk : meth.locks = false := Bd.notSynchronized
  have hml : c.maxLocals = 5 := hml0
  have hown : s.vm.findClass "com/example/tristream/tristream/LongIndex" = some m.cls := findClass_of_methodNamed Bd.named
  have hnm := (name_of_methodNamed Bd.named Bd.method).1
  have X0 : Stand p l e ({ frames := 1, cells := 1, slots := 8, locals := 15 } : Room) s m #[(.ref a), (.int 8)] below meth c s₁ [] 0 0 := Stand.of_body Bd
  have e0 : s₁.heap = h0 := by rw [← hh, Bd.state]; rfl
  have N0 := Fr.nil n0
  have K0 : Keep h0 h0 [a] := Keep.refl _ _
  show OEnds p e below s (Q_rs8 Z a kb kf h0 n0) _ _ _
  refine own_by (fun t k => castTop (ef_19 m a (8 : Int32)) k) ?_
  show OEnds p e below s _ _ _ (s₁.setTop (mkF m 0 #[(vr a), (vi 8), un, un, un] []))
  refine qaN 1 X0 hx hby d19_0 rfl rfl ?_
  refine qiN 2 X0 hx hby d19_1 rfl rfl ?_
  obtain ⟨T1, h1, k1, X1, e1, E1, A1, st1⟩ := newP X0 hx hZ (aty := .int) (tw24 hw) e0 (g := (mkF m 2 #[(vr a), (vi 8), un, un, un] [(.int 8), (.ref a)])) rfl (hb hby d19_2) rfl (by decide) (cap := 8) (by decide) (by decide) (by decide) (by decide)
  obtain ⟨nb1, g1⟩ : ∃ z, z = h0.size := ⟨_, rfl⟩
  rw [← g1] at A1 st1
  have g_nb1 : n0 ≤ nb1 := Nat.le_trans Z0 (Nat.le_of_eq g1.symm)
  have sz_nb1 : h0.size ≤ nb1 := Nat.le_trans K0.1 (Nat.le_of_eq g1.symm)
  have K1 := K0.ext E1
  have Z1 := Nat.le_trans Z0 E1.1
  have F1 : FA Z h1 nb1 .int 8 (fun i => .int ((fun _ => (0 : Int32)) i)) := FA.new A1 (by decide) (by decide) rfl
  refine qat 4 #[(vr a), (vi 8), un, un, un] [(.ref nb1), (.ref a)] st1 ?_
  have O3 := (O0.ext E1)
  have F4 := (F_kb.ext E1)
  obtain ⟨T2, h2, X2, e2, W2, st2⟩ := putF X1 hx hZ hown (host := "") (Or.inl (tw25 hw)) Via.refl e1 (O3.fld 1 rfl rfl) O3.exa (Or.inl (tw26 hw)) (tw15 hw) (ty := (.array .int)) (by decide) rfl rfl (g := (mkF m 4 #[(vr a), (vi 8), un, un, un] [(.ref nb1), (.ref a)])) rfl rfl (hb hby d19_4)
  have O2 : Obj Z h2 a "com/example/tristream/tristream/LongIndex" sch_li [(.ref kb), (.ref nb1), (.int sf), (.int 2)] := O3.set (so_sch_li hw) W2 1 rfl (Nat.le_of_ble_eq_true rfl)
  have N2 := Fr.snoc X2 N0 ga
  have Z2 := Nat.le_trans Z1 (Keep.of_wr W2).1
  have K2 := K1.wr W2 (wi 0 rfl)
  refine qat 7 #[(vr a), (vi 8), un, un, un] [] st2 ?_
  refine qaN 8 X2 hx hby d19_7 rfl rfl ?_
  refine qc2 10 64 X2 hx hby d19_8 rfl rfl ?_
  refine qiN 11 X2 hx hby d19_10 rfl rfl ?_
  obtain ⟨T5, X5, e5, st5⟩ := own_callP X2 hx hZ (y := mn0) hown (tw27 hw) (tw28 hw) (tw29 hw) (tw30 hw) (by decide) (rm_ntz l Z a0 hw [] (8 : Int32) h2) e2 (g := (mkF m 11 #[(vr a), (vi 8), un, un, un] [(.int 8), (.int 64), (.ref a)])) rfl (by rw [hml]; rfl) (argsL := [(.int 8)]) (rest := [(.int 64), (.ref a)]) (lenOf pd_pIrI rfl) rfl (W := 2) (by show 2 * 0 + _ ≤ _; exact Nat.le_of_eq rfl) (hb hby d19_11) (by decide) (by decide) (by decide) (by decide)
  refine qat 14 #[(vr a), (vi 8), un, un, un] [(.int (ntz (8 : Int32))), (.int 64), (.ref a)] st5 ?_
  refine q_isub 15 X5 hx hby d19_14 rfl ?_
  rw [show ((64 : Int32) - (ntz (8 : Int32))) = (61 : Int32) by decide]
  show OEnds p e below s _ _ _ (T5.setTop (mkF m 15 #[(vr a), (vi 8), un, un, un] [(.int 61), (.ref a)]))
  have F7 := (F4.other W2 (Ne.symm (O3.ne_fa (tw15 hw) F4)))
  have F8 := (F1.other W2 (Ne.symm (Nat.ne_of_lt (Nat.lt_of_lt_of_le O0.lt (Nat.le_of_eq g1.symm)))))
  obtain ⟨T6, h6, X6, e6, W6, st6⟩ := putF X5 hx hZ hown (host := "") (Or.inl (tw32 hw)) Via.refl e5 (O2.fld 2 rfl rfl) O2.exa (Or.inl (tw33 hw)) (tw15 hw) (ty := .int) (by decide) rfl rfl (g := (mkF m 15 #[(vr a), (vi 8), un, un, un] [(.int 61), (.ref a)])) rfl rfl (hb hby d19_15)
  have O6 : Obj Z h6 a "com/example/tristream/tristream/LongIndex" sch_li [(.ref kb), (.ref nb1), (.int 61), (.int 2)] := O2.set (so_sch_li hw) W6 2 rfl (Nat.le_of_ble_eq_true rfl)
  have N6 := Fr.snoc X6 N2 ga
  have Z6 := Nat.le_trans Z2 (Keep.of_wr W6).1
  have K6 := K2.wr W6 (wi 0 rfl)
  refine qat 18 #[(vr a), (vi 8), un, un, un] [] st6 ?_
  refine qiN 19 X6 hx hby d19_18 rfl rfl ?_
  refine qc1 20 1 X6 hx hby d19_19 rfl rfl ?_
  refine q_isub 21 X6 hx hby d19_20 rfl ?_
  show OEnds p e below s _ _ _ (T6.setTop (mkF m 21 #[(vr a), (vi 8), un, un, un] [(.int 7)]))
  refine qsiN 22 #[(vr a), (vi 8), (vi 7), un, un] X6 hx hby d19_21 rfl rfl ?_
  refine qc1 23 0 X6 hx hby d19_22 rfl rfl ?_
  refine qsiN 24 #[(vr a), (vi 8), (vi 7), (vi 0), un] X6 hx hby d19_23 rfl rfl ?_
  refine qiN 25 X6 hx hby d19_24 rfl rfl ?_
  refine qaN 26 X6 hx hby d19_25 rfl rfl ?_
  refine qg 29 X6 hx hZ hown (tw85 hw) e6 (O6.fld 3 rfl rfl) hby d19_26 rfl fun T9 X9 e9 => ?_
  refine q_cmn 32 X9 hx hby d19_29 rfl (tlt (by decide : (0 : Int32) < (2 : Int32))).2.1 ?_
  refine qaN 33 X9 hx hby d19_32 rfl rfl ?_
  refine qaN 34 X9 hx hby d19_33 rfl rfl ?_
  refine qg 37 X9 hx hZ hown (tw22 hw) e9 (O6.fld 0 rfl rfl) hby d19_34 rfl fun T10 X10 e10 => ?_
  refine qiN 38 X10 hx hby d19_37 rfl rfl ?_
  have F11 := (F7.other W6 (Ne.symm (O2.ne_fa (tw15 hw) F7)))
  refine qJ 39 X10 hx hZ e10 F11 0 (by decide) (by decide) (v := (.long (kf 0))) rfl hby d19_38 rfl ?_
  obtain ⟨T12, X12, e12, st12⟩ := own_callXR X10 hx hZ (y := mn2) hown (tw80 hw) (tw81 hw) (tw82 hw) (tw83 hw) (tw16 hw) (tw15 hw) (by decide) O6.exa (rm_home l Z a0 hw [] a (kf 0) kb nb1 (61 : Int32) (2 : Int32) h6 n0 Z6 O6) e10 (g := (mkF m 39 #[(vr a), (vi 8), (vi 7), (vi 0), un] [(.long (kf 0)), (.ref a)])) rfl (by rw [hml]; rfl) (argsL := [(.long (kf 0))]) (rest := []) (lenOf pd_pJrI rfl) rfl (W := 0) (by show 2 * 0 + _ ≤ _; exact Nat.le_of_eq rfl) (hb hby d19_39) (by decide) (by decide) (by decide) (by decide)
  refine qat 42 #[(vr a), (vi 8), (vi 7), (vi 0), un] [(.int (home_r (kf 0) (61 : Int32)))] st12 ?_
  refine qsi 44 #[(vr a), (vi 8), (vi 7), (vi 0), (vi (home_r (kf 0) (61 : Int32)))] X12 hx hby d19_42 rfl rfl ?_
  refine qaN 45 X12 hx hby d19_44 rfl rfl ?_
  refine qg 48 X12 hx hZ hown (tw25 hw) e12 (O6.fld 1 rfl rfl) hby d19_45 rfl fun T13 X13 e13 => ?_
  refine qi 50 X13 hx hby d19_48 rfl rfl ?_
  have F14 := (F8.other W6 (Ne.symm (Nat.ne_of_lt (Nat.lt_of_lt_of_le O0.lt (Nat.le_of_eq g1.symm)))))
  refine qI 51 X13 hx hZ e13 F14 (hm 61 (kf 0)) (hm_spec z8 (kf 0)).1 (hm_spec z8 (kf 0)).2 (v := (.int 0)) rfl hby d19_50 rfl ?_
  refine q_ify 65 X13 hx hby d19_51 rfl ((if0 _ _).trans (teq (by decide : (0 : Int32) = (0 : Int32))).1) ?_
  refine qaN 66 X13 hx hby d19_65 rfl rfl ?_
  refine qg 69 X13 hx hZ hown (tw25 hw) e13 (O6.fld 1 rfl rfl) hby d19_66 rfl fun T15 X15 e15 => ?_
  refine qi 71 X15 hx hby d19_69 rfl rfl ?_
  refine qiN 72 X15 hx hby d19_71 rfl rfl ?_
  refine qc1 73 1 X15 hx hby d19_72 rfl rfl ?_
  refine q_iadd 74 X15 hx hby d19_73 rfl ?_
  show OEnds p e below s _ _ _ (T15.setTop (mkF m 74 #[(vr a), (vi 8), (vi 7), (vi 0), (vi (home_r (kf 0) (61 : Int32)))] [(.int 1), (.int (home_r (kf 0) (61 : Int32))), (.ref nb1)]))
  obtain ⟨T16, h16, X16, e16, W16, st16⟩ := own_iastore X15 hx hZ e15 F14 (hm 61 (kf 0)) (hm_spec z8 (kf 0)).1 (hm_spec z8 (kf 0)).2 (g := (mkF m 74 #[(vr a), (vi 8), (vi 7), (vi 0), (vi (home_r (kf 0) (61 : Int32)))] [(.int 1), (.int (home_r (kf 0) (61 : Int32))), (.ref nb1)])) rfl rfl (hb hby d19_74)
  have F16 : FA Z h16 nb1 .int 8 (fun i => .int ((updI (fun _ => (0 : Int32)) (hm 61 (kf 0)) (1 : Int32)) i)) := F14.setI W16
  have N16 := Fr.snoc X16 N6 g_nb1
  have Z16 := Nat.le_trans Z6 (Keep.of_wr W16).1
  have K16 := K6.wr W16 (Or.inr sz_nb1)
  refine qat 75 #[(vr a), (vi 8), (vi 7), (vi 0), (vi (home_r (kf 0) (61 : Int32)))] [] st16 ?_
  refine q_inc 78 #[(vr a), (vi 8), (vi 7), (vi 1), (vi (home_r (kf 0) (61 : Int32)))] X16 hx hby d19_75 rfl rfl rfl ?_
  refine q_goto 24 X16 hx hby d19_78 rfl ?_
  refine qiN 25 X16 hx hby d19_24 rfl rfl ?_
  refine qaN 26 X16 hx hby d19_25 rfl rfl ?_
  have O18 := (O6.other W16 (Nat.ne_of_lt (Nat.lt_of_lt_of_le O0.lt (Nat.le_of_eq g1.symm))))
  refine qg 29 X16 hx hZ hown (tw85 hw) e16 (O18.fld 3 rfl rfl) hby d19_26 rfl fun T17 X17 e17 => ?_
  refine q_cmn 32 X17 hx hby d19_29 rfl (tlt (by decide : (1 : Int32) < (2 : Int32))).2.1 ?_
  refine qaN 33 X17 hx hby d19_32 rfl rfl ?_
  refine qaN 34 X17 hx hby d19_33 rfl rfl ?_
  refine qg 37 X17 hx hZ hown (tw22 hw) e17 (O18.fld 0 rfl rfl) hby d19_34 rfl fun T19 X19 e19 => ?_
  refine qiN 38 X19 hx hby d19_37 rfl rfl ?_
  have F20 := (F11.other W16 (Nat.ne_of_lt (Nat.lt_of_lt_of_le F_kb.lt (Nat.le_of_eq g1.symm))))
  refine qJ 39 X19 hx hZ e19 F20 1 (by decide) (by decide) (v := (.long (kf 1))) rfl hby d19_38 rfl ?_
  obtain ⟨T21, X21, e21, st21⟩ := own_callXR X19 hx hZ (y := mn2) hown (tw80 hw) (tw81 hw) (tw82 hw) (tw83 hw) (tw16 hw) (tw15 hw) (by decide) O18.exa (rm_home l Z a0 hw [] a (kf 1) kb nb1 (61 : Int32) (2 : Int32) h16 n0 Z16 O18) e19 (g := (mkF m 39 #[(vr a), (vi 8), (vi 7), (vi 1), (vi (home_r (kf 0) (61 : Int32)))] [(.long (kf 1)), (.ref a)])) rfl (by rw [hml]; rfl) (argsL := [(.long (kf 1))]) (rest := []) (lenOf pd_pJrI rfl) rfl (W := 0) (by show 2 * 0 + _ ≤ _; exact Nat.le_of_eq rfl) (hb hby d19_39) (by decide) (by decide) (by decide) (by decide)
  refine qat 42 #[(vr a), (vi 8), (vi 7), (vi 1), (vi (home_r (kf 0) (61 : Int32)))] [(.int (home_r (kf 1) (61 : Int32)))] st21 ?_
  refine qsi 44 #[(vr a), (vi 8), (vi 7), (vi 1), (vi (home_r (kf 1) (61 : Int32)))] X21 hx hby d19_42 rfl rfl ?_
  refine qaN 45 X21 hx hby d19_44 rfl rfl ?_
  refine qg 48 X21 hx hZ hown (tw25 hw) e21 (O18.fld 1 rfl rfl) hby d19_45 rfl fun T22 X22 e22 => ?_
  refine qi 50 X22 hx hby d19_48 rfl rfl ?_
  refine qI 51 X22 hx hZ e22 F16 (hm 61 (kf 1)) (hm_spec z8 (kf 1)).1 (hm_spec z8 (kf 1)).2 (v := (.int ((updI (fun _ => (0 : Int32)) (hm 61 (kf 0)) (1 : Int32)) (hm 61 (kf 1))))) rfl hby d19_50 rfl ?_
  by_cases hc51_23 : ((updI (fun _ => (0 : Int32)) (hm 61 (kf 0)) (1 : Int32)) (hm 61 (kf 1))) = (0 : Int32)
  · refine q_ify 65 X22 hx hby d19_51 rfl ((if0 _ _).trans (teq hc51_23).1) ?_
    refine qaN 66 X22 hx hby d19_65 rfl rfl ?_
    refine qg 69 X22 hx hZ hown (tw25 hw) e22 (O18.fld 1 rfl rfl) hby d19_66 rfl fun T24 X24 e24 => ?_
    refine qi 71 X24 hx hby d19_69 rfl rfl ?_
    refine qiN 72 X24 hx hby d19_71 rfl rfl ?_
    refine qc1 73 1 X24 hx hby d19_72 rfl rfl ?_
    refine q_iadd 74 X24 hx hby d19_73 rfl ?_
    show OEnds p e below s _ _ _ (T24.setTop (mkF m 74 #[(vr a), (vi 8), (vi 7), (vi 1), (vi (home_r (kf 1) (61 : Int32)))] [(.int 2), (.int (home_r (kf 1) (61 : Int32))), (.ref nb1)]))
    obtain ⟨T25, h25, X25, e25, W25, st25⟩ := own_iastore X24 hx hZ e24 F16 (hm 61 (kf 1)) (hm_spec z8 (kf 1)).1 (hm_spec z8 (kf 1)).2 (g := (mkF m 74 #[(vr a), (vi 8), (vi 7), (vi 1), (vi (home_r (kf 1) (61 : Int32)))] [(.int 2), (.int (home_r (kf 1) (61 : Int32))), (.ref nb1)])) rfl rfl (hb hby d19_74)
    have F25 : FA Z h25 nb1 .int 8 (fun i => .int ((updI (updI (fun _ => (0 : Int32)) (hm 61 (kf 0)) (1 : Int32)) (hm 61 (kf 1)) (2 : Int32)) i)) := F16.setI W25
    obtain ⟨f25, ef25⟩ : ∃ fz_ : Nat → Int32, fz_ = (updI (updI (fun _ => (0 : Int32)) (hm 61 (kf 0)) (1 : Int32)) (hm 61 (kf 1)) (2 : Int32)) := ⟨_, rfl⟩
    rw [← ef25] at F25
    have N25 := Fr.snoc X25 N16 g_nb1
    have Z25 := Nat.le_trans Z16 (Keep.of_wr W25).1
    have K25 := K16.wr W25 (Or.inr sz_nb1)
    refine qat 75 #[(vr a), (vi 8), (vi 7), (vi 1), (vi (home_r (kf 1) (61 : Int32)))] [] st25 ?_
    refine q_inc 78 #[(vr a), (vi 8), (vi 7), (vi 2), (vi (home_r (kf 1) (61 : Int32)))] X25 hx hby d19_75 rfl rfl rfl ?_
    refine q_goto 24 X25 hx hby d19_78 rfl ?_
    refine qiN 25 X25 hx hby d19_24 rfl rfl ?_
    refine qaN 26 X25 hx hby d19_25 rfl rfl ?_
    have O27 := (O18.other W25 (Nat.ne_of_lt (Nat.lt_of_lt_of_le O0.lt (Nat.le_of_eq g1.symm))))
    refine qg 29 X25 hx hZ hown (tw85 hw) e25 (O27.fld 3 rfl rfl) hby d19_26 rfl fun T26 X26 e26 => ?_
    refine q_cmy 81 X26 hx hby d19_29 rfl (flt (by decide : ¬ ((2 : Int32) < (2 : Int32)))).2.1 ?_
    exact own_retV X26 hx hlk Bd.returns (hb hby d19_81) (by rw [e26]; subst ef25; exact ⟨rfl, N25, K25, nb1, _, sz_nb1, g_nb1, rs_nn _ _, (rs8 (d := 0) rfl (Or.inl ⟨rfl, rfl, rs_ne hc51_23⟩)), O27, F25⟩) (by decide) (by decide)
  · refine q_ifn 54 X22 hx hby d19_51 rfl ((if0 _ _).trans (feq hc51_23).1) ?_
    refine qi 56 X22 hx hby d19_54 rfl rfl ?_
    refine qc1 57 1 X22 hx hby d19_56 rfl rfl ?_
    refine q_iadd 58 X22 hx hby d19_57 rfl ?_
    refine qiN 59 X22 hx hby d19_58 rfl rfl ?_
    refine q_iand 60 X22 hx hby d19_59 rfl ?_
    refine qsi 62 #[(vr a), (vi 8), (vi 7), (vi 1), (vi (((home_r (kf 1) (61 : Int32)) + (1 : Int32)) &&& (7 : Int32)))] X22 hx hby d19_60 rfl rfl ?_
    refine q_goto 44 X22 hx hby d19_62 rfl ?_
    refine qaN 45 X22 hx hby d19_44 rfl rfl ?_
    refine qg 48 X22 hx hZ hown (tw25 hw) e22 (O18.fld 1 rfl rfl) hby d19_45 rfl fun T28 X28 e28 => ?_
    refine qi 50 X28 hx hby d19_48 rfl rfl ?_
    refine qI 51 X28 hx hZ e28 F16 (((hm 61 (kf 1)) + 1) % 8) (nxt8 (hm_spec z8 (kf 1)).1 (hm_spec z8 (kf 1)).2) (Nat.mod_lt _ (by decide)) (v := (.int ((updI (fun _ => (0 : Int32)) (hm 61 (kf 0)) (1 : Int32)) (((hm 61 (kf 1)) + 1) % 8)))) rfl hby d19_50 rfl ?_
    refine q_ify 65 X28 hx hby d19_51 rfl ((if0 _ _).trans (teq (rs_free (hm_spec z8 (kf 1)).2 hc51_23)).1) ?_
    refine qaN 66 X28 hx hby d19_65 rfl rfl ?_
    refine qg 69 X28 hx hZ hown (tw25 hw) e28 (O18.fld 1 rfl rfl) hby d19_66 rfl fun T29 X29 e29 => ?_
    refine qi 71 X29 hx hby d19_69 rfl rfl ?_
    refine qiN 72 X29 hx hby d19_71 rfl rfl ?_
    refine qc1 73 1 X29 hx hby d19_72 rfl rfl ?_
    refine q_iadd 74 X29 hx hby d19_73 rfl ?_
    show OEnds p e below s _ _ _ (T29.setTop (mkF m 74 #[(vr a), (vi 8), (vi 7), (vi 1), (vi (((home_r (kf 1) (61 : Int32)) + (1 : Int32)) &&& (7 : Int32)))] [(.int 2), (.int (((home_r (kf 1) (61 : Int32)) + (1 : Int32)) &&& (7 : Int32))), (.ref nb1)]))
    obtain ⟨T30, h30, X30, e30, W30, st30⟩ := own_iastore X29 hx hZ e29 F16 (((hm 61 (kf 1)) + 1) % 8) (nxt8 (hm_spec z8 (kf 1)).1 (hm_spec z8 (kf 1)).2) (Nat.mod_lt _ (by decide)) (g := (mkF m 74 #[(vr a), (vi 8), (vi 7), (vi 1), (vi (((home_r (kf 1) (61 : Int32)) + (1 : Int32)) &&& (7 : Int32)))] [(.int 2), (.int (((home_r (kf 1) (61 : Int32)) + (1 : Int32)) &&& (7 : Int32))), (.ref nb1)])) rfl rfl (hb hby d19_74)
    have F30 : FA Z h30 nb1 .int 8 (fun i => .int ((updI (updI (fun _ => (0 : Int32)) (hm 61 (kf 0)) (1 : Int32)) (((hm 61 (kf 1)) + 1) % 8) (2 : Int32)) i)) := F16.setI W30
    obtain ⟨f30, ef30⟩ : ∃ fz_ : Nat → Int32, fz_ = (updI (updI (fun _ => (0 : Int32)) (hm 61 (kf 0)) (1 : Int32)) (((hm 61 (kf 1)) + 1) % 8) (2 : Int32)) := ⟨_, rfl⟩
    rw [← ef30] at F30
    have N30 := Fr.snoc X30 N16 g_nb1
    have Z30 := Nat.le_trans Z16 (Keep.of_wr W30).1
    have K30 := K16.wr W30 (Or.inr sz_nb1)
    refine qat 75 #[(vr a), (vi 8), (vi 7), (vi 1), (vi (((home_r (kf 1) (61 : Int32)) + (1 : Int32)) &&& (7 : Int32)))] [] st30 ?_
    refine q_inc 78 #[(vr a), (vi 8), (vi 7), (vi 2), (vi (((home_r (kf 1) (61 : Int32)) + (1 : Int32)) &&& (7 : Int32)))] X30 hx hby d19_75 rfl rfl rfl ?_
    refine q_goto 24 X30 hx hby d19_78 rfl ?_
    refine qiN 25 X30 hx hby d19_24 rfl rfl ?_
    refine qaN 26 X30 hx hby d19_25 rfl rfl ?_
    have O32 := (O18.other W30 (Nat.ne_of_lt (Nat.lt_of_lt_of_le O0.lt (Nat.le_of_eq g1.symm))))
    refine qg 29 X30 hx hZ hown (tw85 hw) e30 (O32.fld 3 rfl rfl) hby d19_26 rfl fun T31 X31 e31 => ?_
    refine q_cmy 81 X31 hx hby d19_29 rfl (flt (by decide : ¬ ((2 : Int32) < (2 : Int32)))).2.1 ?_
    exact own_retV X31 hx hlk Bd.returns (hb hby d19_81) (by rw [e31]; subst ef30; exact ⟨rfl, N30, K30, nb1, _, sz_nb1, g_nb1, rs_nn _ _, (rs8 (d := 1) rfl (Or.inr ⟨rfl, (rs_eq hc51_23).symm, by rw [rs_eq hc51_23]⟩)), O32, F30⟩) (by decide) (by decide)
theorem d12_0 : decode prog_25_method_5_code 0 = .ok (.aload_n 0, 1) := by decide +kernel
theorem d12_1 : decode prog_25_method_5_code 1 = .ok (.lload_n 1, 1) := by decide +kernel
theorem d12_2 : decode prog_25_method_5_code 2 = .ok (.invokevirtual 30, 3) := by decide +kernel
theorem d12_5 : decode prog_25_method_5_code 5 = .ok (.istore_n 3, 1) := by decide +kernel
theorem d12_6 : decode prog_25_method_5_code 6 = .ok (.aload_n 0, 1) := by decide +kernel
theorem d12_7 : decode prog_25_method_5_code 7 = .ok (.getfield 13, 3) := by decide +kernel
theorem d12_10 : decode prog_25_method_5_code 10 = .ok (.iload_n 3, 1) := by decide +kernel
theorem d12_11 : decode prog_25_method_5_code 11 = .ok (.iaload, 1) := by decide +kernel
theorem d12_12 : decode prog_25_method_5_code 12 = .ok (.ifCond .eq 12, 3) := by decide +kernel
theorem d12_15 : decode prog_25_method_5_code 15 = .ok (.aload_n 0, 1) := by decide +kernel
theorem d12_16 : decode prog_25_method_5_code 16 = .ok (.getfield 13, 3) := by decide +kernel
theorem d12_19 : decode prog_25_method_5_code 19 = .ok (.iload_n 3, 1) := by decide +kernel
theorem d12_20 : decode prog_25_method_5_code 20 = .ok (.iaload, 1) := by decide +kernel
theorem d12_21 : decode prog_25_method_5_code 21 = .ok (.iconst 1, 1) := by decide +kernel
theorem d12_22 : decode prog_25_method_5_code 22 = .ok (.isub, 1) := by decide +kernel
theorem d12_23 : decode prog_25_method_5_code 23 = .ok (.ireturn, 1) := by decide +kernel
theorem d12_24 : decode prog_25_method_5_code 24 = .ok (.aload_n 0, 1) := by decide +kernel
theorem d12_25 : decode prog_25_method_5_code 25 = .ok (.getfield 27, 3) := by decide +kernel
theorem d12_28 : decode prog_25_method_5_code 28 = .ok (.iconst 1, 1) := by decide +kernel
theorem d12_29 : decode prog_25_method_5_code 29 = .ok (.iadd, 1) := by decide +kernel
theorem d12_30 : decode prog_25_method_5_code 30 = .ok (.iconst 2, 1) := by decide +kernel
theorem d12_31 : decode prog_25_method_5_code 31 = .ok (.imul, 1) := by decide +kernel
theorem d12_32 : decode prog_25_method_5_code 32 = .ok (.aload_n 0, 1) := by decide +kernel
theorem d12_33 : decode prog_25_method_5_code 33 = .ok (.getfield 13, 3) := by decide +kernel
theorem d12_36 : decode prog_25_method_5_code 36 = .ok (.arraylength, 1) := by decide +kernel
theorem d12_37 : decode prog_25_method_5_code 37 = .ok (.if_icmp .le 40, 3) := by decide +kernel
theorem d12_40 : decode prog_25_method_5_code 40 = .ok (.aload_n 0, 1) := by decide +kernel
theorem d12_41 : decode prog_25_method_5_code 41 = .ok (.getfield 13, 3) := by decide +kernel
theorem d12_44 : decode prog_25_method_5_code 44 = .ok (.arraylength, 1) := by decide +kernel
theorem d12_45 : decode prog_25_method_5_code 45 = .ok (.ldc 34, 2) := by decide +kernel
theorem d12_47 : decode prog_25_method_5_code 47 = .ok (.if_icmp .ne 13, 3) := by decide +kernel
theorem d12_60 : decode prog_25_method_5_code 60 = .ok (.aload_n 0, 1) := by decide +kernel
theorem d12_61 : decode prog_25_method_5_code 61 = .ok (.aload_n 0, 1) := by decide +kernel
theorem d12_62 : decode prog_25_method_5_code 62 = .ok (.getfield 13, 3) := by decide +kernel
theorem d12_65 : decode prog_25_method_5_code 65 = .ok (.arraylength, 1) := by decide +kernel
theorem d12_66 : decode prog_25_method_5_code 66 = .ok (.iconst 2, 1) := by decide +kernel
theorem d12_67 : decode prog_25_method_5_code 67 = .ok (.imul, 1) := by decide +kernel
theorem d12_68 : decode prog_25_method_5_code 68 = .ok (.invokevirtual 42, 3) := by decide +kernel
theorem d12_71 : decode prog_25_method_5_code 71 = .ok (.aload_n 0, 1) := by decide +kernel
theorem d12_72 : decode prog_25_method_5_code 72 = .ok (.lload_n 1, 1) := by decide +kernel
theorem d12_73 : decode prog_25_method_5_code 73 = .ok (.invokevirtual 30, 3) := by decide +kernel
theorem d12_76 : decode prog_25_method_5_code 76 = .ok (.istore_n 3, 1) := by decide +kernel
theorem d12_77 : decode prog_25_method_5_code 77 = .ok (.aload_n 0, 1) := by decide +kernel
theorem d12_78 : decode prog_25_method_5_code 78 = .ok (.getfield 27, 3) := by decide +kernel
theorem d12_81 : decode prog_25_method_5_code 81 = .ok (.aload_n 0, 1) := by decide +kernel
theorem d12_82 : decode prog_25_method_5_code 82 = .ok (.getfield 9, 3) := by decide +kernel
theorem d12_85 : decode prog_25_method_5_code 85 = .ok (.arraylength, 1) := by decide +kernel
theorem d12_86 : decode prog_25_method_5_code 86 = .ok (.if_icmp .ne 20, 3) := by decide +kernel
theorem d12_89 : decode prog_25_method_5_code 89 = .ok (.aload_n 0, 1) := by decide +kernel
theorem d12_90 : decode prog_25_method_5_code 90 = .ok (.aload_n 0, 1) := by decide +kernel
theorem d12_91 : decode prog_25_method_5_code 91 = .ok (.getfield 9, 3) := by decide +kernel
theorem d12_94 : decode prog_25_method_5_code 94 = .ok (.aload_n 0, 1) := by decide +kernel
theorem d12_95 : decode prog_25_method_5_code 95 = .ok (.getfield 27, 3) := by decide +kernel
theorem d12_98 : decode prog_25_method_5_code 98 = .ok (.iconst 2, 1) := by decide +kernel
theorem d12_99 : decode prog_25_method_5_code 99 = .ok (.imul, 1) := by decide +kernel
theorem d12_100 : decode prog_25_method_5_code 100 = .ok (.invokestatic 46, 3) := by decide +kernel
theorem d12_103 : decode prog_25_method_5_code 103 = .ok (.putfield 9, 3) := by decide +kernel
theorem d12_106 : decode prog_25_method_5_code 106 = .ok (.aload_n 0, 1) := by decide +kernel
theorem d12_107 : decode prog_25_method_5_code 107 = .ok (.getfield 9, 3) := by decide +kernel
theorem d12_110 : decode prog_25_method_5_code 110 = .ok (.aload_n 0, 1) := by decide +kernel
theorem d12_111 : decode prog_25_method_5_code 111 = .ok (.getfield 27, 3) := by decide +kernel
theorem d12_114 : decode prog_25_method_5_code 114 = .ok (.lload_n 1, 1) := by decide +kernel
theorem d12_115 : decode prog_25_method_5_code 115 = .ok (.lastore, 1) := by decide +kernel
theorem d12_116 : decode prog_25_method_5_code 116 = .ok (.aload_n 0, 1) := by decide +kernel
theorem d12_117 : decode prog_25_method_5_code 117 = .ok (.dup, 1) := by decide +kernel
theorem d12_118 : decode prog_25_method_5_code 118 = .ok (.getfield 27, 3) := by decide +kernel
theorem d12_121 : decode prog_25_method_5_code 121 = .ok (.iconst 1, 1) := by decide +kernel
theorem d12_122 : decode prog_25_method_5_code 122 = .ok (.iadd, 1) := by decide +kernel
theorem d12_123 : decode prog_25_method_5_code 123 = .ok (.putfield 27, 3) := by decide +kernel
theorem d12_126 : decode prog_25_method_5_code 126 = .ok (.aload_n 0, 1) := by decide +kernel
theorem d12_127 : decode prog_25_method_5_code 127 = .ok (.getfield 13, 3) := by decide +kernel
theorem d12_130 : decode prog_25_method_5_code 130 = .ok (.iload_n 3, 1) := by decide +kernel
theorem d12_131 : decode prog_25_method_5_code 131 = .ok (.aload_n 0, 1) := by decide +kernel
theorem d12_132 : decode prog_25_method_5_code 132 = .ok (.getfield 27, 3) := by decide +kernel
theorem d12_135 : decode prog_25_method_5_code 135 = .ok (.iastore, 1) := by decide +kernel
theorem d12_136 : decode prog_25_method_5_code 136 = .ok (.aload_n 0, 1) := by decide +kernel
theorem d12_137 : decode prog_25_method_5_code 137 = .ok (.getfield 27, 3) := by decide +kernel
theorem d12_140 : decode prog_25_method_5_code 140 = .ok (.iconst 1, 1) := by decide +kernel
theorem d12_141 : decode prog_25_method_5_code 141 = .ok (.isub, 1) := by decide +kernel
theorem d12_142 : decode prog_25_method_5_code 142 = .ok (.ireturn, 1) := by decide +kernel
theorem pn_12 : plainName "com/example/tristream/tristream/LongIndex" = true := by first | (simp [plainName, overriddenIn]; done) | decide +kernel
theorem ef_12 (m : MethodId) (x0 : Addr) (x1 : Int64) : entryFrame m #[(.ref x0), (.long x1)] 4 = mkF m 0 #[.val (.ref x0), .val (.long x1), .second, .unset] [] := by first | (simp [entryFrame, mkF, argsToLocals, Value.category]; done) | rfl
def Q_liadd (Z : State) (a kb sb : Addr) (kk : Int64) (ks : List Int64) (h0 : Heap) (n0 : Nat) (r : Option Value) (h : Heap) (L : List Loc) : Prop := ∃ rv : Int32, r = some (.int rv) ∧ Fr n0 L ∧ Keep h0 h [a, kb, sb] ∧ ∃ (kb' sb' : Addr) (z' sf' : Int32) (kn' : Nat) (kf' : Nat → Int64) (S' : Nat) (sl' : Nat → Int32) (ks' : List Int64), (kb' = kb ∨ h0.size ≤ kb') ∧ (sb' = sb ∨ h0.size ≤ sb') ∧ n0 ≤ kb' ∧ n0 ≤ sb' ∧ AddR ks kk ks' ∧ IdxR ks' kk rv ∧ (ks'.length ≤ 2 → S' = 4 ∧ sf' = 62 ∧ kn' = 2) ∧ LI S' sf' z' sl' kf' kn' ks' ∧ Obj Z h a "com/example/tristream/tristream/LongIndex" sch_li [(.ref kb'), (.ref sb'), (.int sf'), (.int z')] ∧ FA Z h kb' .long kn' (fun i => .long (kf' i)) ∧ FA Z h sb' .int S' (fun i => .int (sl' i))
set_option maxRecDepth 65536 in
set_option maxHeartbeats 40000000 in
theorem rm_liadd (l : Launch) (Z : State) (a0 : Array Value) (hw : ∀ d ∈ tables_1, d.before a0 Z = true) (ws : List Jvm.Cond) (a : Addr) (kk : Int64) (kb : Addr) (sb : Addr) (z : Int32) (kf : Nat → Int64) (sl : Nat → Int32) (ks : List Int64) (h0 : Heap) (n0 : Nat) (Z0 : n0 ≤ h0.size) (O0 : Obj Z h0 a "com/example/tristream/tristream/LongIndex" sch_li [(.ref kb), (.ref sb), (.int 62), (.int z)]) (F_kb : FA Z h0 kb .long 2 (fun i => .long (kf i))) (F_sb : FA Z h0 sb .int 4 (fun i => .int (sl i))) (g_a : n0 ≤ a) (g_kb : n0 ≤ kb) (g_sb : n0 ≤ sb) (hLI : LI 4 62 z sl kf 2 ks) :
    MetFree l mn8 (head1 (Jvm.Cond.code mn8 prog_25_method_5_code 4 (some .int) :: ws) ({ frames := 2, cells := 2, slots := 12, locals := 33 } : Room)) (fun a_ U => a_ = #[(.ref a), (.long kk)] ∧ Z.Warmed39 U.vm ∧ U.heap = h0) (fun _ _ _ _ _ => True) (fun _ U o U' => ∃ v_ L_, o = .returned v_ ∧ Q_liadd Z a kb sb kk ks h0 n0 v_ U'.heap L_ ∧ FrameEnd U o U' L_ ({ frames := 2, cells := 2, slots := 12, locals := 33 } : Room).cells ({ frames := 2, cells := 2, slots := 12, locals := 33 } : Room).slots) := by
  refine MetFree.of_bodySF (plainFor_of_name pn_12) hisR ?_
  intro p e s m args below meth c s₁ Bd hml0 hP hK
  obtain ⟨rfl, hZ, hh⟩ := hP
  have hx := Bd.exec
  have hby := Bd.bytes
  have hlk : meth.locks = false := Bd.notSynchronized
  have hml : c.maxLocals = 4 := hml0
  have hown : s.vm.findClass "com/example/tristream/tristream/LongIndex" = some m.cls := findClass_of_methodNamed Bd.named
  have hnm := (name_of_methodNamed Bd.named Bd.method).1
  have X0 : Stand p l e ({ frames := 2, cells := 2, slots := 12, locals := 33 } : Room) s m #[(.ref a), (.long kk)] below meth c s₁ [] 0 0 := Stand.of_body Bd
  have e0 : s₁.heap = h0 := by rw [← hh, Bd.state]; rfl
  have N0 := Fr.nil n0
  have K0 : Keep h0 h0 [a, kb, sb] := Keep.refl _ _
  show OEnds p e below s (Q_liadd Z a kb sb kk ks h0 n0) _ _ _
  refine own_by (fun t k => castTop (ef_12 m a kk) k) ?_
  show OEnds p e below s _ _ _ (s₁.setTop (mkF m 0 #[(vr a), (vj kk), sd, un] []))
  obtain ⟨hz, hz2, -, -⟩ := li_len hLI
  refine qaN 1 X0 hx hby d12_0 rfl rfl ?_
  refine qlN 2 X0 hx hby d12_1 rfl rfl ?_
  obtain ⟨v1, T1, L1, h1, X1, e1, hQ1, st1⟩ := own_callX X0 hx hZ (y := mn4) hown (tw76 hw) (tw77 hw) (tw78 hw) (tw79 hw) (tw16 hw) (tw15 hw) (by decide) O0.exa (rm_lifind l Z a0 hw [] a kk kb sb z (62 : Int32) 2 kf 4 sl h0 n0 Z0 O0 F_kb F_sb hLI.fo) e0 (g := (mkF m 2 #[(vr a), (vj kk), sd, un] [(.long kk), (.ref a)])) rfl (by rw [hml]; rfl) (argsL := [(.long kk)]) (rest := []) (lenOf pd_pJrI rfl) rfl (W := 0) (by show 2 * 0 + _ ≤ _; exact Nat.le_of_eq rfl) (hb hby d12_2) (by decide) (by decide) (by decide) (by decide)
  obtain ⟨r1, rn1, rfl, rfl, hq1, hr1, hst1⟩ := hQ1
  rw [hq1] at e1
  have N1 := Fr.app N0 (Fr.nil n0)
  refine qtr 5 #[(vr a), (vj kk), sd, un] [(.int r1)] st1 ?_
  refine qsiN 6 #[(vr a), (vj kk), sd, (vi r1)] X1 hx hby d12_5 rfl rfl ?_
  refine qaN 7 X1 hx hby d12_6 rfl rfl ?_
  refine qg 10 X1 hx hZ hown (tw25 hw) e1 (O0.fld 1 rfl rfl) hby d12_7 rfl fun T2 X2 e2 => ?_
  refine qiN 11 X2 hx hby d12_10 rfl rfl ?_
  refine qI 12 X2 hx hZ e2 F_sb rn1 hr1 hst1.lt (v := (.int (sl rn1))) rfl hby d12_11 rfl ?_
  by_cases hc12_3 : (sl rn1) = (0 : Int32)
  · refine q_ify 24 X2 hx hby d12_12 rfl ((if0 _ _).trans (teq hc12_3).1) ?_
    refine qaN 25 X2 hx hby d12_24 rfl rfl ?_
    refine qg 28 X2 hx hZ hown (tw85 hw) e2 (O0.fld 3 rfl rfl) hby d12_25 rfl fun T4 X4 e4 => ?_
    refine qc1 29 1 X4 hx hby d12_28 rfl rfl ?_
    refine q_iadd 30 X4 hx hby d12_29 rfl ?_
    refine qc1 31 2 X4 hx hby d12_30 rfl rfl ?_
    refine q_imul 32 X4 hx hby d12_31 rfl ?_
    refine qaN 33 X4 hx hby d12_32 rfl rfl ?_
    refine qg 36 X4 hx hZ hown (tw25 hw) e4 (O0.fld 1 rfl rfl) hby d12_33 rfl fun T5 X5 e5 => ?_
    refine qn 37 (4 : Int32) X5 hx hZ e5 F_sb (by decide) hby d12_36 rfl ?_
    by_cases hc37_6 : (4 : Int32) < ((z + (1 : Int32)) * (2 : Int32))
    · refine q_cmn 40 X5 hx hby d12_37 rfl (tlt hc37_6).2.2.2 ?_
      obtain ⟨rfl, hk2⟩ := grow_2 hz hz2 hc37_6
      show OEnds p e below s _ _ _ (T5.setTop (mkF m 40 #[(vr a), (vj kk), sd, (vi r1)] []))
      refine qaN 41 X5 hx hby d12_40 rfl rfl ?_
      refine qg 44 X5 hx hZ hown (tw25 hw) e5 (O0.fld 1 rfl rfl) hby d12_41 rfl fun T7 X7 e7 => ?_
      refine qn 45 (4 : Int32) X7 hx hZ e7 F_sb (by decide) hby d12_44 rfl ?_
      refine own_by (X7.ldcInt hx hown (mvT hZ (tw106 hw)) (g := (mkF m 45 #[(vr a), (vj kk), sd, (vi r1)] [(.int 4)])) rfl (hb hby d12_45)) ?_
      show OEnds p e below s _ _ _ (T7.setTop (mkF m 47 #[(vr a), (vj kk), sd, (vi r1)] [(.int 1073741824), (.int 4)]))
      refine q_cmy 60 X7 hx hby d12_47 rfl (feq (by decide : ¬ ((4 : Int32) = (1073741824 : Int32)))).2 ?_
      refine qaN 61 X7 hx hby d12_60 rfl rfl ?_
      refine qaN 62 X7 hx hby d12_61 rfl rfl ?_
      refine qg 65 X7 hx hZ hown (tw25 hw) e7 (O0.fld 1 rfl rfl) hby d12_62 rfl fun T8 X8 e8 => ?_
      refine qn 66 (4 : Int32) X8 hx hZ e8 F_sb (by decide) hby d12_65 rfl ?_
      refine qc1 67 2 X8 hx hby d12_66 rfl rfl ?_
      refine q_imul 68 X8 hx hby d12_67 rfl ?_
      show OEnds p e below s _ _ _ (T8.setTop (mkF m 68 #[(vr a), (vj kk), sd, (vi r1)] [(.int 8), (.ref a)]))
      obtain ⟨v9, T9, L9, h9, X9, e9, hQ9, st9⟩ := own_callX X8 hx hZ (y := mn7) hown (tw107 hw) (tw108 hw) (tw109 hw) (tw110 hw) (tw16 hw) (tw15 hw) (by decide) O0.exa (rm_rs8 l Z a0 hw [] a kb sb (62 : Int32) kf h0 n0 Z0 O0 F_kb g_a) e8 (g := (mkF m 68 #[(vr a), (vj kk), sd, (vi r1)] [(.int 8), (.ref a)])) rfl (by rw [hml]; rfl) (argsL := [(.int 8)]) (rest := []) (lenOf pd_pIrV rfl) rfl (W := 0) (by show 2 * 0 + _ ≤ _; exact Nat.le_of_eq rfl) (hb hby d12_68) (by decide) (by decide) (by decide) (by decide)
      obtain ⟨rfl, Nq9, Kq9, nb9, sl9, sq9, gq9, hnn9, hiv9, O9, F9⟩ := hQ9
      have N9 := Fr.app N1 Nq9
      have K9 := K0.trans Kq9 (allS (wi 0 rfl) all0)
      have Z9 := Nat.le_trans Z0 Kq9.1
      refine qtr 71 #[(vr a), (vj kk), sd, (vi r1)] [] st9 ?_
      refine qaN 72 X9 hx hby d12_71 rfl rfl ?_
      refine qlN 73 X9 hx hby d12_72 rfl rfl ?_
      have F11 := (F_kb.keep Kq9 (ninS (Ne.symm (O0.ne_fa (tw15 hw) F_kb)) nin0))
      obtain ⟨v10, T10, L10, h10, X10, e10, hQ10, st10⟩ := own_callX X9 hx hZ (y := mn4) hown (tw76 hw) (tw77 hw) (tw78 hw) (tw79 hw) (tw16 hw) (tw15 hw) (by decide) O9.exa (rm_lifind l Z a0 hw [] a kk kb nb9 (2 : Int32) (61 : Int32) 2 kf 8 sl9 h9 n0 Z9 O9 F11 F9 (fo_rs hnn9 hiv9)) e9 (g := (mkF m 73 #[(vr a), (vj kk), sd, (vi r1)] [(.long kk), (.ref a)])) rfl (by rw [hml]; rfl) (argsL := [(.long kk)]) (rest := []) (lenOf pd_pJrI rfl) rfl (W := 0) (by show 2 * 0 + _ ≤ _; exact Nat.le_of_eq rfl) (hb hby d12_73) (by decide) (by decide) (by decide) (by decide)
      obtain ⟨r10, rn10, rfl, rfl, hq10, hr10, hst10⟩ := hQ10
      rw [hq10] at e10
      have N10 := Fr.app N9 (Fr.nil n0)
      refine qtr 76 #[(vr a), (vj kk), sd, (vi r1)] [(.int r10)] st10 ?_
      refine qsiN 77 #[(vr a), (vj kk), sd, (vi r10)] X10 hx hby d12_76 rfl rfl ?_
      refine qaN 78 X10 hx hby d12_77 rfl rfl ?_
      refine qg 81 X10 hx hZ hown (tw85 hw) e10 (O9.fld 3 rfl rfl) hby d12_78 rfl fun T12 X12 e12 => ?_
      refine qaN 82 X12 hx hby d12_81 rfl rfl ?_
      refine qg 85 X12 hx hZ hown (tw22 hw) e12 (O9.fld 0 rfl rfl) hby d12_82 rfl fun T13 X13 e13 => ?_
      refine qn 86 (2 : Int32) X13 hx hZ e13 F11 (by decide) hby d12_85 rfl ?_
      refine q_cmn 89 X13 hx hby d12_86 rfl (teq (by decide : (2 : Int32) = (2 : Int32))).2 ?_
      refine qaN 90 X13 hx hby d12_89 rfl rfl ?_
      refine qaN 91 X13 hx hby d12_90 rfl rfl ?_
      refine qg 94 X13 hx hZ hown (tw22 hw) e13 (O9.fld 0 rfl rfl) hby d12_91 rfl fun T14 X14 e14 => ?_
      refine qaN 95 X14 hx hby d12_94 rfl rfl ?_
      refine qg 98 X14 hx hZ hown (tw85 hw) e14 (O9.fld 3 rfl rfl) hby d12_95 rfl fun T15 X15 e15 => ?_
      refine qc1 99 2 X15 hx hby d12_98 rfl rfl ?_
      refine q_imul 100 X15 hx hby d12_99 rfl ?_
      show OEnds p e below s _ _ _ (T15.setTop (mkF m 100 #[(vr a), (vj kk), sd, (vi r10)] [(.int 4), (.ref kb), (.ref a)]))
      obtain ⟨v16, T16, L16, h16, X16, e16, hQ16, st16⟩ := own_callS X15 hx hZ (y := mn6) hown (tw111 hw) (tw112 hw) (tw113 hw) (tw114 hw) (by decide) (rm_cpl l Z a0 hw [] kb kf h9 n0 Z9 F11) e15 (g := (mkF m 100 #[(vr a), (vj kk), sd, (vi r10)] [(.int 4), (.ref kb), (.ref a)])) rfl (by rw [hml]; rfl) (argsL := [(.ref kb), (.int 4)]) (rest := [(.ref a)]) (lenOf pd_paJIraJ rfl) rfl (W := 1) (by show 2 * 0 + _ ≤ _; exact Nat.le_of_eq rfl) (hb hby d12_100) (by decide) (by decide) (by decide) (by decide)
      obtain ⟨nc16, rfl, Nq16, Kq16, sq16, gq16, F16⟩ := hQ16
      have N16 := Fr.app N10 Nq16
      have K16 := K9.trans Kq16 all0
      have Z16 := Nat.le_trans Z9 Kq16.1
      refine qtr 103 #[(vr a), (vj kk), sd, (vi r10)] [(.ref nc16), (.ref a)] st16 ?_
      have O18 := (O9.keep Kq16 nin0)
      have F19 := (F11.keep Kq16 nin0)
      have F20 := (F9.keep Kq16 nin0)
      obtain ⟨T17, h17, X17, e17, W17, st17⟩ := putF X16 hx hZ hown (host := "") (Or.inl (tw22 hw)) Via.refl e16 (O18.fld 0 rfl rfl) O18.exa (Or.inl (tw23 hw)) (tw15 hw) (ty := (.array .long)) (by decide) rfl rfl (g := (mkF m 103 #[(vr a), (vj kk), sd, (vi r10)] [(.ref nc16), (.ref a)])) rfl rfl (hb hby d12_103)
      have O17 : Obj Z h17 a "com/example/tristream/tristream/LongIndex" sch_li [(.ref nc16), (.ref nb9), (.int 61), (.int 2)] := O18.set (so_sch_li hw) W17 0 rfl (Nat.le_of_ble_eq_true rfl)
      have N17 := Fr.snoc X17 N16 g_a
      have Z17 := Nat.le_trans Z16 (Keep.of_wr W17).1
      have K17 := K16.wr W17 (wi 0 rfl)
      refine qat 106 #[(vr a), (vj kk), sd, (vi r10)] [] st17 ?_
      refine qaN 107 X17 hx hby d12_106 rfl rfl ?_
      refine qg 110 X17 hx hZ hown (tw22 hw) e17 (O17.fld 0 rfl rfl) hby d12_107 rfl fun T21 X21 e21 => ?_
      refine qaN 111 X21 hx hby d12_110 rfl rfl ?_
      refine qg 114 X21 hx hZ hown (tw85 hw) e21 (O17.fld 3 rfl rfl) hby d12_111 rfl fun T22 X22 e22 => ?_
      refine qlN 115 X22 hx hby d12_114 rfl rfl ?_
      have F24 := (F19.other W17 (Ne.symm (O18.ne_fa (tw15 hw) F19)))
      have F25 := (F20.other W17 (Ne.symm (O18.ne_fa (tw15 hw) F20)))
      have F26 := (F16.other W17 (Ne.symm (Nat.ne_of_lt (Nat.lt_of_lt_of_le O9.lt sq16))))
      obtain ⟨T23, h23, X23, e23, W23, st23⟩ := own_lastore X22 hx hZ e22 F26 2 (by decide) (by decide) (g := (mkF m 115 #[(vr a), (vj kk), sd, (vi r10)] [(.long kk), (.int 2), (.ref nc16)])) rfl rfl (hb hby d12_115)
      have F23 : FA Z h23 nc16 .long 4 (fun i => .long ((updL (fun i => if i < 2 then kf i else (0 : Int64)) 2 kk) i)) := F26.setL W23
      have N23 := Fr.snoc X23 N17 gq16
      have Z23 := Nat.le_trans Z17 (Keep.of_wr W23).1
      have K23 := K17.wr W23 (Or.inr (Nat.le_trans K9.1 sq16))
      refine qat 116 #[(vr a), (vj kk), sd, (vi r10)] [] st23 ?_
      refine qaN 117 X23 hx hby d12_116 rfl rfl ?_
      refine q_dup 118 X23 hx hby d12_117 rfl rfl ?_
      have O28 := (O17.other W23 (Nat.ne_of_lt (Nat.lt_of_lt_of_le O9.lt sq16)))
      refine qg 121 X23 hx hZ hown (tw85 hw) e23 (O28.fld 3 rfl rfl) hby d12_118 rfl fun T27 X27 e27 => ?_
      refine qc1 122 1 X27 hx hby d12_121 rfl rfl ?_
      refine q_iadd 123 X27 hx hby d12_122 rfl ?_
      show OEnds p e below s _ _ _ (T27.setTop (mkF m 123 #[(vr a), (vj kk), sd, (vi r10)] [(.int 3), (.ref a)]))
      have F30 := (F24.other W23 (Nat.ne_of_lt (Nat.lt_of_lt_of_le F11.lt sq16)))
      have F31 := (F25.other W23 (Nat.ne_of_lt (Nat.lt_of_lt_of_le F9.lt sq16)))
      obtain ⟨T29, h29, X29, e29, W29, st29⟩ := putF X27 hx hZ hown (host := "") (Or.inl (tw85 hw)) Via.refl e27 (O28.fld 3 rfl rfl) O28.exa (Or.inl (tw86 hw)) (tw15 hw) (ty := .int) (by decide) rfl rfl (g := (mkF m 123 #[(vr a), (vj kk), sd, (vi r10)] [(.int 3), (.ref a)])) rfl rfl (hb hby d12_123)
      have O29 : Obj Z h29 a "com/example/tristream/tristream/LongIndex" sch_li [(.ref nc16), (.ref nb9), (.int 61), (.int 3)] := O28.set (so_sch_li hw) W29 3 rfl (Nat.le_of_ble_eq_true rfl)
      have N29 := Fr.snoc X29 N23 g_a
      have Z29 := Nat.le_trans Z23 (Keep.of_wr W29).1
      have K29 := K23.wr W29 (wi 0 rfl)
      refine qat 126 #[(vr a), (vj kk), sd, (vi r10)] [] st29 ?_
      refine qaN 127 X29 hx hby d12_126 rfl rfl ?_
      refine qg 130 X29 hx hZ hown (tw25 hw) e29 (O29.fld 1 rfl rfl) hby d12_127 rfl fun T32 X32 e32 => ?_
      refine qiN 131 X32 hx hby d12_130 rfl rfl ?_
      refine qaN 132 X32 hx hby d12_131 rfl rfl ?_
      refine qg 135 X32 hx hZ hown (tw85 hw) e32 (O29.fld 3 rfl rfl) hby d12_132 rfl fun T33 X33 e33 => ?_
      have F35 := (F30.other W29 (Ne.symm (O28.ne_fa (tw15 hw) F30)))
      have F36 := (F31.other W29 (Ne.symm (O28.ne_fa (tw15 hw) F31)))
      have F37 := (F23.other W29 (Ne.symm (Nat.ne_of_lt (Nat.lt_of_lt_of_le O9.lt sq16))))
      obtain ⟨T34, h34, X34, e34, W34, st34⟩ := own_iastore X33 hx hZ e33 F36 rn10 hr10 hst10.lt (g := (mkF m 135 #[(vr a), (vj kk), sd, (vi r10)] [(.int 3), (.int r10), (.ref nb9)])) rfl rfl (hb hby d12_135)
      have F34 : FA Z h34 nb9 .int 8 (fun i => .int ((updI sl9 rn10 (3 : Int32)) i)) := F36.setI W34
      have N34 := Fr.snoc X34 N29 gq9
      have Z34 := Nat.le_trans Z29 (Keep.of_wr W34).1
      have K34 := K29.wr W34 (Or.inr (Nat.le_trans K0.1 sq9))
      refine qat 136 #[(vr a), (vj kk), sd, (vi r10)] [] st34 ?_
      refine qaN 137 X34 hx hby d12_136 rfl rfl ?_
      have O39 := (O29.other W34 (O29.ne_fa (tw15 hw) F36))
      refine qg 140 X34 hx hZ hown (tw85 hw) e34 (O39.fld 3 rfl rfl) hby d12_137 rfl fun T38 X38 e38 => ?_
      refine qc1 141 1 X38 hx hby d12_140 rfl rfl ?_
      refine q_isub 142 X38 hx hby d12_141 rfl ?_
      show OEnds p e below s _ _ _ (T38.setTop (mkF m 142 #[(vr a), (vj kk), sd, (vi r10)] [(.int 2)]))
      have F40 := (F37.other W34 (Ne.symm (Nat.ne_of_lt (Nat.lt_of_lt_of_le F9.lt sq16))))
      exact own_retI X38 hx hlk Bd.returns (hb hby d12_142) (by rw [e38]; exact ⟨_, rfl, N34, K34, nc16, nb9, _, _, _, _, _, _, _, Or.inr (Nat.le_trans K9.1 sq16), Or.inr (Nat.le_trans K0.1 sq9), gq16, gq9, Or.inr ⟨add_new hLI hst1 hc12_3, rfl⟩, idx_new (by rw [hk2]; decide), (fun q => absurd q (by rw [List.length_append, hk2]; show ¬ 2 + 1 ≤ 2; omega)), (li_add8 hLI hst1 hc12_3 hk2 hnn9 hiv9 hst10), O39, F40, F34⟩) (by decide) (by decide)
    · refine q_cmy 77 X5 hx hby d12_37 rfl (flt hc37_6).2.2.2 ?_
      have hk1 := grow_n hz hz2 hc37_6
      refine qaN 78 X5 hx hby d12_77 rfl rfl ?_
      refine qg 81 X5 hx hZ hown (tw85 hw) e5 (O0.fld 3 rfl rfl) hby d12_78 rfl fun T41 X41 e41 => ?_
      refine qaN 82 X41 hx hby d12_81 rfl rfl ?_
      refine qg 85 X41 hx hZ hown (tw22 hw) e41 (O0.fld 0 rfl rfl) hby d12_82 rfl fun T42 X42 e42 => ?_
      refine qn 86 (2 : Int32) X42 hx hZ e42 F_kb (by decide) hby d12_85 rfl ?_
      refine q_cmy 106 X42 hx hby d12_86 rfl (feq (ne_2 hz hk1)).2 ?_
      refine qaN 107 X42 hx hby d12_106 rfl rfl ?_
      refine qg 110 X42 hx hZ hown (tw22 hw) e42 (O0.fld 0 rfl rfl) hby d12_107 rfl fun T43 X43 e43 => ?_
      refine qaN 111 X43 hx hby d12_110 rfl rfl ?_
      refine qg 114 X43 hx hZ hown (tw85 hw) e43 (O0.fld 3 rfl rfl) hby d12_111 rfl fun T44 X44 e44 => ?_
      refine qlN 115 X44 hx hby d12_114 rfl rfl ?_
      obtain ⟨T45, h45, X45, e45, W45, st45⟩ := own_lastore X44 hx hZ e44 F_kb ks.length hz (by omega) (g := (mkF m 115 #[(vr a), (vj kk), sd, (vi r1)] [(.long kk), (.int z), (.ref kb)])) rfl rfl (hb hby d12_115)
      have F45 : FA Z h45 kb .long 2 (fun i => .long ((updL kf ks.length kk) i)) := F_kb.setL W45
      have N45 := Fr.snoc X45 N1 g_kb
      have Z45 := Nat.le_trans Z0 (Keep.of_wr W45).1
      have K45 := K0.wr W45 (wi 1 rfl)
      refine qat 116 #[(vr a), (vj kk), sd, (vi r1)] [] st45 ?_
      refine qaN 117 X45 hx hby d12_116 rfl rfl ?_
      refine q_dup 118 X45 hx hby d12_117 rfl rfl ?_
      have O47 := (O0.other W45 (O0.ne_fa (tw15 hw) F_kb))
      refine qg 121 X45 hx hZ hown (tw85 hw) e45 (O47.fld 3 rfl rfl) hby d12_118 rfl fun T46 X46 e46 => ?_
      refine qc1 122 1 X46 hx hby d12_121 rfl rfl ?_
      refine q_iadd 123 X46 hx hby d12_122 rfl ?_
      have F49 := (F_sb.other W45 (F_sb.ne_ty F_kb (by decide)))
      obtain ⟨T48, h48, X48, e48, W48, st48⟩ := putF X46 hx hZ hown (host := "") (Or.inl (tw85 hw)) Via.refl e46 (O47.fld 3 rfl rfl) O47.exa (Or.inl (tw86 hw)) (tw15 hw) (ty := .int) (by decide) rfl rfl (g := (mkF m 123 #[(vr a), (vj kk), sd, (vi r1)] [(.int (z + (1 : Int32))), (.ref a)])) rfl rfl (hb hby d12_123)
      have O48 : Obj Z h48 a "com/example/tristream/tristream/LongIndex" sch_li [(.ref kb), (.ref sb), (.int 62), (.int (z + (1 : Int32)))] := O47.set (so_sch_li hw) W48 3 rfl (Nat.le_of_ble_eq_true rfl)
      have N48 := Fr.snoc X48 N45 g_a
      have Z48 := Nat.le_trans Z45 (Keep.of_wr W48).1
      have K48 := K45.wr W48 (wi 0 rfl)
      refine qat 126 #[(vr a), (vj kk), sd, (vi r1)] [] st48 ?_
      refine qaN 127 X48 hx hby d12_126 rfl rfl ?_
      refine qg 130 X48 hx hZ hown (tw25 hw) e48 (O48.fld 1 rfl rfl) hby d12_127 rfl fun T50 X50 e50 => ?_
      refine qiN 131 X50 hx hby d12_130 rfl rfl ?_
      refine qaN 132 X50 hx hby d12_131 rfl rfl ?_
      refine qg 135 X50 hx hZ hown (tw85 hw) e50 (O48.fld 3 rfl rfl) hby d12_132 rfl fun T51 X51 e51 => ?_
      have F53 := (F45.other W48 (Ne.symm (O47.ne_fa (tw15 hw) F45)))
      have F54 := (F49.other W48 (Ne.symm (O47.ne_fa (tw15 hw) F49)))
      obtain ⟨T52, h52, X52, e52, W52, st52⟩ := own_iastore X51 hx hZ e51 F54 rn1 hr1 hst1.lt (g := (mkF m 135 #[(vr a), (vj kk), sd, (vi r1)] [(.int (z + (1 : Int32))), (.int r1), (.ref sb)])) rfl rfl (hb hby d12_135)
      have F52 : FA Z h52 sb .int 4 (fun i => .int ((updI sl rn1 (z + (1 : Int32))) i)) := F54.setI W52
      have N52 := Fr.snoc X52 N48 g_sb
      have Z52 := Nat.le_trans Z48 (Keep.of_wr W52).1
      have K52 := K48.wr W52 (wi 2 rfl)
      refine qat 136 #[(vr a), (vj kk), sd, (vi r1)] [] st52 ?_
      refine qaN 137 X52 hx hby d12_136 rfl rfl ?_
      have O56 := (O48.other W52 (O48.ne_fa (tw15 hw) F54))
      refine qg 140 X52 hx hZ hown (tw85 hw) e52 (O56.fld 3 rfl rfl) hby d12_137 rfl fun T55 X55 e55 => ?_
      refine qc1 141 1 X55 hx hby d12_140 rfl rfl ?_
      refine q_isub 142 X55 hx hby d12_141 rfl ?_
      have F57 := (F53.other W52 (F53.ne_ty F54 (by decide)))
      exact own_retI X55 hx hlk Bd.returns (hb hby d12_142) (by rw [e55]; exact ⟨_, rfl, N52, K52, kb, sb, _, _, _, _, _, _, _, Or.inl rfl, Or.inl rfl, g_kb, g_sb, Or.inr ⟨add_new hLI hst1 hc12_3, rfl⟩, idx_new (zdec (zinc hz (by omega)) (by omega)), (fun _ => ⟨rfl, rfl, rfl⟩), (li_add4 hLI hst1 hc12_3 hk1), O56, F57, F52⟩) (by decide) (by decide)
  · refine q_ifn 15 X2 hx hby d12_12 rfl ((if0 _ _).trans (feq hc12_3).1) ?_
    refine qaN 16 X2 hx hby d12_15 rfl rfl ?_
    refine qg 19 X2 hx hZ hown (tw25 hw) e2 (O0.fld 1 rfl rfl) hby d12_16 rfl fun T58 X58 e58 => ?_
    refine qiN 20 X58 hx hby d12_19 rfl rfl ?_
    refine qI 21 X58 hx hZ e58 F_sb rn1 hr1 hst1.lt (v := (.int (sl rn1))) rfl hby d12_20 rfl ?_
    refine qc1 22 1 X58 hx hby d12_21 rfl rfl ?_
    refine q_isub 23 X58 hx hby d12_22 rfl ?_
    exact own_retI X58 hx hlk Bd.returns (hb hby d12_23) (by rw [e58]; exact ⟨_, rfl, N1, K0, kb, sb, _, _, _, _, _, _, _, Or.inl rfl, Or.inl rfl, g_kb, g_sb, (add_found hLI hst1 hc12_3).1, li_idx hLI hst1, (fun _ => ⟨rfl, rfl, rfl⟩), hLI, O0, F_kb, F_sb⟩) (by decide) (by decide)
theorem ne_of_in {S kn : Nat} {sf z : Int32} {sl : Nat → Int32} {kf : Nat → Int64} {ks : List Int64} {k : Int64} {r : Nat} (h : LI S sf z sl kf kn ks) (st : Stop S (gn sl) (fun i => kf i = k) (hm sf k) r) (hin : GIn ks k) : ¬ sl r = (0 : Int32) := fun e => by
  obtain ⟨i, h1, h2⟩ := hin
  exact add_new h st e i h1 h2
set_option maxRecDepth 65536 in
set_option maxHeartbeats 40000000 in
theorem rm_liaddF (l : Launch) (Z : State) (a0 : Array Value) (hw : ∀ d ∈ tables_1, d.before a0 Z = true) (ws : List Jvm.Cond) (a : Addr) (kk : Int64) (kb : Addr) (sb : Addr) (z : Int32) (sf : Int32) (kn : Nat) (kf : Nat → Int64) (S : Nat) (sl : Nat → Int32) (ks : List Int64) (h0 : Heap) (n0 : Nat) (Z0 : n0 ≤ h0.size) (O0 : Obj Z h0 a "com/example/tristream/tristream/LongIndex" sch_li [(.ref kb), (.ref sb), (.int sf), (.int z)]) (F_kb : FA Z h0 kb .long kn (fun i => .long (kf i))) (F_sb : FA Z h0 sb .int S (fun i => .int (sl i))) (hLI : LI S sf z sl kf kn ks) (hin : GIn ks kk) :
    MetFree l mn8 (head1 (Jvm.Cond.code mn8 prog_25_method_5_code 4 (some .int) :: ws) ({ frames := 2, cells := 0, slots := 0, locals := 30 } : Room)) (fun a_ U => a_ = #[(.ref a), (.long kk)] ∧ Z.Warmed39 U.vm ∧ U.heap = h0) (fun _ _ _ _ _ => True) (fun _ U o U' => ∃ v_ L_, o = .returned v_ ∧ Q_liidx ks kk h0 v_ U'.heap L_ ∧ FrameEnd U o U' L_ ({ frames := 2, cells := 0, slots := 0, locals := 30 } : Room).cells ({ frames := 2, cells := 0, slots := 0, locals := 30 } : Room).slots) := by
  refine MetFree.of_bodySF (plainFor_of_name pn_12) hisR ?_
  intro p e s m args below meth c s₁ Bd hml0 hP hK
  obtain ⟨rfl, hZ, hh⟩ := hP
  have hx := Bd.exec
  have hby := Bd.bytes
  have hlk : meth.locks = false := Bd.notSynchronized
  have hml : c.maxLocals = 4 := hml0
  have hown : s.vm.findClass "com/example/tristream/tristream/LongIndex" = some m.cls := findClass_of_methodNamed Bd.named
  have hnm := (name_of_methodNamed Bd.named Bd.method).1
  have X0 : Stand p l e ({ frames := 2, cells := 0, slots := 0, locals := 30 } : Room) s m #[(.ref a), (.long kk)] below meth c s₁ [] 0 0 := Stand.of_body Bd
  have e0 : s₁.heap = h0 := by rw [← hh, Bd.state]; rfl
  have N0 := Fr.nil n0
  have K0 : Keep h0 h0 [] := Keep.refl _ _
  show OEnds p e below s (Q_liidx ks kk h0) _ _ _
  refine own_by (fun t k => castTop (ef_12 m a kk) k) ?_
  show OEnds p e below s _ _ _ (s₁.setTop (mkF m 0 #[(vr a), (vj kk), sd, un] []))
  refine qaN 1 X0 hx hby d12_0 rfl rfl ?_
  refine qlN 2 X0 hx hby d12_1 rfl rfl ?_
  obtain ⟨v1, T1, L1, h1, X1, e1, hQ1, st1⟩ := own_callX X0 hx hZ (y := mn4) hown (tw76 hw) (tw77 hw) (tw78 hw) (tw79 hw) (tw16 hw) (tw15 hw) (by decide) O0.exa (rm_lifind l Z a0 hw [] a kk kb sb z sf kn kf S sl h0 n0 Z0 O0 F_kb F_sb hLI.fo) e0 (g := (mkF m 2 #[(vr a), (vj kk), sd, un] [(.long kk), (.ref a)])) rfl (by rw [hml]; rfl) (argsL := [(.long kk)]) (rest := []) (lenOf pd_pJrI rfl) rfl (W := 0) (by show 2 * 0 + _ ≤ _; exact Nat.le_of_eq rfl) (hb hby d12_2) (by decide) (by decide) (by decide) (by decide)
  obtain ⟨r1, rn1, rfl, rfl, hq1, hr1, hst1⟩ := hQ1
  rw [hq1] at e1
  have N1 := Fr.app N0 (Fr.nil n0)
  refine qtr 5 #[(vr a), (vj kk), sd, un] [(.int r1)] st1 ?_
  refine qsiN 6 #[(vr a), (vj kk), sd, (vi r1)] X1 hx hby d12_5 rfl rfl ?_
  refine qaN 7 X1 hx hby d12_6 rfl rfl ?_
  refine qg 10 X1 hx hZ hown (tw25 hw) e1 (O0.fld 1 rfl rfl) hby d12_7 rfl fun T2 X2 e2 => ?_
  refine qiN 11 X2 hx hby d12_10 rfl rfl ?_
  refine qI 12 X2 hx hZ e2 F_sb rn1 hr1 hst1.lt (v := (.int (sl rn1))) rfl hby d12_11 rfl ?_
  refine q_ifn 15 X2 hx hby d12_12 rfl ((if0 _ _).trans (feq (ne_of_in hLI hst1 hin)).1) ?_
  refine qaN 16 X2 hx hby d12_15 rfl rfl ?_
  refine qg 19 X2 hx hZ hown (tw25 hw) e2 (O0.fld 1 rfl rfl) hby d12_16 rfl fun T3 X3 e3 => ?_
  refine qiN 20 X3 hx hby d12_19 rfl rfl ?_
  refine qI 21 X3 hx hZ e3 F_sb rn1 hr1 hst1.lt (v := (.int (sl rn1))) rfl hby d12_20 rfl ?_
  refine qc1 22 1 X3 hx hby d12_21 rfl rfl ?_
  refine q_isub 23 X3 hx hby d12_22 rfl ?_
  exact own_retI X3 hx hlk Bd.returns (hb hby d12_23) ⟨_, rfl, rfl, e3, li_idx hLI hst1⟩ (by decide) (by decide)
theorem d25_0 : decode prog_25_method_9_code 0 = .ok (.aload_n 0, 1) := by decide +kernel
theorem d25_1 : decode prog_25_method_9_code 1 = .ok (.getfield 13, 3) := by decide +kernel
theorem d25_4 : decode prog_25_method_9_code 4 = .ok (.arraylength, 1) := by decide +kernel
theorem d25_5 : decode prog_25_method_9_code 5 = .ok (.iconst 1, 1) := by decide +kernel
theorem d25_6 : decode prog_25_method_9_code 6 = .ok (.isub, 1) := by decide +kernel
theorem d25_7 : decode prog_25_method_9_code 7 = .ok (.istore_n 2, 1) := by decide +kernel
theorem d25_8 : decode prog_25_method_9_code 8 = .ok (.iload_n 1, 1) := by decide +kernel
theorem d25_9 : decode prog_25_method_9_code 9 = .ok (.istore_n 3, 1) := by decide +kernel
theorem d25_10 : decode prog_25_method_9_code 10 = .ok (.iload_n 1, 1) := by decide +kernel
theorem d25_11 : decode prog_25_method_9_code 11 = .ok (.iconst 1, 1) := by decide +kernel
theorem d25_12 : decode prog_25_method_9_code 12 = .ok (.iadd, 1) := by decide +kernel
theorem d25_13 : decode prog_25_method_9_code 13 = .ok (.iload_n 2, 1) := by decide +kernel
theorem d25_14 : decode prog_25_method_9_code 14 = .ok (.iand, 1) := by decide +kernel
theorem d25_15 : decode prog_25_method_9_code 15 = .ok (.istore 4, 2) := by decide +kernel
theorem d25_17 : decode prog_25_method_9_code 17 = .ok (.aload_n 0, 1) := by decide +kernel
theorem d25_18 : decode prog_25_method_9_code 18 = .ok (.getfield 13, 3) := by decide +kernel
theorem d25_21 : decode prog_25_method_9_code 21 = .ok (.iload 4, 2) := by decide +kernel
theorem d25_23 : decode prog_25_method_9_code 23 = .ok (.iaload, 1) := by decide +kernel
theorem d25_24 : decode prog_25_method_9_code 24 = .ok (.ifCond .eq 66, 3) := by decide +kernel
theorem d25_27 : decode prog_25_method_9_code 27 = .ok (.aload_n 0, 1) := by decide +kernel
theorem d25_28 : decode prog_25_method_9_code 28 = .ok (.aload_n 0, 1) := by decide +kernel
theorem d25_29 : decode prog_25_method_9_code 29 = .ok (.getfield 9, 3) := by decide +kernel
theorem d25_32 : decode prog_25_method_9_code 32 = .ok (.aload_n 0, 1) := by decide +kernel
theorem d25_33 : decode prog_25_method_9_code 33 = .ok (.getfield 13, 3) := by decide +kernel
theorem d25_36 : decode prog_25_method_9_code 36 = .ok (.iload 4, 2) := by decide +kernel
theorem d25_38 : decode prog_25_method_9_code 38 = .ok (.iaload, 1) := by decide +kernel
theorem d25_39 : decode prog_25_method_9_code 39 = .ok (.iconst 1, 1) := by decide +kernel
theorem d25_40 : decode prog_25_method_9_code 40 = .ok (.isub, 1) := by decide +kernel
theorem d25_41 : decode prog_25_method_9_code 41 = .ok (.laload, 1) := by decide +kernel
theorem d25_42 : decode prog_25_method_9_code 42 = .ok (.invokevirtual 55, 3) := by decide +kernel
theorem d25_45 : decode prog_25_method_9_code 45 = .ok (.istore 5, 2) := by decide +kernel
theorem d25_47 : decode prog_25_method_9_code 47 = .ok (.iload 4, 2) := by decide +kernel
theorem d25_49 : decode prog_25_method_9_code 49 = .ok (.iload 5, 2) := by decide +kernel
theorem d25_51 : decode prog_25_method_9_code 51 = .ok (.isub, 1) := by decide +kernel
theorem d25_52 : decode prog_25_method_9_code 52 = .ok (.iload_n 2, 1) := by decide +kernel
theorem d25_53 : decode prog_25_method_9_code 53 = .ok (.iand, 1) := by decide +kernel
theorem d25_54 : decode prog_25_method_9_code 54 = .ok (.iload 4, 2) := by decide +kernel
theorem d25_56 : decode prog_25_method_9_code 56 = .ok (.iload_n 3, 1) := by decide +kernel
theorem d25_57 : decode prog_25_method_9_code 57 = .ok (.isub, 1) := by decide +kernel
theorem d25_58 : decode prog_25_method_9_code 58 = .ok (.iload_n 2, 1) := by decide +kernel
theorem d25_59 : decode prog_25_method_9_code 59 = .ok (.iand, 1) := by decide +kernel
theorem d25_60 : decode prog_25_method_9_code 60 = .ok (.if_icmp .lt 19, 3) := by decide +kernel
theorem d25_63 : decode prog_25_method_9_code 63 = .ok (.aload_n 0, 1) := by decide +kernel
theorem d25_64 : decode prog_25_method_9_code 64 = .ok (.getfield 13, 3) := by decide +kernel
theorem d25_67 : decode prog_25_method_9_code 67 = .ok (.iload_n 3, 1) := by decide +kernel
theorem d25_68 : decode prog_25_method_9_code 68 = .ok (.aload_n 0, 1) := by decide +kernel
theorem d25_69 : decode prog_25_method_9_code 69 = .ok (.getfield 13, 3) := by decide +kernel
theorem d25_72 : decode prog_25_method_9_code 72 = .ok (.iload 4, 2) := by decide +kernel
theorem d25_74 : decode prog_25_method_9_code 74 = .ok (.iaload, 1) := by decide +kernel
theorem d25_75 : decode prog_25_method_9_code 75 = .ok (.iastore, 1) := by decide +kernel
theorem d25_76 : decode prog_25_method_9_code 76 = .ok (.iload 4, 2) := by decide +kernel
theorem d25_78 : decode prog_25_method_9_code 78 = .ok (.istore_n 3, 1) := by decide +kernel
theorem d25_79 : decode prog_25_method_9_code 79 = .ok (.iload 4, 2) := by decide +kernel
theorem d25_81 : decode prog_25_method_9_code 81 = .ok (.iconst 1, 1) := by decide +kernel
theorem d25_82 : decode prog_25_method_9_code 82 = .ok (.iadd, 1) := by decide +kernel
theorem d25_83 : decode prog_25_method_9_code 83 = .ok (.iload_n 2, 1) := by decide +kernel
theorem d25_84 : decode prog_25_method_9_code 84 = .ok (.iand, 1) := by decide +kernel
theorem d25_85 : decode prog_25_method_9_code 85 = .ok (.istore 4, 2) := by decide +kernel
theorem d25_87 : decode prog_25_method_9_code 87 = .ok (.goto (-70), 3) := by decide +kernel
theorem d25_90 : decode prog_25_method_9_code 90 = .ok (.aload_n 0, 1) := by decide +kernel
theorem d25_91 : decode prog_25_method_9_code 91 = .ok (.getfield 13, 3) := by decide +kernel
theorem d25_94 : decode prog_25_method_9_code 94 = .ok (.iload_n 3, 1) := by decide +kernel
theorem d25_95 : decode prog_25_method_9_code 95 = .ok (.iconst 0, 1) := by decide +kernel
theorem d25_96 : decode prog_25_method_9_code 96 = .ok (.iastore, 1) := by decide +kernel
theorem d25_97 : decode prog_25_method_9_code 97 = .ok (.return_, 1) := by decide +kernel
theorem pn_25 : plainName "com/example/tristream/tristream/LongIndex" = true := by first | (simp [plainName, overriddenIn]; done) | decide +kernel
theorem ef_25 (m : MethodId) (x0 : Addr) (x1 : Int32) : entryFrame m #[(.ref x0), (.int x1)] 6 = mkF m 0 #[.val (.ref x0), .val (.int x1), .unset, .unset, .unset, .unset] [] := by first | (simp [entryFrame, mkF, argsToLocals, Value.category]; done) | rfl
def Q_liclear (Z : State) (a sb : Addr) (S : Nat) (sf : Int32) (sl : Nat → Int32) (kf : Nat → Int64) (i0 nk : Nat) (h0 : Heap) (n0 : Nat) (r : Option Value) (h : Heap) (L : List Loc) : Prop := r = none ∧ Fr n0 L ∧ Keep h0 h [sb] ∧ ∃ sl' : Nat → Int32, Cl S sf sl' kf (fun j => j < nk ∧ j ≠ i0) ∧ FA Z h sb .int S (fun i => .int (sl' i))
set_option maxRecDepth 65536 in
set_option maxHeartbeats 40000000 in
theorem rm_liclear (l : Launch) (Z : State) (a0 : Array Value) (hw : ∀ d ∈ tables_1, d.before a0 Z = true) (ws : List Jvm.Cond) (a : Addr) (ri : Int32) (kb : Addr) (sb : Addr) (z : Int32) (sf : Int32) (kn : Nat) (kf : Nat → Int64) (S : Nat) (sl : Nat → Int32) (i0 : Nat) (nk : Nat) (rn0 : Nat) (h0 : Heap) (n0 : Nat) (Z0 : n0 ≤ h0.size) (O0 : Obj Z h0 a "com/example/tristream/tristream/LongIndex" sch_li [(.ref kb), (.ref sb), (.int sf), (.int z)]) (F_kb : FA Z h0 kb .long kn (fun i => .long (kf i))) (F_sb : FA Z h0 sb .int S (fun i => .int (sl i))) (g_sb : n0 ≤ sb) (hFo : Fo S sf sl kn) (hri : ri.toInt = (rn0 : Int)) (hr : rn0 < S) (hg : gn sl rn0 = i0 + 1) (hInv : Inv S (fun i => hm sf (kf i)) (gn sl) (fun i => i < nk)) :
    MetFree l mn9 (head1 (Jvm.Cond.code mn9 prog_25_method_9_code 6 none :: ws) ({ frames := 1, cells := 0, slots := 0, locals := 14 } : Room)) (fun a_ U => a_ = #[(.ref a), (.int ri)] ∧ Z.Warmed39 U.vm ∧ U.heap = h0) (fun _ _ _ _ _ => True) (fun _ U o U' => ∃ v_ L_, o = .returned v_ ∧ Q_liclear Z a sb S sf sl kf i0 nk h0 n0 v_ U'.heap L_ ∧ FrameEnd U o U' L_ ({ frames := 1, cells := 0, slots := 0, locals := 14 } : Room).cells ({ frames := 1, cells := 0, slots := 0, locals := 14 } : Room).slots) := by
  refine MetFree.of_bodySF (plainFor_of_name pn_25) hisR ?_
  intro p e s m args below meth c s₁ Bd hml0 hP hK
  obtain ⟨rfl, hZ, hh⟩ := hP
  have hx := Bd.exec
  have hby := Bd.bytes
  have hlk : meth.locks = false := Bd.notSynchronized
  have hml : c.maxLocals = 6 := hml0
  have hown : s.vm.findClass "com/example/tristream/tristream/LongIndex" = some m.cls := findClass_of_methodNamed Bd.named
  have hnm := (name_of_methodNamed Bd.named Bd.method).1
  have X0 : Stand p l e ({ frames := 1, cells := 0, slots := 0, locals := 14 } : Room) s m #[(.ref a), (.int ri)] below meth c s₁ [] 0 0 := Stand.of_body Bd
  have e0 : s₁.heap = h0 := by rw [← hh, Bd.state]; rfl
  have N0 := Fr.nil n0
  have K0 : Keep h0 h0 [sb] := Keep.refl _ _
  show OEnds p e below s (Q_liclear Z a sb S sf sl kf i0 nk h0 n0) _ _ _
  refine own_by (fun t k => castTop (ef_25 m a ri) k) ?_
  show OEnds p e below s _ _ _ (s₁.setTop (mkF m 0 #[(vr a), (vi ri), un, un, un, un] []))
  refine qaN 1 X0 hx hby d25_0 rfl rfl ?_
  refine qg 4 X0 hx hZ hown (tw25 hw) e0 (O0.fld 1 rfl rfl) hby d25_1 rfl fun T1 X1 e1 => ?_
  refine qn 5 (Int32.ofNat S) X1 hx hZ e1 F_sb rfl hby d25_4 rfl ?_
  refine qc1 6 1 X1 hx hby d25_5 rfl rfl ?_
  refine q_isub 7 X1 hx hby d25_6 rfl ?_
  refine qsiN 8 #[(vr a), (vi ri), (vi ((Int32.ofNat S) - (1 : Int32))), un, un, un] X1 hx hby d25_7 rfl rfl ?_
  refine qiN 9 X1 hx hby d25_8 rfl rfl ?_
  refine qsiN 10 #[(vr a), (vi ri), (vi ((Int32.ofNat S) - (1 : Int32))), (vi ri), un, un] X1 hx hby d25_9 rfl rfl ?_
  refine qiN 11 X1 hx hby d25_10 rfl rfl ?_
  refine qc1 12 1 X1 hx hby d25_11 rfl rfl ?_
  refine q_iadd 13 X1 hx hby d25_12 rfl ?_
  refine qiN 14 X1 hx hby d25_13 rfl rfl ?_
  refine q_iand 15 X1 hx hby d25_14 rfl ?_
  refine qsi 17 #[(vr a), (vi ri), (vi ((Int32.ofNat S) - (1 : Int32))), (vi ri), (vi ((ri + (1 : Int32)) &&& ((Int32.ofNat S) - (1 : Int32)))), un] X1 hx hby d25_15 rfl rfl ?_
  obtain ⟨hSz, hk4, hnnA, hbdA, sA, hsA1, hsA0⟩ := hFo
  have hS0 : 0 < S := by omega
  obtain ⟨D, hD1, hD0⟩ := far hSz.or hr hsA1
  have hso := hSz.or
  have hDp : 0 < D := by
    rcases Nat.eq_zero_or_pos D with q | q
    · rw [q, Nat.add_zero, Nat.mod_eq_of_lt hr] at hD0; rw [← hD0, hg] at hsA0; omega
    · exact q
  obtain ⟨s0, es0⟩ : ∃ s0, s0 = sA := ⟨_, rfl⟩
  rw [← es0] at hsA1 hsA0 hD0
  have lp : ∀ (j : Nat) (T : State) (lo : List Loc) (hv : Int32) (nv : Int32) (d5 : Int32) (cl : Nat → Int32) (hole : Nat) (K : Nat) (h_lp : Heap) (Zz_lp : n0 ≤ h_lp.size) (X_lp : Stand p l e ({ frames := 1, cells := 0, slots := 0, locals := 14 } : Room) s m #[(.ref a), (.int ri)] below meth c T lo 0 0) (e_lp : T.heap = h_lp) (N_lp : Fr n0 lo) (Kp_lp : Keep h0 h_lp [sb]) (Ob_lp_a : Obj Z h_lp a "com/example/tristream/tristream/LongIndex" sch_li [(.ref kb), (.ref sb), (.int sf), (.int z)]) (Fa_lp_kb : FA Z h_lp kb .long kn (fun i => .long (kf i))) (Fa_lp_sb : FA Z h_lp sb .int S (fun i => .int (cl i))) (hhv : hv.toInt = (hole : Int)) (hnv : nv.toInt = ((((hole + K) % S) : Nat) : Int)) (hP : Part S (fun i => hm sf (kf i)) (hol cl hole) (fun j => j < nk ∧ j ≠ i0) hole K) (hK : 0 < K) (hKS : K + j < S) (hs0 : (hole + K + j) % S = s0) (hz0 : gn cl s0 = 0) (hnn : ∀ s, s < S → 0 ≤ (cl s).toInt) (hbd : ∀ s, s < S → gn cl s ≠ 0 → gn cl s - 1 < kn), OEnds p e below s (Q_liclear Z a sb S sf sl kf i0 nk h0 n0) 0 0 (T.setTop (mkF m 17 #[(vr a), (vi ri), (vi ((Int32.ofNat S) - (1 : Int32))), (vi hv), (vi nv), (vi d5)] [])) := by
    intro j
    induction j with
    | zero =>
      intro T lo hv nv d5 cl hole K h_lp Zz_lp X_lp e_lp N_lp Kp_lp Ob_lp_a Fa_lp_kb Fa_lp_sb hhv hnv hP hK hKS hs0 hz0 hnn hbd
      show OEnds p e below s _ _ _ (T.setTop (mkF m 17 #[(vr a), (vi ri), (vi ((Int32.ofNat S) - (1 : Int32))), (vi hv), (vi nv), (vi d5)] []))
      have hlt : ((hole + K) % S) < S := Nat.mod_lt _ hS0
      have hnn0 := hnn _ hlt
      have hzz : cl ((hole + K) % S) = (0 : Int32) := gn_zero hnn0 (by rw [Nat.add_zero] at hs0; rw [hs0]; exact hz0)
      show OEnds p e below s _ _ _ (T.setTop (mkF m 17 #[(vr a), (vi ri), (vi ((Int32.ofNat S) - (1 : Int32))), (vi hv), (vi nv), (vi d5)] []))
      refine qaN 18 X_lp hx hby d25_17 rfl rfl ?_
      refine qg 21 X_lp hx hZ hown (tw25 hw) e_lp (Ob_lp_a.fld 1 rfl rfl) hby d25_18 rfl fun T2 X2 e2 => ?_
      refine qi 23 X2 hx hby d25_21 rfl rfl ?_
      refine qI 24 X2 hx hZ e2 Fa_lp_sb ((hole + K) % S) hnv hlt (v := (.int (cl ((hole + K) % S)))) rfl hby d25_23 rfl ?_
      refine q_ify 90 X2 hx hby d25_24 rfl ((if0 _ _).trans (teq hzz).1) ?_
      refine qaN 91 X2 hx hby d25_90 rfl rfl ?_
      refine qg 94 X2 hx hZ hown (tw25 hw) e2 (Ob_lp_a.fld 1 rfl rfl) hby d25_91 rfl fun T3 X3 e3 => ?_
      refine qiN 95 X3 hx hby d25_94 rfl rfl ?_
      refine qc1 96 0 X3 hx hby d25_95 rfl rfl ?_
      obtain ⟨T4, h4, X4, e4, W4, st4⟩ := own_iastore X3 hx hZ e3 Fa_lp_sb hole hhv hP.1 (g := (mkF m 96 #[(vr a), (vi ri), (vi ((Int32.ofNat S) - (1 : Int32))), (vi hv), (vi nv), (vi d5)] [(.int 0), (.int hv), (.ref sb)])) rfl rfl (hb hby d25_96)
      have F4 : FA Z h4 sb .int S (fun i => .int ((updI cl hole (0 : Int32)) i)) := Fa_lp_sb.setI W4
      have N4 := Fr.snoc X4 N_lp g_sb
      have Z4 := Nat.le_trans Zz_lp (Keep.of_wr W4).1
      have K4 := Kp_lp.wr W4 (wi 0 rfl)
      refine qat 97 #[(vr a), (vi ri), (vi ((Int32.ofNat S) - (1 : Int32))), (vi hv), (vi nv), (vi d5)] [] st4 ?_
      exact own_retV X4 hx hlk Bd.returns (hb hby d25_97) (by rw [e4]; exact ⟨rfl, N4, K4, _, ⟨nn_upd hnn (by decide), cl_done hSz.or hP hK (by omega) (gn_of hzz)⟩, F4⟩) (by decide) (by decide)
    | succ j ih_lp =>
      intro T lo hv nv d5 cl hole K h_lp Zz_lp X_lp e_lp N_lp Kp_lp Ob_lp_a Fa_lp_kb Fa_lp_sb hhv hnv hP hK hKS hs0 hz0 hnn hbd
      show OEnds p e below s _ _ _ (T.setTop (mkF m 17 #[(vr a), (vi ri), (vi ((Int32.ofNat S) - (1 : Int32))), (vi hv), (vi nv), (vi d5)] []))
      have hlt : ((hole + K) % S) < S := Nat.mod_lt _ hS0
      have hnn0 := hnn _ hlt
      show OEnds p e below s _ _ _ (T.setTop (mkF m 17 #[(vr a), (vi ri), (vi ((Int32.ofNat S) - (1 : Int32))), (vi hv), (vi nv), (vi d5)] []))
      refine qaN 18 X_lp hx hby d25_17 rfl rfl ?_
      refine qg 21 X_lp hx hZ hown (tw25 hw) e_lp (Ob_lp_a.fld 1 rfl rfl) hby d25_18 rfl fun T5 X5 e5 => ?_
      refine qi 23 X5 hx hby d25_21 rfl rfl ?_
      refine qI 24 X5 hx hZ e5 Fa_lp_sb ((hole + K) % S) hnv hlt (v := (.int (cl ((hole + K) % S)))) rfl hby d25_23 rfl ?_
      by_cases hc24_6 : (cl ((hole + K) % S)) = (0 : Int32)
      · refine q_ify 90 X5 hx hby d25_24 rfl ((if0 _ _).trans (teq hc24_6).1) ?_
        refine qaN 91 X5 hx hby d25_90 rfl rfl ?_
        refine qg 94 X5 hx hZ hown (tw25 hw) e5 (Ob_lp_a.fld 1 rfl rfl) hby d25_91 rfl fun T7 X7 e7 => ?_
        refine qiN 95 X7 hx hby d25_94 rfl rfl ?_
        refine qc1 96 0 X7 hx hby d25_95 rfl rfl ?_
        obtain ⟨T8, h8, X8, e8, W8, st8⟩ := own_iastore X7 hx hZ e7 Fa_lp_sb hole hhv hP.1 (g := (mkF m 96 #[(vr a), (vi ri), (vi ((Int32.ofNat S) - (1 : Int32))), (vi hv), (vi nv), (vi d5)] [(.int 0), (.int hv), (.ref sb)])) rfl rfl (hb hby d25_96)
        have F8 : FA Z h8 sb .int S (fun i => .int ((updI cl hole (0 : Int32)) i)) := Fa_lp_sb.setI W8
        have N8 := Fr.snoc X8 N_lp g_sb
        have Z8 := Nat.le_trans Zz_lp (Keep.of_wr W8).1
        have K8 := Kp_lp.wr W8 (wi 0 rfl)
        refine qat 97 #[(vr a), (vi ri), (vi ((Int32.ofNat S) - (1 : Int32))), (vi hv), (vi nv), (vi d5)] [] st8 ?_
        exact own_retV X8 hx hlk Bd.returns (hb hby d25_97) (by rw [e8]; exact ⟨rfl, N8, K8, _, ⟨nn_upd hnn (by decide), cl_done hSz.or hP hK (by omega) (gn_of hc24_6)⟩, F8⟩) (by decide) (by decide)
      · refine q_ifn 27 X5 hx hby d25_24 rfl ((if0 _ _).trans (feq hc24_6).1) ?_
        refine qaN 28 X5 hx hby d25_27 rfl rfl ?_
        refine qaN 29 X5 hx hby d25_28 rfl rfl ?_
        refine qg 32 X5 hx hZ hown (tw22 hw) e5 (Ob_lp_a.fld 0 rfl rfl) hby d25_29 rfl fun T9 X9 e9 => ?_
        refine qaN 33 X9 hx hby d25_32 rfl rfl ?_
        refine qg 36 X9 hx hZ hown (tw25 hw) e9 (Ob_lp_a.fld 1 rfl rfl) hby d25_33 rfl fun T10 X10 e10 => ?_
        refine qi 38 X10 hx hby d25_36 rfl rfl ?_
        refine qI 39 X10 hx hZ e10 Fa_lp_sb ((hole + K) % S) hnv hlt (v := (.int (cl ((hole + K) % S)))) rfl hby d25_38 rfl ?_
        refine qc1 40 1 X10 hx hby d25_39 rfl rfl ?_
        refine q_isub 41 X10 hx hby d25_40 rfl ?_
        have hgp := gn_pos hnn0 hc24_6
        refine qJ 42 X10 hx hZ e10 Fa_lp_kb (gn cl ((hole + K) % S) - 1) (idx_of hnn0 hgp) (hbd _ hlt hgp) (v := (.long (kf (gn cl ((hole + K) % S) - 1)))) rfl hby d25_41 rfl ?_
        obtain ⟨T11, X11, e11, st11⟩ := own_callXR X10 hx hZ (y := mn2) hown (tw80 hw) (tw81 hw) (tw82 hw) (tw83 hw) (tw16 hw) (tw15 hw) (by decide) Ob_lp_a.exa (rm_home l Z a0 hw [] a (kf (gn cl ((hole + K) % S) - 1)) kb sb sf z h_lp n0 Zz_lp Ob_lp_a) e10 (g := (mkF m 42 #[(vr a), (vi ri), (vi ((Int32.ofNat S) - (1 : Int32))), (vi hv), (vi nv), (vi d5)] [(.long (kf (gn cl ((hole + K) % S) - 1))), (.ref a)])) rfl (by rw [hml]; rfl) (argsL := [(.long (kf (gn cl ((hole + K) % S) - 1)))]) (rest := []) (lenOf pd_pJrI rfl) rfl (W := 0) (by show 2 * 0 + _ ≤ _; exact Nat.le_of_eq rfl) (hb hby d25_42) (by decide) (by decide) (by decide) (by decide)
        refine qat 45 #[(vr a), (vi ri), (vi ((Int32.ofNat S) - (1 : Int32))), (vi hv), (vi nv), (vi d5)] [(.int (home_r (kf (gn cl ((hole + K) % S) - 1)) sf))] st11 ?_
        refine qsi 47 #[(vr a), (vi ri), (vi ((Int32.ofNat S) - (1 : Int32))), (vi hv), (vi nv), (vi (home_r (kf (gn cl ((hole + K) % S) - 1)) sf))] X11 hx hby d25_45 rfl rfl ?_
        refine qi 49 X11 hx hby d25_47 rfl rfl ?_
        refine qi 51 X11 hx hby d25_49 rfl rfl ?_
        refine q_isub 52 X11 hx hby d25_51 rfl ?_
        refine qiN 53 X11 hx hby d25_52 rfl rfl ?_
        refine q_iand 54 X11 hx hby d25_53 rfl ?_
        refine qi 56 X11 hx hby d25_54 rfl rfl ?_
        refine qiN 57 X11 hx hby d25_56 rfl rfl ?_
        refine q_isub 58 X11 hx hby d25_57 rfl ?_
        refine qiN 59 X11 hx hby d25_58 rfl rfl ?_
        refine q_iand 60 X11 hx hby d25_59 rfl ?_
        by_cases hc60_12 : ((nv - (home_r (kf (gn cl ((hole + K) % S) - 1)) sf)) &&& ((Int32.ofNat S) - (1 : Int32))) < ((nv - hv) &&& ((Int32.ofNat S) - (1 : Int32)))
        · refine q_cmy 79 X11 hx hby d25_60 rfl (tlt hc60_12).1 ?_
          refine qi 81 X11 hx hby d25_79 rfl rfl ?_
          refine qc1 82 1 X11 hx hby d25_81 rfl rfl ?_
          refine q_iadd 83 X11 hx hby d25_82 rfl ?_
          refine qiN 84 X11 hx hby d25_83 rfl rfl ?_
          refine q_iand 85 X11 hx hby d25_84 rfl ?_
          refine qsi 87 #[(vr a), (vi ri), (vi ((Int32.ofNat S) - (1 : Int32))), (vi hv), (vi ((nv + (1 : Int32)) &&& ((Int32.ofNat S) - (1 : Int32)))), (vi (home_r (kf (gn cl ((hole + K) % S) - 1)) sf))] X11 hx hby d25_85 rfl rfl ?_
          refine q_goto 17 X11 hx hby d25_87 rfl ?_
          have hcmp := lt_toI (dist (x := 0) (y := 0) hSz.or hnv (hm_spec hSz (kf (gn cl ((hole + K) % S) - 1))).1 hlt (hm_spec hSz (kf (gn cl ((hole + K) % S) - 1))).2) (dist (x := 0) (y := 0) hSz.or hnv hhv hlt hP.1) hc60_12
          have hso := hSz.or
          exact ih_lp T11 _ hv ((nv + (1 : Int32)) &&& ((Int32.ofNat S) - (1 : Int32))) _ cl hole (K + 1) h_lp Zz_lp X11 e11 N_lp Kp_lp Ob_lp_a Fa_lp_kb Fa_lp_sb hhv (by rw [nxt hSz.or hnv hlt]; congr 1; rcases hso with rfl | rfl <;> omega) (cl_skip hSz.or hP hK (by omega) rfl hgp rfl (hm_spec hSz (kf (gn cl ((hole + K) % S) - 1))).2 hcmp) (by omega) (by omega) (by rw [← hs0]; congr 1; omega) hz0 hnn hbd
        · refine q_cmn 63 X11 hx hby d25_60 rfl (flt hc60_12).1 ?_
          refine qaN 64 X11 hx hby d25_63 rfl rfl ?_
          refine qg 67 X11 hx hZ hown (tw25 hw) e11 (Ob_lp_a.fld 1 rfl rfl) hby d25_64 rfl fun T13 X13 e13 => ?_
          refine qiN 68 X13 hx hby d25_67 rfl rfl ?_
          refine qaN 69 X13 hx hby d25_68 rfl rfl ?_
          refine qg 72 X13 hx hZ hown (tw25 hw) e13 (Ob_lp_a.fld 1 rfl rfl) hby d25_69 rfl fun T14 X14 e14 => ?_
          refine qi 74 X14 hx hby d25_72 rfl rfl ?_
          refine qI 75 X14 hx hZ e14 Fa_lp_sb ((hole + K) % S) hnv hlt (v := (.int (cl ((hole + K) % S)))) rfl hby d25_74 rfl ?_
          obtain ⟨T15, h15, X15, e15, W15, st15⟩ := own_iastore X14 hx hZ e14 Fa_lp_sb hole hhv hP.1 (g := (mkF m 75 #[(vr a), (vi ri), (vi ((Int32.ofNat S) - (1 : Int32))), (vi hv), (vi nv), (vi (home_r (kf (gn cl ((hole + K) % S) - 1)) sf))] [(.int (cl ((hole + K) % S))), (.int hv), (.ref sb)])) rfl rfl (hb hby d25_75)
          have F15 : FA Z h15 sb .int S (fun i => .int ((updI cl hole (cl ((hole + K) % S))) i)) := Fa_lp_sb.setI W15
          have N15 := Fr.snoc X15 N_lp g_sb
          have Z15 := Nat.le_trans Zz_lp (Keep.of_wr W15).1
          have K15 := Kp_lp.wr W15 (wi 0 rfl)
          refine qat 76 #[(vr a), (vi ri), (vi ((Int32.ofNat S) - (1 : Int32))), (vi hv), (vi nv), (vi (home_r (kf (gn cl ((hole + K) % S) - 1)) sf))] [] st15 ?_
          refine qi 78 X15 hx hby d25_76 rfl rfl ?_
          refine qsiN 79 #[(vr a), (vi ri), (vi ((Int32.ofNat S) - (1 : Int32))), (vi nv), (vi nv), (vi (home_r (kf (gn cl ((hole + K) % S) - 1)) sf))] X15 hx hby d25_78 rfl rfl ?_
          refine qi 81 X15 hx hby d25_79 rfl rfl ?_
          refine qc1 82 1 X15 hx hby d25_81 rfl rfl ?_
          refine q_iadd 83 X15 hx hby d25_82 rfl ?_
          refine qiN 84 X15 hx hby d25_83 rfl rfl ?_
          refine q_iand 85 X15 hx hby d25_84 rfl ?_
          refine qsi 87 #[(vr a), (vi ri), (vi ((Int32.ofNat S) - (1 : Int32))), (vi nv), (vi ((nv + (1 : Int32)) &&& ((Int32.ofNat S) - (1 : Int32)))), (vi (home_r (kf (gn cl ((hole + K) % S) - 1)) sf))] X15 hx hby d25_85 rfl rfl ?_
          refine q_goto 17 X15 hx hby d25_87 rfl ?_
          have hcmp := ge_toI (dist (x := 0) (y := 0) hSz.or hnv (hm_spec hSz (kf (gn cl ((hole + K) % S) - 1))).1 hlt (hm_spec hSz (kf (gn cl ((hole + K) % S) - 1))).2) (dist (x := 0) (y := 0) hSz.or hnv hhv hlt hP.1) hc60_12
          have hso := hSz.or
          have O16 := (Ob_lp_a.other W15 (Ob_lp_a.ne_fa (tw15 hw) Fa_lp_sb))
          have F17 := (Fa_lp_kb.other W15 (Fa_lp_kb.ne_ty Fa_lp_sb (by decide)))
          exact ih_lp T15 _ nv ((nv + (1 : Int32)) &&& ((Int32.ofNat S) - (1 : Int32))) _ _ ((hole + K) % S) 1 h15 Z15 X15 e15 N15 K15 O16 F17 F15 hnv (nxt hSz.or hnv hlt) (cl_mv hSz.or hP hK (by omega) rfl hgp rfl (hm_spec hSz (kf (gn cl ((hole + K) % S) - 1))).2 hcmp) (by omega) (by omega) (by rcases hso with rfl | rfl <;> omega) (by rw [gn_ne (by have := hP.1; rcases hso with rfl | rfl <;> omega)]; exact hz0) (nn_upd hnn hnn0) (bd_upd hbd hlt)
  have lpU : ∀ (j : Nat) (T : State) (lo : List Loc) (hv : Int32) (nv : Int32) (cl : Nat → Int32) (hole : Nat) (K : Nat) (h_lpU : Heap) (Zz_lpU : n0 ≤ h_lpU.size) (X_lpU : Stand p l e ({ frames := 1, cells := 0, slots := 0, locals := 14 } : Room) s m #[(.ref a), (.int ri)] below meth c T lo 0 0) (e_lpU : T.heap = h_lpU) (N_lpU : Fr n0 lo) (Kp_lpU : Keep h0 h_lpU [sb]) (Ob_lpU_a : Obj Z h_lpU a "com/example/tristream/tristream/LongIndex" sch_li [(.ref kb), (.ref sb), (.int sf), (.int z)]) (Fa_lpU_kb : FA Z h_lpU kb .long kn (fun i => .long (kf i))) (Fa_lpU_sb : FA Z h_lpU sb .int S (fun i => .int (cl i))) (hhv : hv.toInt = (hole : Int)) (hnv : nv.toInt = ((((hole + K) % S) : Nat) : Int)) (hP : Part S (fun i => hm sf (kf i)) (hol cl hole) (fun j => j < nk ∧ j ≠ i0) hole K) (hK : 0 < K) (hKS : K + j < S) (hs0 : (hole + K + j) % S = s0) (hz0 : gn cl s0 = 0) (hnn : ∀ s, s < S → 0 ≤ (cl s).toInt) (hbd : ∀ s, s < S → gn cl s ≠ 0 → gn cl s - 1 < kn), OEnds p e below s (Q_liclear Z a sb S sf sl kf i0 nk h0 n0) 0 0 (T.setTop (mkF m 17 #[(vr a), (vi ri), (vi ((Int32.ofNat S) - (1 : Int32))), (vi hv), (vi nv), un] [])) := by
    intro j
    induction j with
    | zero =>
      intro T lo hv nv cl hole K h_lpU Zz_lpU X_lpU e_lpU N_lpU Kp_lpU Ob_lpU_a Fa_lpU_kb Fa_lpU_sb hhv hnv hP hK hKS hs0 hz0 hnn hbd
      show OEnds p e below s _ _ _ (T.setTop (mkF m 17 #[(vr a), (vi ri), (vi ((Int32.ofNat S) - (1 : Int32))), (vi hv), (vi nv), un] []))
      have hlt : ((hole + K) % S) < S := Nat.mod_lt _ hS0
      have hnn0 := hnn _ hlt
      have hzz : cl ((hole + K) % S) = (0 : Int32) := gn_zero hnn0 (by rw [Nat.add_zero] at hs0; rw [hs0]; exact hz0)
      show OEnds p e below s _ _ _ (T.setTop (mkF m 17 #[(vr a), (vi ri), (vi ((Int32.ofNat S) - (1 : Int32))), (vi hv), (vi nv), un] []))
      refine qaN 18 X_lpU hx hby d25_17 rfl rfl ?_
      refine qg 21 X_lpU hx hZ hown (tw25 hw) e_lpU (Ob_lpU_a.fld 1 rfl rfl) hby d25_18 rfl fun T18 X18 e18 => ?_
      refine qi 23 X18 hx hby d25_21 rfl rfl ?_
      refine qI 24 X18 hx hZ e18 Fa_lpU_sb ((hole + K) % S) hnv hlt (v := (.int (cl ((hole + K) % S)))) rfl hby d25_23 rfl ?_
      refine q_ify 90 X18 hx hby d25_24 rfl ((if0 _ _).trans (teq hzz).1) ?_
      refine qaN 91 X18 hx hby d25_90 rfl rfl ?_
      refine qg 94 X18 hx hZ hown (tw25 hw) e18 (Ob_lpU_a.fld 1 rfl rfl) hby d25_91 rfl fun T19 X19 e19 => ?_
      refine qiN 95 X19 hx hby d25_94 rfl rfl ?_
      refine qc1 96 0 X19 hx hby d25_95 rfl rfl ?_
      obtain ⟨T20, h20, X20, e20, W20, st20⟩ := own_iastore X19 hx hZ e19 Fa_lpU_sb hole hhv hP.1 (g := (mkF m 96 #[(vr a), (vi ri), (vi ((Int32.ofNat S) - (1 : Int32))), (vi hv), (vi nv), un] [(.int 0), (.int hv), (.ref sb)])) rfl rfl (hb hby d25_96)
      have F20 : FA Z h20 sb .int S (fun i => .int ((updI cl hole (0 : Int32)) i)) := Fa_lpU_sb.setI W20
      have N20 := Fr.snoc X20 N_lpU g_sb
      have Z20 := Nat.le_trans Zz_lpU (Keep.of_wr W20).1
      have K20 := Kp_lpU.wr W20 (wi 0 rfl)
      refine qat 97 #[(vr a), (vi ri), (vi ((Int32.ofNat S) - (1 : Int32))), (vi hv), (vi nv), un] [] st20 ?_
      exact own_retV X20 hx hlk Bd.returns (hb hby d25_97) (by rw [e20]; exact ⟨rfl, N20, K20, _, ⟨nn_upd hnn (by decide), cl_done hSz.or hP hK (by omega) (gn_of hzz)⟩, F20⟩) (by decide) (by decide)
    | succ j ih_lpU =>
      intro T lo hv nv cl hole K h_lpU Zz_lpU X_lpU e_lpU N_lpU Kp_lpU Ob_lpU_a Fa_lpU_kb Fa_lpU_sb hhv hnv hP hK hKS hs0 hz0 hnn hbd
      show OEnds p e below s _ _ _ (T.setTop (mkF m 17 #[(vr a), (vi ri), (vi ((Int32.ofNat S) - (1 : Int32))), (vi hv), (vi nv), un] []))
      have hlt : ((hole + K) % S) < S := Nat.mod_lt _ hS0
      have hnn0 := hnn _ hlt
      show OEnds p e below s _ _ _ (T.setTop (mkF m 17 #[(vr a), (vi ri), (vi ((Int32.ofNat S) - (1 : Int32))), (vi hv), (vi nv), un] []))
      refine qaN 18 X_lpU hx hby d25_17 rfl rfl ?_
      refine qg 21 X_lpU hx hZ hown (tw25 hw) e_lpU (Ob_lpU_a.fld 1 rfl rfl) hby d25_18 rfl fun T21 X21 e21 => ?_
      refine qi 23 X21 hx hby d25_21 rfl rfl ?_
      refine qI 24 X21 hx hZ e21 Fa_lpU_sb ((hole + K) % S) hnv hlt (v := (.int (cl ((hole + K) % S)))) rfl hby d25_23 rfl ?_
      by_cases hc24_22 : (cl ((hole + K) % S)) = (0 : Int32)
      · refine q_ify 90 X21 hx hby d25_24 rfl ((if0 _ _).trans (teq hc24_22).1) ?_
        refine qaN 91 X21 hx hby d25_90 rfl rfl ?_
        refine qg 94 X21 hx hZ hown (tw25 hw) e21 (Ob_lpU_a.fld 1 rfl rfl) hby d25_91 rfl fun T23 X23 e23 => ?_
        refine qiN 95 X23 hx hby d25_94 rfl rfl ?_
        refine qc1 96 0 X23 hx hby d25_95 rfl rfl ?_
        obtain ⟨T24, h24, X24, e24, W24, st24⟩ := own_iastore X23 hx hZ e23 Fa_lpU_sb hole hhv hP.1 (g := (mkF m 96 #[(vr a), (vi ri), (vi ((Int32.ofNat S) - (1 : Int32))), (vi hv), (vi nv), un] [(.int 0), (.int hv), (.ref sb)])) rfl rfl (hb hby d25_96)
        have F24 : FA Z h24 sb .int S (fun i => .int ((updI cl hole (0 : Int32)) i)) := Fa_lpU_sb.setI W24
        have N24 := Fr.snoc X24 N_lpU g_sb
        have Z24 := Nat.le_trans Zz_lpU (Keep.of_wr W24).1
        have K24 := Kp_lpU.wr W24 (wi 0 rfl)
        refine qat 97 #[(vr a), (vi ri), (vi ((Int32.ofNat S) - (1 : Int32))), (vi hv), (vi nv), un] [] st24 ?_
        exact own_retV X24 hx hlk Bd.returns (hb hby d25_97) (by rw [e24]; exact ⟨rfl, N24, K24, _, ⟨nn_upd hnn (by decide), cl_done hSz.or hP hK (by omega) (gn_of hc24_22)⟩, F24⟩) (by decide) (by decide)
      · refine q_ifn 27 X21 hx hby d25_24 rfl ((if0 _ _).trans (feq hc24_22).1) ?_
        refine qaN 28 X21 hx hby d25_27 rfl rfl ?_
        refine qaN 29 X21 hx hby d25_28 rfl rfl ?_
        refine qg 32 X21 hx hZ hown (tw22 hw) e21 (Ob_lpU_a.fld 0 rfl rfl) hby d25_29 rfl fun T25 X25 e25 => ?_
        refine qaN 33 X25 hx hby d25_32 rfl rfl ?_
        refine qg 36 X25 hx hZ hown (tw25 hw) e25 (Ob_lpU_a.fld 1 rfl rfl) hby d25_33 rfl fun T26 X26 e26 => ?_
        refine qi 38 X26 hx hby d25_36 rfl rfl ?_
        refine qI 39 X26 hx hZ e26 Fa_lpU_sb ((hole + K) % S) hnv hlt (v := (.int (cl ((hole + K) % S)))) rfl hby d25_38 rfl ?_
        refine qc1 40 1 X26 hx hby d25_39 rfl rfl ?_
        refine q_isub 41 X26 hx hby d25_40 rfl ?_
        have hgp := gn_pos hnn0 hc24_22
        refine qJ 42 X26 hx hZ e26 Fa_lpU_kb (gn cl ((hole + K) % S) - 1) (idx_of hnn0 hgp) (hbd _ hlt hgp) (v := (.long (kf (gn cl ((hole + K) % S) - 1)))) rfl hby d25_41 rfl ?_
        obtain ⟨T27, X27, e27, st27⟩ := own_callXR X26 hx hZ (y := mn2) hown (tw80 hw) (tw81 hw) (tw82 hw) (tw83 hw) (tw16 hw) (tw15 hw) (by decide) Ob_lpU_a.exa (rm_home l Z a0 hw [] a (kf (gn cl ((hole + K) % S) - 1)) kb sb sf z h_lpU n0 Zz_lpU Ob_lpU_a) e26 (g := (mkF m 42 #[(vr a), (vi ri), (vi ((Int32.ofNat S) - (1 : Int32))), (vi hv), (vi nv), un] [(.long (kf (gn cl ((hole + K) % S) - 1))), (.ref a)])) rfl (by rw [hml]; rfl) (argsL := [(.long (kf (gn cl ((hole + K) % S) - 1)))]) (rest := []) (lenOf pd_pJrI rfl) rfl (W := 0) (by show 2 * 0 + _ ≤ _; exact Nat.le_of_eq rfl) (hb hby d25_42) (by decide) (by decide) (by decide) (by decide)
        refine qat 45 #[(vr a), (vi ri), (vi ((Int32.ofNat S) - (1 : Int32))), (vi hv), (vi nv), un] [(.int (home_r (kf (gn cl ((hole + K) % S) - 1)) sf))] st27 ?_
        refine qsi 47 #[(vr a), (vi ri), (vi ((Int32.ofNat S) - (1 : Int32))), (vi hv), (vi nv), (vi (home_r (kf (gn cl ((hole + K) % S) - 1)) sf))] X27 hx hby d25_45 rfl rfl ?_
        refine qi 49 X27 hx hby d25_47 rfl rfl ?_
        refine qi 51 X27 hx hby d25_49 rfl rfl ?_
        refine q_isub 52 X27 hx hby d25_51 rfl ?_
        refine qiN 53 X27 hx hby d25_52 rfl rfl ?_
        refine q_iand 54 X27 hx hby d25_53 rfl ?_
        refine qi 56 X27 hx hby d25_54 rfl rfl ?_
        refine qiN 57 X27 hx hby d25_56 rfl rfl ?_
        refine q_isub 58 X27 hx hby d25_57 rfl ?_
        refine qiN 59 X27 hx hby d25_58 rfl rfl ?_
        refine q_iand 60 X27 hx hby d25_59 rfl ?_
        by_cases hc60_28 : ((nv - (home_r (kf (gn cl ((hole + K) % S) - 1)) sf)) &&& ((Int32.ofNat S) - (1 : Int32))) < ((nv - hv) &&& ((Int32.ofNat S) - (1 : Int32)))
        · refine q_cmy 79 X27 hx hby d25_60 rfl (tlt hc60_28).1 ?_
          refine qi 81 X27 hx hby d25_79 rfl rfl ?_
          refine qc1 82 1 X27 hx hby d25_81 rfl rfl ?_
          refine q_iadd 83 X27 hx hby d25_82 rfl ?_
          refine qiN 84 X27 hx hby d25_83 rfl rfl ?_
          refine q_iand 85 X27 hx hby d25_84 rfl ?_
          refine qsi 87 #[(vr a), (vi ri), (vi ((Int32.ofNat S) - (1 : Int32))), (vi hv), (vi ((nv + (1 : Int32)) &&& ((Int32.ofNat S) - (1 : Int32)))), (vi (home_r (kf (gn cl ((hole + K) % S) - 1)) sf))] X27 hx hby d25_85 rfl rfl ?_
          refine q_goto 17 X27 hx hby d25_87 rfl ?_
          have hcmp := lt_toI (dist (x := 0) (y := 0) hSz.or hnv (hm_spec hSz (kf (gn cl ((hole + K) % S) - 1))).1 hlt (hm_spec hSz (kf (gn cl ((hole + K) % S) - 1))).2) (dist (x := 0) (y := 0) hSz.or hnv hhv hlt hP.1) hc60_28
          have hso := hSz.or
          exact lp j T27 _ hv ((nv + (1 : Int32)) &&& ((Int32.ofNat S) - (1 : Int32))) _ cl hole (K + 1) h_lpU Zz_lpU X27 e27 N_lpU Kp_lpU Ob_lpU_a Fa_lpU_kb Fa_lpU_sb hhv (by rw [nxt hSz.or hnv hlt]; congr 1; rcases hso with rfl | rfl <;> omega) (cl_skip hSz.or hP hK (by omega) rfl hgp rfl (hm_spec hSz (kf (gn cl ((hole + K) % S) - 1))).2 hcmp) (by omega) (by omega) (by rw [← hs0]; congr 1; omega) hz0 hnn hbd
        · refine q_cmn 63 X27 hx hby d25_60 rfl (flt hc60_28).1 ?_
          refine qaN 64 X27 hx hby d25_63 rfl rfl ?_
          refine qg 67 X27 hx hZ hown (tw25 hw) e27 (Ob_lpU_a.fld 1 rfl rfl) hby d25_64 rfl fun T29 X29 e29 => ?_
          refine qiN 68 X29 hx hby d25_67 rfl rfl ?_
          refine qaN 69 X29 hx hby d25_68 rfl rfl ?_
          refine qg 72 X29 hx hZ hown (tw25 hw) e29 (Ob_lpU_a.fld 1 rfl rfl) hby d25_69 rfl fun T30 X30 e30 => ?_
          refine qi 74 X30 hx hby d25_72 rfl rfl ?_
          refine qI 75 X30 hx hZ e30 Fa_lpU_sb ((hole + K) % S) hnv hlt (v := (.int (cl ((hole + K) % S)))) rfl hby d25_74 rfl ?_
          obtain ⟨T31, h31, X31, e31, W31, st31⟩ := own_iastore X30 hx hZ e30 Fa_lpU_sb hole hhv hP.1 (g := (mkF m 75 #[(vr a), (vi ri), (vi ((Int32.ofNat S) - (1 : Int32))), (vi hv), (vi nv), (vi (home_r (kf (gn cl ((hole + K) % S) - 1)) sf))] [(.int (cl ((hole + K) % S))), (.int hv), (.ref sb)])) rfl rfl (hb hby d25_75)
          have F31 : FA Z h31 sb .int S (fun i => .int ((updI cl hole (cl ((hole + K) % S))) i)) := Fa_lpU_sb.setI W31
          have N31 := Fr.snoc X31 N_lpU g_sb
          have Z31 := Nat.le_trans Zz_lpU (Keep.of_wr W31).1
          have K31 := Kp_lpU.wr W31 (wi 0 rfl)
          refine qat 76 #[(vr a), (vi ri), (vi ((Int32.ofNat S) - (1 : Int32))), (vi hv), (vi nv), (vi (home_r (kf (gn cl ((hole + K) % S) - 1)) sf))] [] st31 ?_
          refine qi 78 X31 hx hby d25_76 rfl rfl ?_
          refine qsiN 79 #[(vr a), (vi ri), (vi ((Int32.ofNat S) - (1 : Int32))), (vi nv), (vi nv), (vi (home_r (kf (gn cl ((hole + K) % S) - 1)) sf))] X31 hx hby d25_78 rfl rfl ?_
          refine qi 81 X31 hx hby d25_79 rfl rfl ?_
          refine qc1 82 1 X31 hx hby d25_81 rfl rfl ?_
          refine q_iadd 83 X31 hx hby d25_82 rfl ?_
          refine qiN 84 X31 hx hby d25_83 rfl rfl ?_
          refine q_iand 85 X31 hx hby d25_84 rfl ?_
          refine qsi 87 #[(vr a), (vi ri), (vi ((Int32.ofNat S) - (1 : Int32))), (vi nv), (vi ((nv + (1 : Int32)) &&& ((Int32.ofNat S) - (1 : Int32)))), (vi (home_r (kf (gn cl ((hole + K) % S) - 1)) sf))] X31 hx hby d25_85 rfl rfl ?_
          refine q_goto 17 X31 hx hby d25_87 rfl ?_
          have hcmp := ge_toI (dist (x := 0) (y := 0) hSz.or hnv (hm_spec hSz (kf (gn cl ((hole + K) % S) - 1))).1 hlt (hm_spec hSz (kf (gn cl ((hole + K) % S) - 1))).2) (dist (x := 0) (y := 0) hSz.or hnv hhv hlt hP.1) hc60_28
          have hso := hSz.or
          have O32 := (Ob_lpU_a.other W31 (Ob_lpU_a.ne_fa (tw15 hw) Fa_lpU_sb))
          have F33 := (Fa_lpU_kb.other W31 (Fa_lpU_kb.ne_ty Fa_lpU_sb (by decide)))
          exact lp j T31 _ nv ((nv + (1 : Int32)) &&& ((Int32.ofNat S) - (1 : Int32))) _ _ ((hole + K) % S) 1 h31 Z31 X31 e31 N31 K31 O32 F33 F31 hnv (nxt hSz.or hnv hlt) (cl_mv hSz.or hP hK (by omega) rfl hgp rfl (hm_spec hSz (kf (gn cl ((hole + K) % S) - 1))).2 hcmp) (by omega) (by omega) (by rcases hso with rfl | rfl <;> omega) (by rw [gn_ne (by have := hP.1; rcases hso with rfl | rfl <;> omega)]; exact hz0) (nn_upd hnn hnn0) (bd_upd hbd hlt)
  exact lpU (D - 1) T1 _ ri ((ri + (1 : Int32)) &&& ((Int32.ofNat S) - (1 : Int32))) sl rn0 1 h0 Z0 X1 e1 N0 K0 O0 F_kb F_sb hri (nxt hSz.or hri hr) (part_init hInv hr hg) (by decide) (by omega) (by rw [← hD0]; congr 1; omega) hsA0 hnnA hbdA
theorem d24_0 : decode prog_25_method_6_code 0 = .ok (.aload_n 0, 1) := by decide +kernel
theorem d24_1 : decode prog_25_method_6_code 1 = .ok (.lload_n 1, 1) := by decide +kernel
theorem d24_2 : decode prog_25_method_6_code 2 = .ok (.invokevirtual 30, 3) := by decide +kernel
theorem d24_5 : decode prog_25_method_6_code 5 = .ok (.istore_n 3, 1) := by decide +kernel
theorem d24_6 : decode prog_25_method_6_code 6 = .ok (.aload_n 0, 1) := by decide +kernel
theorem d24_7 : decode prog_25_method_6_code 7 = .ok (.getfield 13, 3) := by decide +kernel
theorem d24_10 : decode prog_25_method_6_code 10 = .ok (.iload_n 3, 1) := by decide +kernel
theorem d24_11 : decode prog_25_method_6_code 11 = .ok (.iaload, 1) := by decide +kernel
theorem d24_12 : decode prog_25_method_6_code 12 = .ok (.ifCond .ne 4, 3) := by decide +kernel
theorem d24_15 : decode prog_25_method_6_code 15 = .ok (.return_, 1) := by decide +kernel
theorem d24_16 : decode prog_25_method_6_code 16 = .ok (.aload_n 0, 1) := by decide +kernel
theorem d24_17 : decode prog_25_method_6_code 17 = .ok (.getfield 13, 3) := by decide +kernel
theorem d24_20 : decode prog_25_method_6_code 20 = .ok (.iload_n 3, 1) := by decide +kernel
theorem d24_21 : decode prog_25_method_6_code 21 = .ok (.iaload, 1) := by decide +kernel
theorem d24_22 : decode prog_25_method_6_code 22 = .ok (.iconst 1, 1) := by decide +kernel
theorem d24_23 : decode prog_25_method_6_code 23 = .ok (.isub, 1) := by decide +kernel
theorem d24_24 : decode prog_25_method_6_code 24 = .ok (.istore 4, 2) := by decide +kernel
theorem d24_26 : decode prog_25_method_6_code 26 = .ok (.aload_n 0, 1) := by decide +kernel
theorem d24_27 : decode prog_25_method_6_code 27 = .ok (.iload_n 3, 1) := by decide +kernel
theorem d24_28 : decode prog_25_method_6_code 28 = .ok (.invokevirtual 52, 3) := by decide +kernel
theorem d24_31 : decode prog_25_method_6_code 31 = .ok (.aload_n 0, 1) := by decide +kernel
theorem d24_32 : decode prog_25_method_6_code 32 = .ok (.dup, 1) := by decide +kernel
theorem d24_33 : decode prog_25_method_6_code 33 = .ok (.getfield 27, 3) := by decide +kernel
theorem d24_36 : decode prog_25_method_6_code 36 = .ok (.iconst 1, 1) := by decide +kernel
theorem d24_37 : decode prog_25_method_6_code 37 = .ok (.isub, 1) := by decide +kernel
theorem d24_38 : decode prog_25_method_6_code 38 = .ok (.putfield 27, 3) := by decide +kernel
theorem d24_41 : decode prog_25_method_6_code 41 = .ok (.iload 4, 2) := by decide +kernel
theorem d24_43 : decode prog_25_method_6_code 43 = .ok (.aload_n 0, 1) := by decide +kernel
theorem d24_44 : decode prog_25_method_6_code 44 = .ok (.getfield 27, 3) := by decide +kernel
theorem d24_47 : decode prog_25_method_6_code 47 = .ok (.if_icmp .ge 38, 3) := by decide +kernel
theorem d24_50 : decode prog_25_method_6_code 50 = .ok (.aload_n 0, 1) := by decide +kernel
theorem d24_51 : decode prog_25_method_6_code 51 = .ok (.getfield 9, 3) := by decide +kernel
theorem d24_54 : decode prog_25_method_6_code 54 = .ok (.aload_n 0, 1) := by decide +kernel
theorem d24_55 : decode prog_25_method_6_code 55 = .ok (.getfield 27, 3) := by decide +kernel
theorem d24_58 : decode prog_25_method_6_code 58 = .ok (.laload, 1) := by decide +kernel
theorem d24_59 : decode prog_25_method_6_code 59 = .ok (.lstore 5, 2) := by decide +kernel
theorem d24_61 : decode prog_25_method_6_code 61 = .ok (.aload_n 0, 1) := by decide +kernel
theorem d24_62 : decode prog_25_method_6_code 62 = .ok (.getfield 9, 3) := by decide +kernel
theorem d24_65 : decode prog_25_method_6_code 65 = .ok (.iload 4, 2) := by decide +kernel
theorem d24_67 : decode prog_25_method_6_code 67 = .ok (.lload 5, 2) := by decide +kernel
theorem d24_69 : decode prog_25_method_6_code 69 = .ok (.lastore, 1) := by decide +kernel
theorem d24_70 : decode prog_25_method_6_code 70 = .ok (.aload_n 0, 1) := by decide +kernel
theorem d24_71 : decode prog_25_method_6_code 71 = .ok (.getfield 13, 3) := by decide +kernel
theorem d24_74 : decode prog_25_method_6_code 74 = .ok (.aload_n 0, 1) := by decide +kernel
theorem d24_75 : decode prog_25_method_6_code 75 = .ok (.lload 5, 2) := by decide +kernel
theorem d24_77 : decode prog_25_method_6_code 77 = .ok (.invokevirtual 30, 3) := by decide +kernel
theorem d24_80 : decode prog_25_method_6_code 80 = .ok (.iload 4, 2) := by decide +kernel
theorem d24_82 : decode prog_25_method_6_code 82 = .ok (.iconst 1, 1) := by decide +kernel
theorem d24_83 : decode prog_25_method_6_code 83 = .ok (.iadd, 1) := by decide +kernel
theorem d24_84 : decode prog_25_method_6_code 84 = .ok (.iastore, 1) := by decide +kernel
theorem d24_85 : decode prog_25_method_6_code 85 = .ok (.aload_n 0, 1) := by decide +kernel
theorem d24_86 : decode prog_25_method_6_code 86 = .ok (.getfield 13, 3) := by decide +kernel
theorem d24_89 : decode prog_25_method_6_code 89 = .ok (.arraylength, 1) := by decide +kernel
theorem d24_90 : decode prog_25_method_6_code 90 = .ok (.iconst 4, 1) := by decide +kernel
theorem d24_91 : decode prog_25_method_6_code 91 = .ok (.if_icmp .le 47, 3) := by decide +kernel
theorem d24_94 : decode prog_25_method_6_code 94 = .ok (.aload_n 0, 1) := by decide +kernel
theorem d24_95 : decode prog_25_method_6_code 95 = .ok (.getfield 27, 3) := by decide +kernel
theorem d24_98 : decode prog_25_method_6_code 98 = .ok (.bipush 8, 2) := by decide +kernel
theorem d24_100 : decode prog_25_method_6_code 100 = .ok (.imul, 1) := by decide +kernel
theorem d24_101 : decode prog_25_method_6_code 101 = .ok (.aload_n 0, 1) := by decide +kernel
theorem d24_102 : decode prog_25_method_6_code 102 = .ok (.getfield 13, 3) := by decide +kernel
theorem d24_105 : decode prog_25_method_6_code 105 = .ok (.arraylength, 1) := by decide +kernel
theorem d24_106 : decode prog_25_method_6_code 106 = .ok (.if_icmp .ge 32, 3) := by decide +kernel
theorem d24_138 : decode prog_25_method_6_code 138 = .ok (.return_, 1) := by decide +kernel
theorem pn_24 : plainName "com/example/tristream/tristream/LongIndex" = true := by first | (simp [plainName, overriddenIn]; done) | decide +kernel
theorem ef_24 (m : MethodId) (x0 : Addr) (x1 : Int64) : entryFrame m #[(.ref x0), (.long x1)] 7 = mkF m 0 #[.val (.ref x0), .val (.long x1), .second, .unset, .unset, .unset, .unset] [] := by first | (simp [entryFrame, mkF, argsToLocals, Value.category]; done) | rfl
def Q_lirem (Z : State) (a kb sb : Addr) (S : Nat) (kk : Int64) (ks : List Int64) (h0 : Heap) (n0 : Nat) (r : Option Value) (h : Heap) (L : List Loc) : Prop := r = none ∧ Fr n0 L ∧ Keep h0 h [a, kb, sb] ∧ ∃ (kb' sb' : Addr) (z' sf' : Int32) (kn' : Nat) (kf' : Nat → Int64) (S' : Nat) (sl' : Nat → Int32) (ks' : List Int64), (kb' = kb ∨ h0.size ≤ kb') ∧ (sb' = sb ∨ h0.size ≤ sb') ∧ n0 ≤ kb' ∧ n0 ≤ sb' ∧ RemR ks kk ks' ∧ S' = S ∧ LI S' sf' z' sl' kf' kn' ks' ∧ Obj Z h a "com/example/tristream/tristream/LongIndex" sch_li [(.ref kb'), (.ref sb'), (.int sf'), (.int z')] ∧ FA Z h kb' .long kn' (fun i => .long (kf' i)) ∧ FA Z h sb' .int S' (fun i => .int (sl' i))
set_option maxRecDepth 65536 in
set_option maxHeartbeats 40000000 in
theorem rm_lirem (l : Launch) (Z : State) (a0 : Array Value) (hw : ∀ d ∈ tables_1, d.before a0 Z = true) (ws : List Jvm.Cond) (a : Addr) (kk : Int64) (kb : Addr) (sb : Addr) (z : Int32) (sf : Int32) (kn : Nat) (kf : Nat → Int64) (S : Nat) (sl : Nat → Int32) (ks : List Int64) (h0 : Heap) (n0 : Nat) (Z0 : n0 ≤ h0.size) (O0 : Obj Z h0 a "com/example/tristream/tristream/LongIndex" sch_li [(.ref kb), (.ref sb), (.int sf), (.int z)]) (F_kb : FA Z h0 kb .long kn (fun i => .long (kf i))) (F_sb : FA Z h0 sb .int S (fun i => .int (sl i))) (g_a : n0 ≤ a) (g_kb : n0 ≤ kb) (g_sb : n0 ≤ sb) (hLI : LI S sf z sl kf kn ks) (hsm : S = 4 ∨ 2 ≤ ks.length) :
    MetFree l mn10 (head1 (Jvm.Cond.code mn10 prog_25_method_6_code 7 none :: ws) ({ frames := 2, cells := 0, slots := 0, locals := 31 } : Room)) (fun a_ U => a_ = #[(.ref a), (.long kk)] ∧ Z.Warmed39 U.vm ∧ U.heap = h0) (fun _ _ _ _ _ => True) (fun _ U o U' => ∃ v_ L_, o = .returned v_ ∧ Q_lirem Z a kb sb S kk ks h0 n0 v_ U'.heap L_ ∧ FrameEnd U o U' L_ ({ frames := 2, cells := 0, slots := 0, locals := 31 } : Room).cells ({ frames := 2, cells := 0, slots := 0, locals := 31 } : Room).slots) := by
  refine MetFree.of_bodySF (plainFor_of_name pn_24) hisR ?_
  intro p e s m args below meth c s₁ Bd hml0 hP hK
  obtain ⟨rfl, hZ, hh⟩ := hP
  have hx := Bd.exec
  have hby := Bd.bytes
  have hlk : meth.locks = false := Bd.notSynchronized
  have hml : c.maxLocals = 7 := hml0
  have hown : s.vm.findClass "com/example/tristream/tristream/LongIndex" = some m.cls := findClass_of_methodNamed Bd.named
  have hnm := (name_of_methodNamed Bd.named Bd.method).1
  have X0 : Stand p l e ({ frames := 2, cells := 0, slots := 0, locals := 31 } : Room) s m #[(.ref a), (.long kk)] below meth c s₁ [] 0 0 := Stand.of_body Bd
  have e0 : s₁.heap = h0 := by rw [← hh, Bd.state]; rfl
  have N0 := Fr.nil n0
  have K0 : Keep h0 h0 [a, kb, sb] := Keep.refl _ _
  show OEnds p e below s (Q_lirem Z a kb sb S kk ks h0 n0) _ _ _
  refine own_by (fun t k => castTop (ef_24 m a kk) k) ?_
  show OEnds p e below s _ _ _ (s₁.setTop (mkF m 0 #[(vr a), (vj kk), sd, un, un, un, un] []))
  obtain ⟨hz, hz2, hkn, hSo⟩ := li_len hLI
  refine qaN 1 X0 hx hby d24_0 rfl rfl ?_
  refine qlN 2 X0 hx hby d24_1 rfl rfl ?_
  obtain ⟨v1, T1, L1, h1, X1, e1, hQ1, st1⟩ := own_callX X0 hx hZ (y := mn4) hown (tw76 hw) (tw77 hw) (tw78 hw) (tw79 hw) (tw16 hw) (tw15 hw) (by decide) O0.exa (rm_lifind l Z a0 hw [] a kk kb sb z sf kn kf S sl h0 n0 Z0 O0 F_kb F_sb hLI.fo) e0 (g := (mkF m 2 #[(vr a), (vj kk), sd, un, un, un, un] [(.long kk), (.ref a)])) rfl (by rw [hml]; rfl) (argsL := [(.long kk)]) (rest := []) (lenOf pd_pJrI rfl) rfl (W := 0) (by show 2 * 0 + _ ≤ _; exact Nat.le_of_eq rfl) (hb hby d24_2) (by decide) (by decide) (by decide) (by decide)
  obtain ⟨r1, rn1, rfl, rfl, hq1, hr1, hst1⟩ := hQ1
  rw [hq1] at e1
  have N1 := Fr.app N0 (Fr.nil n0)
  refine qtr 5 #[(vr a), (vj kk), sd, un, un, un, un] [(.int r1)] st1 ?_
  refine qsiN 6 #[(vr a), (vj kk), sd, (vi r1), un, un, un] X1 hx hby d24_5 rfl rfl ?_
  refine qaN 7 X1 hx hby d24_6 rfl rfl ?_
  refine qg 10 X1 hx hZ hown (tw25 hw) e1 (O0.fld 1 rfl rfl) hby d24_7 rfl fun T2 X2 e2 => ?_
  refine qiN 11 X2 hx hby d24_10 rfl rfl ?_
  refine qI 12 X2 hx hZ e2 F_sb rn1 hr1 hst1.lt (v := (.int (sl rn1))) rfl hby d24_11 rfl ?_
  by_cases hc12_3 : (sl rn1) = (0 : Int32)
  · refine q_ifn 15 X2 hx hby d24_12 rfl ((if0 _ _).trans (teq hc12_3).2) ?_
    exact own_retV X2 hx hlk Bd.returns (hb hby d24_15) (by rw [e2]; exact ⟨rfl, N1, K0, kb, sb, _, _, _, _, _, _, _, Or.inl rfl, Or.inl rfl, g_kb, g_sb, Or.inr ⟨add_new hLI hst1 hc12_3, rfl⟩, rfl, hLI, O0, F_kb, F_sb⟩) (by decide) (by decide)
  · refine q_ify 16 X2 hx hby d24_12 rfl ((if0 _ _).trans (feq hc12_3).2) ?_
    obtain ⟨hadd, i0, hi0, hki, hgi⟩ := add_found hLI hst1 hc12_3
    obtain ⟨nk, hnk⟩ : ∃ nk, ks.length = nk + 1 := ⟨ks.length - 1, by omega⟩
    have hix : ((sl rn1) - (1 : Int32)).toInt = (i0 : Int) := by rw [idx_of (hLI.2.2.2.2.2.2.1 _ hst1.lt) (by omega), hgi]; rfl
    have hzd : (z - (1 : Int32)).toInt = (nk : Int) := zdec (by rw [hz, hnk]) (by omega)
    refine qaN 17 X2 hx hby d24_16 rfl rfl ?_
    refine qg 20 X2 hx hZ hown (tw25 hw) e2 (O0.fld 1 rfl rfl) hby d24_17 rfl fun T4 X4 e4 => ?_
    refine qiN 21 X4 hx hby d24_20 rfl rfl ?_
    refine qI 22 X4 hx hZ e4 F_sb rn1 hr1 hst1.lt (v := (.int (sl rn1))) rfl hby d24_21 rfl ?_
    refine qc1 23 1 X4 hx hby d24_22 rfl rfl ?_
    refine q_isub 24 X4 hx hby d24_23 rfl ?_
    refine qsi 26 #[(vr a), (vj kk), sd, (vi r1), (vi ((sl rn1) - (1 : Int32))), un, un] X4 hx hby d24_24 rfl rfl ?_
    refine qaN 27 X4 hx hby d24_26 rfl rfl ?_
    refine qiN 28 X4 hx hby d24_27 rfl rfl ?_
    obtain ⟨v5, T5, L5, h5, X5, e5, hQ5, st5⟩ := own_callX X4 hx hZ (y := mn9) hown (tw136 hw) (tw137 hw) (tw138 hw) (tw139 hw) (tw16 hw) (tw15 hw) (by decide) O0.exa (rm_liclear l Z a0 hw [] a r1 kb sb z sf kn kf S sl i0 ks.length rn1 h0 n0 Z0 O0 F_kb F_sb g_sb hLI.fo hr1 hst1.lt hgi hLI.2.2.2.2.2.2.2) e4 (g := (mkF m 28 #[(vr a), (vj kk), sd, (vi r1), (vi ((sl rn1) - (1 : Int32))), un, un] [(.int r1), (.ref a)])) rfl (by rw [hml]; rfl) (argsL := [(.int r1)]) (rest := []) (lenOf pd_pIrV rfl) rfl (W := 0) (by show 2 * 0 + _ ≤ _; exact Nat.le_of_eq rfl) (hb hby d24_28) (by decide) (by decide) (by decide) (by decide)
    obtain ⟨rfl, Nq5, Kq5, sl5, hcl5, F5⟩ := hQ5
    have N5 := Fr.app N1 Nq5
    have K5 := K0.trans Kq5 (allS (wi 2 rfl) all0)
    have Z5 := Nat.le_trans Z0 Kq5.1
    refine qtr 31 #[(vr a), (vj kk), sd, (vi r1), (vi ((sl rn1) - (1 : Int32))), un, un] [] st5 ?_
    refine qaN 32 X5 hx hby d24_31 rfl rfl ?_
    refine q_dup 33 X5 hx hby d24_32 rfl rfl ?_
    have O7 := (O0.keep Kq5 (ninS (O0.ne_fa (tw15 hw) F_sb) nin0))
    refine qg 36 X5 hx hZ hown (tw85 hw) e5 (O7.fld 3 rfl rfl) hby d24_33 rfl fun T6 X6 e6 => ?_
    refine qc1 37 1 X6 hx hby d24_36 rfl rfl ?_
    refine q_isub 38 X6 hx hby d24_37 rfl ?_
    have F9 := (F_kb.keep Kq5 (ninS (F_kb.ne_ty F_sb (by decide)) nin0))
    obtain ⟨T8, h8, X8, e8, W8, st8⟩ := putF X6 hx hZ hown (host := "") (Or.inl (tw85 hw)) Via.refl e6 (O7.fld 3 rfl rfl) O7.exa (Or.inl (tw86 hw)) (tw15 hw) (ty := .int) (by decide) rfl rfl (g := (mkF m 38 #[(vr a), (vj kk), sd, (vi r1), (vi ((sl rn1) - (1 : Int32))), un, un] [(.int (z - (1 : Int32))), (.ref a)])) rfl rfl (hb hby d24_38)
    have O8 : Obj Z h8 a "com/example/tristream/tristream/LongIndex" sch_li [(.ref kb), (.ref sb), (.int sf), (.int (z - (1 : Int32)))] := O7.set (so_sch_li hw) W8 3 rfl (Nat.le_of_ble_eq_true rfl)
    have N8 := Fr.snoc X8 N5 g_a
    have Z8 := Nat.le_trans Z5 (Keep.of_wr W8).1
    have K8 := K5.wr W8 (wi 0 rfl)
    refine qat 41 #[(vr a), (vj kk), sd, (vi r1), (vi ((sl rn1) - (1 : Int32))), un, un] [] st8 ?_
    refine qi 43 X8 hx hby d24_41 rfl rfl ?_
    refine qaN 44 X8 hx hby d24_43 rfl rfl ?_
    refine qg 47 X8 hx hZ hown (tw85 hw) e8 (O8.fld 3 rfl rfl) hby d24_44 rfl fun T10 X10 e10 => ?_
    by_cases hc47_11 : ((sl rn1) - (1 : Int32)) < (z - (1 : Int32))
    · refine q_cmn 50 X10 hx hby d24_47 rfl (tlt hc47_11).2.1 ?_
      refine qaN 51 X10 hx hby d24_50 rfl rfl ?_
      refine qg 54 X10 hx hZ hown (tw22 hw) e10 (O8.fld 0 rfl rfl) hby d24_51 rfl fun T12 X12 e12 => ?_
      refine qaN 55 X12 hx hby d24_54 rfl rfl ?_
      refine qg 58 X12 hx hZ hown (tw85 hw) e12 (O8.fld 3 rfl rfl) hby d24_55 rfl fun T13 X13 e13 => ?_
      have F14 := (F9.other W8 (Ne.symm (O7.ne_fa (tw15 hw) F9)))
      refine qJ 59 X13 hx hZ e13 F14 nk hzd (by omega) (v := (.long (kf nk))) rfl hby d24_58 rfl ?_
      refine qsl 61 #[(vr a), (vj kk), sd, (vi r1), (vi ((sl rn1) - (1 : Int32))), (vj (kf nk)), sd] X13 hx hby d24_59 rfl rfl ?_
      refine qaN 62 X13 hx hby d24_61 rfl rfl ?_
      refine qg 65 X13 hx hZ hown (tw22 hw) e13 (O8.fld 0 rfl rfl) hby d24_62 rfl fun T15 X15 e15 => ?_
      refine qi 67 X15 hx hby d24_65 rfl rfl ?_
      refine ql 69 X15 hx hby d24_67 rfl rfl ?_
      have F17 := (F5.other W8 (Ne.symm (O7.ne_fa (tw15 hw) F5)))
      obtain ⟨T16, h16, X16, e16, W16, st16⟩ := own_lastore X15 hx hZ e15 F14 i0 hix (by omega) (g := (mkF m 69 #[(vr a), (vj kk), sd, (vi r1), (vi ((sl rn1) - (1 : Int32))), (vj (kf nk)), sd] [(.long (kf nk)), (.int ((sl rn1) - (1 : Int32))), (.ref kb)])) rfl rfl (hb hby d24_69)
      have F16 : FA Z h16 kb .long kn (fun i => .long ((updL kf i0 (kf nk)) i)) := F14.setL W16
      have N16 := Fr.snoc X16 N8 g_kb
      have Z16 := Nat.le_trans Z8 (Keep.of_wr W16).1
      have K16 := K8.wr W16 (wi 1 rfl)
      refine qat 70 #[(vr a), (vj kk), sd, (vi r1), (vi ((sl rn1) - (1 : Int32))), (vj (kf nk)), sd] [] st16 ?_
      refine qaN 71 X16 hx hby d24_70 rfl rfl ?_
      have O19 := (O8.other W16 (O8.ne_fa (tw15 hw) F14))
      refine qg 74 X16 hx hZ hown (tw25 hw) e16 (O19.fld 1 rfl rfl) hby d24_71 rfl fun T18 X18 e18 => ?_
      refine qaN 75 X18 hx hby d24_74 rfl rfl ?_
      refine ql 77 X18 hx hby d24_75 rfl rfl ?_
      have F21 := (F17.other W16 (F17.ne_ty F14 (by decide)))
      obtain ⟨v20, T20, L20, h20, X20, e20, hQ20, st20⟩ := own_callX X18 hx hZ (y := mn4) hown (tw76 hw) (tw77 hw) (tw78 hw) (tw79 hw) (tw16 hw) (tw15 hw) (by decide) O19.exa (rm_lifind l Z a0 hw [] a (kf nk) kb sb (z - (1 : Int32)) sf kn (updL kf i0 (kf nk)) S sl5 h16 n0 Z16 O19 F16 F21 (cl_fo (kf' := kf) hLI hcl5)) e18 (g := (mkF m 77 #[(vr a), (vj kk), sd, (vi r1), (vi ((sl rn1) - (1 : Int32))), (vj (kf nk)), sd] [(.long (kf nk)), (.ref a), (.ref sb)])) rfl (by rw [hml]; rfl) (argsL := [(.long (kf nk))]) (rest := [(.ref sb)]) (lenOf pd_pJrI rfl) rfl (W := 1) (by show 2 * 0 + _ ≤ _; exact Nat.le_of_eq rfl) (hb hby d24_77) (by decide) (by decide) (by decide) (by decide)
      obtain ⟨r20, rn20, rfl, rfl, hq20, hr20, hst20⟩ := hQ20
      rw [hq20] at e20
      have N20 := Fr.app N16 (Fr.nil n0)
      refine qtr 80 #[(vr a), (vj kk), sd, (vi r1), (vi ((sl rn1) - (1 : Int32))), (vj (kf nk)), sd] [(.int r20), (.ref sb)] st20 ?_
      refine qi 82 X20 hx hby d24_80 rfl rfl ?_
      refine qc1 83 1 X20 hx hby d24_82 rfl rfl ?_
      refine q_iadd 84 X20 hx hby d24_83 rfl ?_
      obtain ⟨T22, h22, X22, e22, W22, st22⟩ := own_iastore X20 hx hZ e20 F21 rn20 hr20 hst20.lt (g := (mkF m 84 #[(vr a), (vj kk), sd, (vi r1), (vi ((sl rn1) - (1 : Int32))), (vj (kf nk)), sd] [(.int (((sl rn1) - (1 : Int32)) + (1 : Int32))), (.int r20), (.ref sb)])) rfl rfl (hb hby d24_84)
      have F22 : FA Z h22 sb .int S (fun i => .int ((updI sl5 rn20 (((sl rn1) - (1 : Int32)) + (1 : Int32))) i)) := F21.setI W22
      have N22 := Fr.snoc X22 N20 g_sb
      have Z22 := Nat.le_trans Z16 (Keep.of_wr W22).1
      have K22 := K16.wr W22 (wi 2 rfl)
      refine qat 85 #[(vr a), (vj kk), sd, (vi r1), (vi ((sl rn1) - (1 : Int32))), (vj (kf nk)), sd] [] st22 ?_
      refine qaN 86 X22 hx hby d24_85 rfl rfl ?_
      have O24 := (O19.other W22 (O19.ne_fa (tw15 hw) F21))
      refine qg 89 X22 hx hZ hown (tw25 hw) e22 (O24.fld 1 rfl rfl) hby d24_86 rfl fun T23 X23 e23 => ?_
      refine qn 90 (Int32.ofNat S) X23 hx hZ e23 F22 rfl hby d24_89 rfl ?_
      refine qc1 91 4 X23 hx hby d24_90 rfl rfl ?_
      by_cases hc91_25 : (4 : Int32) < (Int32.ofNat S)
      · refine q_cmn 94 X23 hx hby d24_91 rfl (tlt hc91_25).2.2.2 ?_
        refine qaN 95 X23 hx hby d24_94 rfl rfl ?_
        refine qg 98 X23 hx hZ hown (tw85 hw) e23 (O24.fld 3 rfl rfl) hby d24_95 rfl fun T26 X26 e26 => ?_
        refine qc2 100 8 X26 hx hby d24_98 rfl rfl ?_
        refine q_imul 101 X26 hx hby d24_100 rfl ?_
        refine qaN 102 X26 hx hby d24_101 rfl rfl ?_
        refine qg 105 X26 hx hZ hown (tw25 hw) e26 (O24.fld 1 rfl rfl) hby d24_102 rfl fun T27 X27 e27 => ?_
        refine qn 106 (Int32.ofNat S) X27 hx hZ e27 F22 rfl hby d24_105 rfl ?_
        refine q_cmy 138 X27 hx hby d24_106 rfl (flt (no_shrink hzd (by have h8 := is_8 hSo hc91_25; rcases hsm with q | q <;> omega) (by omega) (is_8 hSo hc91_25))).2.1 ?_
        have F28 := (F16.other W22 (F16.ne_ty F21 (by decide)))
        exact own_retV X27 hx hlk Bd.returns (hb hby d24_138) (by rw [e27]; exact ⟨rfl, N22, K22, kb, sb, _, _, _, _, _, _, _, Or.inl rfl, Or.inl rfl, g_kb, g_sb, Or.inl ⟨i0, hi0, hki, rfl⟩, rfl, (li_remB hLI hnk (lt_toI hix hzd hc47_11) hcl5 hzd hst20 (zinc hix (by omega))), O24, F28, F22⟩) (by decide) (by decide)
      · refine q_cmy 138 X23 hx hby d24_91 rfl (flt hc91_25).2.2.2 ?_
        have F29 := (F16.other W22 (F16.ne_ty F21 (by decide)))
        exact own_retV X23 hx hlk Bd.returns (hb hby d24_138) (by rw [e23]; exact ⟨rfl, N22, K22, kb, sb, _, _, _, _, _, _, _, Or.inl rfl, Or.inl rfl, g_kb, g_sb, Or.inl ⟨i0, hi0, hki, rfl⟩, rfl, (li_remB hLI hnk (lt_toI hix hzd hc47_11) hcl5 hzd hst20 (zinc hix (by omega))), O24, F29, F22⟩) (by decide) (by decide)
    · refine q_cmy 85 X10 hx hby d24_47 rfl (flt hc47_11).2.1 ?_
      refine qaN 86 X10 hx hby d24_85 rfl rfl ?_
      refine qg 89 X10 hx hZ hown (tw25 hw) e10 (O8.fld 1 rfl rfl) hby d24_86 rfl fun T30 X30 e30 => ?_
      have F31 := (F5.other W8 (Ne.symm (O7.ne_fa (tw15 hw) F5)))
      refine qn 90 (Int32.ofNat S) X30 hx hZ e30 F31 rfl hby d24_89 rfl ?_
      refine qc1 91 4 X30 hx hby d24_90 rfl rfl ?_
      by_cases hc91_32 : (4 : Int32) < (Int32.ofNat S)
      · refine q_cmn 94 X30 hx hby d24_91 rfl (tlt hc91_32).2.2.2 ?_
        refine qaN 95 X30 hx hby d24_94 rfl rfl ?_
        refine qg 98 X30 hx hZ hown (tw85 hw) e30 (O8.fld 3 rfl rfl) hby d24_95 rfl fun T33 X33 e33 => ?_
        refine qc2 100 8 X33 hx hby d24_98 rfl rfl ?_
        refine q_imul 101 X33 hx hby d24_100 rfl ?_
        refine qaN 102 X33 hx hby d24_101 rfl rfl ?_
        refine qg 105 X33 hx hZ hown (tw25 hw) e33 (O8.fld 1 rfl rfl) hby d24_102 rfl fun T34 X34 e34 => ?_
        refine qn 106 (Int32.ofNat S) X34 hx hZ e34 F31 rfl hby d24_105 rfl ?_
        refine q_cmy 138 X34 hx hby d24_106 rfl (flt (no_shrink hzd (by have h8 := is_8 hSo hc91_32; rcases hsm with q | q <;> omega) (by omega) (is_8 hSo hc91_32))).2.1 ?_
        have F35 := (F9.other W8 (Ne.symm (O7.ne_fa (tw15 hw) F9)))
        exact own_retV X34 hx hlk Bd.returns (hb hby d24_138) (by rw [e34]; exact ⟨rfl, N8, K8, kb, sb, _, _, _, _, _, _, _, Or.inl rfl, Or.inl rfl, g_kb, g_sb, Or.inl ⟨i0, hi0, hki, rfl⟩, rfl, (li_remA hLI hnk (by have := ge_toI hix hzd hc47_11; omega) hcl5 hzd), O8, F35, F31⟩) (by decide) (by decide)
      · refine q_cmy 138 X30 hx hby d24_91 rfl (flt hc91_32).2.2.2 ?_
        have F36 := (F9.other W8 (Ne.symm (O7.ne_fa (tw15 hw) F9)))
        exact own_retV X30 hx hlk Bd.returns (hb hby d24_138) (by rw [e30]; exact ⟨rfl, N8, K8, kb, sb, _, _, _, _, _, _, _, Or.inl rfl, Or.inl rfl, g_kb, g_sb, Or.inl ⟨i0, hi0, hki, rfl⟩, rfl, (li_remA hLI hnk (by have := ge_toI hix hzd hc47_11; omega) hcl5 hzd), O8, F36, F31⟩) (by decide) (by decide)
theorem d18_0 : decode method_3_code 0 = .ok (.lload_n 0, 1) := by decide +kernel
theorem d18_1 : decode method_3_code 1 = .ok (.lload 4, 2) := by decide +kernel
theorem d18_3 : decode method_3_code 3 = .ok (.lcmp, 1) := by decide +kernel
theorem d18_4 : decode method_3_code 4 = .ok (.ifCond .ne 10, 3) := by decide +kernel
theorem d18_7 : decode method_3_code 7 = .ok (.lload_n 2, 1) := by decide +kernel
theorem d18_8 : decode method_3_code 8 = .ok (.lload 6, 2) := by decide +kernel
theorem d18_10 : decode method_3_code 10 = .ok (.lcmp, 1) := by decide +kernel
theorem d18_11 : decode method_3_code 11 = .ok (.ifCond .eq 17, 3) := by decide +kernel
theorem d18_14 : decode method_3_code 14 = .ok (.lload_n 0, 1) := by decide +kernel
theorem d18_15 : decode method_3_code 15 = .ok (.lload 6, 2) := by decide +kernel
theorem d18_17 : decode method_3_code 17 = .ok (.lcmp, 1) := by decide +kernel
theorem d18_18 : decode method_3_code 18 = .ok (.ifCond .ne 14, 3) := by decide +kernel
theorem d18_21 : decode method_3_code 21 = .ok (.lload_n 2, 1) := by decide +kernel
theorem d18_22 : decode method_3_code 22 = .ok (.lload 4, 2) := by decide +kernel
theorem d18_24 : decode method_3_code 24 = .ok (.lcmp, 1) := by decide +kernel
theorem d18_25 : decode method_3_code 25 = .ok (.ifCond .ne 7, 3) := by decide +kernel
theorem d18_28 : decode method_3_code 28 = .ok (.iconst 1, 1) := by decide +kernel
theorem d18_29 : decode method_3_code 29 = .ok (.goto 4, 3) := by decide +kernel
theorem d18_32 : decode method_3_code 32 = .ok (.iconst 0, 1) := by decide +kernel
theorem d18_33 : decode method_3_code 33 = .ok (.ireturn, 1) := by decide +kernel
theorem pn_18 : plainName "com/example/tristream/tristream/SampleGraphContainsPinLaw" = true := by first | (simp [plainName, overriddenIn]; done) | decide +kernel
theorem ef_18 (m : MethodId) (q0 : Int64) (q1 : Int64) (q2 : Int64) (q3 : Int64) : entryFrame m #[(.long q0), (.long q1), (.long q2), (.long q3)] 8 = mkF m 0 #[.val (.long q0), .second, .val (.long q1), .second, .val (.long q2), .second, .val (.long q3), .second] [] := by first | (simp [entryFrame, mkF, argsToLocals, Value.category]; done) | rfl
def gsame_33 (v33_s0 : Int32) : Int32 := (nar .boolean v33_s0)
def gsame_32  : Int32 := (gsame_33 (0 : Int32))
def gsame_28  : Int32 := (gsame_33 (1 : Int32))
def gsame_14 (q0 : Int64) (q1 : Int64) (q2 : Int64) (q3 : Int64) : Int32 := if q0 = q3 then if q1 = q2 then gsame_28 else gsame_32 else gsame_32
def gsame (q0 : Int64) (q1 : Int64) (q2 : Int64) (q3 : Int64) : Int32 := if q0 = q2 then if q1 = q3 then gsame_28 else (gsame_14 q0 q1 q2 q3) else (gsame_14 q0 q1 q2 q3)
set_option maxRecDepth 65536 in
set_option maxHeartbeats 40000000 in
theorem rm_gsame (l : Launch) (Z : State) (a0 : Array Value) (hw : ∀ d ∈ tables_1, d.before a0 Z = true) (ws : List Jvm.Cond) (q0 : Int64) (q1 : Int64) (q2 : Int64) (q3 : Int64) (h0 : Heap) :
    MetFree l mn11 (head1 (Jvm.Cond.code mn11 method_3_code 8 (some .boolean) :: ws) ({ frames := 0, cells := 0, slots := 0, locals := 0 } : Room)) (fun a U => a = #[(.long q0), (.long q1), (.long q2), (.long q3)] ∧ Z.Warmed39 U.vm ∧ U.heap = h0) (fun _ _ _ _ _ => True) (fun _ U o U' => ∃ v L, o = .returned v ∧ QP (Value.int (gsame q0 q1 q2 q3)) h0 v U'.heap L ∧ FrameEnd U o U' L 0 0) := by
  refine MetFree.of_bodySF (plainFor_of_name pn_18) hisR ?_
  intro p e s m args below meth c s₁ Bd hml0 hP hK
  obtain ⟨rfl, hZ, hh⟩ := hP
  have hx := Bd.exec
  have hby := Bd.bytes
  have hlk : meth.locks = false := Bd.notSynchronized
  have hml : c.maxLocals = 8 := hml0
  have hown : s.vm.findClass "com/example/tristream/tristream/SampleGraphContainsPinLaw" = some m.cls := findClass_of_methodNamed Bd.named
  have X0 : Stand p l e ({ frames := 0, cells := 0, slots := 0, locals := 0 } : Room) s m #[(.long q0), (.long q1), (.long q2), (.long q3)] below meth c s₁ [] 0 0 := Stand.of_body Bd
  have e0 : s₁.heap = h0 := by rw [← hh, Bd.state]; rfl
  have bgsame_33 : ∀ (T : State) (X : Stand p l e ({ frames := 0, cells := 0, slots := 0, locals := 0 } : Room) s m #[(.long q0), (.long q1), (.long q2), (.long q3)] below meth c T [] 0 0) (eT : T.heap = h0) (v33_s0 : Int32), OEnds p e below s (QP (Value.int (gsame_33 v33_s0)) h0) 0 0 (T.setTop (mkF m 33 #[(vj q0), sd, (vj q1), sd, (vj q2), sd, (vj q3), sd] [(.int v33_s0)])) := by
    intro T X eT v33_s0
    exact own_retN X hx hlk .boolean (by simp) Bd.returns (hb hby d18_33) ⟨congrArg (fun z => some (Value.int z)) (Eq.symm (by rw [gsame_33] <;> rfl)), rfl, eT⟩ (Nat.le_refl _) (Nat.le_refl _)
  have bgsame_32 : ∀ (T : State) (X : Stand p l e ({ frames := 0, cells := 0, slots := 0, locals := 0 } : Room) s m #[(.long q0), (.long q1), (.long q2), (.long q3)] below meth c T [] 0 0) (eT : T.heap = h0), OEnds p e below s (QP (Value.int (gsame_32)) h0) 0 0 (T.setTop (mkF m 32 #[(vj q0), sd, (vj q1), sd, (vj q2), sd, (vj q3), sd] [])) := by
    intro T X eT
    refine own_by (fun _ k => XS.iconst X.here hx rfl (hb hby d18_32) k) ?_
    show OEnds p e below s _ _ _ (T.setTop (mkF m 33 #[(vj q0), sd, (vj q1), sd, (vj q2), sd, (vj q3), sd] [(.int 0)]))
    exact own_eq (congrArg Value.int (by rw [gsame_32] <;> rfl)) (bgsame_33 T X eT (0 : Int32))
  have bgsame_28 : ∀ (T : State) (X : Stand p l e ({ frames := 0, cells := 0, slots := 0, locals := 0 } : Room) s m #[(.long q0), (.long q1), (.long q2), (.long q3)] below meth c T [] 0 0) (eT : T.heap = h0), OEnds p e below s (QP (Value.int (gsame_28)) h0) 0 0 (T.setTop (mkF m 28 #[(vj q0), sd, (vj q1), sd, (vj q2), sd, (vj q3), sd] [])) := by
    intro T X eT
    refine own_by (fun _ k => XS.iconst X.here hx rfl (hb hby d18_28) k) ?_
    show OEnds p e below s _ _ _ (T.setTop (mkF m 29 #[(vj q0), sd, (vj q1), sd, (vj q2), sd, (vj q3), sd] [(.int 1)]))
    refine own_by (fun _ k => XS.goto X.here hx rfl (pc0 := 29) (pc' := 33) rfl (hb hby d18_29) (by decide) (by decide) k) ?_
    show OEnds p e below s _ _ _ (T.setTop (mkF m 33 #[(vj q0), sd, (vj q1), sd, (vj q2), sd, (vj q3), sd] [(.int 1)]))
    exact own_eq (congrArg Value.int (by rw [gsame_28] <;> rfl)) (bgsame_33 T X eT (1 : Int32))
  have bgsame_14 : ∀ (T : State) (X : Stand p l e ({ frames := 0, cells := 0, slots := 0, locals := 0 } : Room) s m #[(.long q0), (.long q1), (.long q2), (.long q3)] below meth c T [] 0 0) (eT : T.heap = h0), OEnds p e below s (QP (Value.int (gsame_14 q0 q1 q2 q3)) h0) 0 0 (T.setTop (mkF m 14 #[(vj q0), sd, (vj q1), sd, (vj q2), sd, (vj q3), sd] [])) := by
    intro T X eT
    refine own_by (fun _ k => XS.lloadN X.here hx rfl (hb hby d18_14) rfl k) ?_
    show OEnds p e below s _ _ _ (T.setTop (mkF m 15 #[(vj q0), sd, (vj q1), sd, (vj q2), sd, (vj q3), sd] [(.long q0)]))
    refine own_by (fun _ k => XS.lload X.here hx rfl (hb hby d18_15) rfl k) ?_
    show OEnds p e below s _ _ _ (T.setTop (mkF m 17 #[(vj q0), sd, (vj q1), sd, (vj q2), sd, (vj q3), sd] [(.long q3), (.long q0)]))
    refine own_by (fun _ k => XS.lcmp X.here hx rfl (hb hby d18_17) rfl k) ?_
    show OEnds p e below s _ _ _ (T.setTop (mkF m 18 #[(vj q0), sd, (vj q1), sd, (vj q2), sd, (vj q3), sd] [(.int (lcmpW q0 q3))]))
    by_cases hc18 : q0 = q3
    · refine own_by (fun _ k => XS.ifNo X.here hx rfl (hb hby d18_18) rfl ((if0 _ _).trans (teq ((lw_eq _ _).mpr hc18)).2) k) ?_
      show OEnds p e below s _ _ _ (T.setTop (mkF m 21 #[(vj q0), sd, (vj q1), sd, (vj q2), sd, (vj q3), sd] []))
      refine own_by (fun _ k => XS.lloadN X.here hx rfl (hb hby d18_21) rfl k) ?_
      show OEnds p e below s _ _ _ (T.setTop (mkF m 22 #[(vj q0), sd, (vj q1), sd, (vj q2), sd, (vj q3), sd] [(.long q1)]))
      refine own_by (fun _ k => XS.lload X.here hx rfl (hb hby d18_22) rfl k) ?_
      show OEnds p e below s _ _ _ (T.setTop (mkF m 24 #[(vj q0), sd, (vj q1), sd, (vj q2), sd, (vj q3), sd] [(.long q2), (.long q1)]))
      refine own_by (fun _ k => XS.lcmp X.here hx rfl (hb hby d18_24) rfl k) ?_
      show OEnds p e below s _ _ _ (T.setTop (mkF m 25 #[(vj q0), sd, (vj q1), sd, (vj q2), sd, (vj q3), sd] [(.int (lcmpW q1 q2))]))
      by_cases hc25 : q1 = q2
      · refine own_by (fun _ k => XS.ifNo X.here hx rfl (hb hby d18_25) rfl ((if0 _ _).trans (teq ((lw_eq _ _).mpr hc25)).2) k) ?_
        show OEnds p e below s _ _ _ (T.setTop (mkF m 28 #[(vj q0), sd, (vj q1), sd, (vj q2), sd, (vj q3), sd] []))
        exact own_eq (congrArg Value.int (by rw [gsame_14, if_pos hc18, if_pos hc25] <;> rfl)) (bgsame_28 T X eT)
      · refine own_by (fun _ k => XS.ifYes X.here hx rfl (pc0 := 25) (pc' := 32) rfl (hb hby d18_25) rfl ((if0 _ _).trans (feq (fun q => hc25 ((lw_eq _ _).mp q))).2) (by decide) (by decide) k) ?_
        show OEnds p e below s _ _ _ (T.setTop (mkF m 32 #[(vj q0), sd, (vj q1), sd, (vj q2), sd, (vj q3), sd] []))
        exact own_eq (congrArg Value.int (by rw [gsame_14, if_pos hc18, if_neg hc25] <;> rfl)) (bgsame_32 T X eT)
    · refine own_by (fun _ k => XS.ifYes X.here hx rfl (pc0 := 18) (pc' := 32) rfl (hb hby d18_18) rfl ((if0 _ _).trans (feq (fun q => hc18 ((lw_eq _ _).mp q))).2) (by decide) (by decide) k) ?_
      show OEnds p e below s _ _ _ (T.setTop (mkF m 32 #[(vj q0), sd, (vj q1), sd, (vj q2), sd, (vj q3), sd] []))
      exact own_eq (congrArg Value.int (by rw [gsame_14, if_neg hc18] <;> rfl)) (bgsame_32 T X eT)
  show OEnds p e below s _ _ _ _
  refine own_by (fun t k => castTop (ef_18 m q0 q1 q2 q3) k) ?_
  show OEnds p e below s _ _ _ (s₁.setTop (mkF m 0 #[(vj q0), sd, (vj q1), sd, (vj q2), sd, (vj q3), sd] []))
  refine own_by (fun _ k => XS.lloadN X0.here hx rfl (hb hby d18_0) rfl k) ?_
  show OEnds p e below s _ _ _ (s₁.setTop (mkF m 1 #[(vj q0), sd, (vj q1), sd, (vj q2), sd, (vj q3), sd] [(.long q0)]))
  refine own_by (fun _ k => XS.lload X0.here hx rfl (hb hby d18_1) rfl k) ?_
  show OEnds p e below s _ _ _ (s₁.setTop (mkF m 3 #[(vj q0), sd, (vj q1), sd, (vj q2), sd, (vj q3), sd] [(.long q2), (.long q0)]))
  refine own_by (fun _ k => XS.lcmp X0.here hx rfl (hb hby d18_3) rfl k) ?_
  show OEnds p e below s _ _ _ (s₁.setTop (mkF m 4 #[(vj q0), sd, (vj q1), sd, (vj q2), sd, (vj q3), sd] [(.int (lcmpW q0 q2))]))
  by_cases hc4 : q0 = q2
  · refine own_by (fun _ k => XS.ifNo X0.here hx rfl (hb hby d18_4) rfl ((if0 _ _).trans (teq ((lw_eq _ _).mpr hc4)).2) k) ?_
    show OEnds p e below s _ _ _ (s₁.setTop (mkF m 7 #[(vj q0), sd, (vj q1), sd, (vj q2), sd, (vj q3), sd] []))
    refine own_by (fun _ k => XS.lloadN X0.here hx rfl (hb hby d18_7) rfl k) ?_
    show OEnds p e below s _ _ _ (s₁.setTop (mkF m 8 #[(vj q0), sd, (vj q1), sd, (vj q2), sd, (vj q3), sd] [(.long q1)]))
    refine own_by (fun _ k => XS.lload X0.here hx rfl (hb hby d18_8) rfl k) ?_
    show OEnds p e below s _ _ _ (s₁.setTop (mkF m 10 #[(vj q0), sd, (vj q1), sd, (vj q2), sd, (vj q3), sd] [(.long q3), (.long q1)]))
    refine own_by (fun _ k => XS.lcmp X0.here hx rfl (hb hby d18_10) rfl k) ?_
    show OEnds p e below s _ _ _ (s₁.setTop (mkF m 11 #[(vj q0), sd, (vj q1), sd, (vj q2), sd, (vj q3), sd] [(.int (lcmpW q1 q3))]))
    by_cases hc11 : q1 = q3
    · refine own_by (fun _ k => XS.ifYes X0.here hx rfl (pc0 := 11) (pc' := 28) rfl (hb hby d18_11) rfl ((if0 _ _).trans (teq ((lw_eq _ _).mpr hc11)).1) (by decide) (by decide) k) ?_
      show OEnds p e below s _ _ _ (s₁.setTop (mkF m 28 #[(vj q0), sd, (vj q1), sd, (vj q2), sd, (vj q3), sd] []))
      exact own_eq (congrArg Value.int (by rw [gsame, if_pos hc4, if_pos hc11] <;> rfl)) (bgsame_28 s₁ X0 e0)
    · refine own_by (fun _ k => XS.ifNo X0.here hx rfl (hb hby d18_11) rfl ((if0 _ _).trans (feq (fun q => hc11 ((lw_eq _ _).mp q))).1) k) ?_
      show OEnds p e below s _ _ _ (s₁.setTop (mkF m 14 #[(vj q0), sd, (vj q1), sd, (vj q2), sd, (vj q3), sd] []))
      exact own_eq (congrArg Value.int (by rw [gsame, if_pos hc4, if_neg hc11] <;> rfl)) (bgsame_14 s₁ X0 e0)
  · refine own_by (fun _ k => XS.ifYes X0.here hx rfl (pc0 := 4) (pc' := 14) rfl (hb hby d18_4) rfl ((if0 _ _).trans (feq (fun q => hc4 ((lw_eq _ _).mp q))).2) (by decide) (by decide) k) ?_
    show OEnds p e below s _ _ _ (s₁.setTop (mkF m 14 #[(vj q0), sd, (vj q1), sd, (vj q2), sd, (vj q3), sd] []))
    exact own_eq (congrArg Value.int (by rw [gsame, if_neg hc4] <;> rfl)) (bgsame_14 s₁ X0 e0)
theorem d1_0 : decode method_2_code 0 = .ok (.iload_n 0, 1) := by decide +kernel
theorem d1_1 : decode method_2_code 1 = .ok (.ifCond .ne 5, 3) := by decide +kernel
theorem d1_4 : decode method_2_code 4 = .ok (.lload_n 1, 1) := by decide +kernel
theorem d1_5 : decode method_2_code 5 = .ok (.lreturn, 1) := by decide +kernel
theorem d1_6 : decode method_2_code 6 = .ok (.iload_n 0, 1) := by decide +kernel
theorem d1_7 : decode method_2_code 7 = .ok (.iconst 1, 1) := by decide +kernel
theorem d1_8 : decode method_2_code 8 = .ok (.if_icmp .ne 5, 3) := by decide +kernel
theorem d1_11 : decode method_2_code 11 = .ok (.lload_n 3, 1) := by decide +kernel
theorem d1_12 : decode method_2_code 12 = .ok (.lreturn, 1) := by decide +kernel
theorem d1_13 : decode method_2_code 13 = .ok (.iload_n 0, 1) := by decide +kernel
theorem d1_14 : decode method_2_code 14 = .ok (.iconst 2, 1) := by decide +kernel
theorem d1_15 : decode method_2_code 15 = .ok (.if_icmp .ne 6, 3) := by decide +kernel
theorem d1_18 : decode method_2_code 18 = .ok (.lload 5, 2) := by decide +kernel
theorem d1_20 : decode method_2_code 20 = .ok (.lreturn, 1) := by decide +kernel
theorem d1_21 : decode method_2_code 21 = .ok (.lload 7, 2) := by decide +kernel
theorem d1_23 : decode method_2_code 23 = .ok (.lreturn, 1) := by decide +kernel
theorem pn_1 : plainName "com/example/tristream/tristream/SampleGraphContainsPinLaw" = true := by first | (simp [plainName, overriddenIn]; done) | decide +kernel
theorem ef_1 (m : MethodId) (q0 : Int32) (q1 : Int64) (q2 : Int64) (q3 : Int64) (q4 : Int64) : entryFrame m #[(.int q0), (.long q1), (.long q2), (.long q3), (.long q4)] 9 = mkF m 0 #[.val (.int q0), .val (.long q1), .second, .val (.long q2), .second, .val (.long q3), .second, .val (.long q4), .second] [] := by first | (simp [entryFrame, mkF, argsToLocals, Value.category]; done) | rfl
def gpick (q0 : Int32) (q1 : Int64) (q2 : Int64) (q3 : Int64) (q4 : Int64) : Int64 := if q0 = (0 : Int32) then q1 else if q0 = (1 : Int32) then q2 else if q0 = (2 : Int32) then q3 else q4
set_option maxRecDepth 65536 in
set_option maxHeartbeats 40000000 in
theorem rm_gpick (l : Launch) (Z : State) (a0 : Array Value) (hw : ∀ d ∈ tables_1, d.before a0 Z = true) (ws : List Jvm.Cond) (q0 : Int32) (q1 : Int64) (q2 : Int64) (q3 : Int64) (q4 : Int64) (h0 : Heap) :
    MetFree l mn12 (head1 (Jvm.Cond.code mn12 method_2_code 9 (some .long) :: ws) ({ frames := 0, cells := 0, slots := 0, locals := 0 } : Room)) (fun a U => a = #[(.int q0), (.long q1), (.long q2), (.long q3), (.long q4)] ∧ Z.Warmed39 U.vm ∧ U.heap = h0) (fun _ _ _ _ _ => True) (fun _ U o U' => ∃ v L, o = .returned v ∧ QP (Value.long (gpick q0 q1 q2 q3 q4)) h0 v U'.heap L ∧ FrameEnd U o U' L 0 0) := by
  refine MetFree.of_bodySF (plainFor_of_name pn_1) hisR ?_
  intro p e s m args below meth c s₁ Bd hml0 hP hK
  obtain ⟨rfl, hZ, hh⟩ := hP
  have hx := Bd.exec
  have hby := Bd.bytes
  have hlk : meth.locks = false := Bd.notSynchronized
  have hml : c.maxLocals = 9 := hml0
  have hown : s.vm.findClass "com/example/tristream/tristream/SampleGraphContainsPinLaw" = some m.cls := findClass_of_methodNamed Bd.named
  have X0 : Stand p l e ({ frames := 0, cells := 0, slots := 0, locals := 0 } : Room) s m #[(.int q0), (.long q1), (.long q2), (.long q3), (.long q4)] below meth c s₁ [] 0 0 := Stand.of_body Bd
  have e0 : s₁.heap = h0 := by rw [← hh, Bd.state]; rfl
  show OEnds p e below s _ _ _ _
  refine own_by (fun t k => castTop (ef_1 m q0 q1 q2 q3 q4) k) ?_
  show OEnds p e below s _ _ _ (s₁.setTop (mkF m 0 #[(vi q0), (vj q1), sd, (vj q2), sd, (vj q3), sd, (vj q4), sd] []))
  refine own_by (fun _ k => XS.iloadN X0.here hx rfl (hb hby d1_0) rfl k) ?_
  show OEnds p e below s _ _ _ (s₁.setTop (mkF m 1 #[(vi q0), (vj q1), sd, (vj q2), sd, (vj q3), sd, (vj q4), sd] [(.int q0)]))
  by_cases hc1 : q0 = (0 : Int32)
  · refine own_by (fun _ k => XS.ifNo X0.here hx rfl (hb hby d1_1) rfl ((if0 _ _).trans (teq hc1).2) k) ?_
    show OEnds p e below s _ _ _ (s₁.setTop (mkF m 4 #[(vi q0), (vj q1), sd, (vj q2), sd, (vj q3), sd, (vj q4), sd] []))
    refine own_by (fun _ k => XS.lloadN X0.here hx rfl (hb hby d1_4) rfl k) ?_
    show OEnds p e below s _ _ _ (s₁.setTop (mkF m 5 #[(vi q0), (vj q1), sd, (vj q2), sd, (vj q3), sd, (vj q4), sd] [(.long q1)]))
    exact own_retJ X0 hx hlk Bd.returns (hb hby d1_5) ⟨congrArg (fun z => some (Value.long z)) (Eq.symm (by rw [gpick, if_pos hc1] <;> rfl)), rfl, e0⟩ (Nat.le_refl _) (Nat.le_refl _)
  · refine own_by (fun _ k => XS.ifYes X0.here hx rfl (pc0 := 1) (pc' := 6) rfl (hb hby d1_1) rfl ((if0 _ _).trans (feq hc1).2) (by decide) (by decide) k) ?_
    show OEnds p e below s _ _ _ (s₁.setTop (mkF m 6 #[(vi q0), (vj q1), sd, (vj q2), sd, (vj q3), sd, (vj q4), sd] []))
    refine own_by (fun _ k => XS.iloadN X0.here hx rfl (hb hby d1_6) rfl k) ?_
    show OEnds p e below s _ _ _ (s₁.setTop (mkF m 7 #[(vi q0), (vj q1), sd, (vj q2), sd, (vj q3), sd, (vj q4), sd] [(.int q0)]))
    refine own_by (fun _ k => XS.iconst X0.here hx rfl (hb hby d1_7) k) ?_
    show OEnds p e below s _ _ _ (s₁.setTop (mkF m 8 #[(vi q0), (vj q1), sd, (vj q2), sd, (vj q3), sd, (vj q4), sd] [(.int 1), (.int q0)]))
    by_cases hc8 : q0 = (1 : Int32)
    · refine own_by (fun _ k => XS.icmpNo X0.here hx rfl (hb hby d1_8) rfl (teq hc8).2 k) ?_
      show OEnds p e below s _ _ _ (s₁.setTop (mkF m 11 #[(vi q0), (vj q1), sd, (vj q2), sd, (vj q3), sd, (vj q4), sd] []))
      refine own_by (fun _ k => XS.lloadN X0.here hx rfl (hb hby d1_11) rfl k) ?_
      show OEnds p e below s _ _ _ (s₁.setTop (mkF m 12 #[(vi q0), (vj q1), sd, (vj q2), sd, (vj q3), sd, (vj q4), sd] [(.long q2)]))
      exact own_retJ X0 hx hlk Bd.returns (hb hby d1_12) ⟨congrArg (fun z => some (Value.long z)) (Eq.symm (by rw [gpick, if_neg hc1, if_pos hc8] <;> rfl)), rfl, e0⟩ (Nat.le_refl _) (Nat.le_refl _)
    · refine own_by (fun _ k => XS.icmpYes X0.here hx rfl (pc0 := 8) (pc' := 13) rfl (hb hby d1_8) rfl (feq hc8).2 (by decide) (by decide) k) ?_
      show OEnds p e below s _ _ _ (s₁.setTop (mkF m 13 #[(vi q0), (vj q1), sd, (vj q2), sd, (vj q3), sd, (vj q4), sd] []))
      refine own_by (fun _ k => XS.iloadN X0.here hx rfl (hb hby d1_13) rfl k) ?_
      show OEnds p e below s _ _ _ (s₁.setTop (mkF m 14 #[(vi q0), (vj q1), sd, (vj q2), sd, (vj q3), sd, (vj q4), sd] [(.int q0)]))
      refine own_by (fun _ k => XS.iconst X0.here hx rfl (hb hby d1_14) k) ?_
      show OEnds p e below s _ _ _ (s₁.setTop (mkF m 15 #[(vi q0), (vj q1), sd, (vj q2), sd, (vj q3), sd, (vj q4), sd] [(.int 2), (.int q0)]))
      by_cases hc15 : q0 = (2 : Int32)
      · refine own_by (fun _ k => XS.icmpNo X0.here hx rfl (hb hby d1_15) rfl (teq hc15).2 k) ?_
        show OEnds p e below s _ _ _ (s₁.setTop (mkF m 18 #[(vi q0), (vj q1), sd, (vj q2), sd, (vj q3), sd, (vj q4), sd] []))
        refine own_by (fun _ k => XS.lload X0.here hx rfl (hb hby d1_18) rfl k) ?_
        show OEnds p e below s _ _ _ (s₁.setTop (mkF m 20 #[(vi q0), (vj q1), sd, (vj q2), sd, (vj q3), sd, (vj q4), sd] [(.long q3)]))
        exact own_retJ X0 hx hlk Bd.returns (hb hby d1_20) ⟨congrArg (fun z => some (Value.long z)) (Eq.symm (by rw [gpick, if_neg hc1, if_neg hc8, if_pos hc15] <;> rfl)), rfl, e0⟩ (Nat.le_refl _) (Nat.le_refl _)
      · refine own_by (fun _ k => XS.icmpYes X0.here hx rfl (pc0 := 15) (pc' := 21) rfl (hb hby d1_15) rfl (feq hc15).2 (by decide) (by decide) k) ?_
        show OEnds p e below s _ _ _ (s₁.setTop (mkF m 21 #[(vi q0), (vj q1), sd, (vj q2), sd, (vj q3), sd, (vj q4), sd] []))
        refine own_by (fun _ k => XS.lload X0.here hx rfl (hb hby d1_21) rfl k) ?_
        show OEnds p e below s _ _ _ (s₁.setTop (mkF m 23 #[(vi q0), (vj q1), sd, (vj q2), sd, (vj q3), sd, (vj q4), sd] [(.long q4)]))
        exact own_retJ X0 hx hlk Bd.returns (hb hby d1_23) ⟨congrArg (fun z => some (Value.long z)) (Eq.symm (by rw [gpick, if_neg hc1, if_neg hc8, if_neg hc15] <;> rfl)), rfl, e0⟩ (Nat.le_refl _) (Nat.le_refl _)
theorem d7_0 : decode jdk_29_method_70_code 0 = .ok (.lload_n 0, 1) := by decide +kernel
theorem d7_1 : decode jdk_29_method_70_code 1 = .ok (.lload_n 2, 1) := by decide +kernel
theorem d7_2 : decode jdk_29_method_70_code 2 = .ok (.lcmp, 1) := by decide +kernel
theorem d7_3 : decode jdk_29_method_70_code 3 = .ok (.ifCond .gt 7, 3) := by decide +kernel
theorem d7_6 : decode jdk_29_method_70_code 6 = .ok (.lload_n 0, 1) := by decide +kernel
theorem d7_7 : decode jdk_29_method_70_code 7 = .ok (.goto 4, 3) := by decide +kernel
theorem d7_10 : decode jdk_29_method_70_code 10 = .ok (.lload_n 2, 1) := by decide +kernel
theorem d7_11 : decode jdk_29_method_70_code 11 = .ok (.lreturn, 1) := by decide +kernel
theorem ef_7 (m : MethodId) (q0 : Int64) (q1 : Int64) : entryFrame m #[(.long q0), (.long q1)] 4 = mkF m 0 #[.val (.long q0), .second, .val (.long q1), .second] [] := by first | (simp [entryFrame, mkF, argsToLocals, Value.category]; done) | rfl
def jminl_11 (v11_s0 : Int64) : Int64 := v11_s0
def jminl (q0 : Int64) (q1 : Int64) : Int64 := if q1 < q0 then (jminl_11 q1) else (jminl_11 q0)
set_option maxRecDepth 65536 in
set_option maxHeartbeats 40000000 in
theorem rm_jminl (l : Launch) (Z : State) (a0 : Array Value) (hw : ∀ d ∈ tables_1, d.before a0 Z = true) (ws : List Jvm.Cond) (q0 : Int64) (q1 : Int64) (h0 : Heap) :
    MetFree l mn13 (head1 (Jvm.Cond.code mn13 jdk_29_method_70_code 4 (some .long) :: ws) ({ frames := 0, cells := 0, slots := 0, locals := 0 } : Room)) (fun a U => a = #[(.long q0), (.long q1)] ∧ Z.Warmed39 U.vm ∧ U.heap = h0) (fun _ _ _ _ _ => True) (fun _ U o U' => ∃ v L, o = .returned v ∧ QP (Value.long (jminl q0 q1)) h0 v U'.heap L ∧ FrameEnd U o U' L 0 0) := by
  refine MetFree.of_bodySF (Jvm.Free.JP.mathPlain rfl (by decide +kernel)) hisR ?_
  intro p e s m args below meth c s₁ Bd hml0 hP hK
  obtain ⟨rfl, hZ, hh⟩ := hP
  have hx := Bd.exec
  have hby := Bd.bytes
  have hlk : meth.locks = false := Bd.notSynchronized
  have hml : c.maxLocals = 4 := hml0
  have hown : s.vm.findClass "java/lang/Math" = some m.cls := findClass_of_methodNamed Bd.named
  have X0 : Stand p l e ({ frames := 0, cells := 0, slots := 0, locals := 0 } : Room) s m #[(.long q0), (.long q1)] below meth c s₁ [] 0 0 := Stand.of_body Bd
  have e0 : s₁.heap = h0 := by rw [← hh, Bd.state]; rfl
  have bjminl_11 : ∀ (T : State) (X : Stand p l e ({ frames := 0, cells := 0, slots := 0, locals := 0 } : Room) s m #[(.long q0), (.long q1)] below meth c T [] 0 0) (eT : T.heap = h0) (v11_s0 : Int64), OEnds p e below s (QP (Value.long (jminl_11 v11_s0)) h0) 0 0 (T.setTop (mkF m 11 #[(vj q0), sd, (vj q1), sd] [(.long v11_s0)])) := by
    intro T X eT v11_s0
    exact own_retJ X hx hlk Bd.returns (hb hby d7_11) ⟨congrArg (fun z => some (Value.long z)) (Eq.symm (by rw [jminl_11] <;> rfl)), rfl, eT⟩ (Nat.le_refl _) (Nat.le_refl _)
  show OEnds p e below s _ _ _ _
  refine own_by (fun t k => castTop (ef_7 m q0 q1) k) ?_
  show OEnds p e below s _ _ _ (s₁.setTop (mkF m 0 #[(vj q0), sd, (vj q1), sd] []))
  refine own_by (fun _ k => XS.lloadN X0.here hx rfl (hb hby d7_0) rfl k) ?_
  show OEnds p e below s _ _ _ (s₁.setTop (mkF m 1 #[(vj q0), sd, (vj q1), sd] [(.long q0)]))
  refine own_by (fun _ k => XS.lloadN X0.here hx rfl (hb hby d7_1) rfl k) ?_
  show OEnds p e below s _ _ _ (s₁.setTop (mkF m 2 #[(vj q0), sd, (vj q1), sd] [(.long q1), (.long q0)]))
  refine own_by (fun _ k => XS.lcmp X0.here hx rfl (hb hby d7_2) rfl k) ?_
  show OEnds p e below s _ _ _ (s₁.setTop (mkF m 3 #[(vj q0), sd, (vj q1), sd] [(.int (lcmpW q0 q1))]))
  by_cases hc3 : q1 < q0
  · refine own_by (fun _ k => XS.ifYes X0.here hx rfl (pc0 := 3) (pc' := 10) rfl (hb hby d7_3) rfl ((if0 _ _).trans (tlt ((lw_gt _ _).mpr hc3)).2.2.1) (by decide) (by decide) k) ?_
    show OEnds p e below s _ _ _ (s₁.setTop (mkF m 10 #[(vj q0), sd, (vj q1), sd] []))
    refine own_by (fun _ k => XS.lloadN X0.here hx rfl (hb hby d7_10) rfl k) ?_
    show OEnds p e below s _ _ _ (s₁.setTop (mkF m 11 #[(vj q0), sd, (vj q1), sd] [(.long q1)]))
    exact own_eq (congrArg Value.long (by rw [jminl, if_pos hc3] <;> rfl)) (bjminl_11 s₁ X0 e0 q1)
  · refine own_by (fun _ k => XS.ifNo X0.here hx rfl (hb hby d7_3) rfl ((if0 _ _).trans (flt (fun q => hc3 ((lw_gt _ _).mp q))).2.2.1) k) ?_
    show OEnds p e below s _ _ _ (s₁.setTop (mkF m 6 #[(vj q0), sd, (vj q1), sd] []))
    refine own_by (fun _ k => XS.lloadN X0.here hx rfl (hb hby d7_6) rfl k) ?_
    show OEnds p e below s _ _ _ (s₁.setTop (mkF m 7 #[(vj q0), sd, (vj q1), sd] [(.long q0)]))
    refine own_by (fun _ k => XS.goto X0.here hx rfl (pc0 := 7) (pc' := 11) rfl (hb hby d7_7) (by decide) (by decide) k) ?_
    show OEnds p e below s _ _ _ (s₁.setTop (mkF m 11 #[(vj q0), sd, (vj q1), sd] [(.long q0)]))
    exact own_eq (congrArg Value.long (by rw [jminl, if_neg hc3] <;> rfl)) (bjminl_11 s₁ X0 e0 q0)
theorem d8_0 : decode jdk_29_method_66_code 0 = .ok (.lload_n 0, 1) := by decide +kernel
theorem d8_1 : decode jdk_29_method_66_code 1 = .ok (.lload_n 2, 1) := by decide +kernel
theorem d8_2 : decode jdk_29_method_66_code 2 = .ok (.lcmp, 1) := by decide +kernel
theorem d8_3 : decode jdk_29_method_66_code 3 = .ok (.ifCond .lt 7, 3) := by decide +kernel
theorem d8_6 : decode jdk_29_method_66_code 6 = .ok (.lload_n 0, 1) := by decide +kernel
theorem d8_7 : decode jdk_29_method_66_code 7 = .ok (.goto 4, 3) := by decide +kernel
theorem d8_10 : decode jdk_29_method_66_code 10 = .ok (.lload_n 2, 1) := by decide +kernel
theorem d8_11 : decode jdk_29_method_66_code 11 = .ok (.lreturn, 1) := by decide +kernel
theorem ef_8 (m : MethodId) (q0 : Int64) (q1 : Int64) : entryFrame m #[(.long q0), (.long q1)] 4 = mkF m 0 #[.val (.long q0), .second, .val (.long q1), .second] [] := by first | (simp [entryFrame, mkF, argsToLocals, Value.category]; done) | rfl
def jmaxl_11 (v11_s0 : Int64) : Int64 := v11_s0
def jmaxl (q0 : Int64) (q1 : Int64) : Int64 := if q0 < q1 then (jmaxl_11 q1) else (jmaxl_11 q0)
set_option maxRecDepth 65536 in
set_option maxHeartbeats 40000000 in
theorem rm_jmaxl (l : Launch) (Z : State) (a0 : Array Value) (hw : ∀ d ∈ tables_1, d.before a0 Z = true) (ws : List Jvm.Cond) (q0 : Int64) (q1 : Int64) (h0 : Heap) :
    MetFree l mn14 (head1 (Jvm.Cond.code mn14 jdk_29_method_66_code 4 (some .long) :: ws) ({ frames := 0, cells := 0, slots := 0, locals := 0 } : Room)) (fun a U => a = #[(.long q0), (.long q1)] ∧ Z.Warmed39 U.vm ∧ U.heap = h0) (fun _ _ _ _ _ => True) (fun _ U o U' => ∃ v L, o = .returned v ∧ QP (Value.long (jmaxl q0 q1)) h0 v U'.heap L ∧ FrameEnd U o U' L 0 0) := by
  refine MetFree.of_bodySF (Jvm.Free.JP.mathPlain rfl (by decide +kernel)) hisR ?_
  intro p e s m args below meth c s₁ Bd hml0 hP hK
  obtain ⟨rfl, hZ, hh⟩ := hP
  have hx := Bd.exec
  have hby := Bd.bytes
  have hlk : meth.locks = false := Bd.notSynchronized
  have hml : c.maxLocals = 4 := hml0
  have hown : s.vm.findClass "java/lang/Math" = some m.cls := findClass_of_methodNamed Bd.named
  have X0 : Stand p l e ({ frames := 0, cells := 0, slots := 0, locals := 0 } : Room) s m #[(.long q0), (.long q1)] below meth c s₁ [] 0 0 := Stand.of_body Bd
  have e0 : s₁.heap = h0 := by rw [← hh, Bd.state]; rfl
  have bjmaxl_11 : ∀ (T : State) (X : Stand p l e ({ frames := 0, cells := 0, slots := 0, locals := 0 } : Room) s m #[(.long q0), (.long q1)] below meth c T [] 0 0) (eT : T.heap = h0) (v11_s0 : Int64), OEnds p e below s (QP (Value.long (jmaxl_11 v11_s0)) h0) 0 0 (T.setTop (mkF m 11 #[(vj q0), sd, (vj q1), sd] [(.long v11_s0)])) := by
    intro T X eT v11_s0
    exact own_retJ X hx hlk Bd.returns (hb hby d8_11) ⟨congrArg (fun z => some (Value.long z)) (Eq.symm (by rw [jmaxl_11] <;> rfl)), rfl, eT⟩ (Nat.le_refl _) (Nat.le_refl _)
  show OEnds p e below s _ _ _ _
  refine own_by (fun t k => castTop (ef_8 m q0 q1) k) ?_
  show OEnds p e below s _ _ _ (s₁.setTop (mkF m 0 #[(vj q0), sd, (vj q1), sd] []))
  refine own_by (fun _ k => XS.lloadN X0.here hx rfl (hb hby d8_0) rfl k) ?_
  show OEnds p e below s _ _ _ (s₁.setTop (mkF m 1 #[(vj q0), sd, (vj q1), sd] [(.long q0)]))
  refine own_by (fun _ k => XS.lloadN X0.here hx rfl (hb hby d8_1) rfl k) ?_
  show OEnds p e below s _ _ _ (s₁.setTop (mkF m 2 #[(vj q0), sd, (vj q1), sd] [(.long q1), (.long q0)]))
  refine own_by (fun _ k => XS.lcmp X0.here hx rfl (hb hby d8_2) rfl k) ?_
  show OEnds p e below s _ _ _ (s₁.setTop (mkF m 3 #[(vj q0), sd, (vj q1), sd] [(.int (lcmpW q0 q1))]))
  by_cases hc3 : q0 < q1
  · refine own_by (fun _ k => XS.ifYes X0.here hx rfl (pc0 := 3) (pc' := 10) rfl (hb hby d8_3) rfl ((if0 _ _).trans (tlt ((lw_lt _ _).mpr hc3)).1) (by decide) (by decide) k) ?_
    show OEnds p e below s _ _ _ (s₁.setTop (mkF m 10 #[(vj q0), sd, (vj q1), sd] []))
    refine own_by (fun _ k => XS.lloadN X0.here hx rfl (hb hby d8_10) rfl k) ?_
    show OEnds p e below s _ _ _ (s₁.setTop (mkF m 11 #[(vj q0), sd, (vj q1), sd] [(.long q1)]))
    exact own_eq (congrArg Value.long (by rw [jmaxl, if_pos hc3] <;> rfl)) (bjmaxl_11 s₁ X0 e0 q1)
  · refine own_by (fun _ k => XS.ifNo X0.here hx rfl (hb hby d8_3) rfl ((if0 _ _).trans (flt (fun q => hc3 ((lw_lt _ _).mp q))).1) k) ?_
    show OEnds p e below s _ _ _ (s₁.setTop (mkF m 6 #[(vj q0), sd, (vj q1), sd] []))
    refine own_by (fun _ k => XS.lloadN X0.here hx rfl (hb hby d8_6) rfl k) ?_
    show OEnds p e below s _ _ _ (s₁.setTop (mkF m 7 #[(vj q0), sd, (vj q1), sd] [(.long q0)]))
    refine own_by (fun _ k => XS.goto X0.here hx rfl (pc0 := 7) (pc' := 11) rfl (hb hby d8_7) (by decide) (by decide) k) ?_
    show OEnds p e below s _ _ _ (s₁.setTop (mkF m 11 #[(vj q0), sd, (vj q1), sd] [(.long q0)]))
    exact own_eq (congrArg Value.long (by rw [jmaxl, if_neg hc3] <;> rfl)) (bjmaxl_11 s₁ X0 e0 q0)
theorem d6_0 : decode prog_8_method_1_code 0 = .ok (.aload_n 0, 1) := by decide +kernel
theorem d6_1 : decode prog_8_method_1_code 1 = .ok (.invokespecial 1, 3) := by decide +kernel
theorem d6_4 : decode prog_8_method_1_code 4 = .ok (.lload_n 1, 1) := by decide +kernel
theorem d6_5 : decode prog_8_method_1_code 5 = .ok (.lconst 0, 1) := by decide +kernel
theorem d6_6 : decode prog_8_method_1_code 6 = .ok (.lcmp, 1) := by decide +kernel
theorem d6_7 : decode prog_8_method_1_code 7 = .ok (.ifCond .lt 9, 3) := by decide +kernel
theorem d6_10 : decode prog_8_method_1_code 10 = .ok (.lload_n 3, 1) := by decide +kernel
theorem d6_11 : decode prog_8_method_1_code 11 = .ok (.lconst 0, 1) := by decide +kernel
theorem d6_12 : decode prog_8_method_1_code 12 = .ok (.lcmp, 1) := by decide +kernel
theorem d6_13 : decode prog_8_method_1_code 13 = .ok (.ifCond .ge 18, 3) := by decide +kernel
theorem d6_31 : decode prog_8_method_1_code 31 = .ok (.aload_n 0, 1) := by decide +kernel
theorem d6_32 : decode prog_8_method_1_code 32 = .ok (.lload_n 1, 1) := by decide +kernel
theorem d6_33 : decode prog_8_method_1_code 33 = .ok (.lload_n 3, 1) := by decide +kernel
theorem d6_34 : decode prog_8_method_1_code 34 = .ok (.invokestatic 16, 3) := by decide +kernel
theorem d6_37 : decode prog_8_method_1_code 37 = .ok (.putfield 22, 3) := by decide +kernel
theorem d6_40 : decode prog_8_method_1_code 40 = .ok (.aload_n 0, 1) := by decide +kernel
theorem d6_41 : decode prog_8_method_1_code 41 = .ok (.lload_n 1, 1) := by decide +kernel
theorem d6_42 : decode prog_8_method_1_code 42 = .ok (.lload_n 3, 1) := by decide +kernel
theorem d6_43 : decode prog_8_method_1_code 43 = .ok (.invokestatic 28, 3) := by decide +kernel
theorem d6_46 : decode prog_8_method_1_code 46 = .ok (.putfield 31, 3) := by decide +kernel
theorem d6_49 : decode prog_8_method_1_code 49 = .ok (.return_, 1) := by decide +kernel
theorem pn_6 : plainName "com/example/tristream/tristream/Edge" = true := by first | (simp [plainName, overriddenIn]; done) | decide +kernel
theorem ef_6 (m : MethodId) (x0 : Addr) (x1 : Int64) (x2 : Int64) : entryFrame m #[(.ref x0), (.long x1), (.long x2)] 5 = mkF m 0 #[.val (.ref x0), .val (.long x1), .second, .val (.long x2), .second] [] := by first | (simp [entryFrame, mkF, argsToLocals, Value.category]; done) | rfl
def edge_u (q1 : Int64) (q2 : Int64) : Int64 := (jminl q1 q2)
def edge_v (q1 : Int64) (q2 : Int64) : Int64 := (jmaxl q1 q2)
def Q_edge (Z : State) (a : Addr) (q1 : Int64) (q2 : Int64) (h0 : Heap) (n0 : Nat) (r : Option Value) (h : Heap) (L : List Loc) : Prop := r = none ∧ Fr n0 L ∧ Keep h0 h [a] ∧ Obj Z h a "com/example/tristream/tristream/Edge" sch_e [(.long (edge_u q1 q2)), (.long (edge_v q1 q2))]
set_option maxRecDepth 65536 in
set_option maxHeartbeats 40000000 in
theorem rm_edge (l : Launch) (Z : State) (a0 : Array Value) (hw : ∀ d ∈ tables_1, d.before a0 Z = true) (ws : List Jvm.Cond) (a : Addr) (q1 : Int64) (q2 : Int64) (h0 : Heap) (n0 : Nat) (Z0 : n0 ≤ h0.size) (O0 : Obj Z h0 a "com/example/tristream/tristream/Edge" sch_e [(.long 0), (.long 0)]) (ga : n0 ≤ a) (hn1 : ¬ q1 < (0 : Int64)) (hn2 : ¬ q2 < (0 : Int64)) :
    MetFree l mn15 (head1 (Jvm.Cond.code mn15 prog_8_method_1_code 5 none :: ws) ({ frames := 1, cells := 0, slots := 0, locals := 16 } : Room)) (fun a_ U => a_ = #[(.ref a), (.long q1), (.long q2)] ∧ Z.Warmed39 U.vm ∧ U.heap = h0) (fun _ _ _ _ _ => True) (fun _ U o U' => ∃ v_ L_, o = .returned v_ ∧ Q_edge Z a q1 q2 h0 n0 v_ U'.heap L_ ∧ FrameEnd U o U' L_ ({ frames := 1, cells := 0, slots := 0, locals := 16 } : Room).cells ({ frames := 1, cells := 0, slots := 0, locals := 16 } : Room).slots) := by
  refine MetFree.of_bodySF (plainFor_of_name pn_6) hisR ?_
  intro p e s m args below meth c s₁ Bd hml0 hP hK
  obtain ⟨rfl, hZ, hh⟩ := hP
  have hx := Bd.exec
  have hby := Bd.bytes
  have hlk : meth.locks = false := Bd.notSynchronized
  have hml : c.maxLocals = 5 := hml0
  have hown : s.vm.findClass "com/example/tristream/tristream/Edge" = some m.cls := findClass_of_methodNamed Bd.named
  have hnm := (name_of_methodNamed Bd.named Bd.method).1
  have X0 : Stand p l e ({ frames := 1, cells := 0, slots := 0, locals := 16 } : Room) s m #[(.ref a), (.long q1), (.long q2)] below meth c s₁ [] 0 0 := Stand.of_body Bd
  have e0 : s₁.heap = h0 := by rw [← hh, Bd.state]; rfl
  have N0 := Fr.nil n0
  have K0 : Keep h0 h0 [a] := Keep.refl _ _
  show OEnds p e below s (Q_edge Z a q1 q2 h0 n0) _ _ _
  refine own_by (fun t k => castTop (ef_6 m a q1 q2) k) ?_
  show OEnds p e below s _ _ _ (s₁.setTop (mkF m 0 #[(vr a), (vj q1), sd, (vj q2), sd] []))
  refine qaN 1 X0 hx hby d6_0 rfl rfl ?_
  obtain ⟨T1, X1, e1, st1⟩ := initO X0 hx hZ hown (tw45 hw) (tw12 hw) (tw13 hw) e0 (g := (mkF m 1 #[(vr a), (vj q1), sd, (vj q2), sd] [(.ref a)])) rfl (by rw [hml]; rfl) rfl (hb hby d6_1) (by decide) (W := 0) (by show 2 * 0 + _ ≤ _; exact Nat.le_of_eq rfl) (by decide)
  refine qat 4 #[(vr a), (vj q1), sd, (vj q2), sd] [] st1 ?_
  refine qlN 5 X1 hx hby d6_4 rfl rfl ?_
  refine own_by (fun _ k => XS.lconst X1.here hx rfl (hb hby d6_5) k) ?_
  show OEnds p e below s _ _ _ (T1.setTop (mkF m 6 #[(vr a), (vj q1), sd, (vj q2), sd] [(.long 0), (.long q1)]))
  refine own_by (fun _ k => XS.lcmp X1.here hx rfl (hb hby d6_6) rfl k) ?_
  show OEnds p e below s _ _ _ (T1.setTop (mkF m 7 #[(vr a), (vj q1), sd, (vj q2), sd] [(.int (lcmpW q1 (0 : Int64)))]))
  refine q_ifn 10 X1 hx hby d6_7 rfl ((if0 _ _).trans (flt (fun q => hn1 ((lw_lt _ _).mp q))).1) ?_
  refine qlN 11 X1 hx hby d6_10 rfl rfl ?_
  refine own_by (fun _ k => XS.lconst X1.here hx rfl (hb hby d6_11) k) ?_
  show OEnds p e below s _ _ _ (T1.setTop (mkF m 12 #[(vr a), (vj q1), sd, (vj q2), sd] [(.long 0), (.long q2)]))
  refine own_by (fun _ k => XS.lcmp X1.here hx rfl (hb hby d6_12) rfl k) ?_
  show OEnds p e below s _ _ _ (T1.setTop (mkF m 13 #[(vr a), (vj q1), sd, (vj q2), sd] [(.int (lcmpW q2 (0 : Int64)))]))
  refine q_ify 31 X1 hx hby d6_13 rfl ((if0 _ _).trans (flt (fun q => hn2 ((lw_lt _ _).mp q))).2.1) ?_
  refine qaN 32 X1 hx hby d6_31 rfl rfl ?_
  refine qlN 33 X1 hx hby d6_32 rfl rfl ?_
  refine qlN 34 X1 hx hby d6_33 rfl rfl ?_
  obtain ⟨T2, X2, e2, st2⟩ := own_callP X1 hx hZ (y := mn13) hown (tw46 hw) (tw47 hw) (tw48 hw) (tw49 hw) (by decide) (rm_jminl l Z a0 hw [] q1 q2 h0) e1 (g := (mkF m 34 #[(vr a), (vj q1), sd, (vj q2), sd] [(.long q2), (.long q1), (.ref a)])) rfl (by rw [hml]; rfl) (argsL := [(.long q1), (.long q2)]) (rest := [(.ref a)]) (lenOf pd_pJJrJ rfl) rfl (W := 1) (by show 2 * 0 + _ ≤ _; exact Nat.le_of_eq rfl) (hb hby d6_34) (by decide) (by decide) (by decide) (by decide)
  refine qat 37 #[(vr a), (vj q1), sd, (vj q2), sd] [(.long (jminl q1 q2)), (.ref a)] st2 ?_
  obtain ⟨T3, h3, X3, e3, W3, st3⟩ := putF X2 hx hZ hown (host := "") (Or.inl (tw50 hw)) Via.refl e2 (O0.fld 0 rfl rfl) O0.exa (Or.inr ⟨(tw51 hw), rfl, hnm⟩) (tw40 hw) (ty := .long) (by decide) rfl rfl (g := (mkF m 37 #[(vr a), (vj q1), sd, (vj q2), sd] [(.long (jminl q1 q2)), (.ref a)])) rfl rfl (hb hby d6_37)
  have O3 : Obj Z h3 a "com/example/tristream/tristream/Edge" sch_e [(.long (jminl q1 q2)), (.long 0)] := O0.set (so_sch_e hw) W3 0 rfl (Nat.le_of_ble_eq_true rfl)
  have N3 := Fr.snoc X3 N0 ga
  have Z3 := Nat.le_trans Z0 (Keep.of_wr W3).1
  have K3 := K0.wr W3 (wi 0 rfl)
  refine qat 40 #[(vr a), (vj q1), sd, (vj q2), sd] [] st3 ?_
  refine qaN 41 X3 hx hby d6_40 rfl rfl ?_
  refine qlN 42 X3 hx hby d6_41 rfl rfl ?_
  refine qlN 43 X3 hx hby d6_42 rfl rfl ?_
  obtain ⟨T4, X4, e4, st4⟩ := own_callP X3 hx hZ (y := mn14) hown (tw52 hw) (tw53 hw) (tw48 hw) (tw54 hw) (by decide) (rm_jmaxl l Z a0 hw [] q1 q2 h3) e3 (g := (mkF m 43 #[(vr a), (vj q1), sd, (vj q2), sd] [(.long q2), (.long q1), (.ref a)])) rfl (by rw [hml]; rfl) (argsL := [(.long q1), (.long q2)]) (rest := [(.ref a)]) (lenOf pd_pJJrJ rfl) rfl (W := 1) (by show 2 * 0 + _ ≤ _; exact Nat.le_of_eq rfl) (hb hby d6_43) (by decide) (by decide) (by decide) (by decide)
  refine qat 46 #[(vr a), (vj q1), sd, (vj q2), sd] [(.long (jmaxl q1 q2)), (.ref a)] st4 ?_
  obtain ⟨T5, h5, X5, e5, W5, st5⟩ := putF X4 hx hZ hown (host := "") (Or.inl (tw55 hw)) Via.refl e4 (O3.fld 1 rfl rfl) O3.exa (Or.inr ⟨(tw56 hw), rfl, hnm⟩) (tw40 hw) (ty := .long) (by decide) rfl rfl (g := (mkF m 46 #[(vr a), (vj q1), sd, (vj q2), sd] [(.long (jmaxl q1 q2)), (.ref a)])) rfl rfl (hb hby d6_46)
  have O5 : Obj Z h5 a "com/example/tristream/tristream/Edge" sch_e [(.long (jminl q1 q2)), (.long (jmaxl q1 q2))] := O3.set (so_sch_e hw) W5 1 rfl (Nat.le_of_ble_eq_true rfl)
  have N5 := Fr.snoc X5 N3 ga
  have Z5 := Nat.le_trans Z3 (Keep.of_wr W5).1
  have K5 := K3.wr W5 (wi 0 rfl)
  refine qat 49 #[(vr a), (vj q1), sd, (vj q2), sd] [] st5 ?_
  have q_6_0 : (edge_u q1 q2) = (jminl q1 q2) := (by rw [edge_u] <;> rfl)
  have q_7_1 : (edge_v q1 q2) = (jmaxl q1 q2) := (by rw [edge_v] <;> rfl)
  exact own_retV X5 hx hlk Bd.returns (hb hby d6_49) (by rw [e5]; exact ⟨rfl, N5, K5, by rw [q_6_0, q_7_1]; exact O5⟩) (by decide) (by decide)
theorem d10_0 : decode prog_8_method_2_code 0 = .ok (.aload_n 0, 1) := by decide +kernel
theorem d10_1 : decode prog_8_method_2_code 1 = .ok (.getfield 22, 3) := by decide +kernel
theorem d10_4 : decode prog_8_method_2_code 4 = .ok (.lreturn, 1) := by decide +kernel
theorem pn_10 : plainName "com/example/tristream/tristream/Edge" = true := by first | (simp [plainName, overriddenIn]; done) | decide +kernel
theorem ef_10 (m : MethodId) (x0 : Addr) : entryFrame m #[(.ref x0)] 1 = mkF m 0 #[.val (.ref x0)] [] := by first | (simp [entryFrame, mkF, argsToLocals, Value.category]; done) | rfl
def geu_r (eu : Int64) : Int64 := eu
set_option maxRecDepth 65536 in
set_option maxHeartbeats 40000000 in
theorem rm_geu (l : Launch) (Z : State) (a0 : Array Value) (hw : ∀ d ∈ tables_1, d.before a0 Z = true) (ws : List Jvm.Cond) (a : Addr) (eu : Int64) (ev : Int64) (h0 : Heap) (n0 : Nat) (Z0 : n0 ≤ h0.size) (O0 : Obj Z h0 a "com/example/tristream/tristream/Edge" sch_e [(.long eu), (.long ev)]) :
    MetFree l mn16 (head1 (Jvm.Cond.code mn16 prog_8_method_2_code 1 (some .long) :: ws) ({ frames := 0, cells := 0, slots := 0, locals := 0 } : Room)) (fun a_ U => a_ = #[(.ref a)] ∧ Z.Warmed39 U.vm ∧ U.heap = h0) (fun _ _ _ _ _ => True) (fun _ U o U' => ∃ v_ L_, o = .returned v_ ∧ QP (.long (geu_r eu)) h0 v_ U'.heap L_ ∧ FrameEnd U o U' L_ ({ frames := 0, cells := 0, slots := 0, locals := 0 } : Room).cells ({ frames := 0, cells := 0, slots := 0, locals := 0 } : Room).slots) := by
  refine MetFree.of_bodySF (plainFor_of_name pn_10) hisR ?_
  intro p e s m args below meth c s₁ Bd hml0 hP hK
  obtain ⟨rfl, hZ, hh⟩ := hP
  have hx := Bd.exec
  have hby := Bd.bytes
  have hlk : meth.locks = false := Bd.notSynchronized
  have hml : c.maxLocals = 1 := hml0
  have hown : s.vm.findClass "com/example/tristream/tristream/Edge" = some m.cls := findClass_of_methodNamed Bd.named
  have hnm := (name_of_methodNamed Bd.named Bd.method).1
  have X0 : Stand p l e ({ frames := 0, cells := 0, slots := 0, locals := 0 } : Room) s m #[(.ref a)] below meth c s₁ [] 0 0 := Stand.of_body Bd
  have e0 : s₁.heap = h0 := by rw [← hh, Bd.state]; rfl
  have N0 := Fr.nil n0
  have K0 : Keep h0 h0 [] := Keep.refl _ _
  show OEnds p e below s (QP (.long (geu_r eu)) h0) _ _ _
  refine own_by (fun t k => castTop (ef_10 m a) k) ?_
  show OEnds p e below s _ _ _ (s₁.setTop (mkF m 0 #[(vr a)] []))
  refine qaN 1 X0 hx hby d10_0 rfl rfl ?_
  refine qg 4 X0 hx hZ hown (tw50 hw) e0 (O0.fld 0 rfl rfl) hby d10_1 rfl fun T1 X1 e1 => ?_
  exact own_retJ X1 hx hlk Bd.returns (hb hby d10_4) ⟨congrArg (fun z => some (Value.long z)) (Eq.symm (by rw [geu_r] <;> rfl)), rfl, e1⟩ (by decide) (by decide)
theorem d15_0 : decode prog_8_method_3_code 0 = .ok (.aload_n 0, 1) := by decide +kernel
theorem d15_1 : decode prog_8_method_3_code 1 = .ok (.getfield 31, 3) := by decide +kernel
theorem d15_4 : decode prog_8_method_3_code 4 = .ok (.lreturn, 1) := by decide +kernel
theorem pn_15 : plainName "com/example/tristream/tristream/Edge" = true := by first | (simp [plainName, overriddenIn]; done) | decide +kernel
theorem ef_15 (m : MethodId) (x0 : Addr) : entryFrame m #[(.ref x0)] 1 = mkF m 0 #[.val (.ref x0)] [] := by first | (simp [entryFrame, mkF, argsToLocals, Value.category]; done) | rfl
def gev_r (ev : Int64) : Int64 := ev
set_option maxRecDepth 65536 in
set_option maxHeartbeats 40000000 in
theorem rm_gev (l : Launch) (Z : State) (a0 : Array Value) (hw : ∀ d ∈ tables_1, d.before a0 Z = true) (ws : List Jvm.Cond) (a : Addr) (eu : Int64) (ev : Int64) (h0 : Heap) (n0 : Nat) (Z0 : n0 ≤ h0.size) (O0 : Obj Z h0 a "com/example/tristream/tristream/Edge" sch_e [(.long eu), (.long ev)]) :
    MetFree l mn17 (head1 (Jvm.Cond.code mn17 prog_8_method_3_code 1 (some .long) :: ws) ({ frames := 0, cells := 0, slots := 0, locals := 0 } : Room)) (fun a_ U => a_ = #[(.ref a)] ∧ Z.Warmed39 U.vm ∧ U.heap = h0) (fun _ _ _ _ _ => True) (fun _ U o U' => ∃ v_ L_, o = .returned v_ ∧ QP (.long (gev_r ev)) h0 v_ U'.heap L_ ∧ FrameEnd U o U' L_ ({ frames := 0, cells := 0, slots := 0, locals := 0 } : Room).cells ({ frames := 0, cells := 0, slots := 0, locals := 0 } : Room).slots) := by
  refine MetFree.of_bodySF (plainFor_of_name pn_15) hisR ?_
  intro p e s m args below meth c s₁ Bd hml0 hP hK
  obtain ⟨rfl, hZ, hh⟩ := hP
  have hx := Bd.exec
  have hby := Bd.bytes
  have hlk : meth.locks = false := Bd.notSynchronized
  have hml : c.maxLocals = 1 := hml0
  have hown : s.vm.findClass "com/example/tristream/tristream/Edge" = some m.cls := findClass_of_methodNamed Bd.named
  have hnm := (name_of_methodNamed Bd.named Bd.method).1
  have X0 : Stand p l e ({ frames := 0, cells := 0, slots := 0, locals := 0 } : Room) s m #[(.ref a)] below meth c s₁ [] 0 0 := Stand.of_body Bd
  have e0 : s₁.heap = h0 := by rw [← hh, Bd.state]; rfl
  have N0 := Fr.nil n0
  have K0 : Keep h0 h0 [] := Keep.refl _ _
  show OEnds p e below s (QP (.long (gev_r ev)) h0) _ _ _
  refine own_by (fun t k => castTop (ef_15 m a) k) ?_
  show OEnds p e below s _ _ _ (s₁.setTop (mkF m 0 #[(vr a)] []))
  refine qaN 1 X0 hx hby d15_0 rfl rfl ?_
  refine qg 4 X0 hx hZ hown (tw55 hw) e0 (O0.fld 1 rfl rfl) hby d15_1 rfl fun T1 X1 e1 => ?_
  exact own_retJ X1 hx hlk Bd.returns (hb hby d15_4) ⟨congrArg (fun z => some (Value.long z)) (Eq.symm (by rw [gev_r] <;> rfl)), rfl, e1⟩ (by decide) (by decide)
theorem d26_0 : decode prog_25_method_2_code 0 = .ok (.aload_n 0, 1) := by decide +kernel
theorem d26_1 : decode prog_25_method_2_code 1 = .ok (.getfield 27, 3) := by decide +kernel
theorem d26_4 : decode prog_25_method_2_code 4 = .ok (.ireturn, 1) := by decide +kernel
theorem pn_26 : plainName "com/example/tristream/tristream/LongIndex" = true := by first | (simp [plainName, overriddenIn]; done) | decide +kernel
theorem ef_26 (m : MethodId) (x0 : Addr) : entryFrame m #[(.ref x0)] 1 = mkF m 0 #[.val (.ref x0)] [] := by first | (simp [entryFrame, mkF, argsToLocals, Value.category]; done) | rfl
def lsize_r (z : Int32) : Int32 := z
set_option maxRecDepth 65536 in
set_option maxHeartbeats 40000000 in
theorem rm_lsize (l : Launch) (Z : State) (a0 : Array Value) (hw : ∀ d ∈ tables_1, d.before a0 Z = true) (ws : List Jvm.Cond) (a : Addr) (kb : Addr) (sb : Addr) (sf : Int32) (z : Int32) (h0 : Heap) (n0 : Nat) (Z0 : n0 ≤ h0.size) (O0 : Obj Z h0 a "com/example/tristream/tristream/LongIndex" sch_li [(.ref kb), (.ref sb), (.int sf), (.int z)]) :
    MetFree l mn18 (head1 (Jvm.Cond.code mn18 prog_25_method_2_code 1 (some .int) :: ws) ({ frames := 0, cells := 0, slots := 0, locals := 0 } : Room)) (fun a_ U => a_ = #[(.ref a)] ∧ Z.Warmed39 U.vm ∧ U.heap = h0) (fun _ _ _ _ _ => True) (fun _ U o U' => ∃ v_ L_, o = .returned v_ ∧ QP (.int (lsize_r z)) h0 v_ U'.heap L_ ∧ FrameEnd U o U' L_ ({ frames := 0, cells := 0, slots := 0, locals := 0 } : Room).cells ({ frames := 0, cells := 0, slots := 0, locals := 0 } : Room).slots) := by
  refine MetFree.of_bodySF (plainFor_of_name pn_26) hisR ?_
  intro p e s m args below meth c s₁ Bd hml0 hP hK
  obtain ⟨rfl, hZ, hh⟩ := hP
  have hx := Bd.exec
  have hby := Bd.bytes
  have hlk : meth.locks = false := Bd.notSynchronized
  have hml : c.maxLocals = 1 := hml0
  have hown : s.vm.findClass "com/example/tristream/tristream/LongIndex" = some m.cls := findClass_of_methodNamed Bd.named
  have hnm := (name_of_methodNamed Bd.named Bd.method).1
  have X0 : Stand p l e ({ frames := 0, cells := 0, slots := 0, locals := 0 } : Room) s m #[(.ref a)] below meth c s₁ [] 0 0 := Stand.of_body Bd
  have e0 : s₁.heap = h0 := by rw [← hh, Bd.state]; rfl
  have N0 := Fr.nil n0
  have K0 : Keep h0 h0 [] := Keep.refl _ _
  show OEnds p e below s (QP (.int (lsize_r z)) h0) _ _ _
  refine own_by (fun t k => castTop (ef_26 m a) k) ?_
  show OEnds p e below s _ _ _ (s₁.setTop (mkF m 0 #[(vr a)] []))
  refine qaN 1 X0 hx hby d26_0 rfl rfl ?_
  refine qg 4 X0 hx hZ hown (tw85 hw) e0 (O0.fld 3 rfl rfl) hby d26_1 rfl fun T1 X1 e1 => ?_
  exact own_retI X1 hx hlk Bd.returns (hb hby d26_4) ⟨congrArg (fun z => some (Value.int z)) (Eq.symm (by rw [lsize_r] <;> rfl)), rfl, e1⟩ (by decide) (by decide)
theorem sm_t {a b p q : Int64} (h : ¬ gsame a b p q = (0 : Int32)) : Sm a b p q := by
  rw [gsame, gsame_14, gsame_28, gsame_32] at h
  have z : gsame_33 (0 : Int32) = 0 := by decide
  rw [z] at h
  by_cases h1 : a = p
  · by_cases h2 : b = q
    · exact Or.inl ⟨h1, h2⟩
    · rw [if_pos h1, if_neg h2] at h
      by_cases h3 : a = q
      · by_cases h4 : b = p
        · exact Or.inr ⟨h3, h4⟩
        · rw [if_pos h3, if_neg h4] at h; exact absurd rfl h
      · rw [if_neg h3] at h; exact absurd rfl h
  · rw [if_neg h1] at h
    by_cases h3 : a = q
    · by_cases h4 : b = p
      · exact Or.inr ⟨h3, h4⟩
      · rw [if_pos h3, if_neg h4] at h; exact absurd rfl h
    · rw [if_neg h3] at h; exact absurd rfl h
theorem sm_f {a b p q : Int64} (h : gsame a b p q = (0 : Int32)) : ¬ Sm a b p q := by
  rw [gsame, gsame_14, gsame_28] at h
  have z : ¬ gsame_33 (1 : Int32) = 0 := by decide
  rintro (⟨h1, h2⟩ | ⟨h1, h2⟩)
  · rw [if_pos h1, if_pos h2] at h; exact z h
  · by_cases h3 : a = p
    · by_cases h4 : b = q
      · rw [if_pos h3, if_pos h4] at h; exact z h
      · rw [if_pos h3, if_neg h4, if_pos h1, if_pos h2] at h; exact z h
    · rw [if_neg h3, if_pos h1, if_pos h2] at h; exact z h
theorem mm_cases (u v : Int64) : (edge_u u v = u ∧ edge_v u v = v) ∨ (edge_u u v = v ∧ edge_v u v = u) := by
  rw [edge_u, edge_v, jminl, jmaxl]
  by_cases h1 : v < u
  · have h2 : ¬ u < v := by rw [Int64.lt_iff_toInt_lt] at h1 ⊢; omega
    rw [if_pos h1, if_neg h2]; exact Or.inr ⟨rfl, rfl⟩
  · rw [if_neg h1]
    by_cases h2 : u < v
    · rw [if_pos h2]; exact Or.inl ⟨rfl, rfl⟩
    · have e : u = v := by rw [Int64.lt_iff_toInt_lt] at h1 h2; exact Int64.toInt_inj.mp (by omega)
      rw [if_neg h2]; exact Or.inl ⟨rfl, e⟩
theorem mm_sm (x y u v : Int64) : Sm x y (edge_u u v) (edge_v u v) ↔ Sm x y u v := by
  rcases mm_cases u v with ⟨e1, e2⟩ | ⟨e1, e2⟩
  · rw [e1, e2]
  · rw [e1, e2]; exact sm_swap
theorem mm_ne {u v : Int64} (h : ¬ u = v) : edge_u u v ≠ edge_v u v := by
  rcases mm_cases u v with ⟨e1, e2⟩ | ⟨e1, e2⟩
  · rw [e1, e2]; exact h
  · rw [e1, e2]; exact fun q => h q.symm
theorem in_mm {ks : List Int64} {v t : Int64} (h : GIn ks v) : GIn ks (edge_u v t) ∨ GIn ks (edge_v v t) := by
  rcases mm_cases v t with ⟨e1, e2⟩ | ⟨e1, e2⟩
  · exact Or.inl (by rw [e1]; exact h)
  · exact Or.inr (by rw [e2]; exact h)
theorem land_nn (x : Int64) : ¬ (x &&& (9223372036854775807 : Int64)) < (0 : Int64) := by
  rw [Int64.lt_iff_toInt_lt]
  have z : (0 : Int64).toInt = 0 := by decide
  rw [z]
  have h : (x &&& (9223372036854775807 : Int64)).toBitVec.msb = false := by
    have h1 : (x &&& (9223372036854775807 : Int64)).toBitVec = x.toBitVec &&& (9223372036854775807 : Int64).toBitVec := rfl
    rw [h1, BitVec.msb_and]
    have h2 : (9223372036854775807 : Int64).toBitVec.msb = false := by decide
    rw [h2, Bool.and_false]
  have h3 : (x &&& (9223372036854775807 : Int64)).toInt = (x &&& (9223372036854775807 : Int64)).toBitVec.toInt := rfl
  rw [h3]
  have h4 := BitVec.toInt_nonneg_of_msb_false h
  omega
theorem ed_zero {c : Nat} {KS : Nat → List Int64} {x y : Int64} (hc : c = 0) : ¬ GEd c KS x y := fun ⟨i, h, _⟩ => by omega
theorem ed_first {P Q C : Prop} (e : P ↔ Q ∨ C) (h : ¬ Q) {D : Prop} (e2 : C ↔ D) : P ↔ D := by
  rw [e, ← e2]; exact ⟨fun z => z.elim (fun q => absurd q h) id, Or.inr⟩
theorem st_a0 {s2 : Int32} {P A B : Prop} (h : s2 = (0 : Int32)) (e : P ↔ A) : P ↔ A ∨ (s2 ≠ 0 ∧ B) := by
  rw [e]; exact ⟨Or.inl, fun z => z.elim id fun y => absurd h y.1⟩
theorem st_a1 {s2 : Int32} {P P1 A B C : Prop} (h : ¬ s2 = (0 : Int32)) (e : P ↔ P1 ∨ C) (e1 : P1 ↔ A) (e2 : C ↔ B) : P ↔ A ∨ (s2 ≠ 0 ∧ B) := by
  rw [e, e1, e2]; exact ⟨fun z => z.elim Or.inl fun y => Or.inr ⟨h, y⟩, fun z => z.elim Or.inl fun y => Or.inr y.2⟩
theorem st_r0 {dr : Int32} {P X Y : Prop} (h : dr = (0 : Int32)) (e : P ↔ X) : P ↔ X ∧ ¬ (dr ≠ 0 ∧ Y) := by
  rw [e]; exact ⟨fun z => ⟨z, fun y => y.1 h⟩, fun z => z.1⟩
theorem st_r1 {dr : Int32} {P P0 X Y C : Prop} (h : ¬ dr = (0 : Int32)) (e : P ↔ P0 ∧ ¬ C) (e1 : P0 ↔ X) (e2 : C ↔ Y) : P ↔ X ∧ ¬ (dr ≠ 0 ∧ Y) := by
  rw [e, e1, e2]; exact ⟨fun z => ⟨z.1, fun y => z.2 y.2⟩, fun z => ⟨z.1, fun y => z.2 ⟨h, y⟩⟩⟩
theorem ed_absent {c : Nat} {KS : Nat → List Int64} {k b : Int64} (hc : (KS 0).length = c) (h : ¬ GIn (KS 0) k) (x y : Int64) : GEd c KS x y ↔ GEd c KS x y ∧ ¬ (x = k ∧ y = b) :=
  ⟨fun z => ⟨z, fun w => ed_no hc (by rw [w.1]; exact h) z⟩, fun z => z.1⟩
theorem idx_gin {ks : List Int64} {k : Int64} {r : Int32} (h : IdxR ks k r) (hn : ¬ r < (0 : Int32)) : GIn ks k := by
  obtain ⟨i, h1, h2, -⟩ := pos_idx h hn; exact ⟨i, h1, h2⟩
theorem two_rem {P P1 P2 : Prop} {x y p q : Int64} (e1 : P1 ↔ P ∧ ¬ (x = p ∧ y = q)) (e2 : P2 ↔ P1 ∧ ¬ (x = q ∧ y = p)) : P2 ↔ P ∧ ¬ Sm x y p q := by
  rw [e2, e1]
  exact ⟨fun z => ⟨z.1.1, fun w => w.elim z.1.2 z.2⟩, fun z => ⟨⟨z.1, fun w => z.2 (Or.inl w)⟩, fun w => z.2 (Or.inr w)⟩⟩
theorem d2_0 : decode prog_40_method_1_code 0 = .ok (.aload_n 0, 1) := by decide +kernel
theorem d2_1 : decode prog_40_method_1_code 1 = .ok (.invokespecial 1, 3) := by decide +kernel
theorem d2_4 : decode prog_40_method_1_code 4 = .ok (.aload_n 0, 1) := by decide +kernel
theorem d2_5 : decode prog_40_method_1_code 5 = .ok (.new 7, 3) := by decide +kernel
theorem d2_8 : decode prog_40_method_1_code 8 = .ok (.dup, 1) := by decide +kernel
theorem d2_9 : decode prog_40_method_1_code 9 = .ok (.invokespecial 9, 3) := by decide +kernel
theorem d2_12 : decode prog_40_method_1_code 12 = .ok (.putfield 10, 3) := by decide +kernel
theorem d2_15 : decode prog_40_method_1_code 15 = .ok (.aload_n 0, 1) := by decide +kernel
theorem d2_16 : decode prog_40_method_1_code 16 = .ok (.bipush 16, 2) := by decide +kernel
theorem d2_18 : decode prog_40_method_1_code 18 = .ok (.anewarray 7, 3) := by decide +kernel
theorem d2_21 : decode prog_40_method_1_code 21 = .ok (.putfield 16, 3) := by decide +kernel
theorem d2_24 : decode prog_40_method_1_code 24 = .ok (.return_, 1) := by decide +kernel
theorem pn_2 : plainName "com/example/tristream/tristream/SampleGraph" = true := by first | (simp [plainName, overriddenIn]; done) | decide +kernel
theorem ef_2 (m : MethodId) (x0 : Addr) : entryFrame m #[(.ref x0)] 1 = mkF m 0 #[.val (.ref x0)] [] := by first | (simp [entryFrame, mkF, argsToLocals, Value.category]; done) | rfl
def Q_sginit (Z : State) (a : Addr) (h0 : Heap) (n0 : Nat) (r : Option Value) (h : Heap) (L : List Loc) : Prop := r = none ∧ Fr n0 L ∧ Keep h0 h [a] ∧ ∃ G : GSt, GR Z h n0 a G ∧ G.c = 0 ∧ G.SS 0 = 4
set_option maxRecDepth 65536 in
set_option maxHeartbeats 40000000 in
theorem rm_sginit (l : Launch) (Z : State) (a0 : Array Value) (hw : ∀ d ∈ tables_1, d.before a0 Z = true) (ws : List Jvm.Cond) (a : Addr) (h0 : Heap) (n0 : Nat) (Z0 : n0 ≤ h0.size) (O0 : Obj Z h0 a "com/example/tristream/tristream/SampleGraph" sch_sg [.null, .null]) (ga : n0 ≤ a) :
    MetFree l mn19 (head1 (Jvm.Cond.code mn19 prog_40_method_1_code 1 none :: ws) ({ frames := 2, cells := 4, slots := 26, locals := 29 } : Room)) (fun a_ U => a_ = #[(.ref a)] ∧ Z.Warmed39 U.vm ∧ U.heap = h0) (fun _ _ _ _ _ => True) (fun _ U o U' => ∃ v_ L_, o = .returned v_ ∧ Q_sginit Z a h0 n0 v_ U'.heap L_ ∧ FrameEnd U o U' L_ ({ frames := 2, cells := 4, slots := 26, locals := 29 } : Room).cells ({ frames := 2, cells := 4, slots := 26, locals := 29 } : Room).slots) := by
  refine MetFree.of_bodySF (plainFor_of_name pn_2) hisR ?_
  intro p e s m args below meth c s₁ Bd hml0 hP hK
  obtain ⟨rfl, hZ, hh⟩ := hP
  have hx := Bd.exec
  have hby := Bd.bytes
  have hlk : meth.locks = false := Bd.notSynchronized
  have hml : c.maxLocals = 1 := hml0
  have hown : s.vm.findClass "com/example/tristream/tristream/SampleGraph" = some m.cls := findClass_of_methodNamed Bd.named
  have hnm := (name_of_methodNamed Bd.named Bd.method).1
  have X0 : Stand p l e ({ frames := 2, cells := 4, slots := 26, locals := 29 } : Room) s m #[(.ref a)] below meth c s₁ [] 0 0 := Stand.of_body Bd
  have e0 : s₁.heap = h0 := by rw [← hh, Bd.state]; rfl
  have N0 := Fr.nil n0
  have K0 : Keep h0 h0 [a] := Keep.refl _ _
  show OEnds p e below s (Q_sginit Z a h0 n0) _ _ _
  refine own_by (fun t k => castTop (ef_2 m a) k) ?_
  show OEnds p e below s _ _ _ (s₁.setTop (mkF m 0 #[(vr a)] []))
  refine qaN 1 X0 hx hby d2_0 rfl rfl ?_
  obtain ⟨T1, X1, e1, st1⟩ := initO X0 hx hZ hown (tw11 hw) (tw12 hw) (tw13 hw) e0 (g := (mkF m 1 #[(vr a)] [(.ref a)])) rfl (by rw [hml]; rfl) rfl (hb hby d2_1) (by decide) (W := 0) (by show 2 * 0 + _ ≤ _; exact Nat.le_of_eq rfl) (by decide)
  refine qat 4 #[(vr a)] [] st1 ?_
  refine qaN 5 X1 hx hby d2_4 rfl rfl ?_
  obtain ⟨T2, h2, X2, e2, E2, A2, D2, -, st2⟩ := newO X1 hx hZ hown (tw14 hw) (tw15 hw) (tw16 hw) e1 (g := (mkF m 5 #[(vr a)] [(.ref a)])) rfl (hb hby d2_5) (by decide) (by decide)
  obtain ⟨nb2, g2⟩ : ∃ z, z = h0.size := ⟨_, rfl⟩
  rw [← g2] at A2 D2 st2
  have g_nb2 : n0 ≤ nb2 := Nat.le_trans Z0 (Nat.le_of_eq g2.symm)
  have sz_nb2 : h0.size ≤ nb2 := Nat.le_trans K0.1 (Nat.le_of_eq g2.symm)
  have K2 := K0.ext E2
  have Z2 := Nat.le_trans Z0 E2.1
  have O2 : Obj Z h2 nb2 "com/example/tristream/tristream/LongIndex" sch_li [.null, .null, (.int 0), (.int 0)] := Obj.new (so_sch_li hw) A2 D2 [(.array .long), (.array .int), .int, .int] (by decide)
  refine qat 8 #[(vr a)] [(.ref nb2), (.ref a)] st2 ?_
  refine q_dup 9 X2 hx hby d2_8 rfl rfl ?_
  obtain ⟨v3, T3, L3, h3, X3, e3, hQ3, st3⟩ := own_callI X2 hx hZ (y := mn3) rfl hown (tw17 hw) (tw18 hw) (tw19 hw) (tw16 hw) (by decide) (rm_liinit l Z a0 hw [] nb2 h2 n0 Z2 O2 g_nb2) e2 (g := (mkF m 9 #[(vr a)] [(.ref nb2), (.ref nb2), (.ref a)])) rfl (by rw [hml]; rfl) (argsL := []) (rest := [(.ref nb2), (.ref a)]) (lenOf pd_prV rfl) rfl (W := 2) (by show 2 * 0 + _ ≤ _; exact Nat.le_of_eq rfl) (hb hby d2_9) (by decide) (by decide) (by decide) (by decide)
  have O4 := (O0.ext E2)
  obtain ⟨rfl, Nq3, Kq3, kb3, sb3, ⟨sk3, ss3⟩, ⟨gk3, gs3⟩, nk3, O3, Fk3, Fs3⟩ := hQ3
  have N3 := Fr.app N0 Nq3
  have K3 := K2.trans Kq3 (allS (Or.inr sz_nb2) all0)
  have Z3 := Nat.le_trans Z2 Kq3.1
  refine qtr 12 #[(vr a)] [(.ref nb2), (.ref a)] st3 ?_
  have O6 := (O4.keep Kq3 (ninS (Nat.ne_of_lt (Nat.lt_of_lt_of_le O0.lt (Nat.le_of_eq g2.symm))) nin0))
  obtain ⟨T5, h5, X5, e5, W5, st5⟩ := putF X3 hx hZ hown (host := "") (Or.inl (tw34 hw)) Via.refl e3 (O6.fld 0 rfl rfl) O6.exa (Or.inr ⟨(tw35 hw), rfl, hnm⟩) (tw6 hw) (ty := (.object "com/example/tristream/tristream/LongIndex")) (by decide) rfl rfl (g := (mkF m 12 #[(vr a)] [(.ref nb2), (.ref a)])) rfl rfl (hb hby d2_12)
  have O5 : Obj Z h5 a "com/example/tristream/tristream/SampleGraph" sch_sg [(.ref nb2), .null] := O6.set (so_sch_sg hw) W5 0 rfl (Nat.le_of_ble_eq_true rfl)
  have N5 := Fr.snoc X5 N3 ga
  have Z5 := Nat.le_trans Z3 (Keep.of_wr W5).1
  have K5 := K3.wr W5 (wi 0 rfl)
  refine qat 15 #[(vr a)] [] st5 ?_
  refine qaN 16 X5 hx hby d2_15 rfl rfl ?_
  refine qc2 18 16 X5 hx hby d2_16 rfl rfl ?_
  obtain ⟨T7, h7, k7, X7, e7, E7, A7, V7, st7⟩ := newR X5 hx hZ hown (tw14 hw) (tw36 hw) e5 (g := (mkF m 18 #[(vr a)] [(.int 16), (.ref a)])) rfl (hb hby d2_18) rfl (by decide) (cap := 16) (by decide) (by decide) (by decide) (by decide)
  obtain ⟨nb7, g7⟩ : ∃ z, z = h5.size := ⟨_, rfl⟩
  rw [← g7] at A7 st7
  have O8 := (O3.other W5 (Ne.symm (Nat.ne_of_lt (Nat.lt_of_lt_of_le O0.lt (Nat.le_of_eq g2.symm)))))
  have F9 := (Fk3.other W5 (Ne.symm (Nat.ne_of_lt (Nat.lt_of_lt_of_le O4.lt sk3))))
  have F10 := (Fs3.other W5 (Ne.symm (Nat.ne_of_lt (Nat.lt_of_lt_of_le O4.lt ss3))))
  have g_nb7 : n0 ≤ nb7 := Nat.le_trans Z5 (Nat.le_of_eq g7.symm)
  have sz_nb7 : h0.size ≤ nb7 := Nat.le_trans K5.1 (Nat.le_of_eq g7.symm)
  have K7 := K5.ext E7
  have Z7 := Nat.le_trans Z5 E7.1
  have F7 : FA Z h7 nb7 (.object "com/example/tristream/tristream/LongIndex") 16 (fun _ => .null) := FA.new A7 (by decide) (by decide) rfl
  have V7 : OvA Z h7 nb7 "com/example/tristream/tristream/LongIndex" := ⟨_, A7.1, V7⟩
  refine qat 21 #[(vr a)] [(.ref nb7), (.ref a)] st7 ?_
  have O12 := (O5.ext E7)
  have O13 := (O8.ext E7)
  have F14 := (F9.ext E7)
  have F15 := (F10.ext E7)
  obtain ⟨T11, h11, X11, e11, W11, st11⟩ := putF X7 hx hZ hown (host := "") (Or.inl (tw37 hw)) Via.refl e7 (O12.fld 1 rfl rfl) O12.exa (Or.inl (tw38 hw)) (tw6 hw) (ty := (.array (.object "com/example/tristream/tristream/LongIndex"))) (by decide) rfl rfl (g := (mkF m 21 #[(vr a)] [(.ref nb7), (.ref a)])) rfl rfl (hb hby d2_21)
  have O11 : Obj Z h11 a "com/example/tristream/tristream/SampleGraph" sch_sg [(.ref nb2), (.ref nb7)] := O12.set (so_sch_sg hw) W11 1 rfl (Nat.le_of_ble_eq_true rfl)
  have N11 := Fr.snoc X11 N5 ga
  have Z11 := Nat.le_trans Z7 (Keep.of_wr W11).1
  have K11 := K7.wr W11 (wi 0 rfl)
  refine qat 24 #[(vr a)] [] st11 ?_
  have O16 := (O13.other W11 (Ne.symm (Nat.ne_of_lt (Nat.lt_of_lt_of_le O0.lt (Nat.le_of_eq g2.symm)))))
  have F17 := (F14.other W11 (Ne.symm (Nat.ne_of_lt (Nat.lt_of_lt_of_le O4.lt sk3))))
  have F18 := (F15.other W11 (Ne.symm (Nat.ne_of_lt (Nat.lt_of_lt_of_le O4.lt ss3))))
  have F19 := (F7.other W11 (Ne.symm (Nat.ne_of_lt (Nat.lt_of_lt_of_le O5.lt (Nat.le_of_eq g7.symm)))))
  exact own_retV X11 hx hlk Bd.returns (hb hby d2_24) (by rw [e11]; exact ⟨rfl, N11, K11, _, gr_init O11 F19 (V7.keep (Keep.of_wr W11)) ⟨_, _, _, _, _, O16, F17, F18, li_new⟩ g_nb7 g_nb2 gk3 gs3, rfl, rfl⟩) (by decide) (by decide)
theorem d11_0 : decode prog_40_method_6_code 0 = .ok (.aload_n 0, 1) := by decide +kernel
theorem d11_1 : decode prog_40_method_6_code 1 = .ok (.getfield 10, 3) := by decide +kernel
theorem d11_4 : decode prog_40_method_6_code 4 = .ok (.lload_n 1, 1) := by decide +kernel
theorem d11_5 : decode prog_40_method_6_code 5 = .ok (.invokevirtual 33, 3) := by decide +kernel
theorem d11_8 : decode prog_40_method_6_code 8 = .ok (.istore_n 3, 1) := by decide +kernel
theorem d11_9 : decode prog_40_method_6_code 9 = .ok (.iload_n 3, 1) := by decide +kernel
theorem d11_10 : decode prog_40_method_6_code 10 = .ok (.aload_n 0, 1) := by decide +kernel
theorem d11_11 : decode prog_40_method_6_code 11 = .ok (.getfield 16, 3) := by decide +kernel
theorem d11_14 : decode prog_40_method_6_code 14 = .ok (.arraylength, 1) := by decide +kernel
theorem d11_15 : decode prog_40_method_6_code 15 = .ok (.if_icmp .ne 20, 3) := by decide +kernel
theorem d11_35 : decode prog_40_method_6_code 35 = .ok (.aload_n 0, 1) := by decide +kernel
theorem d11_36 : decode prog_40_method_6_code 36 = .ok (.getfield 16, 3) := by decide +kernel
theorem d11_39 : decode prog_40_method_6_code 39 = .ok (.iload_n 3, 1) := by decide +kernel
theorem d11_40 : decode prog_40_method_6_code 40 = .ok (.aaload, 1) := by decide +kernel
theorem d11_41 : decode prog_40_method_6_code 41 = .ok (.ifnonnull 16, 3) := by decide +kernel
theorem d11_44 : decode prog_40_method_6_code 44 = .ok (.aload_n 0, 1) := by decide +kernel
theorem d11_45 : decode prog_40_method_6_code 45 = .ok (.getfield 16, 3) := by decide +kernel
theorem d11_48 : decode prog_40_method_6_code 48 = .ok (.iload_n 3, 1) := by decide +kernel
theorem d11_49 : decode prog_40_method_6_code 49 = .ok (.new 7, 3) := by decide +kernel
theorem d11_52 : decode prog_40_method_6_code 52 = .ok (.dup, 1) := by decide +kernel
theorem d11_53 : decode prog_40_method_6_code 53 = .ok (.invokespecial 9, 3) := by decide +kernel
theorem d11_56 : decode prog_40_method_6_code 56 = .ok (.aastore, 1) := by decide +kernel
theorem d11_57 : decode prog_40_method_6_code 57 = .ok (.aload_n 0, 1) := by decide +kernel
theorem d11_58 : decode prog_40_method_6_code 58 = .ok (.getfield 16, 3) := by decide +kernel
theorem d11_61 : decode prog_40_method_6_code 61 = .ok (.iload_n 3, 1) := by decide +kernel
theorem d11_62 : decode prog_40_method_6_code 62 = .ok (.aaload, 1) := by decide +kernel
theorem d11_63 : decode prog_40_method_6_code 63 = .ok (.areturn, 1) := by decide +kernel
theorem pn_11 : plainName "com/example/tristream/tristream/SampleGraph" = true := by first | (simp [plainName, overriddenIn]; done) | decide +kernel
theorem ef_11 (m : MethodId) (x0 : Addr) (x1 : Int64) : entryFrame m #[(.ref x0), (.long x1)] 4 = mkF m 0 #[.val (.ref x0), .val (.long x1), .second, .unset] [] := by first | (simp [entryFrame, mkF, argsToLocals, Value.category]; done) | rfl
def Q_nb (Z : State) (a : Addr) (kk : Int64) (G : GSt) (h0 : Heap) (n0 : Nat) (r : Option Value) (h : Heap) (L : List Loc) : Prop := ∃ (M : Addr) (G' : GSt) (i : Nat), r = some (.ref M) ∧ Fr n0 L ∧ h0.size ≤ h.size ∧ EK Z h0 h ∧ GR Z h n0 a G' ∧ M = G'.A (i + 1) ∧ NbR G.c G.KS kk G'.c G'.KS i ∧ ((G.c ≤ 2 → G.SS 0 = 4) → G'.c ≤ 2 → G'.SS 0 = 4) ∧ (GIn (G.KS 0) kk → G'.SS 0 = G.SS 0)
set_option maxRecDepth 65536 in
set_option maxHeartbeats 40000000 in
theorem rm_nb (l : Launch) (Z : State) (a0 : Array Value) (hw : ∀ d ∈ tables_1, d.before a0 Z = true) (ws : List Jvm.Cond) (a : Addr) (kk : Int64) (G : GSt) (h0 : Heap) (n0 : Nat) (Z0 : n0 ≤ h0.size) (hG : GR Z h0 n0 a G) (hS : G.SS 0 = 4 ∨ GIn (G.KS 0) kk) :
    MetFree l mn20 (head1 (Jvm.Cond.code mn20 prog_40_method_6_code 4 (some (.object "com/example/tristream/tristream/LongIndex")) :: ws) ({ frames := 3, cells := 5, slots := 22, locals := 48 } : Room)) (fun a_ U => a_ = #[(.ref a), (.long kk)] ∧ Z.Warmed39 U.vm ∧ U.heap = h0) (fun _ _ _ _ _ => True) (fun _ U o U' => ∃ v_ L_, o = .returned v_ ∧ Q_nb Z a kk G h0 n0 v_ U'.heap L_ ∧ FrameEnd U o U' L_ ({ frames := 3, cells := 5, slots := 22, locals := 48 } : Room).cells ({ frames := 3, cells := 5, slots := 22, locals := 48 } : Room).slots) := by
  refine MetFree.of_bodySF (plainFor_of_name pn_11) hisR ?_
  intro p e s m args below meth c s₁ Bd hml0 hP hK
  obtain ⟨rfl, hZ, hh⟩ := hP
  have hx := Bd.exec
  have hby := Bd.bytes
  have hlk : meth.locks = false := Bd.notSynchronized
  have hml : c.maxLocals = 4 := hml0
  have hown : s.vm.findClass "com/example/tristream/tristream/SampleGraph" = some m.cls := findClass_of_methodNamed Bd.named
  have hnm := (name_of_methodNamed Bd.named Bd.method).1
  have X0 : Stand p l e ({ frames := 3, cells := 5, slots := 22, locals := 48 } : Room) s m #[(.ref a), (.long kk)] below meth c s₁ [] 0 0 := Stand.of_body Bd
  have e0 : s₁.heap = h0 := by rw [← hh, Bd.state]; rfl
  have N0 := Fr.nil n0
  have K0 : Keep h0 h0 [] := Keep.refl _ _
  show OEnds p e below s (Q_nb Z a kk G h0 n0) _ _ _
  refine own_by (fun t k => castTop (ef_11 m a kk) k) ?_
  show OEnds p e below s _ _ _ (s₁.setTop (mkF m 0 #[(vr a), (vj kk), sd, un] []))
  obtain ⟨nb, N, kb, sb, z, sf, kn, kf, S, sl, en, eN, ekb, esb, eS, g_nb, g_N, g_kb, g_sb, Oa, Fnb, ON, Fkb, Fsb, hLI⟩ := gr_nodes hG
  have hOv : OvA Z h0 nb "com/example/tristream/tristream/LongIndex" := by rw [en]; exact hG.2.2.1
  have hlen := gr_len hG
  have hl4 : (G.KS 0).length ≤ 4 := li_4 hLI
  by_cases hin : GIn (G.KS 0) kk
  · show OEnds p e below s _ _ _ (s₁.setTop (mkF m 0 #[(vr a), (vj kk), sd, un] []))
    refine qaN 1 X0 hx hby d11_0 rfl rfl ?_
    refine qg 4 X0 hx hZ hown (tw34 hw) e0 (Oa.fld 0 rfl rfl) hby d11_1 rfl fun T1 X1 e1 => ?_
    refine qlN 5 X1 hx hby d11_4 rfl rfl ?_
    obtain ⟨v2, T2, L2, h2, X2, e2, hQ2, st2⟩ := own_callV X1 hx hZ (y := mn8) hown (tw71 hw) (tw72 hw) (tw74 hw) (tw73 hw) (tw75 hw) (tw16 hw) (by decide) ON.exa (rm_liaddF l Z a0 hw [] N kk kb sb z sf kn kf S sl (G.KS 0) h0 n0 Z0 ON Fkb Fsb hLI hin) e1 (g := (mkF m 5 #[(vr a), (vj kk), sd, un] [(.long kk), (.ref N)])) rfl (by rw [hml]; rfl) (argsL := [(.long kk)]) (rest := []) (lenOf pd_pJrI rfl) rfl (W := 0) (by show 2 * 0 + _ ≤ _; exact Nat.le_of_eq rfl) (hb hby d11_5) (by decide) (by decide) (by decide) (by decide)
    obtain ⟨r2, rfl, rfl, hq2, hir2⟩ := hQ2
    rw [hq2] at e2
    have N2 := Fr.app N0 (Fr.nil n0)
    refine qtr 8 #[(vr a), (vj kk), sd, un] [(.int r2)] st2 ?_
    refine qsiN 9 #[(vr a), (vj kk), sd, (vi r2)] X2 hx hby d11_8 rfl rfl ?_
    obtain ⟨i, hi, hki, hri⟩ := idx_in hir2 hin
    have hic : i < G.c := by rw [← hlen]; exact hi
    obtain ⟨M, eM⟩ : ∃ M, M = G.A (i + 1) := ⟨_, rfl⟩
    refine qiN 10 X2 hx hby d11_9 rfl rfl ?_
    refine qaN 11 X2 hx hby d11_10 rfl rfl ?_
    refine qg 14 X2 hx hZ hown (tw37 hw) e2 (Oa.fld 1 rfl rfl) hby d11_11 rfl fun T3 X3 e3 => ?_
    refine qn 15 (16 : Int32) X3 hx hZ e3 Fnb (by decide) hby d11_14 rfl ?_
    refine q_cmy 35 X3 hx hby d11_15 rfl (feq (idx_ne16 hir2 hl4)).2 ?_
    refine qaN 36 X3 hx hby d11_35 rfl rfl ?_
    refine qg 39 X3 hx hZ hown (tw37 hw) e3 (Oa.fld 1 rfl rfl) hby d11_36 rfl fun T4 X4 e4 => ?_
    refine qiN 40 X4 hx hby d11_39 rfl rfl ?_
    refine own_by (own_aaload X4 hx hZ e4 Fnb rfl i hri (by omega) (v := (.ref M)) (nbf_at hic eM) (g := (mkF m 40 #[(vr a), (vj kk), sd, (vi r2)] [(.int r2), (.ref nb)])) rfl rfl (hb hby d11_40)) ?_
    show OEnds p e below s _ _ _ (T4.setTop (mkF m 41 #[(vr a), (vj kk), sd, (vi r2)] [(.ref M)]))
    refine own_by (fun _ k => XS.ifnonnullYes X4.here hx rfl (pc0 := 41) (pc' := 57) rfl (hb hby d11_41) rfl (by decide) (by decide) k) ?_
    show OEnds p e below s _ _ _ (T4.setTop (mkF m 57 #[(vr a), (vj kk), sd, (vi r2)] []))
    refine qaN 58 X4 hx hby d11_57 rfl rfl ?_
    refine qg 61 X4 hx hZ hown (tw37 hw) e4 (Oa.fld 1 rfl rfl) hby d11_58 rfl fun T5 X5 e5 => ?_
    refine qiN 62 X5 hx hby d11_61 rfl rfl ?_
    refine own_by (own_aaload X5 hx hZ e5 Fnb rfl i hri (by omega) (v := (.ref M)) (nbf_at hic eM) (g := (mkF m 62 #[(vr a), (vj kk), sd, (vi r2)] [(.int r2), (.ref nb)])) rfl rfl (hb hby d11_62)) ?_
    show OEnds p e below s _ _ _ (T5.setTop (mkF m 63 #[(vr a), (vj kk), sd, (vi r2)] [(.ref M)]))
    exact own_retA X5 hx hlk rfl Bd.returns rfl (hb hby d11_63) (by rw [e5]; exact ⟨M, G, i, rfl, N2, Nat.le_refl _, EK.refl, hG, eM, ⟨hic, hki, Or.inl ⟨rfl, rfl⟩⟩, fun q => q, fun _ => rfl⟩) (by decide) (by decide)
  · have hS4 : S = 4 := eS.trans (hS.resolve_right hin)
    subst hS4
    obtain ⟨rfl, rfl⟩ := li_four hLI rfl
    have hc2 : G.c ≤ 2 := by have := (li_len hLI).2.1; omega
    have Kw6 : Keep h0 h0 [N, kb, sb, nb] := Keep.refl _ _
    show OEnds p e below s _ _ _ (s₁.setTop (mkF m 0 #[(vr a), (vj kk), sd, un] []))
    refine qaN 1 X0 hx hby d11_0 rfl rfl ?_
    refine qg 4 X0 hx hZ hown (tw34 hw) e0 (Oa.fld 0 rfl rfl) hby d11_1 rfl fun T7 X7 e7 => ?_
    refine qlN 5 X7 hx hby d11_4 rfl rfl ?_
    obtain ⟨v8, T8, L8, h8, X8, e8, hQ8, st8⟩ := own_callV X7 hx hZ (y := mn8) hown (tw71 hw) (tw72 hw) (tw74 hw) (tw73 hw) (tw75 hw) (tw16 hw) (by decide) ON.exa (rm_liadd l Z a0 hw [] N kk kb sb z kf sl (G.KS 0) h0 n0 Z0 ON Fkb Fsb g_N g_kb g_sb hLI) e7 (g := (mkF m 5 #[(vr a), (vj kk), sd, un] [(.long kk), (.ref N)])) rfl (by rw [hml]; rfl) (argsL := [(.long kk)]) (rest := []) (lenOf pd_pJrI rfl) rfl (W := 0) (by show 2 * 0 + _ ≤ _; exact Nat.le_of_eq rfl) (hb hby d11_5) (by decide) (by decide) (by decide) (by decide)
    obtain ⟨rv8, rfl, Nq8, Kq8, kb8, sb8, z8, sf8, kn8, kf8, S8, sl8, ks8, ok8, os8, gk8, gs8, hrel8, hix8, hsz8, hli8, O8, Fk8, Fs8⟩ := hQ8
    have ne_a_kb8 : a ≠ kb8 := by
      rcases ok8 with q | q
      · rw [q]; exact (Oa.ne_fa (tw6 hw) Fkb)
      · exact Nat.ne_of_lt (Nat.lt_of_lt_of_le Oa.lt q)
    have ne_a_sb8 : a ≠ sb8 := by
      rcases os8 with q | q
      · rw [q]; exact (Oa.ne_fa (tw6 hw) Fsb)
      · exact Nat.ne_of_lt (Nat.lt_of_lt_of_le Oa.lt q)
    have ne_nb_kb8 : nb ≠ kb8 := by
      rcases ok8 with q | q
      · rw [q]; exact (Fnb.ne_ty Fkb (by decide))
      · exact Nat.ne_of_lt (Nat.lt_of_lt_of_le Fnb.lt q)
    have ne_nb_sb8 : nb ≠ sb8 := by
      rcases os8 with q | q
      · rw [q]; exact (Fnb.ne_ty Fsb (by decide))
      · exact Nat.ne_of_lt (Nat.lt_of_lt_of_le Fnb.lt q)
    have N8 := Fr.app N0 Nq8
    have K8 := Kw6.trans Kq8 (allS (wi 0 rfl) (allS (wi 1 rfl) (allS (wi 2 rfl) all0)))
    have Z8 := Nat.le_trans Z0 Kq8.1
    refine qtr 8 #[(vr a), (vj kk), sd, un] [(.int rv8)] st8 ?_
    refine qsiN 9 #[(vr a), (vj kk), sd, (vi rv8)] X8 hx hby d11_8 rfl rfl ?_
    obtain rfl := addR_new hrel8 hin
    have hri := idx_app hix8 hin
    rw [hlen] at hri
    refine qiN 10 X8 hx hby d11_9 rfl rfl ?_
    refine qaN 11 X8 hx hby d11_10 rfl rfl ?_
    have O10 := (Oa.keep Kq8 (ninS (Oa.exa.ne ON.exa ne_sl) (ninS (Oa.ne_fa (tw6 hw) Fkb) (ninS (Oa.ne_fa (tw6 hw) Fsb) nin0))))
    refine qg 14 X8 hx hZ hown (tw37 hw) e8 (O10.fld 1 rfl rfl) hby d11_11 rfl fun T9 X9 e9 => ?_
    have F11 := (Fnb.keep Kq8 (ninS (Ne.symm (ON.ne_fa (tw15 hw) Fnb)) (ninS (Fnb.ne_ty Fkb (by decide)) (ninS (Fnb.ne_ty Fsb (by decide)) nin0))))
    refine qn 15 (16 : Int32) X9 hx hZ e9 F11 (by decide) hby d11_14 rfl ?_
    refine q_cmy 35 X9 hx hby d11_15 rfl (feq (idx_ne16 hix8 (li_4 hli8))).2 ?_
    refine qaN 36 X9 hx hby d11_35 rfl rfl ?_
    refine qg 39 X9 hx hZ hown (tw37 hw) e9 (O10.fld 1 rfl rfl) hby d11_36 rfl fun T12 X12 e12 => ?_
    refine qiN 40 X12 hx hby d11_39 rfl rfl ?_
    refine own_by (own_aaload X12 hx hZ e12 F11 rfl G.c hri (by omega) (v := .null) (nbf_out (Nat.lt_irrefl _)) (g := (mkF m 40 #[(vr a), (vj kk), sd, (vi rv8)] [(.int rv8), (.ref nb)])) rfl rfl (hb hby d11_40)) ?_
    show OEnds p e below s _ _ _ (T12.setTop (mkF m 41 #[(vr a), (vj kk), sd, (vi rv8)] [.null]))
    refine own_by (fun _ k => XS.ifnonnullNo X12.here hx rfl (hb hby d11_41) rfl k) ?_
    show OEnds p e below s _ _ _ (T12.setTop (mkF m 44 #[(vr a), (vj kk), sd, (vi rv8)] []))
    refine qaN 45 X12 hx hby d11_44 rfl rfl ?_
    refine qg 48 X12 hx hZ hown (tw37 hw) e12 (O10.fld 1 rfl rfl) hby d11_45 rfl fun T13 X13 e13 => ?_
    refine qiN 49 X13 hx hby d11_48 rfl rfl ?_
    obtain ⟨T14, h14, X14, e14, E14, A14, D14, -, st14⟩ := newO X13 hx hZ hown (tw14 hw) (tw15 hw) (tw16 hw) e13 (g := (mkF m 49 #[(vr a), (vj kk), sd, (vi rv8)] [(.int rv8), (.ref nb)])) rfl (hb hby d11_49) (by decide) (by decide)
    obtain ⟨nb14, g14⟩ : ∃ z, z = h8.size := ⟨_, rfl⟩
    rw [← g14] at A14 D14 st14
    have g_nb14 : n0 ≤ nb14 := Nat.le_trans Z8 (Nat.le_of_eq g14.symm)
    have sz_nb14 : h0.size ≤ nb14 := Nat.le_trans K8.1 (Nat.le_of_eq g14.symm)
    have K14 := K8.ext E14
    have Z14 := Nat.le_trans Z8 E14.1
    have O14 : Obj Z h14 nb14 "com/example/tristream/tristream/LongIndex" sch_li [.null, .null, (.int 0), (.int 0)] := Obj.new (so_sch_li hw) A14 D14 [(.array .long), (.array .int), .int, .int] (by decide)
    refine qat 52 #[(vr a), (vj kk), sd, (vi rv8)] [(.ref nb14), (.int rv8), (.ref nb)] st14 ?_
    refine q_dup 53 X14 hx hby d11_52 rfl rfl ?_
    obtain ⟨v15, T15, L15, h15, X15, e15, hQ15, st15⟩ := own_callI X14 hx hZ (y := mn3) rfl hown (tw17 hw) (tw18 hw) (tw19 hw) (tw16 hw) (by decide) (rm_liinit l Z a0 hw [] nb14 h14 n0 Z14 O14 g_nb14) e14 (g := (mkF m 53 #[(vr a), (vj kk), sd, (vi rv8)] [(.ref nb14), (.ref nb14), (.int rv8), (.ref nb)])) rfl (by rw [hml]; rfl) (argsL := []) (rest := [(.ref nb14), (.int rv8), (.ref nb)]) (lenOf pd_prV rfl) rfl (W := 3) (by show 2 * 0 + _ ≤ _; exact Nat.le_of_eq rfl) (hb hby d11_53) (by decide) (by decide) (by decide) (by decide)
    have O16 := (O10.ext E14)
    have O17 := (O8.ext E14)
    have F18 := (F11.ext E14)
    have F19 := (Fk8.ext E14)
    have F20 := (Fs8.ext E14)
    obtain ⟨rfl, Nq15, Kq15, kb15, sb15, ⟨sk15, ss15⟩, ⟨gk15, gs15⟩, nk15, O15, Fk15, Fs15⟩ := hQ15
    have N15 := Fr.app N8 Nq15
    have K15 := K14.trans Kq15 (allS (Or.inr sz_nb14) all0)
    have Z15 := Nat.le_trans Z14 Kq15.1
    refine qtr 56 #[(vr a), (vj kk), sd, (vi rv8)] [(.ref nb14), (.int rv8), (.ref nb)] st15 ?_
    have O22 := (O16.keep Kq15 (ninS (Nat.ne_of_lt (Nat.lt_of_lt_of_le O10.lt (Nat.le_of_eq g14.symm))) nin0))
    have O23 := (O17.keep Kq15 (ninS (Nat.ne_of_lt (Nat.lt_of_lt_of_le O8.lt (Nat.le_of_eq g14.symm))) nin0))
    have F24 := (F18.keep Kq15 (ninS (Nat.ne_of_lt (Nat.lt_of_lt_of_le F11.lt (Nat.le_of_eq g14.symm))) nin0))
    have F25 := (F19.keep Kq15 (ninS (Nat.ne_of_lt (Nat.lt_of_lt_of_le Fk8.lt (Nat.le_of_eq g14.symm))) nin0))
    have F26 := (F20.keep Kq15 (ninS (Nat.ne_of_lt (Nat.lt_of_lt_of_le Fs8.lt (Nat.le_of_eq g14.symm))) nin0))
    obtain ⟨T21, h21, X21, e21, W21, st21⟩ := own_aastore X15 hx hZ e15 F24 rfl G.c hri (by omega) (sto_ref F24 (hOv.keep K15) O15.exa) (g := (mkF m 56 #[(vr a), (vj kk), sd, (vi rv8)] [(.ref nb14), (.int rv8), (.ref nb)])) rfl rfl (hb hby d11_56)
    have F21 : FA Z h21 nb (.object "com/example/tristream/tristream/LongIndex") 16 (fun j_ => if j_ = G.c then (.ref nb14) else (nbf G) j_) := F24.set W21
    have N21 := Fr.snoc X21 N15 g_nb
    have Z21 := Nat.le_trans Z15 (Keep.of_wr W21).1
    have K21 := K15.wr W21 (wi 3 rfl)
    refine qat 57 #[(vr a), (vj kk), sd, (vi rv8)] [] st21 ?_
    refine qaN 58 X21 hx hby d11_57 rfl rfl ?_
    have O28 := (O22.other W21 (O22.ne_fa (tw6 hw) F24))
    refine qg 61 X21 hx hZ hown (tw37 hw) e21 (O28.fld 1 rfl rfl) hby d11_58 rfl fun T27 X27 e27 => ?_
    refine qiN 62 X27 hx hby d11_61 rfl rfl ?_
    refine own_by (own_aaload X27 hx hZ e27 F21 rfl G.c hri (by omega) (v := (.ref nb14)) (if_pos rfl) (g := (mkF m 62 #[(vr a), (vj kk), sd, (vi rv8)] [(.int rv8), (.ref nb)])) rfl rfl (hb hby d11_62)) ?_
    show OEnds p e below s _ _ _ (T27.setTop (mkF m 63 #[(vr a), (vj kk), sd, (vi rv8)] [(.ref nb14)]))
    have O29 := (O23.other W21 (O23.ne_fa (tw15 hw) F24))
    have F30 := (F25.other W21 (Ne.symm ne_nb_kb8))
    have F31 := (F26.other W21 (Ne.symm ne_nb_sb8))
    have PN : LIO Z h21 N kb8 sb8 _ _ := ⟨_, _, _, _, _, O29, F30, F31, hli8⟩
    have O32 := (O15.other W21 (Ne.symm (Nat.ne_of_lt (Nat.lt_of_lt_of_le F11.lt (Nat.le_of_eq g14.symm)))))
    have F33 := (Fk15.other W21 (Ne.symm (Nat.ne_of_lt (Nat.lt_of_lt_of_le F18.lt sk15))))
    have F34 := (Fs15.other W21 (Ne.symm (Nat.ne_of_lt (Nat.lt_of_lt_of_le F18.lt ss15))))
    have PB : LIO Z h21 nb14 kb15 sb15 _ _ := ⟨_, _, _, _, _, O32, F33, F34, li_new⟩
    obtain ⟨G', i', hG', eM', hnb', hJ', hS'⟩ := gr_newQ (tw15 hw) (tw6 hw) hG K21 en eN ekb esb F21 PN ok8 os8 gk8 gs8 PB sz_nb14 (Nat.le_trans K14.1 sk15) (Nat.le_trans K14.1 ss15) g_nb14 gk15 gs15 (Nat.ne_of_lt (Nat.lt_of_lt_of_le F19.lt sk15)) (Nat.ne_of_lt (Nat.lt_of_lt_of_le F20.lt ss15)) hin (fun q => (hsz8 q).1)
    exact own_retA X27 hx hlk rfl Bd.returns rfl (hb hby d11_63) (by rw [e27]; exact ⟨_, G', i', rfl, N21, K21.1, ek_new (tw40 hw) hG K21 en eN ekb esb, hG', eM', hnb', hJ', hS'⟩) (by decide) (by decide)
theorem add_pre {G G1 G2 : GSt} {eu ev : Int64} {i : Nat} {x : List Int64} (hS4 : G.SS 0 = 4) (hcq : G.c ≤ 1 ∨ GIn (G.KS 0) eu ∨ GIn (G.KS 0) ev) (hlen : (G.KS 0).length = G.c) (hnb : NbR G.c G.KS eu G1.c G1.KS i) (hJ : (G.c ≤ 2 → G.SS 0 = 4) → G1.c ≤ 2 → G1.SS 0 = 4) (hSS : GIn (G.KS 0) eu → G1.SS 0 = G.SS 0) (e1 : G2.SS = G1.SS) (e2 : G2.KS = gup G1.KS (i + 1) x) (e3 : G2.c = G1.c) : G2.SS 0 = 4 ∨ GIn (G2.KS 0) ev := by
  rcases hcq with h | h | h
  · exact Or.inl (by rw [e1]; exact hJ (fun _ => hS4) (by have := (nb_c hnb).2; omega))
  · exact Or.inl (by rw [e1, hSS h]; exact hS4)
  · refine Or.inr ?_
    rw [e2, gup_ne (by omega)]
    exact nb_in hlen hnb h
theorem d9_0 : decode prog_40_method_2_code 0 = .ok (.aload_n 0, 1) := by decide +kernel
theorem d9_1 : decode prog_40_method_2_code 1 = .ok (.aload_n 1, 1) := by decide +kernel
theorem d9_2 : decode prog_40_method_2_code 2 = .ok (.invokevirtual 20, 3) := by decide +kernel
theorem d9_5 : decode prog_40_method_2_code 5 = .ok (.invokevirtual 26, 3) := by decide +kernel
theorem d9_8 : decode prog_40_method_2_code 8 = .ok (.aload_n 1, 1) := by decide +kernel
theorem d9_9 : decode prog_40_method_2_code 9 = .ok (.invokevirtual 30, 3) := by decide +kernel
theorem d9_12 : decode prog_40_method_2_code 12 = .ok (.invokevirtual 33, 3) := by decide +kernel
theorem d9_15 : decode prog_40_method_2_code 15 = .ok (.pop, 1) := by decide +kernel
theorem d9_16 : decode prog_40_method_2_code 16 = .ok (.aload_n 0, 1) := by decide +kernel
theorem d9_17 : decode prog_40_method_2_code 17 = .ok (.aload_n 1, 1) := by decide +kernel
theorem d9_18 : decode prog_40_method_2_code 18 = .ok (.invokevirtual 30, 3) := by decide +kernel
theorem d9_21 : decode prog_40_method_2_code 21 = .ok (.invokevirtual 26, 3) := by decide +kernel
theorem d9_24 : decode prog_40_method_2_code 24 = .ok (.aload_n 1, 1) := by decide +kernel
theorem d9_25 : decode prog_40_method_2_code 25 = .ok (.invokevirtual 20, 3) := by decide +kernel
theorem d9_28 : decode prog_40_method_2_code 28 = .ok (.invokevirtual 33, 3) := by decide +kernel
theorem d9_31 : decode prog_40_method_2_code 31 = .ok (.pop, 1) := by decide +kernel
theorem d9_32 : decode prog_40_method_2_code 32 = .ok (.return_, 1) := by decide +kernel
theorem pn_9 : plainName "com/example/tristream/tristream/SampleGraph" = true := by first | (simp [plainName, overriddenIn]; done) | decide +kernel
theorem ef_9 (m : MethodId) (x0 : Addr) (x1 : Addr) : entryFrame m #[(.ref x0), (.ref x1)] 2 = mkF m 0 #[.val (.ref x0), .val (.ref x1)] [] := by first | (simp [entryFrame, mkF, argsToLocals, Value.category]; done) | rfl
def Q_gadd (Z : State) (a : Addr) (eu ev : Int64) (G : GSt) (Lb : Nat) (h0 : Heap) (n0 : Nat) (r : Option Value) (h : Heap) (L : List Loc) : Prop := r = none ∧ Fr n0 L ∧ h0.size ≤ h.size ∧ EK Z h0 h ∧ ∃ G' : GSt, GR Z h n0 a G' ∧ (∀ x y, GEd G'.c G'.KS x y ↔ GEd G.c G.KS x y ∨ Sm x y eu ev) ∧ (∀ j, j < G'.c → (G'.KS (j + 1)).length ≤ Lb + 1) ∧ (G'.c ≤ 2 → G'.SS 0 = 4) ∧ G'.c ≤ G.c + 2
set_option maxRecDepth 65536 in
set_option maxHeartbeats 40000000 in
theorem rm_gadd (l : Launch) (Z : State) (a0 : Array Value) (hw : ∀ d ∈ tables_1, d.before a0 Z = true) (ws : List Jvm.Cond) (a : Addr) (eg : Addr) (eu : Int64) (ev : Int64) (G : GSt) (Lb : Nat) (h0 : Heap) (n0 : Nat) (Z0 : n0 ≤ h0.size) (hG : GR Z h0 n0 a G) (Oe : Obj Z h0 eg "com/example/tristream/tristream/Edge" sch_e [(.long eu), (.long ev)]) (hpq : eu ≠ ev) (hS4 : G.SS 0 = 4) (hcq : G.c ≤ 1 ∨ GIn (G.KS 0) eu ∨ GIn (G.KS 0) ev) (hL : ∀ j, j < G.c → (G.KS (j + 1)).length ≤ Lb) (hL1 : Lb ≤ 1) :
    MetFree l mn21 (head1 (Jvm.Cond.code mn21 prog_40_method_2_code 2 none :: ws) ({ frames := 4, cells := 14, slots := 68, locals := 63 } : Room)) (fun a_ U => a_ = #[(.ref a), (.ref eg)] ∧ Z.Warmed39 U.vm ∧ U.heap = h0) (fun _ _ _ _ _ => True) (fun _ U o U' => ∃ v_ L_, o = .returned v_ ∧ Q_gadd Z a eu ev G Lb h0 n0 v_ U'.heap L_ ∧ FrameEnd U o U' L_ ({ frames := 4, cells := 14, slots := 68, locals := 63 } : Room).cells ({ frames := 4, cells := 14, slots := 68, locals := 63 } : Room).slots) := by
  refine MetFree.of_bodySF (plainFor_of_name pn_9) hisR ?_
  intro p e s m args below meth c s₁ Bd hml0 hP hK
  obtain ⟨rfl, hZ, hh⟩ := hP
  have hx := Bd.exec
  have hby := Bd.bytes
  have hlk : meth.locks = false := Bd.notSynchronized
  have hml : c.maxLocals = 2 := hml0
  have hown : s.vm.findClass "com/example/tristream/tristream/SampleGraph" = some m.cls := findClass_of_methodNamed Bd.named
  have hnm := (name_of_methodNamed Bd.named Bd.method).1
  have X0 : Stand p l e ({ frames := 4, cells := 14, slots := 68, locals := 63 } : Room) s m #[(.ref a), (.ref eg)] below meth c s₁ [] 0 0 := Stand.of_body Bd
  have e0 : s₁.heap = h0 := by rw [← hh, Bd.state]; rfl
  have N0 := Fr.nil n0
  have K0 : Keep h0 h0 [] := Keep.refl _ _
  show OEnds p e below s (Q_gadd Z a eu ev G Lb h0 n0) _ _ _
  refine own_by (fun t k => castTop (ef_9 m a eg) k) ?_
  show OEnds p e below s _ _ _ (s₁.setTop (mkF m 0 #[(vr a), (vr eg)] []))
  have hlen := gr_len hG
  refine qaN 1 X0 hx hby d9_0 rfl rfl ?_
  refine qaN 2 X0 hx hby d9_1 rfl rfl ?_
  obtain ⟨T1, X1, e1, st1⟩ := own_callR X0 hx hZ (y := mn16) hown (tw62 hw) (tw63 hw) (tw65 hw) (tw64 hw) (tw66 hw) (tw41 hw) (by decide) Oe.exa (rm_geu l Z a0 hw [] eg eu ev h0 n0 Z0 Oe) e0 (g := (mkF m 2 #[(vr a), (vr eg)] [(.ref eg), (.ref a)])) rfl (by rw [hml]; rfl) (argsL := []) (rest := [(.ref a)]) (lenOf pd_prJ rfl) rfl (W := 1) (by show 2 * 0 + _ ≤ _; exact Nat.le_of_eq rfl) (hb hby d9_2) (by decide) (by decide) (by decide) (by decide)
  refine qat 5 #[(vr a), (vr eg)] [(.long (geu_r eu)), (.ref a)] st1 ?_
  obtain ⟨v2, T2, L2, h2, X2, e2, hQ2, st2⟩ := own_callX X1 hx hZ (y := mn20) hown (tw67 hw) (tw68 hw) (tw69 hw) (tw70 hw) (tw7 hw) (tw6 hw) (by decide) hG.1.exa (rm_nb l Z a0 hw [] a (geu_r eu) G h0 n0 Z0 hG (Or.inl hS4)) e1 (g := (mkF m 5 #[(vr a), (vr eg)] [(.long (geu_r eu)), (.ref a)])) rfl (by rw [hml]; rfl) (argsL := [(.long (geu_r eu))]) (rest := []) (lenOf pd_pJrLcom_example_tristream_tristream_LongIndex_ rfl) rfl (W := 0) (by show 2 * 0 + _ ≤ _; exact Nat.le_of_eq rfl) (hb hby d9_5) (by decide) (by decide) (by decide) (by decide)
  obtain ⟨M2, G2, i2, rfl, Nq2, hsz2, hek2, hG2, eM2, hnb2, hJ2, hSS2⟩ := hQ2
  have Oe2_eg := hek2 _ _ Oe
  have N2 := Fr.app N0 Nq2
  have Z2 : n0 ≤ h2.size := Nat.le_trans Z0 hsz2
  have ekc2 := (EK.refl (Z := Z)).trans hek2
  have slc2 : h0.size ≤ h2.size := Nat.le_trans (Nat.le_refl _) hsz2
  obtain ⟨mk2, ms2, mz2, mf2, ml2, ek2, es2, gM2, gk2, gs2, OM2, Fk2, Fs2, hLm2⟩ := gr_memM hG2 hnb2.1 eM2
  refine qtr 8 #[(vr a), (vr eg)] [(.ref M2)] st2 ?_
  refine qaN 9 X2 hx hby d9_8 rfl rfl ?_
  obtain ⟨T3, X3, e3, st3⟩ := own_callR X2 hx hZ (y := mn17) hown (tw88 hw) (tw89 hw) (tw91 hw) (tw90 hw) (tw92 hw) (tw41 hw) (by decide) Oe2_eg.exa (rm_gev l Z a0 hw [] eg eu ev h2 n0 Z2 Oe2_eg) e2 (g := (mkF m 9 #[(vr a), (vr eg)] [(.ref eg), (.ref M2)])) rfl (by rw [hml]; rfl) (argsL := []) (rest := [(.ref M2)]) (lenOf pd_prJ rfl) rfl (W := 1) (by show 2 * 0 + _ ≤ _; exact Nat.le_of_eq rfl) (hb hby d9_9) (by decide) (by decide) (by decide) (by decide)
  refine qat 12 #[(vr a), (vr eg)] [(.long (gev_r ev)), (.ref M2)] st3 ?_
  obtain ⟨v4, T4, L4, h4, X4, e4, hQ4, st4⟩ := own_callV X3 hx hZ (y := mn8) hown (tw71 hw) (tw72 hw) (tw74 hw) (tw73 hw) (tw75 hw) (tw16 hw) (by decide) OM2.exa (rm_liadd l Z a0 hw [] M2 (gev_r ev) mk2 ms2 mz2 mf2 ml2 (G2.KS (i2 + 1)) h2 n0 Z2 OM2 Fk2 Fs2 gM2 gk2 gs2 hLm2) e3 (g := (mkF m 12 #[(vr a), (vr eg)] [(.long (gev_r ev)), (.ref M2)])) rfl (by rw [hml]; rfl) (argsL := [(.long (gev_r ev))]) (rest := []) (lenOf pd_pJrI rfl) rfl (W := 0) (by show 2 * 0 + _ ≤ _; exact Nat.le_of_eq rfl) (hb hby d9_12) (by decide) (by decide) (by decide) (by decide)
  obtain ⟨rv4, rfl, Nq4, Kq4, kb4, sb4, z4, sf4, kn4, kf4, S4, sl4, ks4, ok4, os4, gk4, gs4, hrel4, hix4, hsz4, hli4, O4, Fk4, Fs4⟩ := hQ4
  have ne_eg_kb4 : eg ≠ kb4 := by
    rcases ok4 with q | q
    · rw [q]; exact (Oe2_eg.ne_fa (tw40 hw) Fk2)
    · exact Nat.ne_of_lt (Nat.lt_of_lt_of_le Oe2_eg.lt q)
  have ne_eg_sb4 : eg ≠ sb4 := by
    rcases os4 with q | q
    · rw [q]; exact (Oe2_eg.ne_fa (tw40 hw) Fs2)
    · exact Nat.ne_of_lt (Nat.lt_of_lt_of_le Oe2_eg.lt q)
  have ne_a_kb4 : a ≠ kb4 := by
    rcases ok4 with q | q
    · rw [q]; exact (hG2.1.ne_fa (tw6 hw) Fk2)
    · exact Nat.ne_of_lt (Nat.lt_of_lt_of_le hG2.1.lt q)
  have ne_a_sb4 : a ≠ sb4 := by
    rcases os4 with q | q
    · rw [q]; exact (hG2.1.ne_fa (tw6 hw) Fs2)
    · exact Nat.ne_of_lt (Nat.lt_of_lt_of_le hG2.1.lt q)
  have N4 := Fr.app N2 Nq4
  have Z4 := Nat.le_trans Z2 Kq4.1
  refine qtr 15 #[(vr a), (vr eg)] [(.int rv4)] st4 ?_
  have hb4 : ks4.length ≤ 2 := Nat.le_trans (addR_len hrel4 (nb_len hnb2 hL i2 hnb2.1)) (by omega)
  obtain ⟨rfl, rfl, rfl⟩ := hsz4 hb4
  obtain ⟨G4, hG4, ec4, eSS4, eKS4⟩ := gr_updQ (tw15 hw) (tw6 hw) hG2 hnb2.1 Kq4 eM2 ek2 es2 ⟨_, _, _, _, _, O4, Fk4, Fs4, hli4⟩ ok4 os4 gk4 gs4
  have ekc4 := ekc2.trans (ek_upd (tw40 hw) hG2 hnb2.1 Kq4 eM2 ek2 es2)
  have slc4 : h0.size ≤ h4.size := Nat.le_trans slc2 Kq4.1
  have O5 := (Oe2_eg.keep Kq4 (ninS (Oe2_eg.exa.ne OM2.exa ne_el) (ninS (Oe2_eg.ne_fa (tw40 hw) Fk2) (ninS (Oe2_eg.ne_fa (tw40 hw) Fs2) nin0))))
  show OEnds p e below s _ _ _ (T4.setTop (mkF m 15 #[(vr a), (vr eg)] [(.int rv4)]))
  refine own_by (fun _ k => XS.pop X4.here hx rfl (hb hby d9_15) rfl rfl k) ?_
  show OEnds p e below s _ _ _ (T4.setTop (mkF m 16 #[(vr a), (vr eg)] []))
  refine qaN 17 X4 hx hby d9_16 rfl rfl ?_
  refine qaN 18 X4 hx hby d9_17 rfl rfl ?_
  obtain ⟨T6, X6, e6, st6⟩ := own_callR X4 hx hZ (y := mn17) hown (tw88 hw) (tw89 hw) (tw91 hw) (tw90 hw) (tw92 hw) (tw41 hw) (by decide) O5.exa (rm_gev l Z a0 hw [] eg eu ev h4 n0 Z4 O5) e4 (g := (mkF m 18 #[(vr a), (vr eg)] [(.ref eg), (.ref a)])) rfl (by rw [hml]; rfl) (argsL := []) (rest := [(.ref a)]) (lenOf pd_prJ rfl) rfl (W := 1) (by show 2 * 0 + _ ≤ _; exact Nat.le_of_eq rfl) (hb hby d9_18) (by decide) (by decide) (by decide) (by decide)
  refine qat 21 #[(vr a), (vr eg)] [(.long (gev_r ev)), (.ref a)] st6 ?_
  obtain ⟨v7, T7, L7, h7, X7, e7, hQ7, st7⟩ := own_callX X6 hx hZ (y := mn20) hown (tw67 hw) (tw68 hw) (tw69 hw) (tw70 hw) (tw7 hw) (tw6 hw) (by decide) hG4.1.exa (rm_nb l Z a0 hw [] a (gev_r ev) G4 h4 n0 Z4 hG4 (add_pre hS4 hcq hlen hnb2 hJ2 hSS2 eSS4 eKS4 ec4)) e6 (g := (mkF m 21 #[(vr a), (vr eg)] [(.long (gev_r ev)), (.ref a)])) rfl (by rw [hml]; rfl) (argsL := [(.long (gev_r ev))]) (rest := []) (lenOf pd_pJrLcom_example_tristream_tristream_LongIndex_ rfl) rfl (W := 0) (by show 2 * 0 + _ ≤ _; exact Nat.le_of_eq rfl) (hb hby d9_21) (by decide) (by decide) (by decide) (by decide)
  obtain ⟨M7, G7, i7, rfl, Nq7, hsz7, hek7, hG7, eM7, hnb7, hJ7, hSS7⟩ := hQ7
  have Oe7_eg := hek7 _ _ O5
  have N7 := Fr.app N4 Nq7
  have Z7 : n0 ≤ h7.size := Nat.le_trans Z4 hsz7
  have ekc7 := ekc4.trans hek7
  have slc7 : h0.size ≤ h7.size := Nat.le_trans slc4 hsz7
  obtain ⟨mk7, ms7, mz7, mf7, ml7, ek7, es7, gM7, gk7, gs7, OM7, Fk7, Fs7, hLm7⟩ := gr_memM hG7 hnb7.1 eM7
  refine qtr 24 #[(vr a), (vr eg)] [(.ref M7)] st7 ?_
  have hnc := hnb7
  rw [ec4, eKS4] at hnc
  refine qaN 25 X7 hx hby d9_24 rfl rfl ?_
  obtain ⟨T8, X8, e8, st8⟩ := own_callR X7 hx hZ (y := mn16) hown (tw62 hw) (tw63 hw) (tw65 hw) (tw64 hw) (tw66 hw) (tw41 hw) (by decide) Oe7_eg.exa (rm_geu l Z a0 hw [] eg eu ev h7 n0 Z7 Oe7_eg) e7 (g := (mkF m 25 #[(vr a), (vr eg)] [(.ref eg), (.ref M7)])) rfl (by rw [hml]; rfl) (argsL := []) (rest := [(.ref M7)]) (lenOf pd_prJ rfl) rfl (W := 1) (by show 2 * 0 + _ ≤ _; exact Nat.le_of_eq rfl) (hb hby d9_25) (by decide) (by decide) (by decide) (by decide)
  refine qat 28 #[(vr a), (vr eg)] [(.long (geu_r eu)), (.ref M7)] st8 ?_
  obtain ⟨v9, T9, L9, h9, X9, e9, hQ9, st9⟩ := own_callV X8 hx hZ (y := mn8) hown (tw71 hw) (tw72 hw) (tw74 hw) (tw73 hw) (tw75 hw) (tw16 hw) (by decide) OM7.exa (rm_liadd l Z a0 hw [] M7 (geu_r eu) mk7 ms7 mz7 mf7 ml7 (G7.KS (i7 + 1)) h7 n0 Z7 OM7 Fk7 Fs7 gM7 gk7 gs7 hLm7) e8 (g := (mkF m 28 #[(vr a), (vr eg)] [(.long (geu_r eu)), (.ref M7)])) rfl (by rw [hml]; rfl) (argsL := [(.long (geu_r eu))]) (rest := []) (lenOf pd_pJrI rfl) rfl (W := 0) (by show 2 * 0 + _ ≤ _; exact Nat.le_of_eq rfl) (hb hby d9_28) (by decide) (by decide) (by decide) (by decide)
  obtain ⟨rv9, rfl, Nq9, Kq9, kb9, sb9, z9, sf9, kn9, kf9, S9, sl9, ks9, ok9, os9, gk9, gs9, hrel9, hix9, hsz9, hli9, O9, Fk9, Fs9⟩ := hQ9
  have ne_eg_kb9 : eg ≠ kb9 := by
    rcases ok9 with q | q
    · rw [q]; exact (Oe7_eg.ne_fa (tw40 hw) Fk7)
    · exact Nat.ne_of_lt (Nat.lt_of_lt_of_le Oe7_eg.lt q)
  have ne_eg_sb9 : eg ≠ sb9 := by
    rcases os9 with q | q
    · rw [q]; exact (Oe7_eg.ne_fa (tw40 hw) Fs7)
    · exact Nat.ne_of_lt (Nat.lt_of_lt_of_le Oe7_eg.lt q)
  have ne_a_kb9 : a ≠ kb9 := by
    rcases ok9 with q | q
    · rw [q]; exact (hG7.1.ne_fa (tw6 hw) Fk7)
    · exact Nat.ne_of_lt (Nat.lt_of_lt_of_le hG7.1.lt q)
  have ne_a_sb9 : a ≠ sb9 := by
    rcases os9 with q | q
    · rw [q]; exact (hG7.1.ne_fa (tw6 hw) Fs7)
    · exact Nat.ne_of_lt (Nat.lt_of_lt_of_le hG7.1.lt q)
  have N9 := Fr.app N7 Nq9
  have Z9 := Nat.le_trans Z7 Kq9.1
  refine qtr 31 #[(vr a), (vr eg)] [(.int rv9)] st9 ?_
  have hb9 : ks9.length ≤ 2 := Nat.le_trans (addR_len hrel9 (mid_len hlen hpq hnb2 hnc hL)) (by omega)
  obtain ⟨rfl, rfl, rfl⟩ := hsz9 hb9
  obtain ⟨G9, hG9, ec9, eSS9, eKS9⟩ := gr_updQ (tw15 hw) (tw6 hw) hG7 hnb7.1 Kq9 eM7 ek7 es7 ⟨_, _, _, _, _, O9, Fk9, Fs9, hli9⟩ ok9 os9 gk9 gs9
  have ekc9 := ekc7.trans (ek_upd (tw40 hw) hG7 hnb7.1 Kq9 eM7 ek7 es7)
  have slc9 : h0.size ≤ h9.size := Nat.le_trans slc7 Kq9.1
  have O10 := (Oe7_eg.keep Kq9 (ninS (Oe7_eg.exa.ne OM7.exa ne_el) (ninS (Oe7_eg.ne_fa (tw40 hw) Fk7) (ninS (Oe7_eg.ne_fa (tw40 hw) Fs7) nin0))))
  show OEnds p e below s _ _ _ (T9.setTop (mkF m 31 #[(vr a), (vr eg)] [(.int rv9)]))
  refine own_by (fun _ k => XS.pop X9.here hx rfl (hb hby d9_31) rfl rfl k) ?_
  show OEnds p e below s _ _ _ (T9.setTop (mkF m 32 #[(vr a), (vr eg)] []))
  exact own_retV X9 hx hlk Bd.returns (hb hby d9_32) (by rw [e9]; exact ⟨rfl, N9, slc9, ekc9, G9, hG9, (by rw [ec9, eKS9]; exact all_add hlen hpq hnb2 hrel4 hnc hrel9), (by rw [ec9, eKS9]; exact end_len hnb2 (addR_len hrel4 (nb_len hnb2 hL i2 hnb2.1)) hnc (addR_len hrel9 (mid_len hlen hpq hnb2 hnc hL)) hL), (fun q => by rw [eSS9]; exact hJ7 (fun q' => by rw [eSS4]; exact hJ2 (fun _ => hS4) (by rw [ec4] at q'; exact q')) (by rw [ec9] at q; exact q)), (by rw [ec9]; have q1 := (nb_c hnb2).2; have q2 := (nb_c hnc).2; omega)⟩) (by decide) (by decide)
theorem d23_0 : decode prog_40_method_7_code 0 = .ok (.aload_n 0, 1) := by decide +kernel
theorem d23_1 : decode prog_40_method_7_code 1 = .ok (.getfield 10, 3) := by decide +kernel
theorem d23_4 : decode prog_40_method_7_code 4 = .ok (.lload_n 1, 1) := by decide +kernel
theorem d23_5 : decode prog_40_method_7_code 5 = .ok (.invokevirtual 41, 3) := by decide +kernel
theorem d23_8 : decode prog_40_method_7_code 8 = .ok (.istore 5, 2) := by decide +kernel
theorem d23_10 : decode prog_40_method_7_code 10 = .ok (.iload 5, 2) := by decide +kernel
theorem d23_12 : decode prog_40_method_7_code 12 = .ok (.ifCond .ge 4, 3) := by decide +kernel
theorem d23_15 : decode prog_40_method_7_code 15 = .ok (.return_, 1) := by decide +kernel
theorem d23_16 : decode prog_40_method_7_code 16 = .ok (.aload_n 0, 1) := by decide +kernel
theorem d23_17 : decode prog_40_method_7_code 17 = .ok (.getfield 16, 3) := by decide +kernel
theorem d23_20 : decode prog_40_method_7_code 20 = .ok (.iload 5, 2) := by decide +kernel
theorem d23_22 : decode prog_40_method_7_code 22 = .ok (.aaload, 1) := by decide +kernel
theorem d23_23 : decode prog_40_method_7_code 23 = .ok (.lload_n 3, 1) := by decide +kernel
theorem d23_24 : decode prog_40_method_7_code 24 = .ok (.invokevirtual 65, 3) := by decide +kernel
theorem d23_27 : decode prog_40_method_7_code 27 = .ok (.aload_n 0, 1) := by decide +kernel
theorem d23_28 : decode prog_40_method_7_code 28 = .ok (.getfield 16, 3) := by decide +kernel
theorem d23_31 : decode prog_40_method_7_code 31 = .ok (.iload 5, 2) := by decide +kernel
theorem d23_33 : decode prog_40_method_7_code 33 = .ok (.aaload, 1) := by decide +kernel
theorem d23_34 : decode prog_40_method_7_code 34 = .ok (.invokevirtual 44, 3) := by decide +kernel
theorem d23_37 : decode prog_40_method_7_code 37 = .ok (.ifCond .ne 44, 3) := by decide +kernel
theorem d23_40 : decode prog_40_method_7_code 40 = .ok (.aload_n 0, 1) := by decide +kernel
theorem d23_41 : decode prog_40_method_7_code 41 = .ok (.getfield 10, 3) := by decide +kernel
theorem d23_44 : decode prog_40_method_7_code 44 = .ok (.invokevirtual 44, 3) := by decide +kernel
theorem d23_47 : decode prog_40_method_7_code 47 = .ok (.iconst 1, 1) := by decide +kernel
theorem d23_48 : decode prog_40_method_7_code 48 = .ok (.isub, 1) := by decide +kernel
theorem d23_49 : decode prog_40_method_7_code 49 = .ok (.istore 6, 2) := by decide +kernel
theorem d23_51 : decode prog_40_method_7_code 51 = .ok (.aload_n 0, 1) := by decide +kernel
theorem d23_52 : decode prog_40_method_7_code 52 = .ok (.getfield 10, 3) := by decide +kernel
theorem d23_55 : decode prog_40_method_7_code 55 = .ok (.lload_n 1, 1) := by decide +kernel
theorem d23_56 : decode prog_40_method_7_code 56 = .ok (.invokevirtual 65, 3) := by decide +kernel
theorem d23_59 : decode prog_40_method_7_code 59 = .ok (.aload_n 0, 1) := by decide +kernel
theorem d23_60 : decode prog_40_method_7_code 60 = .ok (.getfield 16, 3) := by decide +kernel
theorem d23_63 : decode prog_40_method_7_code 63 = .ok (.iload 5, 2) := by decide +kernel
theorem d23_65 : decode prog_40_method_7_code 65 = .ok (.aload_n 0, 1) := by decide +kernel
theorem d23_66 : decode prog_40_method_7_code 66 = .ok (.getfield 16, 3) := by decide +kernel
theorem d23_69 : decode prog_40_method_7_code 69 = .ok (.iload 6, 2) := by decide +kernel
theorem d23_71 : decode prog_40_method_7_code 71 = .ok (.aaload, 1) := by decide +kernel
theorem d23_72 : decode prog_40_method_7_code 72 = .ok (.aastore, 1) := by decide +kernel
theorem d23_73 : decode prog_40_method_7_code 73 = .ok (.aload_n 0, 1) := by decide +kernel
theorem d23_74 : decode prog_40_method_7_code 74 = .ok (.getfield 16, 3) := by decide +kernel
theorem d23_77 : decode prog_40_method_7_code 77 = .ok (.iload 6, 2) := by decide +kernel
theorem d23_79 : decode prog_40_method_7_code 79 = .ok (.aconst_null, 1) := by decide +kernel
theorem d23_80 : decode prog_40_method_7_code 80 = .ok (.aastore, 1) := by decide +kernel
theorem d23_81 : decode prog_40_method_7_code 81 = .ok (.return_, 1) := by decide +kernel
theorem pn_23 : plainName "com/example/tristream/tristream/SampleGraph" = true := by first | (simp [plainName, overriddenIn]; done) | decide +kernel
theorem ef_23 (m : MethodId) (x0 : Addr) (x1 : Int64) (x2 : Int64) : entryFrame m #[(.ref x0), (.long x1), (.long x2)] 7 = mkF m 0 #[.val (.ref x0), .val (.long x1), .second, .val (.long x2), .second, .unset, .unset] [] := by first | (simp [entryFrame, mkF, argsToLocals, Value.category]; done) | rfl
def Q_rmn (Z : State) (a : Addr) (kk bb : Int64) (G : GSt) (h0 : Heap) (n0 : Nat) (r : Option Value) (h : Heap) (L : List Loc) : Prop := r = none ∧ Fr n0 L ∧ h0.size ≤ h.size ∧ EK Z h0 h ∧ ∃ G' : GSt, GR Z h n0 a G' ∧ (∀ x y, GEd G'.c G'.KS x y ↔ GEd G.c G.KS x y ∧ ¬ (x = kk ∧ y = bb)) ∧ G'.SS 0 = G.SS 0 ∧ G.c ≤ G'.c + 1
set_option maxRecDepth 65536 in
set_option maxHeartbeats 40000000 in
theorem rm_rmn (l : Launch) (Z : State) (a0 : Array Value) (hw : ∀ d ∈ tables_1, d.before a0 Z = true) (ws : List Jvm.Cond) (a : Addr) (kk : Int64) (bb : Int64) (G : GSt) (h0 : Heap) (n0 : Nat) (Z0 : n0 ≤ h0.size) (hG : GR Z h0 n0 a G) (hS : G.SS 0 = 4 ∨ 2 ≤ G.c) :
    MetFree l mn22 (head1 (Jvm.Cond.code mn22 prog_40_method_7_code 7 none :: ws) ({ frames := 3, cells := 0, slots := 0, locals := 49 } : Room)) (fun a_ U => a_ = #[(.ref a), (.long kk), (.long bb)] ∧ Z.Warmed39 U.vm ∧ U.heap = h0) (fun _ _ _ _ _ => True) (fun _ U o U' => ∃ v_ L_, o = .returned v_ ∧ Q_rmn Z a kk bb G h0 n0 v_ U'.heap L_ ∧ FrameEnd U o U' L_ ({ frames := 3, cells := 0, slots := 0, locals := 49 } : Room).cells ({ frames := 3, cells := 0, slots := 0, locals := 49 } : Room).slots) := by
  refine MetFree.of_bodySF (plainFor_of_name pn_23) hisR ?_
  intro p e s m args below meth c s₁ Bd hml0 hP hK
  obtain ⟨rfl, hZ, hh⟩ := hP
  have hx := Bd.exec
  have hby := Bd.bytes
  have hlk : meth.locks = false := Bd.notSynchronized
  have hml : c.maxLocals = 7 := hml0
  have hown : s.vm.findClass "com/example/tristream/tristream/SampleGraph" = some m.cls := findClass_of_methodNamed Bd.named
  have hnm := (name_of_methodNamed Bd.named Bd.method).1
  have X0 : Stand p l e ({ frames := 3, cells := 0, slots := 0, locals := 49 } : Room) s m #[(.ref a), (.long kk), (.long bb)] below meth c s₁ [] 0 0 := Stand.of_body Bd
  have e0 : s₁.heap = h0 := by rw [← hh, Bd.state]; rfl
  have N0 := Fr.nil n0
  have K0 : Keep h0 h0 [] := Keep.refl _ _
  show OEnds p e below s (Q_rmn Z a kk bb G h0 n0) _ _ _
  refine own_by (fun t k => castTop (ef_23 m a kk bb) k) ?_
  show OEnds p e below s _ _ _ (s₁.setTop (mkF m 0 #[(vr a), (vj kk), sd, (vj bb), sd, un, un] []))
  obtain ⟨nb, N, kb, sb, z, sf, kn, kf, S, sl, en, eN, ekb, esb, eS, g_nb, g_N, g_kb, g_sb, Oa, Fnb, ON, Fkb, Fsb, hLI⟩ := gr_nodes hG
  have hOv : OvA Z h0 nb "com/example/tristream/tristream/LongIndex" := by rw [en]; exact hG.2.2.1
  have hlen := gr_len hG
  have hl4 : (G.KS 0).length ≤ 4 := li_4 hLI
  have hsm : S = 4 ∨ 2 ≤ (G.KS 0).length := by rw [eS, hlen]; exact hS
  refine qaN 1 X0 hx hby d23_0 rfl rfl ?_
  refine qg 4 X0 hx hZ hown (tw34 hw) e0 (Oa.fld 0 rfl rfl) hby d23_1 rfl fun T1 X1 e1 => ?_
  refine qlN 5 X1 hx hby d23_4 rfl rfl ?_
  obtain ⟨v2, T2, L2, h2, X2, e2, hQ2, st2⟩ := own_callV X1 hx hZ (y := mn5) hown (tw98 hw) (tw99 hw) (tw101 hw) (tw100 hw) (tw102 hw) (tw16 hw) (by decide) ON.exa (rm_liidx l Z a0 hw [] N kk kb sb z sf kn kf S sl (G.KS 0) h0 n0 Z0 ON Fkb Fsb hLI) e1 (g := (mkF m 5 #[(vr a), (vj kk), sd, (vj bb), sd, un, un] [(.long kk), (.ref N)])) rfl (by rw [hml]; rfl) (argsL := [(.long kk)]) (rest := []) (lenOf pd_pJrI rfl) rfl (W := 0) (by show 2 * 0 + _ ≤ _; exact Nat.le_of_eq rfl) (hb hby d23_5) (by decide) (by decide) (by decide) (by decide)
  obtain ⟨r2, rfl, rfl, hq2, hir2⟩ := hQ2
  rw [hq2] at e2
  have N2 := Fr.app N0 (Fr.nil n0)
  refine qtr 8 #[(vr a), (vj kk), sd, (vj bb), sd, un, un] [(.int r2)] st2 ?_
  refine qsi 10 #[(vr a), (vj kk), sd, (vj bb), sd, (vi r2), un] X2 hx hby d23_8 rfl rfl ?_
  refine qi 12 X2 hx hby d23_10 rfl rfl ?_
  by_cases hc12_3 : r2 < (0 : Int32)
  · refine q_ifn 15 X2 hx hby d23_12 rfl ((if0 _ _).trans (tlt hc12_3).2.1) ?_
    exact own_retV X2 hx hlk Bd.returns (hb hby d23_15) (by rw [e2]; exact ⟨rfl, N2, Nat.le_refl _, EK.refl, G, hG, ed_absent hlen (neg_idx hir2 hc12_3), rfl, Nat.le_succ _⟩) (by decide) (by decide)
  · refine q_ify 16 X2 hx hby d23_12 rfl ((if0 _ _).trans (flt hc12_3).2.1) ?_
    obtain ⟨i, hi, hki, hri⟩ := pos_idx hir2 hc12_3
    have hic : i < G.c := by rw [← hlen]; exact hi
    obtain ⟨M, eM⟩ : ∃ M, M = G.A (i + 1) := ⟨_, rfl⟩
    obtain ⟨mk, ms, mz, mf, ml, emk, ems, g_M, g_mk, g_ms, OM, Fmk, Fms, hLm⟩ := gr_memM hG hic eM
    obtain ⟨neM, nek, nes_⟩ := gr_ne hG hic eM emk ems eN ekb esb
    have Kw4 : Keep h0 h0 [M, mk, ms, N, kb, sb, nb] := Keep.refl _ _
    refine qaN 17 X2 hx hby d23_16 rfl rfl ?_
    refine qg 20 X2 hx hZ hown (tw37 hw) e2 (Oa.fld 1 rfl rfl) hby d23_17 rfl fun T5 X5 e5 => ?_
    refine qi 22 X5 hx hby d23_20 rfl rfl ?_
    refine own_by (own_aaload X5 hx hZ e5 Fnb rfl i hri (by omega) (v := (.ref M)) (nbf_at hic eM) (g := (mkF m 22 #[(vr a), (vj kk), sd, (vj bb), sd, (vi r2), un] [(.int r2), (.ref nb)])) rfl rfl (hb hby d23_22)) ?_
    show OEnds p e below s _ _ _ (T5.setTop (mkF m 23 #[(vr a), (vj kk), sd, (vj bb), sd, (vi r2), un] [(.ref M)]))
    refine qlN 24 X5 hx hby d23_23 rfl rfl ?_
    obtain ⟨v6, T6, L6, h6, X6, e6, hQ6, st6⟩ := own_callV X5 hx hZ (y := mn10) hown (tw131 hw) (tw132 hw) (tw134 hw) (tw133 hw) (tw135 hw) (tw16 hw) (by decide) OM.exa (rm_lirem l Z a0 hw [] M bb mk ms mz (62 : Int32) 2 mf 4 ml (G.KS (i + 1)) h0 n0 Z0 OM Fmk Fms g_M g_mk g_ms hLm (Or.inl rfl)) e5 (g := (mkF m 24 #[(vr a), (vj kk), sd, (vj bb), sd, (vi r2), un] [(.long bb), (.ref M)])) rfl (by rw [hml]; rfl) (argsL := [(.long bb)]) (rest := []) (lenOf pd_pJrV rfl) rfl (W := 0) (by show 2 * 0 + _ ≤ _; exact Nat.le_of_eq rfl) (hb hby d23_24) (by decide) (by decide) (by decide) (by decide)
    obtain ⟨rfl, Nq6, Kq6, kb6, sb6, z6, sf6, kn6, kf6, S6, sl6, ks6, ok6, os6, gk6, gs6, hrel6, hSe6, hli6, O6, Fk6, Fs6⟩ := hQ6
    have ne_a_kb6 : a ≠ kb6 := by
      rcases ok6 with q | q
      · rw [q]; exact (Oa.ne_fa (tw6 hw) Fmk)
      · exact Nat.ne_of_lt (Nat.lt_of_lt_of_le Oa.lt q)
    have ne_a_sb6 : a ≠ sb6 := by
      rcases os6 with q | q
      · rw [q]; exact (Oa.ne_fa (tw6 hw) Fms)
      · exact Nat.ne_of_lt (Nat.lt_of_lt_of_le Oa.lt q)
    have ne_N_kb6 : N ≠ kb6 := by
      rcases ok6 with q | q
      · rw [q]; exact (ON.ne_fa (tw15 hw) Fmk)
      · exact Nat.ne_of_lt (Nat.lt_of_lt_of_le ON.lt q)
    have ne_N_sb6 : N ≠ sb6 := by
      rcases os6 with q | q
      · rw [q]; exact (ON.ne_fa (tw15 hw) Fms)
      · exact Nat.ne_of_lt (Nat.lt_of_lt_of_le ON.lt q)
    have ne_nb_kb6 : nb ≠ kb6 := by
      rcases ok6 with q | q
      · rw [q]; exact (Fnb.ne_ty Fmk (by decide))
      · exact Nat.ne_of_lt (Nat.lt_of_lt_of_le Fnb.lt q)
    have ne_nb_sb6 : nb ≠ sb6 := by
      rcases os6 with q | q
      · rw [q]; exact (Fnb.ne_ty Fms (by decide))
      · exact Nat.ne_of_lt (Nat.lt_of_lt_of_le Fnb.lt q)
    have ne_kb_kb6 : kb ≠ kb6 := by
      rcases ok6 with q | q
      · rw [q]; exact (Ne.symm nek)
      · exact Nat.ne_of_lt (Nat.lt_of_lt_of_le Fkb.lt q)
    have ne_kb_sb6 : kb ≠ sb6 := by
      rcases os6 with q | q
      · rw [q]; exact (Fkb.ne_ty Fms (by decide))
      · exact Nat.ne_of_lt (Nat.lt_of_lt_of_le Fkb.lt q)
    have ne_sb_kb6 : sb ≠ kb6 := by
      rcases ok6 with q | q
      · rw [q]; exact (Fsb.ne_ty Fmk (by decide))
      · exact Nat.ne_of_lt (Nat.lt_of_lt_of_le Fsb.lt q)
    have ne_sb_sb6 : sb ≠ sb6 := by
      rcases os6 with q | q
      · rw [q]; exact (Ne.symm nes_)
      · exact Nat.ne_of_lt (Nat.lt_of_lt_of_le Fsb.lt q)
    have N6 := Fr.app N2 Nq6
    have K6 := Kw4.trans Kq6 (allS (wi 0 rfl) (allS (wi 1 rfl) (allS (wi 2 rfl) all0)))
    have Z6 := Nat.le_trans Z0 Kq6.1
    refine qtr 27 #[(vr a), (vj kk), sd, (vj bb), sd, (vi r2), un] [] st6 ?_
    refine qaN 28 X6 hx hby d23_27 rfl rfl ?_
    have O8 := (Oa.keep Kq6 (ninS (Oa.exa.ne OM.exa ne_sl) (ninS (Oa.ne_fa (tw6 hw) Fmk) (ninS (Oa.ne_fa (tw6 hw) Fms) nin0))))
    refine qg 31 X6 hx hZ hown (tw37 hw) e6 (O8.fld 1 rfl rfl) hby d23_28 rfl fun T7 X7 e7 => ?_
    refine qi 33 X7 hx hby d23_31 rfl rfl ?_
    have F9 := (Fnb.keep Kq6 (ninS (Ne.symm (OM.ne_fa (tw15 hw) Fnb)) (ninS (Fnb.ne_ty Fmk (by decide)) (ninS (Fnb.ne_ty Fms (by decide)) nin0))))
    refine own_by (own_aaload X7 hx hZ e7 F9 rfl i hri (by omega) (v := (.ref M)) (nbf_at hic eM) (g := (mkF m 33 #[(vr a), (vj kk), sd, (vj bb), sd, (vi r2), un] [(.int r2), (.ref nb)])) rfl rfl (hb hby d23_33)) ?_
    show OEnds p e below s _ _ _ (T7.setTop (mkF m 34 #[(vr a), (vj kk), sd, (vj bb), sd, (vi r2), un] [(.ref M)]))
    obtain ⟨T10, X10, e10, st10⟩ := own_callR X7 hx hZ (y := mn18) hown (tw140 hw) (tw141 hw) (tw143 hw) (tw142 hw) (tw144 hw) (tw16 hw) (by decide) O6.exa (rm_lsize l Z a0 hw [] M kb6 sb6 sf6 z6 h6 n0 Z6 O6) e7 (g := (mkF m 34 #[(vr a), (vj kk), sd, (vj bb), sd, (vi r2), un] [(.ref M)])) rfl (by rw [hml]; rfl) (argsL := []) (rest := []) (lenOf pd_prI rfl) rfl (W := 0) (by show 2 * 0 + _ ≤ _; exact Nat.le_of_eq rfl) (hb hby d23_34) (by decide) (by decide) (by decide) (by decide)
    refine qat 37 #[(vr a), (vj kk), sd, (vj bb), sd, (vi r2), un] [(.int (lsize_r z6))] st10 ?_
    by_cases hc37_11 : (lsize_r z6) = (0 : Int32)
    · refine q_ifn 40 X10 hx hby d23_37 rfl ((if0 _ _).trans (teq hc37_11).2) ?_
      obtain rfl := li_zero hli6 hc37_11
      obtain ⟨cl, hcl⟩ : ∃ cl, G.c = cl + 1 := ⟨G.c - 1, by omega⟩
      obtain ⟨Ml, eMl⟩ : ∃ Ml, Ml = G.A (cl + 1) := ⟨_, rfl⟩
      have hla : (z - (1 : Int32)).toInt = (cl : Int) := zdec (by rw [(li_len hLI).1, hlen, hcl]) (by omega)
      refine qaN 41 X10 hx hby d23_40 rfl rfl ?_
      refine qg 44 X10 hx hZ hown (tw34 hw) e10 (O8.fld 0 rfl rfl) hby d23_41 rfl fun T12 X12 e12 => ?_
      have O14 := (ON.keep Kq6 (ninS (Ne.symm neM) (ninS (ON.ne_fa (tw15 hw) Fmk) (ninS (ON.ne_fa (tw15 hw) Fms) nin0))))
      obtain ⟨T13, X13, e13, st13⟩ := own_callR X12 hx hZ (y := mn18) hown (tw140 hw) (tw141 hw) (tw143 hw) (tw142 hw) (tw144 hw) (tw16 hw) (by decide) O14.exa (rm_lsize l Z a0 hw [] N kb sb sf z h6 n0 Z6 O14) e12 (g := (mkF m 44 #[(vr a), (vj kk), sd, (vj bb), sd, (vi r2), un] [(.ref N)])) rfl (by rw [hml]; rfl) (argsL := []) (rest := []) (lenOf pd_prI rfl) rfl (W := 0) (by show 2 * 0 + _ ≤ _; exact Nat.le_of_eq rfl) (hb hby d23_44) (by decide) (by decide) (by decide) (by decide)
      refine qat 47 #[(vr a), (vj kk), sd, (vj bb), sd, (vi r2), un] [(.int (lsize_r z))] st13 ?_
      refine qc1 48 1 X13 hx hby d23_47 rfl rfl ?_
      refine q_isub 49 X13 hx hby d23_48 rfl ?_
      refine qsi 51 #[(vr a), (vj kk), sd, (vj bb), sd, (vi r2), (vi ((lsize_r z) - (1 : Int32)))] X13 hx hby d23_49 rfl rfl ?_
      refine qaN 52 X13 hx hby d23_51 rfl rfl ?_
      refine qg 55 X13 hx hZ hown (tw34 hw) e13 (O8.fld 0 rfl rfl) hby d23_52 rfl fun T15 X15 e15 => ?_
      refine qlN 56 X15 hx hby d23_55 rfl rfl ?_
      have F17 := (Fkb.keep Kq6 (ninS (Ne.symm (OM.ne_fa (tw15 hw) Fkb)) (ninS (Ne.symm nek) (ninS (Fkb.ne_ty Fms (by decide)) nin0))))
      have F18 := (Fsb.keep Kq6 (ninS (Ne.symm (OM.ne_fa (tw15 hw) Fsb)) (ninS (Fsb.ne_ty Fmk (by decide)) (ninS (Ne.symm nes_) nin0))))
      obtain ⟨v16, T16, L16, h16, X16, e16, hQ16, st16⟩ := own_callV X15 hx hZ (y := mn10) hown (tw131 hw) (tw132 hw) (tw134 hw) (tw133 hw) (tw135 hw) (tw16 hw) (by decide) O14.exa (rm_lirem l Z a0 hw [] N kk kb sb z sf kn kf S sl (G.KS 0) h6 n0 Z6 O14 F17 F18 g_N g_kb g_sb hLI hsm) e15 (g := (mkF m 56 #[(vr a), (vj kk), sd, (vj bb), sd, (vi r2), (vi ((lsize_r z) - (1 : Int32)))] [(.long kk), (.ref N)])) rfl (by rw [hml]; rfl) (argsL := [(.long kk)]) (rest := []) (lenOf pd_pJrV rfl) rfl (W := 0) (by show 2 * 0 + _ ≤ _; exact Nat.le_of_eq rfl) (hb hby d23_56) (by decide) (by decide) (by decide) (by decide)
      obtain ⟨rfl, Nq16, Kq16, kb16, sb16, z16, sf16, kn16, kf16, S16, sl16, ks16, ok16, os16, gk16, gs16, hrel16, hSe16, hli16, O16, Fk16, Fs16⟩ := hQ16
      have ne_a_kb16 : a ≠ kb16 := by
        rcases ok16 with q | q
        · rw [q]; exact (O8.ne_fa (tw6 hw) F17)
        · exact Nat.ne_of_lt (Nat.lt_of_lt_of_le O8.lt q)
      have ne_a_sb16 : a ≠ sb16 := by
        rcases os16 with q | q
        · rw [q]; exact (O8.ne_fa (tw6 hw) F18)
        · exact Nat.ne_of_lt (Nat.lt_of_lt_of_le O8.lt q)
      have ne_M_kb16 : M ≠ kb16 := by
        rcases ok16 with q | q
        · rw [q]; exact (O6.ne_fa (tw15 hw) F17)
        · exact Nat.ne_of_lt (Nat.lt_of_lt_of_le O6.lt q)
      have ne_M_sb16 : M ≠ sb16 := by
        rcases os16 with q | q
        · rw [q]; exact (O6.ne_fa (tw15 hw) F18)
        · exact Nat.ne_of_lt (Nat.lt_of_lt_of_le O6.lt q)
      have ne_nb_kb16 : nb ≠ kb16 := by
        rcases ok16 with q | q
        · rw [q]; exact (F9.ne_ty F17 (by decide))
        · exact Nat.ne_of_lt (Nat.lt_of_lt_of_le F9.lt q)
      have ne_nb_sb16 : nb ≠ sb16 := by
        rcases os16 with q | q
        · rw [q]; exact (F9.ne_ty F18 (by decide))
        · exact Nat.ne_of_lt (Nat.lt_of_lt_of_le F9.lt q)
      have ne_kb6_kb16 : kb6 ≠ kb16 := by
        rcases ok16 with q | q
        · rw [q]; exact (Ne.symm ne_kb_kb6)
        · exact Nat.ne_of_lt (Nat.lt_of_lt_of_le Fk6.lt q)
      have ne_kb6_sb16 : kb6 ≠ sb16 := by
        rcases os16 with q | q
        · rw [q]; exact (Ne.symm ne_sb_kb6)
        · exact Nat.ne_of_lt (Nat.lt_of_lt_of_le Fk6.lt q)
      have ne_sb6_kb16 : sb6 ≠ kb16 := by
        rcases ok16 with q | q
        · rw [q]; exact (Ne.symm ne_kb_sb6)
        · exact Nat.ne_of_lt (Nat.lt_of_lt_of_le Fs6.lt q)
      have ne_sb6_sb16 : sb6 ≠ sb16 := by
        rcases os16 with q | q
        · rw [q]; exact (Ne.symm ne_sb_sb6)
        · exact Nat.ne_of_lt (Nat.lt_of_lt_of_le Fs6.lt q)
      have N16 := Fr.app N6 Nq16
      have K16 := K6.trans Kq16 (allS (wi 3 rfl) (allS (wi 4 rfl) (allS (wi 5 rfl) all0)))
      have Z16 := Nat.le_trans Z6 Kq16.1
      refine qtr 59 #[(vr a), (vj kk), sd, (vj bb), sd, (vi r2), (vi ((lsize_r z) - (1 : Int32)))] [] st16 ?_
      refine qaN 60 X16 hx hby d23_59 rfl rfl ?_
      have O20 := (O8.keep Kq16 (ninS (O8.exa.ne O14.exa ne_sl) (ninS (O8.ne_fa (tw6 hw) F17) (ninS (O8.ne_fa (tw6 hw) F18) nin0))))
      refine qg 63 X16 hx hZ hown (tw37 hw) e16 (O20.fld 1 rfl rfl) hby d23_60 rfl fun T19 X19 e19 => ?_
      refine qi 65 X19 hx hby d23_63 rfl rfl ?_
      refine qaN 66 X19 hx hby d23_65 rfl rfl ?_
      refine qg 69 X19 hx hZ hown (tw37 hw) e19 (O20.fld 1 rfl rfl) hby d23_66 rfl fun T21 X21 e21 => ?_
      refine qi 71 X21 hx hby d23_69 rfl rfl ?_
      have F22 := (F9.keep Kq16 (ninS (Ne.symm (O14.ne_fa (tw15 hw) F9)) (ninS (F9.ne_ty F17 (by decide)) (ninS (F9.ne_ty F18 (by decide)) nin0))))
      refine own_by (own_aaload X21 hx hZ e21 F22 rfl cl hla (by omega) (v := (.ref Ml)) (nbf_at (by omega) eMl) (g := (mkF m 71 #[(vr a), (vj kk), sd, (vj bb), sd, (vi r2), (vi ((lsize_r z) - (1 : Int32)))] [(.int ((lsize_r z) - (1 : Int32))), (.ref nb), (.int r2), (.ref nb)])) rfl rfl (hb hby d23_71)) ?_
      show OEnds p e below s _ _ _ (T21.setTop (mkF m 72 #[(vr a), (vj kk), sd, (vj bb), sd, (vi r2), (vi ((lsize_r z) - (1 : Int32)))] [(.ref Ml), (.int r2), (.ref nb)]))
      have O24 := (O6.keep Kq16 (ninS neM (ninS (O6.ne_fa (tw15 hw) F17) (ninS (O6.ne_fa (tw15 hw) F18) nin0))))
      have F25 := (Fk6.keep Kq16 (ninS (Ne.symm ne_N_kb6) (ninS (Ne.symm ne_kb_kb6) (ninS (Ne.symm ne_sb_kb6) nin0))))
      have F26 := (Fs6.keep Kq16 (ninS (Ne.symm ne_N_sb6) (ninS (Ne.symm ne_kb_sb6) (ninS (Ne.symm ne_sb_sb6) nin0))))
      obtain ⟨T23, h23, X23, e23, W23, st23⟩ := own_aastore X21 hx hZ e21 F22 rfl i hri (by omega) (sto_ref F22 (hOv.keep K16) (by rw [eMl]; exact (hG.2.2.2.2.1 (cl + 1) (by omega)).exa.keep K16)) (g := (mkF m 72 #[(vr a), (vj kk), sd, (vj bb), sd, (vi r2), (vi ((lsize_r z) - (1 : Int32)))] [(.ref Ml), (.int r2), (.ref nb)])) rfl rfl (hb hby d23_72)
      have F23 : FA Z h23 nb (.object "com/example/tristream/tristream/LongIndex") 16 (fun j_ => if j_ = i then (.ref Ml) else (nbf G) j_) := F22.set W23
      have N23 := Fr.snoc X23 N16 g_nb
      have Z23 := Nat.le_trans Z16 (Keep.of_wr W23).1
      have K23 := K16.wr W23 (wi 6 rfl)
      refine qat 73 #[(vr a), (vj kk), sd, (vj bb), sd, (vi r2), (vi ((lsize_r z) - (1 : Int32)))] [] st23 ?_
      refine qaN 74 X23 hx hby d23_73 rfl rfl ?_
      have O28 := (O20.other W23 (O20.ne_fa (tw6 hw) F22))
      refine qg 77 X23 hx hZ hown (tw37 hw) e23 (O28.fld 1 rfl rfl) hby d23_74 rfl fun T27 X27 e27 => ?_
      refine qi 79 X27 hx hby d23_77 rfl rfl ?_
      refine own_by (fun _ k => XS.aconstNull X27.here hx rfl (hb hby d23_79) k) ?_
      show OEnds p e below s _ _ _ (T27.setTop (mkF m 80 #[(vr a), (vj kk), sd, (vj bb), sd, (vi r2), (vi ((lsize_r z) - (1 : Int32)))] [.null, (.int ((lsize_r z) - (1 : Int32))), (.ref nb)]))
      have O30 := (O16.other W23 (O16.ne_fa (tw15 hw) F22))
      have O31 := (O24.other W23 (O24.ne_fa (tw15 hw) F22))
      have F32 := (F25.other W23 (Ne.symm ne_nb_kb6))
      have F33 := (F26.other W23 (Ne.symm ne_nb_sb6))
      have F34 := (Fk16.other W23 (Ne.symm ne_nb_kb16))
      have F35 := (Fs16.other W23 (Ne.symm ne_nb_sb16))
      obtain ⟨T29, h29, X29, e29, W29, st29⟩ := own_aastore X27 hx hZ e27 F23 rfl cl hla (by omega) (Or.inl rfl) (g := (mkF m 80 #[(vr a), (vj kk), sd, (vj bb), sd, (vi r2), (vi ((lsize_r z) - (1 : Int32)))] [.null, (.int ((lsize_r z) - (1 : Int32))), (.ref nb)])) rfl rfl (hb hby d23_80)
      have F29 : FA Z h29 nb (.object "com/example/tristream/tristream/LongIndex") 16 (fun j_ => if j_ = cl then .null else (fun j_ => if j_ = i then (.ref Ml) else (nbf G) j_) j_) := F23.set W29
      have N29 := Fr.snoc X29 N23 g_nb
      have Z29 := Nat.le_trans Z23 (Keep.of_wr W29).1
      have K29 := K23.wr W29 (wi 6 rfl)
      refine qat 81 #[(vr a), (vj kk), sd, (vj bb), sd, (vi r2), (vi ((lsize_r z) - (1 : Int32)))] [] st29 ?_
      have O36 := (O30.other W29 (O30.ne_fa (tw15 hw) F23))
      have F37 := (F34.other W29 (Ne.symm ne_nb_kb16))
      have F38 := (F35.other W29 (Ne.symm ne_nb_sb16))
      have PN : LIO Z h29 N kb16 sb16 _ _ := ⟨_, _, _, _, _, O36, F37, F38, hli16⟩
      have o1 : kb16 = kb ∨ h0.size ≤ kb16 := ok16.imp id (fun q => Nat.le_trans Kq6.1 q)
      have o2 : sb16 = sb ∨ h0.size ≤ sb16 := os16.imp id (fun q => Nat.le_trans Kq6.1 q)
      obtain ⟨G', hG', hE', hS', hc'⟩ := gr_remQ (tw15 hw) (tw6 hw) hG hcl (by omega) K29 en eN ekb esb eM emk ems eMl F29 PN o1 o2 gk16 gs16 (hSe16.trans eS) hki hrel6 hrel16
      exact own_retV X29 hx hlk Bd.returns (hb hby d23_81) (by rw [e29]; exact ⟨rfl, N29, K29.1, ek_rem (tw40 hw) hG hic K29 en eN ekb esb eM emk ems, G', hG', hE', hS', hc'⟩) (by decide) (by decide)
    · refine q_ify 81 X10 hx hby d23_37 rfl ((if0 _ _).trans (feq hc37_11).2) ?_
      subst hSe6
      obtain ⟨G', hG', ec', eSS', eKS'⟩ := gr_updQ (tw15 hw) (tw6 hw) hG hic Kq6 eM emk ems ⟨_, _, _, _, _, O6, Fk6, Fs6, hli6⟩ ok6 os6 gk6 gs6
      exact own_retV X10 hx hlk Bd.returns (hb hby d23_81) (by rw [e10]; exact ⟨rfl, N6, Kq6.1, ek_upd (tw40 hw) hG hic Kq6 eM emk ems, G', hG', (by rw [ec', eKS']; exact rem_ed hlen (gr_dis hG (Nat.zero_le _)) hic hki (gr_dis hG (show i + 1 ≤ G.c from hic)) hrel6), (by rw [eSS']), (by rw [ec']; exact Nat.le_succ _)⟩) (by decide) (by decide)
theorem d22_0 : decode prog_40_method_3_code 0 = .ok (.aload_n 0, 1) := by decide +kernel
theorem d22_1 : decode prog_40_method_3_code 1 = .ok (.aload_n 1, 1) := by decide +kernel
theorem d22_2 : decode prog_40_method_3_code 2 = .ok (.invokevirtual 20, 3) := by decide +kernel
theorem d22_5 : decode prog_40_method_3_code 5 = .ok (.aload_n 1, 1) := by decide +kernel
theorem d22_6 : decode prog_40_method_3_code 6 = .ok (.invokevirtual 30, 3) := by decide +kernel
theorem d22_9 : decode prog_40_method_3_code 9 = .ok (.invokevirtual 37, 3) := by decide +kernel
theorem d22_12 : decode prog_40_method_3_code 12 = .ok (.aload_n 0, 1) := by decide +kernel
theorem d22_13 : decode prog_40_method_3_code 13 = .ok (.aload_n 1, 1) := by decide +kernel
theorem d22_14 : decode prog_40_method_3_code 14 = .ok (.invokevirtual 30, 3) := by decide +kernel
theorem d22_17 : decode prog_40_method_3_code 17 = .ok (.aload_n 1, 1) := by decide +kernel
theorem d22_18 : decode prog_40_method_3_code 18 = .ok (.invokevirtual 20, 3) := by decide +kernel
theorem d22_21 : decode prog_40_method_3_code 21 = .ok (.invokevirtual 37, 3) := by decide +kernel
theorem d22_24 : decode prog_40_method_3_code 24 = .ok (.return_, 1) := by decide +kernel
theorem pn_22 : plainName "com/example/tristream/tristream/SampleGraph" = true := by first | (simp [plainName, overriddenIn]; done) | decide +kernel
theorem ef_22 (m : MethodId) (x0 : Addr) (x1 : Addr) : entryFrame m #[(.ref x0), (.ref x1)] 2 = mkF m 0 #[.val (.ref x0), .val (.ref x1)] [] := by first | (simp [entryFrame, mkF, argsToLocals, Value.category]; done) | rfl
def Q_grem (Z : State) (a : Addr) (eu ev : Int64) (G : GSt) (h0 : Heap) (n0 : Nat) (r : Option Value) (h : Heap) (L : List Loc) : Prop := r = none ∧ Fr n0 L ∧ h0.size ≤ h.size ∧ EK Z h0 h ∧ ∃ G' : GSt, GR Z h n0 a G' ∧ (∀ x y, GEd G'.c G'.KS x y ↔ GEd G.c G.KS x y ∧ ¬ Sm x y eu ev)
set_option maxRecDepth 65536 in
set_option maxHeartbeats 40000000 in
theorem rm_grem (l : Launch) (Z : State) (a0 : Array Value) (hw : ∀ d ∈ tables_1, d.before a0 Z = true) (ws : List Jvm.Cond) (a : Addr) (eg : Addr) (eu : Int64) (ev : Int64) (G : GSt) (h0 : Heap) (n0 : Nat) (Z0 : n0 ≤ h0.size) (hG : GR Z h0 n0 a G) (Oe : Obj Z h0 eg "com/example/tristream/tristream/Edge" sch_e [(.long eu), (.long ev)]) (hS : G.SS 0 = 4 ∨ 3 ≤ G.c) :
    MetFree l mn23 (head1 (Jvm.Cond.code mn23 prog_40_method_3_code 2 none :: ws) ({ frames := 4, cells := 0, slots := 0, locals := 67 } : Room)) (fun a_ U => a_ = #[(.ref a), (.ref eg)] ∧ Z.Warmed39 U.vm ∧ U.heap = h0) (fun _ _ _ _ _ => True) (fun _ U o U' => ∃ v_ L_, o = .returned v_ ∧ Q_grem Z a eu ev G h0 n0 v_ U'.heap L_ ∧ FrameEnd U o U' L_ ({ frames := 4, cells := 0, slots := 0, locals := 67 } : Room).cells ({ frames := 4, cells := 0, slots := 0, locals := 67 } : Room).slots) := by
  refine MetFree.of_bodySF (plainFor_of_name pn_22) hisR ?_
  intro p e s m args below meth c s₁ Bd hml0 hP hK
  obtain ⟨rfl, hZ, hh⟩ := hP
  have hx := Bd.exec
  have hby := Bd.bytes
  have hlk : meth.locks = false := Bd.notSynchronized
  have hml : c.maxLocals = 2 := hml0
  have hown : s.vm.findClass "com/example/tristream/tristream/SampleGraph" = some m.cls := findClass_of_methodNamed Bd.named
  have hnm := (name_of_methodNamed Bd.named Bd.method).1
  have X0 : Stand p l e ({ frames := 4, cells := 0, slots := 0, locals := 67 } : Room) s m #[(.ref a), (.ref eg)] below meth c s₁ [] 0 0 := Stand.of_body Bd
  have e0 : s₁.heap = h0 := by rw [← hh, Bd.state]; rfl
  have N0 := Fr.nil n0
  have K0 : Keep h0 h0 [] := Keep.refl _ _
  show OEnds p e below s (Q_grem Z a eu ev G h0 n0) _ _ _
  refine own_by (fun t k => castTop (ef_22 m a eg) k) ?_
  show OEnds p e below s _ _ _ (s₁.setTop (mkF m 0 #[(vr a), (vr eg)] []))
  refine qaN 1 X0 hx hby d22_0 rfl rfl ?_
  refine qaN 2 X0 hx hby d22_1 rfl rfl ?_
  obtain ⟨T1, X1, e1, st1⟩ := own_callR X0 hx hZ (y := mn16) hown (tw62 hw) (tw63 hw) (tw65 hw) (tw64 hw) (tw66 hw) (tw41 hw) (by decide) Oe.exa (rm_geu l Z a0 hw [] eg eu ev h0 n0 Z0 Oe) e0 (g := (mkF m 2 #[(vr a), (vr eg)] [(.ref eg), (.ref a)])) rfl (by rw [hml]; rfl) (argsL := []) (rest := [(.ref a)]) (lenOf pd_prJ rfl) rfl (W := 1) (by show 2 * 0 + _ ≤ _; exact Nat.le_of_eq rfl) (hb hby d22_2) (by decide) (by decide) (by decide) (by decide)
  refine qat 5 #[(vr a), (vr eg)] [(.long (geu_r eu)), (.ref a)] st1 ?_
  refine qaN 6 X1 hx hby d22_5 rfl rfl ?_
  obtain ⟨T2, X2, e2, st2⟩ := own_callR X1 hx hZ (y := mn17) hown (tw88 hw) (tw89 hw) (tw91 hw) (tw90 hw) (tw92 hw) (tw41 hw) (by decide) Oe.exa (rm_gev l Z a0 hw [] eg eu ev h0 n0 Z0 Oe) e1 (g := (mkF m 6 #[(vr a), (vr eg)] [(.ref eg), (.long (geu_r eu)), (.ref a)])) rfl (by rw [hml]; rfl) (argsL := []) (rest := [(.long (geu_r eu)), (.ref a)]) (lenOf pd_prJ rfl) rfl (W := 3) (by show 2 * 0 + _ ≤ _; exact Nat.le_of_eq rfl) (hb hby d22_6) (by decide) (by decide) (by decide) (by decide)
  refine qat 9 #[(vr a), (vr eg)] [(.long (gev_r ev)), (.long (geu_r eu)), (.ref a)] st2 ?_
  obtain ⟨v3, T3, L3, h3, X3, e3, hQ3, st3⟩ := own_callX X2 hx hZ (y := mn22) hown (tw127 hw) (tw128 hw) (tw129 hw) (tw130 hw) (tw7 hw) (tw6 hw) (by decide) hG.1.exa (rm_rmn l Z a0 hw [] a (geu_r eu) (gev_r ev) G h0 n0 Z0 hG (hS.imp id (fun q => by omega))) e2 (g := (mkF m 9 #[(vr a), (vr eg)] [(.long (gev_r ev)), (.long (geu_r eu)), (.ref a)])) rfl (by rw [hml]; rfl) (argsL := [(.long (geu_r eu)), (.long (gev_r ev))]) (rest := []) (lenOf pd_pJJrV rfl) rfl (W := 0) (by show 2 * 0 + _ ≤ _; exact Nat.le_of_eq rfl) (hb hby d22_9) (by decide) (by decide) (by decide) (by decide)
  obtain ⟨rfl, Nq3, hsz3, hek3, G3, hG3, hE3, hSS3, hcc3⟩ := hQ3
  have Oe3_eg := hek3 _ _ Oe
  have N3 := Fr.app N0 Nq3
  have Z3 : n0 ≤ h3.size := Nat.le_trans Z0 hsz3
  have ekc3 := (EK.refl (Z := Z)).trans hek3
  have slc3 : h0.size ≤ h3.size := Nat.le_trans (Nat.le_refl _) hsz3
  refine qtr 12 #[(vr a), (vr eg)] [] st3 ?_
  refine qaN 13 X3 hx hby d22_12 rfl rfl ?_
  refine qaN 14 X3 hx hby d22_13 rfl rfl ?_
  obtain ⟨T4, X4, e4, st4⟩ := own_callR X3 hx hZ (y := mn17) hown (tw88 hw) (tw89 hw) (tw91 hw) (tw90 hw) (tw92 hw) (tw41 hw) (by decide) Oe3_eg.exa (rm_gev l Z a0 hw [] eg eu ev h3 n0 Z3 Oe3_eg) e3 (g := (mkF m 14 #[(vr a), (vr eg)] [(.ref eg), (.ref a)])) rfl (by rw [hml]; rfl) (argsL := []) (rest := [(.ref a)]) (lenOf pd_prJ rfl) rfl (W := 1) (by show 2 * 0 + _ ≤ _; exact Nat.le_of_eq rfl) (hb hby d22_14) (by decide) (by decide) (by decide) (by decide)
  refine qat 17 #[(vr a), (vr eg)] [(.long (gev_r ev)), (.ref a)] st4 ?_
  refine qaN 18 X4 hx hby d22_17 rfl rfl ?_
  obtain ⟨T5, X5, e5, st5⟩ := own_callR X4 hx hZ (y := mn16) hown (tw62 hw) (tw63 hw) (tw65 hw) (tw64 hw) (tw66 hw) (tw41 hw) (by decide) Oe3_eg.exa (rm_geu l Z a0 hw [] eg eu ev h3 n0 Z3 Oe3_eg) e4 (g := (mkF m 18 #[(vr a), (vr eg)] [(.ref eg), (.long (gev_r ev)), (.ref a)])) rfl (by rw [hml]; rfl) (argsL := []) (rest := [(.long (gev_r ev)), (.ref a)]) (lenOf pd_prJ rfl) rfl (W := 3) (by show 2 * 0 + _ ≤ _; exact Nat.le_of_eq rfl) (hb hby d22_18) (by decide) (by decide) (by decide) (by decide)
  refine qat 21 #[(vr a), (vr eg)] [(.long (geu_r eu)), (.long (gev_r ev)), (.ref a)] st5 ?_
  obtain ⟨v6, T6, L6, h6, X6, e6, hQ6, st6⟩ := own_callX X5 hx hZ (y := mn22) hown (tw127 hw) (tw128 hw) (tw129 hw) (tw130 hw) (tw7 hw) (tw6 hw) (by decide) hG3.1.exa (rm_rmn l Z a0 hw [] a (gev_r ev) (geu_r eu) G3 h3 n0 Z3 hG3 (by rw [hSS3]; exact hS.imp id (fun q => by omega))) e5 (g := (mkF m 21 #[(vr a), (vr eg)] [(.long (geu_r eu)), (.long (gev_r ev)), (.ref a)])) rfl (by rw [hml]; rfl) (argsL := [(.long (gev_r ev)), (.long (geu_r eu))]) (rest := []) (lenOf pd_pJJrV rfl) rfl (W := 0) (by show 2 * 0 + _ ≤ _; exact Nat.le_of_eq rfl) (hb hby d22_21) (by decide) (by decide) (by decide) (by decide)
  obtain ⟨rfl, Nq6, hsz6, hek6, G6, hG6, hE6, hSS6, hcc6⟩ := hQ6
  have Oe6_eg := hek6 _ _ Oe3_eg
  have N6 := Fr.app N3 Nq6
  have Z6 : n0 ≤ h6.size := Nat.le_trans Z3 hsz6
  have ekc6 := ekc3.trans hek6
  have slc6 : h0.size ≤ h6.size := Nat.le_trans slc3 hsz6
  refine qtr 24 #[(vr a), (vr eg)] [] st6 ?_
  exact own_retV X6 hx hlk Bd.returns (hb hby d22_24) (by rw [e6]; exact ⟨rfl, N6, slc6, ekc6, G6, hG6, fun x y => two_rem (hE3 x y) (hE6 x y)⟩) (by decide) (by decide)
theorem d16_0 : decode prog_40_method_4_code 0 = .ok (.aload_n 0, 1) := by decide +kernel
theorem d16_1 : decode prog_40_method_4_code 1 = .ok (.getfield 10, 3) := by decide +kernel
theorem d16_4 : decode prog_40_method_4_code 4 = .ok (.lload_n 1, 1) := by decide +kernel
theorem d16_5 : decode prog_40_method_4_code 5 = .ok (.invokevirtual 41, 3) := by decide +kernel
theorem d16_8 : decode prog_40_method_4_code 8 = .ok (.istore 5, 2) := by decide +kernel
theorem d16_10 : decode prog_40_method_4_code 10 = .ok (.iload 5, 2) := by decide +kernel
theorem d16_12 : decode prog_40_method_4_code 12 = .ok (.ifCond .lt 21, 3) := by decide +kernel
theorem d16_15 : decode prog_40_method_4_code 15 = .ok (.aload_n 0, 1) := by decide +kernel
theorem d16_16 : decode prog_40_method_4_code 16 = .ok (.getfield 16, 3) := by decide +kernel
theorem d16_19 : decode prog_40_method_4_code 19 = .ok (.iload 5, 2) := by decide +kernel
theorem d16_21 : decode prog_40_method_4_code 21 = .ok (.aaload, 1) := by decide +kernel
theorem d16_22 : decode prog_40_method_4_code 22 = .ok (.lload_n 3, 1) := by decide +kernel
theorem d16_23 : decode prog_40_method_4_code 23 = .ok (.invokevirtual 41, 3) := by decide +kernel
theorem d16_26 : decode prog_40_method_4_code 26 = .ok (.ifCond .lt 7, 3) := by decide +kernel
theorem d16_29 : decode prog_40_method_4_code 29 = .ok (.iconst 1, 1) := by decide +kernel
theorem d16_30 : decode prog_40_method_4_code 30 = .ok (.goto 4, 3) := by decide +kernel
theorem d16_33 : decode prog_40_method_4_code 33 = .ok (.iconst 0, 1) := by decide +kernel
theorem d16_34 : decode prog_40_method_4_code 34 = .ok (.ireturn, 1) := by decide +kernel
theorem pn_16 : plainName "com/example/tristream/tristream/SampleGraph" = true := by first | (simp [plainName, overriddenIn]; done) | decide +kernel
theorem ef_16 (m : MethodId) (x0 : Addr) (x1 : Int64) (x2 : Int64) : entryFrame m #[(.ref x0), (.long x1), (.long x2)] 6 = mkF m 0 #[.val (.ref x0), .val (.long x1), .second, .val (.long x2), .second, .unset] [] := by first | (simp [entryFrame, mkF, argsToLocals, Value.category]; done) | rfl
def Q_gct (kk bb : Int64) (G : GSt) (h0 : Heap) (r : Option Value) (h : Heap) (L : List Loc) : Prop := ∃ rv : Int32, r = some (.int rv) ∧ L = [] ∧ h = h0 ∧ ((rv = 1 ∧ GEd G.c G.KS kk bb) ∨ (rv = 0 ∧ ¬ GEd G.c G.KS kk bb))
set_option maxRecDepth 65536 in
set_option maxHeartbeats 40000000 in
theorem rm_gct (l : Launch) (Z : State) (a0 : Array Value) (hw : ∀ d ∈ tables_1, d.before a0 Z = true) (ws : List Jvm.Cond) (a : Addr) (kk : Int64) (bb : Int64) (G : GSt) (h0 : Heap) (n0 : Nat) (Z0 : n0 ≤ h0.size) (hG : GR Z h0 n0 a G) :
    MetFree l mn24 (head1 (Jvm.Cond.code mn24 prog_40_method_4_code 6 (some .boolean) :: ws) ({ frames := 3, cells := 0, slots := 0, locals := 45 } : Room)) (fun a_ U => a_ = #[(.ref a), (.long kk), (.long bb)] ∧ Z.Warmed39 U.vm ∧ U.heap = h0) (fun _ _ _ _ _ => True) (fun _ U o U' => ∃ v_ L_, o = .returned v_ ∧ Q_gct kk bb G h0 v_ U'.heap L_ ∧ FrameEnd U o U' L_ ({ frames := 3, cells := 0, slots := 0, locals := 45 } : Room).cells ({ frames := 3, cells := 0, slots := 0, locals := 45 } : Room).slots) := by
  refine MetFree.of_bodySF (plainFor_of_name pn_16) hisR ?_
  intro p e s m args below meth c s₁ Bd hml0 hP hK
  obtain ⟨rfl, hZ, hh⟩ := hP
  have hx := Bd.exec
  have hby := Bd.bytes
  have hlk : meth.locks = false := Bd.notSynchronized
  have hml : c.maxLocals = 6 := hml0
  have hown : s.vm.findClass "com/example/tristream/tristream/SampleGraph" = some m.cls := findClass_of_methodNamed Bd.named
  have hnm := (name_of_methodNamed Bd.named Bd.method).1
  have X0 : Stand p l e ({ frames := 3, cells := 0, slots := 0, locals := 45 } : Room) s m #[(.ref a), (.long kk), (.long bb)] below meth c s₁ [] 0 0 := Stand.of_body Bd
  have e0 : s₁.heap = h0 := by rw [← hh, Bd.state]; rfl
  have N0 := Fr.nil n0
  have K0 : Keep h0 h0 [] := Keep.refl _ _
  show OEnds p e below s (Q_gct kk bb G h0) _ _ _
  refine own_by (fun t k => castTop (ef_16 m a kk bb) k) ?_
  show OEnds p e below s _ _ _ (s₁.setTop (mkF m 0 #[(vr a), (vj kk), sd, (vj bb), sd, un] []))
  obtain ⟨nb, N, kb, sb, z, sf, kn, kf, S, sl, en, eN, ekb, esb, eS, g_nb, g_N, g_kb, g_sb, Oa, Fnb, ON, Fkb, Fsb, hLI⟩ := gr_nodes hG
  have hOv : OvA Z h0 nb "com/example/tristream/tristream/LongIndex" := by rw [en]; exact hG.2.2.1
  have hlen := gr_len hG
  have hl4 : (G.KS 0).length ≤ 4 := li_4 hLI
  refine qaN 1 X0 hx hby d16_0 rfl rfl ?_
  refine qg 4 X0 hx hZ hown (tw34 hw) e0 (Oa.fld 0 rfl rfl) hby d16_1 rfl fun T1 X1 e1 => ?_
  refine qlN 5 X1 hx hby d16_4 rfl rfl ?_
  obtain ⟨v2, T2, L2, h2, X2, e2, hQ2, st2⟩ := own_callV X1 hx hZ (y := mn5) hown (tw98 hw) (tw99 hw) (tw101 hw) (tw100 hw) (tw102 hw) (tw16 hw) (by decide) ON.exa (rm_liidx l Z a0 hw [] N kk kb sb z sf kn kf S sl (G.KS 0) h0 n0 Z0 ON Fkb Fsb hLI) e1 (g := (mkF m 5 #[(vr a), (vj kk), sd, (vj bb), sd, un] [(.long kk), (.ref N)])) rfl (by rw [hml]; rfl) (argsL := [(.long kk)]) (rest := []) (lenOf pd_pJrI rfl) rfl (W := 0) (by show 2 * 0 + _ ≤ _; exact Nat.le_of_eq rfl) (hb hby d16_5) (by decide) (by decide) (by decide) (by decide)
  obtain ⟨r2, rfl, rfl, hq2, hir2⟩ := hQ2
  rw [hq2] at e2
  have N2 := Fr.app N0 (Fr.nil n0)
  refine qtr 8 #[(vr a), (vj kk), sd, (vj bb), sd, un] [(.int r2)] st2 ?_
  refine qsi 10 #[(vr a), (vj kk), sd, (vj bb), sd, (vi r2)] X2 hx hby d16_8 rfl rfl ?_
  refine qi 12 X2 hx hby d16_10 rfl rfl ?_
  by_cases hc12_3 : r2 < (0 : Int32)
  · refine q_ify 33 X2 hx hby d16_12 rfl ((if0 _ _).trans (tlt hc12_3).1) ?_
    refine qc1 34 0 X2 hx hby d16_33 rfl rfl ?_
    exact own_retN X2 hx hlk .boolean (by simp) Bd.returns (hb hby d16_34) ⟨(0 : Int32), rfl, rfl, e2, (Or.inr ⟨rfl, ed_no hlen (neg_idx hir2 hc12_3)⟩)⟩ (by decide) (by decide)
  · refine q_ifn 15 X2 hx hby d16_12 rfl ((if0 _ _).trans (flt hc12_3).1) ?_
    obtain ⟨i, hi, hki, hri⟩ := pos_idx hir2 hc12_3
    have hic : i < G.c := by rw [← hlen]; exact hi
    obtain ⟨M, eM⟩ : ∃ M, M = G.A (i + 1) := ⟨_, rfl⟩
    obtain ⟨mk, ms, mz, mf, ml, emk, ems, g_M, g_mk, g_ms, OM, Fmk, Fms, hLm⟩ := gr_memM hG hic eM
    have hed := ed_at (y := bb) hlen (gr_dis hG (Nat.zero_le _)) hic hki
    refine qaN 16 X2 hx hby d16_15 rfl rfl ?_
    refine qg 19 X2 hx hZ hown (tw37 hw) e2 (Oa.fld 1 rfl rfl) hby d16_16 rfl fun T4 X4 e4 => ?_
    refine qi 21 X4 hx hby d16_19 rfl rfl ?_
    refine own_by (own_aaload X4 hx hZ e4 Fnb rfl i hri (by omega) (v := (.ref M)) (nbf_at hic eM) (g := (mkF m 21 #[(vr a), (vj kk), sd, (vj bb), sd, (vi r2)] [(.int r2), (.ref nb)])) rfl rfl (hb hby d16_21)) ?_
    show OEnds p e below s _ _ _ (T4.setTop (mkF m 22 #[(vr a), (vj kk), sd, (vj bb), sd, (vi r2)] [(.ref M)]))
    refine qlN 23 X4 hx hby d16_22 rfl rfl ?_
    obtain ⟨v5, T5, L5, h5, X5, e5, hQ5, st5⟩ := own_callV X4 hx hZ (y := mn5) hown (tw98 hw) (tw99 hw) (tw101 hw) (tw100 hw) (tw102 hw) (tw16 hw) (by decide) OM.exa (rm_liidx l Z a0 hw [] M bb mk ms mz (62 : Int32) 2 mf 4 ml (G.KS (i + 1)) h0 n0 Z0 OM Fmk Fms hLm) e4 (g := (mkF m 23 #[(vr a), (vj kk), sd, (vj bb), sd, (vi r2)] [(.long bb), (.ref M)])) rfl (by rw [hml]; rfl) (argsL := [(.long bb)]) (rest := []) (lenOf pd_pJrI rfl) rfl (W := 0) (by show 2 * 0 + _ ≤ _; exact Nat.le_of_eq rfl) (hb hby d16_23) (by decide) (by decide) (by decide) (by decide)
    obtain ⟨r5, rfl, rfl, hq5, hir5⟩ := hQ5
    rw [hq5] at e5
    have N5 := Fr.app N2 (Fr.nil n0)
    refine qtr 26 #[(vr a), (vj kk), sd, (vj bb), sd, (vi r2)] [(.int r5)] st5 ?_
    by_cases hc26_6 : r5 < (0 : Int32)
    · refine q_ify 33 X5 hx hby d16_26 rfl ((if0 _ _).trans (tlt hc26_6).1) ?_
      refine qc1 34 0 X5 hx hby d16_33 rfl rfl ?_
      exact own_retN X5 hx hlk .boolean (by simp) Bd.returns (hb hby d16_34) ⟨(0 : Int32), rfl, rfl, e5, (Or.inr ⟨rfl, fun q => neg_idx hir5 hc26_6 (hed.mp q)⟩)⟩ (by decide) (by decide)
    · refine q_ifn 29 X5 hx hby d16_26 rfl ((if0 _ _).trans (flt hc26_6).1) ?_
      refine qc1 30 1 X5 hx hby d16_29 rfl rfl ?_
      refine q_goto 34 X5 hx hby d16_30 rfl ?_
      exact own_retN X5 hx hlk .boolean (by simp) Bd.returns (hb hby d16_34) ⟨(1 : Int32), rfl, rfl, e5, (Or.inl ⟨rfl, hed.mpr (idx_gin hir5 hc26_6)⟩)⟩ (by decide) (by decide)
theorem rem_pre {G : GSt} (h : G.c ≤ 2 → G.SS 0 = 4) : G.SS 0 = 4 ∨ 3 ≤ G.c := by
  rcases Nat.lt_or_ge 2 G.c with q | q
  · exact Or.inr q
  · exact Or.inl (h q)
theorem pn_0 : plainName "com/example/tristream/tristream/SampleGraphContainsPinLaw" = true := by first | (simp [plainName, overriddenIn]; done) | decide +kernel
theorem ef_0 (m : MethodId) (x0 : Int64) (x1 : Int64) (x2 : Int64) (x3 : Int64) (x4 : Int32) : entryFrame m #[(.long x0), (.long x1), (.long x2), (.long x3), (.int x4)] maxLocals = mkF m 0 #[.val (.long x0), .second, .val (.long x1), .second, .val (.long x2), .second, .val (.long x3), .second, .val (.int x4), .unset, .unset, .unset, .unset, .unset, .unset, .unset, .unset, .unset, .unset, .unset, .unset, .unset, .unset, .unset, .unset, .unset, .unset, .unset, .unset, .unset, .unset, .unset, .unset] [] := by first | (simp [entryFrame, mkF, argsToLocals, Value.category, maxLocals]; done) | rfl
def QL (n0 : Nat) (v : Option Value) (h : Heap) (L : List Loc) : Prop := v = some (.int 1) ∧ Fr n0 L
set_option maxRecDepth 65536 in
set_option maxHeartbeats 40000000 in
theorem rm_law (l : Launch) (Z : State) (a0 : Array Value) (hw : ∀ d ∈ tables_1, d.before a0 Z = true) (ws : List Jvm.Cond) (q0 : Int64) (q1 : Int64) (q2 : Int64) (q3 : Int64) (q4 : Int32) (h0 : Heap) (n0 : Nat) (Z0 : n0 ≤ h0.size) :
    MetFree l x (head1 (Jvm.Cond.code x code maxLocals ret :: ws) room_1) (fun a_ U => a_ = #[(.long q0), (.long q1), (.long q2), (.long q3), (.int q4)] ∧ Z.Warmed39 U.vm ∧ U.heap = h0) (fun _ _ _ _ _ => True) (fun _ U o U' => ∃ v_ L_, o = .returned v_ ∧ QL n0 v_ U'.heap L_ ∧ FrameEnd U o U' L_ room_1.cells room_1.slots) := by
  refine MetFree.of_bodySF (plainFor_of_name pn_0) hisR ?_
  intro p e s m args below meth c s₁ Bd hml0 hP hK
  obtain ⟨rfl, hZ, hh⟩ := hP
  have hx := Bd.exec
  have hby := Bd.bytes
  have hlk : meth.locks = false := Bd.notSynchronized
  have hml : c.maxLocals = 33 := hml0
  have hown : s.vm.findClass "com/example/tristream/tristream/SampleGraphContainsPinLaw" = some m.cls := findClass_of_methodNamed Bd.named
  have hnm := (name_of_methodNamed Bd.named Bd.method).1
  have X0 : Stand p l e room_1 s m #[(.long q0), (.long q1), (.long q2), (.long q3), (.int q4)] below meth c s₁ [] 0 0 := Stand.of_body Bd
  have e0 : s₁.heap = h0 := by rw [← hh, Bd.state]; rfl
  have N0 := Fr.nil n0
  have K0 : Keep h0 h0 [] := Keep.refl _ _
  show OEnds p e below s (QL n0) _ _ _
  refine own_by (fun t k => castTop (ef_0 m q0 q1 q2 q3 q4) k) ?_
  show OEnds p e below s _ _ _ (s₁.setTop (mkF m 0 #[(vj q0), sd, (vj q1), sd, (vj q2), sd, (vj q3), sd, (vi q4), un, un, un, un, un, un, un, un, un, un, un, un, un, un, un, un, un, un, un, un, un, un, un, un] []))
  refine qlN 1 X0 hx hby at_0 rfl rfl ?_
  refine own_by (X0.ldc2Long hx hown (mvT hZ (tw0 hw)) (g := (mkF m 1 #[(vj q0), sd, (vj q1), sd, (vj q2), sd, (vj q3), sd, (vi q4), un, un, un, un, un, un, un, un, un, un, un, un, un, un, un, un, un, un, un, un, un, un, un, un] [(.long q0)])) rfl (hb hby at_1)) ?_
  show OEnds p e below s _ _ _ (s₁.setTop (mkF m 4 #[(vj q0), sd, (vj q1), sd, (vj q2), sd, (vj q3), sd, (vi q4), un, un, un, un, un, un, un, un, un, un, un, un, un, un, un, un, un, un, un, un, un, un, un, un] [(.long 9223372036854775807), (.long q0)]))
  refine q_land 5 X0 hx hby at_4 rfl ?_
  refine qsl 7 #[(vj q0), sd, (vj q1), sd, (vj q2), sd, (vj q3), sd, (vi q4), (vj (q0 &&& (9223372036854775807 : Int64))), sd, un, un, un, un, un, un, un, un, un, un, un, un, un, un, un, un, un, un, un, un, un, un] X0 hx hby at_5 rfl rfl ?_
  obtain ⟨u, e_u⟩ : ∃ z, z = (q0 &&& (9223372036854775807 : Int64)) := ⟨_, rfl⟩
  rw [← e_u]
  have hn_u : ¬ u < (0 : Int64) := by rw [e_u]; exact land_nn q0
  show OEnds p e below s _ _ _ (s₁.setTop (mkF m 7 #[(vj q0), sd, (vj q1), sd, (vj q2), sd, (vj q3), sd, (vi q4), (vj u), sd, un, un, un, un, un, un, un, un, un, un, un, un, un, un, un, un, un, un, un, un, un, un] []))
  refine qlN 8 X0 hx hby at_7 rfl rfl ?_
  refine own_by (X0.ldc2Long hx hown (mvT hZ (tw0 hw)) (g := (mkF m 8 #[(vj q0), sd, (vj q1), sd, (vj q2), sd, (vj q3), sd, (vi q4), (vj u), sd, un, un, un, un, un, un, un, un, un, un, un, un, un, un, un, un, un, un, un, un, un, un] [(.long q1)])) rfl (hb hby at_8)) ?_
  show OEnds p e below s _ _ _ (s₁.setTop (mkF m 11 #[(vj q0), sd, (vj q1), sd, (vj q2), sd, (vj q3), sd, (vi q4), (vj u), sd, un, un, un, un, un, un, un, un, un, un, un, un, un, un, un, un, un, un, un, un, un, un] [(.long 9223372036854775807), (.long q1)]))
  refine q_land 12 X0 hx hby at_11 rfl ?_
  refine qsl 14 #[(vj q0), sd, (vj q1), sd, (vj q2), sd, (vj q3), sd, (vi q4), (vj u), sd, (vj (q1 &&& (9223372036854775807 : Int64))), sd, un, un, un, un, un, un, un, un, un, un, un, un, un, un, un, un, un, un, un, un] X0 hx hby at_12 rfl rfl ?_
  obtain ⟨v, e_v⟩ : ∃ z, z = (q1 &&& (9223372036854775807 : Int64)) := ⟨_, rfl⟩
  rw [← e_v]
  have hn_v : ¬ v < (0 : Int64) := by rw [e_v]; exact land_nn q1
  show OEnds p e below s _ _ _ (s₁.setTop (mkF m 14 #[(vj q0), sd, (vj q1), sd, (vj q2), sd, (vj q3), sd, (vi q4), (vj u), sd, (vj v), sd, un, un, un, un, un, un, un, un, un, un, un, un, un, un, un, un, un, un, un, un] []))
  refine ql 16 X0 hx hby at_14 rfl rfl ?_
  refine own_by (X0.ldc2Long hx hown (mvT hZ (tw0 hw)) (g := (mkF m 16 #[(vj q0), sd, (vj q1), sd, (vj q2), sd, (vj q3), sd, (vi q4), (vj u), sd, (vj v), sd, un, un, un, un, un, un, un, un, un, un, un, un, un, un, un, un, un, un, un, un] [(.long q2)])) rfl (hb hby at_16)) ?_
  show OEnds p e below s _ _ _ (s₁.setTop (mkF m 19 #[(vj q0), sd, (vj q1), sd, (vj q2), sd, (vj q3), sd, (vi q4), (vj u), sd, (vj v), sd, un, un, un, un, un, un, un, un, un, un, un, un, un, un, un, un, un, un, un, un] [(.long 9223372036854775807), (.long q2)]))
  refine q_land 20 X0 hx hby at_19 rfl ?_
  refine qsl 22 #[(vj q0), sd, (vj q1), sd, (vj q2), sd, (vj q3), sd, (vi q4), (vj u), sd, (vj v), sd, (vj (q2 &&& (9223372036854775807 : Int64))), sd, un, un, un, un, un, un, un, un, un, un, un, un, un, un, un, un, un, un] X0 hx hby at_20 rfl rfl ?_
  obtain ⟨tq, e_tq⟩ : ∃ z, z = (q2 &&& (9223372036854775807 : Int64)) := ⟨_, rfl⟩
  rw [← e_tq]
  have hn_tq : ¬ tq < (0 : Int64) := by rw [e_tq]; exact land_nn q2
  show OEnds p e below s _ _ _ (s₁.setTop (mkF m 22 #[(vj q0), sd, (vj q1), sd, (vj q2), sd, (vj q3), sd, (vi q4), (vj u), sd, (vj v), sd, (vj tq), sd, un, un, un, un, un, un, un, un, un, un, un, un, un, un, un, un, un, un] []))
  refine ql 24 X0 hx hby at_22 rfl rfl ?_
  refine ql 26 X0 hx hby at_24 rfl rfl ?_
  refine own_by (fun _ k => XS.lcmp X0.here hx rfl (hb hby at_26) rfl k) ?_
  show OEnds p e below s _ _ _ (s₁.setTop (mkF m 27 #[(vj q0), sd, (vj q1), sd, (vj q2), sd, (vj q3), sd, (vi q4), (vj u), sd, (vj v), sd, (vj tq), sd, un, un, un, un, un, un, un, un, un, un, un, un, un, un, un, un, un, un] [(.int (lcmpW u v))]))
  by_cases hc27_1 : u = v
  · refine q_ify 38 X0 hx hby at_27 rfl ((if0 _ _).trans (teq ((lw_eq _ _).mpr hc27_1)).1) ?_
    refine qc1 39 1 X0 hx hby at_38 rfl rfl ?_
    exact own_retN X0 hx hlk .boolean (by simp) Bd.returns (hb hby at_39) ⟨rfl, N0⟩ (by decide) (by decide)
  · refine q_ifn 30 X0 hx hby at_27 rfl ((if0 _ _).trans (feq (fun q => hc27_1 ((lw_eq _ _).mp q))).1) ?_
    refine ql 32 X0 hx hby at_30 rfl rfl ?_
    refine ql 34 X0 hx hby at_32 rfl rfl ?_
    refine own_by (fun _ k => XS.lcmp X0.here hx rfl (hb hby at_34) rfl k) ?_
    show OEnds p e below s _ _ _ (s₁.setTop (mkF m 35 #[(vj q0), sd, (vj q1), sd, (vj q2), sd, (vj q3), sd, (vi q4), (vj u), sd, (vj v), sd, (vj tq), sd, un, un, un, un, un, un, un, un, un, un, un, un, un, un, un, un, un, un] [(.int (lcmpW v tq))]))
    by_cases hc35_2 : v = tq
    · refine q_ifn 38 X0 hx hby at_35 rfl ((if0 _ _).trans (teq ((lw_eq _ _).mpr hc35_2)).2) ?_
      refine qc1 39 1 X0 hx hby at_38 rfl rfl ?_
      exact own_retN X0 hx hlk .boolean (by simp) Bd.returns (hb hby at_39) ⟨rfl, N0⟩ (by decide) (by decide)
    · refine q_ify 40 X0 hx hby at_35 rfl ((if0 _ _).trans (feq (fun q => hc35_2 ((lw_eq _ _).mp q))).2) ?_
      have hc27 := hc27_1
      have hc35 := hc35_2
      refine qi 42 X0 hx hby at_40 rfl rfl ?_
      refine qc2 44 16 X0 hx hby at_42 rfl rfl ?_
      refine q_iand 45 X0 hx hby at_44 rfl ?_
      refine own_by (S' := s₁.setTop (mkF m 53 #[(vj q0), sd, (vj q1), sd, (vj q2), sd, (vj q3), sd, (vi q4), (vj u), sd, (vj v), sd, (vj tq), sd, un, un, un, un, un, un, un, un, un, un, un, un, un, un, un, un, un, un] [(.int (if (q4 &&& (16 : Int32)) = (0 : Int32) then (0 : Int32) else (1 : Int32)))])) (fun t k => ?_) ?_
      · by_cases hc45_3 : (q4 &&& (16 : Int32)) = (0 : Int32)
        · rw [if_pos hc45_3] at k
          refine XS.ifYes X0.here hx rfl (pc0 := 45) (pc' := 52) rfl (hb hby at_45) rfl ((if0 _ _).trans (teq hc45_3).1) (by decide) (by decide) ?_
          show Steps p.tables e below (s₁.setTop (mkF m 52 #[(vj q0), sd, (vj q1), sd, (vj q2), sd, (vj q3), sd, (vi q4), (vj u), sd, (vj v), sd, (vj tq), sd, un, un, un, un, un, un, un, un, un, un, un, un, un, un, un, un, un, un] [])) t
          refine XS.iconst X0.here hx rfl (hb hby at_52) ?_
          show Steps p.tables e below (s₁.setTop (mkF m 53 #[(vj q0), sd, (vj q1), sd, (vj q2), sd, (vj q3), sd, (vi q4), (vj u), sd, (vj v), sd, (vj tq), sd, un, un, un, un, un, un, un, un, un, un, un, un, un, un, un, un, un, un] [(.int 0)])) t
          exact k
        · rw [if_neg hc45_3] at k
          refine XS.ifNo X0.here hx rfl (hb hby at_45) rfl ((if0 _ _).trans (feq hc45_3).1) ?_
          show Steps p.tables e below (s₁.setTop (mkF m 48 #[(vj q0), sd, (vj q1), sd, (vj q2), sd, (vj q3), sd, (vi q4), (vj u), sd, (vj v), sd, (vj tq), sd, un, un, un, un, un, un, un, un, un, un, un, un, un, un, un, un, un, un] [])) t
          refine XS.iconst X0.here hx rfl (hb hby at_48) ?_
          show Steps p.tables e below (s₁.setTop (mkF m 49 #[(vj q0), sd, (vj q1), sd, (vj q2), sd, (vj q3), sd, (vi q4), (vj u), sd, (vj v), sd, (vj tq), sd, un, un, un, un, un, un, un, un, un, un, un, un, un, un, un, un, un, un] [(.int 1)])) t
          refine XS.goto X0.here hx rfl (pc0 := 49) (pc' := 53) rfl (hb hby at_49) (by decide) (by decide) ?_
          show Steps p.tables e below (s₁.setTop (mkF m 53 #[(vj q0), sd, (vj q1), sd, (vj q2), sd, (vj q3), sd, (vi q4), (vj u), sd, (vj v), sd, (vj tq), sd, un, un, un, un, un, un, un, un, un, un, un, un, un, un, un, un, un, un] [(.int 1)])) t
          exact k
      show OEnds p e below s _ _ _ (s₁.setTop (mkF m 53 #[(vj q0), sd, (vj q1), sd, (vj q2), sd, (vj q3), sd, (vi q4), (vj u), sd, (vj v), sd, (vj tq), sd, un, un, un, un, un, un, un, un, un, un, un, un, un, un, un, un, un, un] [(.int (if (q4 &&& (16 : Int32)) = (0 : Int32) then (0 : Int32) else (1 : Int32)))]))
      refine qsi 55 #[(vj q0), sd, (vj q1), sd, (vj q2), sd, (vj q3), sd, (vi q4), (vj u), sd, (vj v), sd, (vj tq), sd, (vi (if (q4 &&& (16 : Int32)) = (0 : Int32) then (0 : Int32) else (1 : Int32))), un, un, un, un, un, un, un, un, un, un, un, un, un, un, un, un, un] X0 hx hby at_53 rfl rfl ?_
      obtain ⟨s2, e_s2⟩ : ∃ z, z = (if (q4 &&& (16 : Int32)) = (0 : Int32) then (0 : Int32) else (1 : Int32)) := ⟨_, rfl⟩
      rw [← e_s2]
      show OEnds p e below s _ _ _ (s₁.setTop (mkF m 55 #[(vj q0), sd, (vj q1), sd, (vj q2), sd, (vj q3), sd, (vi q4), (vj u), sd, (vj v), sd, (vj tq), sd, (vi s2), un, un, un, un, un, un, un, un, un, un, un, un, un, un, un, un, un] []))
      refine qi 57 X0 hx hby at_55 rfl rfl ?_
      refine qc2 59 32 X0 hx hby at_57 rfl rfl ?_
      refine q_iand 60 X0 hx hby at_59 rfl ?_
      refine own_by (S' := s₁.setTop (mkF m 68 #[(vj q0), sd, (vj q1), sd, (vj q2), sd, (vj q3), sd, (vi q4), (vj u), sd, (vj v), sd, (vj tq), sd, (vi s2), un, un, un, un, un, un, un, un, un, un, un, un, un, un, un, un, un] [(.int (if (q4 &&& (32 : Int32)) = (0 : Int32) then (0 : Int32) else (1 : Int32)))])) (fun t k => ?_) ?_
      · by_cases hc60_4 : (q4 &&& (32 : Int32)) = (0 : Int32)
        · rw [if_pos hc60_4] at k
          refine XS.ifYes X0.here hx rfl (pc0 := 60) (pc' := 67) rfl (hb hby at_60) rfl ((if0 _ _).trans (teq hc60_4).1) (by decide) (by decide) ?_
          show Steps p.tables e below (s₁.setTop (mkF m 67 #[(vj q0), sd, (vj q1), sd, (vj q2), sd, (vj q3), sd, (vi q4), (vj u), sd, (vj v), sd, (vj tq), sd, (vi s2), un, un, un, un, un, un, un, un, un, un, un, un, un, un, un, un, un] [])) t
          refine XS.iconst X0.here hx rfl (hb hby at_67) ?_
          show Steps p.tables e below (s₁.setTop (mkF m 68 #[(vj q0), sd, (vj q1), sd, (vj q2), sd, (vj q3), sd, (vi q4), (vj u), sd, (vj v), sd, (vj tq), sd, (vi s2), un, un, un, un, un, un, un, un, un, un, un, un, un, un, un, un, un] [(.int 0)])) t
          exact k
        · rw [if_neg hc60_4] at k
          refine XS.ifNo X0.here hx rfl (hb hby at_60) rfl ((if0 _ _).trans (feq hc60_4).1) ?_
          show Steps p.tables e below (s₁.setTop (mkF m 63 #[(vj q0), sd, (vj q1), sd, (vj q2), sd, (vj q3), sd, (vi q4), (vj u), sd, (vj v), sd, (vj tq), sd, (vi s2), un, un, un, un, un, un, un, un, un, un, un, un, un, un, un, un, un] [])) t
          refine XS.iconst X0.here hx rfl (hb hby at_63) ?_
          show Steps p.tables e below (s₁.setTop (mkF m 64 #[(vj q0), sd, (vj q1), sd, (vj q2), sd, (vj q3), sd, (vi q4), (vj u), sd, (vj v), sd, (vj tq), sd, (vi s2), un, un, un, un, un, un, un, un, un, un, un, un, un, un, un, un, un] [(.int 1)])) t
          refine XS.goto X0.here hx rfl (pc0 := 64) (pc' := 68) rfl (hb hby at_64) (by decide) (by decide) ?_
          show Steps p.tables e below (s₁.setTop (mkF m 68 #[(vj q0), sd, (vj q1), sd, (vj q2), sd, (vj q3), sd, (vi q4), (vj u), sd, (vj v), sd, (vj tq), sd, (vi s2), un, un, un, un, un, un, un, un, un, un, un, un, un, un, un, un, un] [(.int 1)])) t
          exact k
      show OEnds p e below s _ _ _ (s₁.setTop (mkF m 68 #[(vj q0), sd, (vj q1), sd, (vj q2), sd, (vj q3), sd, (vi q4), (vj u), sd, (vj v), sd, (vj tq), sd, (vi s2), un, un, un, un, un, un, un, un, un, un, un, un, un, un, un, un, un] [(.int (if (q4 &&& (32 : Int32)) = (0 : Int32) then (0 : Int32) else (1 : Int32)))]))
      refine qsi 70 #[(vj q0), sd, (vj q1), sd, (vj q2), sd, (vj q3), sd, (vi q4), (vj u), sd, (vj v), sd, (vj tq), sd, (vi s2), (vi (if (q4 &&& (32 : Int32)) = (0 : Int32) then (0 : Int32) else (1 : Int32))), un, un, un, un, un, un, un, un, un, un, un, un, un, un, un, un] X0 hx hby at_68 rfl rfl ?_
      obtain ⟨dr, e_dr⟩ : ∃ z, z = (if (q4 &&& (32 : Int32)) = (0 : Int32) then (0 : Int32) else (1 : Int32)) := ⟨_, rfl⟩
      rw [← e_dr]
      show OEnds p e below s _ _ _ (s₁.setTop (mkF m 70 #[(vj q0), sd, (vj q1), sd, (vj q2), sd, (vj q3), sd, (vi q4), (vj u), sd, (vj v), sd, (vj tq), sd, (vi s2), (vi dr), un, un, un, un, un, un, un, un, un, un, un, un, un, un, un, un] []))
      refine qi 72 X0 hx hby at_70 rfl rfl ?_
      refine qc2 74 64 X0 hx hby at_72 rfl rfl ?_
      refine q_iand 75 X0 hx hby at_74 rfl ?_
      refine own_by (S' := s₁.setTop (mkF m 83 #[(vj q0), sd, (vj q1), sd, (vj q2), sd, (vj q3), sd, (vi q4), (vj u), sd, (vj v), sd, (vj tq), sd, (vi s2), (vi dr), un, un, un, un, un, un, un, un, un, un, un, un, un, un, un, un] [(.int (if (q4 &&& (64 : Int32)) = (0 : Int32) then (0 : Int32) else (1 : Int32)))])) (fun t k => ?_) ?_
      · by_cases hc75_5 : (q4 &&& (64 : Int32)) = (0 : Int32)
        · rw [if_pos hc75_5] at k
          refine XS.ifYes X0.here hx rfl (pc0 := 75) (pc' := 82) rfl (hb hby at_75) rfl ((if0 _ _).trans (teq hc75_5).1) (by decide) (by decide) ?_
          show Steps p.tables e below (s₁.setTop (mkF m 82 #[(vj q0), sd, (vj q1), sd, (vj q2), sd, (vj q3), sd, (vi q4), (vj u), sd, (vj v), sd, (vj tq), sd, (vi s2), (vi dr), un, un, un, un, un, un, un, un, un, un, un, un, un, un, un, un] [])) t
          refine XS.iconst X0.here hx rfl (hb hby at_82) ?_
          show Steps p.tables e below (s₁.setTop (mkF m 83 #[(vj q0), sd, (vj q1), sd, (vj q2), sd, (vj q3), sd, (vi q4), (vj u), sd, (vj v), sd, (vj tq), sd, (vi s2), (vi dr), un, un, un, un, un, un, un, un, un, un, un, un, un, un, un, un] [(.int 0)])) t
          exact k
        · rw [if_neg hc75_5] at k
          refine XS.ifNo X0.here hx rfl (hb hby at_75) rfl ((if0 _ _).trans (feq hc75_5).1) ?_
          show Steps p.tables e below (s₁.setTop (mkF m 78 #[(vj q0), sd, (vj q1), sd, (vj q2), sd, (vj q3), sd, (vi q4), (vj u), sd, (vj v), sd, (vj tq), sd, (vi s2), (vi dr), un, un, un, un, un, un, un, un, un, un, un, un, un, un, un, un] [])) t
          refine XS.iconst X0.here hx rfl (hb hby at_78) ?_
          show Steps p.tables e below (s₁.setTop (mkF m 79 #[(vj q0), sd, (vj q1), sd, (vj q2), sd, (vj q3), sd, (vi q4), (vj u), sd, (vj v), sd, (vj tq), sd, (vi s2), (vi dr), un, un, un, un, un, un, un, un, un, un, un, un, un, un, un, un] [(.int 1)])) t
          refine XS.goto X0.here hx rfl (pc0 := 79) (pc' := 83) rfl (hb hby at_79) (by decide) (by decide) ?_
          show Steps p.tables e below (s₁.setTop (mkF m 83 #[(vj q0), sd, (vj q1), sd, (vj q2), sd, (vj q3), sd, (vi q4), (vj u), sd, (vj v), sd, (vj tq), sd, (vi s2), (vi dr), un, un, un, un, un, un, un, un, un, un, un, un, un, un, un, un] [(.int 1)])) t
          exact k
      show OEnds p e below s _ _ _ (s₁.setTop (mkF m 83 #[(vj q0), sd, (vj q1), sd, (vj q2), sd, (vj q3), sd, (vi q4), (vj u), sd, (vj v), sd, (vj tq), sd, (vi s2), (vi dr), un, un, un, un, un, un, un, un, un, un, un, un, un, un, un, un] [(.int (if (q4 &&& (64 : Int32)) = (0 : Int32) then (0 : Int32) else (1 : Int32)))]))
      refine qsi 85 #[(vj q0), sd, (vj q1), sd, (vj q2), sd, (vj q3), sd, (vi q4), (vj u), sd, (vj v), sd, (vj tq), sd, (vi s2), (vi dr), (vi (if (q4 &&& (64 : Int32)) = (0 : Int32) then (0 : Int32) else (1 : Int32))), un, un, un, un, un, un, un, un, un, un, un, un, un, un, un] X0 hx hby at_83 rfl rfl ?_
      obtain ⟨rs, e_rs⟩ : ∃ z, z = (if (q4 &&& (64 : Int32)) = (0 : Int32) then (0 : Int32) else (1 : Int32)) := ⟨_, rfl⟩
      rw [← e_rs]
      show OEnds p e below s _ _ _ (s₁.setTop (mkF m 85 #[(vj q0), sd, (vj q1), sd, (vj q2), sd, (vj q3), sd, (vi q4), (vj u), sd, (vj v), sd, (vj tq), sd, (vi s2), (vi dr), (vi rs), un, un, un, un, un, un, un, un, un, un, un, un, un, un, un] []))
      refine qi 87 X0 hx hby at_85 rfl rfl ?_
      refine qc1 88 3 X0 hx hby at_87 rfl rfl ?_
      refine q_iand 89 X0 hx hby at_88 rfl ?_
      refine ql 91 X0 hx hby at_89 rfl rfl ?_
      refine ql 93 X0 hx hby at_91 rfl rfl ?_
      refine ql 95 X0 hx hby at_93 rfl rfl ?_
      refine ql 97 X0 hx hby at_95 rfl rfl ?_
      obtain ⟨T6, X6, e6, st6⟩ := own_callP X0 hx hZ (y := mn12) hown (tw1 hw) (tw2 hw) (tw3 hw) (tw4 hw) (by decide) (rm_gpick l Z a0 hw [] (q4 &&& (3 : Int32)) u v tq q3 h0) e0 (g := (mkF m 97 #[(vj q0), sd, (vj q1), sd, (vj q2), sd, (vj q3), sd, (vi q4), (vj u), sd, (vj v), sd, (vj tq), sd, (vi s2), (vi dr), (vi rs), un, un, un, un, un, un, un, un, un, un, un, un, un, un, un] [(.long q3), (.long tq), (.long v), (.long u), (.int (q4 &&& (3 : Int32)))])) rfl (by rw [hml]; rfl) (argsL := [(.int (q4 &&& (3 : Int32))), (.long u), (.long v), (.long tq), (.long q3)]) (rest := []) (lenOf pd_pIJJJJrJ rfl) rfl (W := 0) (by show 2 * 0 + _ ≤ _; exact Nat.le_of_eq rfl) (hb hby at_97) (by decide) (by decide) (by decide) (by decide)
      refine qat 100 #[(vj q0), sd, (vj q1), sd, (vj q2), sd, (vj q3), sd, (vi q4), (vj u), sd, (vj v), sd, (vj tq), sd, (vi s2), (vi dr), (vi rs), un, un, un, un, un, un, un, un, un, un, un, un, un, un, un] [(.long (gpick (q4 &&& (3 : Int32)) u v tq q3))] st6 ?_
      refine qsl 102 #[(vj q0), sd, (vj q1), sd, (vj q2), sd, (vj q3), sd, (vi q4), (vj u), sd, (vj v), sd, (vj tq), sd, (vi s2), (vi dr), (vi rs), (vj (gpick (q4 &&& (3 : Int32)) u v tq q3)), sd, un, un, un, un, un, un, un, un, un, un, un, un, un] X6 hx hby at_100 rfl rfl ?_
      refine qi 104 X6 hx hby at_102 rfl rfl ?_
      refine qc1 105 2 X6 hx hby at_104 rfl rfl ?_
      refine own_by (fun _ k => XS.iushr X6.here hx rfl (hb hby at_105) rfl k) ?_
      show OEnds p e below s _ _ _ (T6.setTop (mkF m 106 #[(vj q0), sd, (vj q1), sd, (vj q2), sd, (vj q3), sd, (vi q4), (vj u), sd, (vj v), sd, (vj tq), sd, (vi s2), (vi dr), (vi rs), (vj (gpick (q4 &&& (3 : Int32)) u v tq q3)), sd, un, un, un, un, un, un, un, un, un, un, un, un, un] [(.int ((q4.toUInt32 >>> ((2 : Int32) &&& 31).toUInt32).toInt32))]))
      refine qc1 107 3 X6 hx hby at_106 rfl rfl ?_
      refine q_iand 108 X6 hx hby at_107 rfl ?_
      refine ql 110 X6 hx hby at_108 rfl rfl ?_
      refine ql 112 X6 hx hby at_110 rfl rfl ?_
      refine ql 114 X6 hx hby at_112 rfl rfl ?_
      refine ql 116 X6 hx hby at_114 rfl rfl ?_
      obtain ⟨T7, X7, e7, st7⟩ := own_callP X6 hx hZ (y := mn12) hown (tw1 hw) (tw2 hw) (tw3 hw) (tw4 hw) (by decide) (rm_gpick l Z a0 hw [] (((q4.toUInt32 >>> ((2 : Int32) &&& 31).toUInt32).toInt32) &&& (3 : Int32)) u v tq q3 h0) e6 (g := (mkF m 116 #[(vj q0), sd, (vj q1), sd, (vj q2), sd, (vj q3), sd, (vi q4), (vj u), sd, (vj v), sd, (vj tq), sd, (vi s2), (vi dr), (vi rs), (vj (gpick (q4 &&& (3 : Int32)) u v tq q3)), sd, un, un, un, un, un, un, un, un, un, un, un, un, un] [(.long q3), (.long tq), (.long v), (.long u), (.int (((q4.toUInt32 >>> ((2 : Int32) &&& 31).toUInt32).toInt32) &&& (3 : Int32)))])) rfl (by rw [hml]; rfl) (argsL := [(.int (((q4.toUInt32 >>> ((2 : Int32) &&& 31).toUInt32).toInt32) &&& (3 : Int32))), (.long u), (.long v), (.long tq), (.long q3)]) (rest := []) (lenOf pd_pIJJJJrJ rfl) rfl (W := 0) (by show 2 * 0 + _ ≤ _; exact Nat.le_of_eq rfl) (hb hby at_116) (by decide) (by decide) (by decide) (by decide)
      refine qat 119 #[(vj q0), sd, (vj q1), sd, (vj q2), sd, (vj q3), sd, (vi q4), (vj u), sd, (vj v), sd, (vj tq), sd, (vi s2), (vi dr), (vi rs), (vj (gpick (q4 &&& (3 : Int32)) u v tq q3)), sd, un, un, un, un, un, un, un, un, un, un, un, un, un] [(.long (gpick (((q4.toUInt32 >>> ((2 : Int32) &&& 31).toUInt32).toInt32) &&& (3 : Int32)) u v tq q3))] st7 ?_
      refine qsl 121 #[(vj q0), sd, (vj q1), sd, (vj q2), sd, (vj q3), sd, (vi q4), (vj u), sd, (vj v), sd, (vj tq), sd, (vi s2), (vi dr), (vi rs), (vj (gpick (q4 &&& (3 : Int32)) u v tq q3)), sd, (vj (gpick (((q4.toUInt32 >>> ((2 : Int32) &&& 31).toUInt32).toInt32) &&& (3 : Int32)) u v tq q3)), sd, un, un, un, un, un, un, un, un, un, un, un] X7 hx hby at_119 rfl rfl ?_
      obtain ⟨xa, e_xa⟩ : ∃ z, z = (gpick (q4 &&& (3 : Int32)) u v tq q3) := ⟨_, rfl⟩
      rw [← e_xa]
      obtain ⟨xb, e_xb⟩ : ∃ z, z = (gpick (((q4.toUInt32 >>> ((2 : Int32) &&& 31).toUInt32).toInt32) &&& (3 : Int32)) u v tq q3) := ⟨_, rfl⟩
      rw [← e_xb]
      show OEnds p e below s _ _ _ (T7.setTop (mkF m 121 #[(vj q0), sd, (vj q1), sd, (vj q2), sd, (vj q3), sd, (vi q4), (vj u), sd, (vj v), sd, (vj tq), sd, (vi s2), (vi dr), (vi rs), (vj xa), sd, (vj xb), sd, un, un, un, un, un, un, un, un, un, un, un] []))
      have tl : ∀ (T : State) (lo : List Loc) (gA : Addr) (eA : Addr) (eB : Addr) (rr : Int32) (h_tl : Heap) (Zz_tl : n0 ≤ h_tl.size) (X_tl : Stand p l e room_1 s m #[(.long q0), (.long q1), (.long q2), (.long q3), (.int q4)] below meth c T lo 48 256) (e_tl : T.heap = h_tl) (N_tl : Fr n0 lo) (hr : (rr = 1 ∧ Fexp s2 dr (if rs = (0 : Int32) then u else v) (if rs = (0 : Int32) then v else tq) u v tq xa xb) ∨ (rr = 0 ∧ ¬ Fexp s2 dr (if rs = (0 : Int32) then u else v) (if rs = (0 : Int32) then v else tq) u v tq xa xb)), OEnds p e below s (QL n0) room_1.cells room_1.slots (T.setTop (mkF m 208 #[(vj q0), sd, (vj q1), sd, (vj q2), sd, (vj q3), sd, (vi q4), (vj u), sd, (vj v), sd, (vj tq), sd, (vi s2), (vi dr), (vi rs), (vj xa), sd, (vj xb), sd, (vr gA), (vr eA), (vr eB), (vi rr), un, un, un, un, un, un, un] [])) := by
        intro T lo gA eA eB rr h_tl Zz_tl X_tl e_tl N_tl hr
        show OEnds p e below s _ _ _ (T.setTop (mkF m 208 #[(vj q0), sd, (vj q1), sd, (vj q2), sd, (vj q3), sd, (vi q4), (vj u), sd, (vj v), sd, (vj tq), sd, (vi s2), (vi dr), (vi rs), (vj xa), sd, (vj xb), sd, (vr gA), (vr eA), (vr eB), (vi rr), un, un, un, un, un, un, un] []))
        refine qi 210 X_tl hx hby at_208 rfl rfl ?_
        refine own_by (S' := T.setTop (mkF m 220 #[(vj q0), sd, (vj q1), sd, (vj q2), sd, (vj q3), sd, (vi q4), (vj u), sd, (vj v), sd, (vj tq), sd, (vi s2), (vi dr), (vi rs), (vj xa), sd, (vj xb), sd, (vr gA), (vr eA), (vr eB), (vi rr), un, un, un, un, un, un, un] [(.long (if rs = (0 : Int32) then u else v))])) (fun t k => ?_) ?_
        · by_cases hc210_8 : rs = (0 : Int32)
          · rw [if_pos hc210_8] at k
            refine XS.ifYes X_tl.here hx rfl (pc0 := 210) (pc' := 218) rfl (hb hby at_210) rfl ((if0 _ _).trans (teq hc210_8).1) (by decide) (by decide) ?_
            show Steps p.tables e below (T.setTop (mkF m 218 #[(vj q0), sd, (vj q1), sd, (vj q2), sd, (vj q3), sd, (vi q4), (vj u), sd, (vj v), sd, (vj tq), sd, (vi s2), (vi dr), (vi rs), (vj xa), sd, (vj xb), sd, (vr gA), (vr eA), (vr eB), (vi rr), un, un, un, un, un, un, un] [])) t
            refine XS.lload X_tl.here hx rfl (hb hby at_218) rfl ?_
            show Steps p.tables e below (T.setTop (mkF m 220 #[(vj q0), sd, (vj q1), sd, (vj q2), sd, (vj q3), sd, (vi q4), (vj u), sd, (vj v), sd, (vj tq), sd, (vi s2), (vi dr), (vi rs), (vj xa), sd, (vj xb), sd, (vr gA), (vr eA), (vr eB), (vi rr), un, un, un, un, un, un, un] [(.long u)])) t
            exact k
          · rw [if_neg hc210_8] at k
            refine XS.ifNo X_tl.here hx rfl (hb hby at_210) rfl ((if0 _ _).trans (feq hc210_8).1) ?_
            show Steps p.tables e below (T.setTop (mkF m 213 #[(vj q0), sd, (vj q1), sd, (vj q2), sd, (vj q3), sd, (vi q4), (vj u), sd, (vj v), sd, (vj tq), sd, (vi s2), (vi dr), (vi rs), (vj xa), sd, (vj xb), sd, (vr gA), (vr eA), (vr eB), (vi rr), un, un, un, un, un, un, un] [])) t
            refine XS.lload X_tl.here hx rfl (hb hby at_213) rfl ?_
            show Steps p.tables e below (T.setTop (mkF m 215 #[(vj q0), sd, (vj q1), sd, (vj q2), sd, (vj q3), sd, (vi q4), (vj u), sd, (vj v), sd, (vj tq), sd, (vi s2), (vi dr), (vi rs), (vj xa), sd, (vj xb), sd, (vr gA), (vr eA), (vr eB), (vi rr), un, un, un, un, un, un, un] [(.long v)])) t
            refine XS.goto X_tl.here hx rfl (pc0 := 215) (pc' := 220) rfl (hb hby at_215) (by decide) (by decide) ?_
            show Steps p.tables e below (T.setTop (mkF m 220 #[(vj q0), sd, (vj q1), sd, (vj q2), sd, (vj q3), sd, (vi q4), (vj u), sd, (vj v), sd, (vj tq), sd, (vi s2), (vi dr), (vi rs), (vj xa), sd, (vj xb), sd, (vr gA), (vr eA), (vr eB), (vi rr), un, un, un, un, un, un, un] [(.long v)])) t
            exact k
        show OEnds p e below s _ _ _ (T.setTop (mkF m 220 #[(vj q0), sd, (vj q1), sd, (vj q2), sd, (vj q3), sd, (vi q4), (vj u), sd, (vj v), sd, (vj tq), sd, (vi s2), (vi dr), (vi rs), (vj xa), sd, (vj xb), sd, (vr gA), (vr eA), (vr eB), (vi rr), un, un, un, un, un, un, un] [(.long (if rs = (0 : Int32) then u else v))]))
        refine qsl 222 #[(vj q0), sd, (vj q1), sd, (vj q2), sd, (vj q3), sd, (vi q4), (vj u), sd, (vj v), sd, (vj tq), sd, (vi s2), (vi dr), (vi rs), (vj xa), sd, (vj xb), sd, (vr gA), (vr eA), (vr eB), (vi rr), (vj (if rs = (0 : Int32) then u else v)), sd, un, un, un, un, un] X_tl hx hby at_220 rfl rfl ?_
        obtain ⟨rp, e_rp⟩ : ∃ z, z = (if rs = (0 : Int32) then u else v) := ⟨_, rfl⟩
        rw [← e_rp]
        rw [← e_rp] at hr
        show OEnds p e below s _ _ _ (T.setTop (mkF m 222 #[(vj q0), sd, (vj q1), sd, (vj q2), sd, (vj q3), sd, (vi q4), (vj u), sd, (vj v), sd, (vj tq), sd, (vi s2), (vi dr), (vi rs), (vj xa), sd, (vj xb), sd, (vr gA), (vr eA), (vr eB), (vi rr), (vj rp), sd, un, un, un, un, un] []))
        refine qi 224 X_tl hx hby at_222 rfl rfl ?_
        refine own_by (S' := T.setTop (mkF m 234 #[(vj q0), sd, (vj q1), sd, (vj q2), sd, (vj q3), sd, (vi q4), (vj u), sd, (vj v), sd, (vj tq), sd, (vi s2), (vi dr), (vi rs), (vj xa), sd, (vj xb), sd, (vr gA), (vr eA), (vr eB), (vi rr), (vj rp), sd, un, un, un, un, un] [(.long (if rs = (0 : Int32) then v else tq))])) (fun t k => ?_) ?_
        · by_cases hc224_9 : rs = (0 : Int32)
          · rw [if_pos hc224_9] at k
            refine XS.ifYes X_tl.here hx rfl (pc0 := 224) (pc' := 232) rfl (hb hby at_224) rfl ((if0 _ _).trans (teq hc224_9).1) (by decide) (by decide) ?_
            show Steps p.tables e below (T.setTop (mkF m 232 #[(vj q0), sd, (vj q1), sd, (vj q2), sd, (vj q3), sd, (vi q4), (vj u), sd, (vj v), sd, (vj tq), sd, (vi s2), (vi dr), (vi rs), (vj xa), sd, (vj xb), sd, (vr gA), (vr eA), (vr eB), (vi rr), (vj rp), sd, un, un, un, un, un] [])) t
            refine XS.lload X_tl.here hx rfl (hb hby at_232) rfl ?_
            show Steps p.tables e below (T.setTop (mkF m 234 #[(vj q0), sd, (vj q1), sd, (vj q2), sd, (vj q3), sd, (vi q4), (vj u), sd, (vj v), sd, (vj tq), sd, (vi s2), (vi dr), (vi rs), (vj xa), sd, (vj xb), sd, (vr gA), (vr eA), (vr eB), (vi rr), (vj rp), sd, un, un, un, un, un] [(.long v)])) t
            exact k
          · rw [if_neg hc224_9] at k
            refine XS.ifNo X_tl.here hx rfl (hb hby at_224) rfl ((if0 _ _).trans (feq hc224_9).1) ?_
            show Steps p.tables e below (T.setTop (mkF m 227 #[(vj q0), sd, (vj q1), sd, (vj q2), sd, (vj q3), sd, (vi q4), (vj u), sd, (vj v), sd, (vj tq), sd, (vi s2), (vi dr), (vi rs), (vj xa), sd, (vj xb), sd, (vr gA), (vr eA), (vr eB), (vi rr), (vj rp), sd, un, un, un, un, un] [])) t
            refine XS.lload X_tl.here hx rfl (hb hby at_227) rfl ?_
            show Steps p.tables e below (T.setTop (mkF m 229 #[(vj q0), sd, (vj q1), sd, (vj q2), sd, (vj q3), sd, (vi q4), (vj u), sd, (vj v), sd, (vj tq), sd, (vi s2), (vi dr), (vi rs), (vj xa), sd, (vj xb), sd, (vr gA), (vr eA), (vr eB), (vi rr), (vj rp), sd, un, un, un, un, un] [(.long tq)])) t
            refine XS.goto X_tl.here hx rfl (pc0 := 229) (pc' := 234) rfl (hb hby at_229) (by decide) (by decide) ?_
            show Steps p.tables e below (T.setTop (mkF m 234 #[(vj q0), sd, (vj q1), sd, (vj q2), sd, (vj q3), sd, (vi q4), (vj u), sd, (vj v), sd, (vj tq), sd, (vi s2), (vi dr), (vi rs), (vj xa), sd, (vj xb), sd, (vr gA), (vr eA), (vr eB), (vi rr), (vj rp), sd, un, un, un, un, un] [(.long tq)])) t
            exact k
        show OEnds p e below s _ _ _ (T.setTop (mkF m 234 #[(vj q0), sd, (vj q1), sd, (vj q2), sd, (vj q3), sd, (vi q4), (vj u), sd, (vj v), sd, (vj tq), sd, (vi s2), (vi dr), (vi rs), (vj xa), sd, (vj xb), sd, (vr gA), (vr eA), (vr eB), (vi rr), (vj rp), sd, un, un, un, un, un] [(.long (if rs = (0 : Int32) then v else tq))]))
        refine qsl 236 #[(vj q0), sd, (vj q1), sd, (vj q2), sd, (vj q3), sd, (vi q4), (vj u), sd, (vj v), sd, (vj tq), sd, (vi s2), (vi dr), (vi rs), (vj xa), sd, (vj xb), sd, (vr gA), (vr eA), (vr eB), (vi rr), (vj rp), sd, (vj (if rs = (0 : Int32) then v else tq)), sd, un, un, un] X_tl hx hby at_234 rfl rfl ?_
        obtain ⟨rq, e_rq⟩ : ∃ z, z = (if rs = (0 : Int32) then v else tq) := ⟨_, rfl⟩
        rw [← e_rq]
        rw [← e_rq] at hr
        show OEnds p e below s _ _ _ (T.setTop (mkF m 236 #[(vj q0), sd, (vj q1), sd, (vj q2), sd, (vj q3), sd, (vi q4), (vj u), sd, (vj v), sd, (vj tq), sd, (vi s2), (vi dr), (vi rs), (vj xa), sd, (vj xb), sd, (vr gA), (vr eA), (vr eB), (vi rr), (vj rp), sd, (vj rq), sd, un, un, un] []))
        refine qi 238 X_tl hx hby at_236 rfl rfl ?_
        by_cases hc238_10 : dr = (0 : Int32)
        · refine q_ify 255 X_tl hx hby at_238 rfl ((if0 _ _).trans (teq hc238_10).1) ?_
          refine qc1 256 1 X_tl hx hby at_255 rfl rfl ?_
          refine q_goto 260 X_tl hx hby at_256 rfl ?_
          refine qsi 262 #[(vj q0), sd, (vj q1), sd, (vj q2), sd, (vj q3), sd, (vi q4), (vj u), sd, (vj v), sd, (vj tq), sd, (vi s2), (vi dr), (vi rs), (vj xa), sd, (vj xb), sd, (vr gA), (vr eA), (vr eB), (vi rr), (vj rp), sd, (vj rq), sd, (vi 1), un, un] X_tl hx hby at_260 rfl rfl ?_
          refine qi 264 X_tl hx hby at_262 rfl rfl ?_
          by_cases hc264_11 : s2 = (0 : Int32)
          · refine q_ify 290 X_tl hx hby at_264 rfl ((if0 _ _).trans (teq hc264_11).1) ?_
            refine qc1 291 0 X_tl hx hby at_290 rfl rfl ?_
            refine qsi 293 #[(vj q0), sd, (vj q1), sd, (vj q2), sd, (vj q3), sd, (vi q4), (vj u), sd, (vj v), sd, (vj tq), sd, (vi s2), (vi dr), (vi rs), (vj xa), sd, (vj xb), sd, (vr gA), (vr eA), (vr eB), (vi rr), (vj rp), sd, (vj rq), sd, (vi 1), (vi 0), un] X_tl hx hby at_291 rfl rfl ?_
            refine qi 295 X_tl hx hby at_293 rfl rfl ?_
            refine q_ifn 298 X_tl hx hby at_295 rfl ((if0 _ _).trans (feq (by decide : ¬ ((1 : Int32) = (0 : Int32)))).1) ?_
            refine ql 300 X_tl hx hby at_298 rfl rfl ?_
            refine ql 302 X_tl hx hby at_300 rfl rfl ?_
            refine ql 304 X_tl hx hby at_302 rfl rfl ?_
            refine ql 306 X_tl hx hby at_304 rfl rfl ?_
            obtain ⟨T12, X12, e12, st12⟩ := own_callP X_tl hx hZ (y := mn11) hown (tw103 hw) (tw104 hw) (tw3 hw) (tw105 hw) (by decide) (rm_gsame l Z a0 hw [] xa xb u v h_tl) e_tl (g := (mkF m 306 #[(vj q0), sd, (vj q1), sd, (vj q2), sd, (vj q3), sd, (vi q4), (vj u), sd, (vj v), sd, (vj tq), sd, (vi s2), (vi dr), (vi rs), (vj xa), sd, (vj xb), sd, (vr gA), (vr eA), (vr eB), (vi rr), (vj rp), sd, (vj rq), sd, (vi 1), (vi 0), un] [(.long v), (.long u), (.long xb), (.long xa)])) rfl (by rw [hml]; rfl) (argsL := [(.long xa), (.long xb), (.long u), (.long v)]) (rest := []) (lenOf pd_pJJJJrZ rfl) rfl (W := 0) (by show 2 * 0 + _ ≤ _; exact Nat.le_of_eq rfl) (hb hby at_306) (by decide) (by decide) (by decide) (by decide)
            refine qat 309 #[(vj q0), sd, (vj q1), sd, (vj q2), sd, (vj q3), sd, (vi q4), (vj u), sd, (vj v), sd, (vj tq), sd, (vi s2), (vi dr), (vi rs), (vj xa), sd, (vj xb), sd, (vr gA), (vr eA), (vr eB), (vi rr), (vj rp), sd, (vj rq), sd, (vi 1), (vi 0), un] [(.int (gsame xa xb u v))] st12 ?_
            by_cases hc309_13 : (gsame xa xb u v) = (0 : Int32)
            · refine q_ifn 312 X12 hx hby at_309 rfl ((if0 _ _).trans (teq hc309_13).2) ?_
              refine qi 314 X12 hx hby at_312 rfl rfl ?_
              refine q_ify 335 X12 hx hby at_314 rfl ((if0 _ _).trans (teq (by decide : (0 : Int32) = (0 : Int32))).1) ?_
              refine qc1 336 0 X12 hx hby at_335 rfl rfl ?_
              refine qsi 338 #[(vj q0), sd, (vj q1), sd, (vj q2), sd, (vj q3), sd, (vi q4), (vj u), sd, (vj v), sd, (vj tq), sd, (vi s2), (vi dr), (vi rs), (vj xa), sd, (vj xb), sd, (vr gA), (vr eA), (vr eB), (vi rr), (vj rp), sd, (vj rq), sd, (vi 1), (vi 0), (vi 0)] X12 hx hby at_336 rfl rfl ?_
              refine qi 340 X12 hx hby at_338 rfl rfl ?_
              refine qi 342 X12 hx hby at_340 rfl rfl ?_
              refine q_cmn 345 X12 hx hby at_342 rfl (teq (res_0 hr (fun z => z.elim (fun y => sm_f hc309_13 y.2) (fun y => y.1.1 hc264_11)))).2 ?_
              refine qc1 346 1 X12 hx hby at_345 rfl rfl ?_
              refine q_goto 350 X12 hx hby at_346 rfl ?_
              exact own_retN X12 hx hlk .boolean (by simp) Bd.returns (hb hby at_350) ⟨rfl, N_tl⟩ (by decide) (by decide)
            · refine q_ify 331 X12 hx hby at_309 rfl ((if0 _ _).trans (feq hc309_13).2) ?_
              refine qc1 332 1 X12 hx hby at_331 rfl rfl ?_
              refine q_goto 336 X12 hx hby at_332 rfl ?_
              refine qsi 338 #[(vj q0), sd, (vj q1), sd, (vj q2), sd, (vj q3), sd, (vi q4), (vj u), sd, (vj v), sd, (vj tq), sd, (vi s2), (vi dr), (vi rs), (vj xa), sd, (vj xb), sd, (vr gA), (vr eA), (vr eB), (vi rr), (vj rp), sd, (vj rq), sd, (vi 1), (vi 0), (vi 1)] X12 hx hby at_336 rfl rfl ?_
              refine qi 340 X12 hx hby at_338 rfl rfl ?_
              refine qi 342 X12 hx hby at_340 rfl rfl ?_
              refine q_cmn 345 X12 hx hby at_342 rfl (teq (res_1 hr (Or.inl ⟨(fun z => z.1 hc238_10), sm_t hc309_13⟩))).2 ?_
              refine qc1 346 1 X12 hx hby at_345 rfl rfl ?_
              refine q_goto 350 X12 hx hby at_346 rfl ?_
              exact own_retN X12 hx hlk .boolean (by simp) Bd.returns (hb hby at_350) ⟨rfl, N_tl⟩ (by decide) (by decide)
          · refine q_ifn 267 X_tl hx hby at_264 rfl ((if0 _ _).trans (feq hc264_11).1) ?_
            refine qi 269 X_tl hx hby at_267 rfl rfl ?_
            refine q_ify 286 X_tl hx hby at_269 rfl ((if0 _ _).trans (teq hc238_10).1) ?_
            refine qc1 287 1 X_tl hx hby at_286 rfl rfl ?_
            refine q_goto 291 X_tl hx hby at_287 rfl ?_
            refine qsi 293 #[(vj q0), sd, (vj q1), sd, (vj q2), sd, (vj q3), sd, (vi q4), (vj u), sd, (vj v), sd, (vj tq), sd, (vi s2), (vi dr), (vi rs), (vj xa), sd, (vj xb), sd, (vr gA), (vr eA), (vr eB), (vi rr), (vj rp), sd, (vj rq), sd, (vi 1), (vi 1), un] X_tl hx hby at_291 rfl rfl ?_
            refine qi 295 X_tl hx hby at_293 rfl rfl ?_
            refine q_ifn 298 X_tl hx hby at_295 rfl ((if0 _ _).trans (feq (by decide : ¬ ((1 : Int32) = (0 : Int32)))).1) ?_
            refine ql 300 X_tl hx hby at_298 rfl rfl ?_
            refine ql 302 X_tl hx hby at_300 rfl rfl ?_
            refine ql 304 X_tl hx hby at_302 rfl rfl ?_
            refine ql 306 X_tl hx hby at_304 rfl rfl ?_
            obtain ⟨T14, X14, e14, st14⟩ := own_callP X_tl hx hZ (y := mn11) hown (tw103 hw) (tw104 hw) (tw3 hw) (tw105 hw) (by decide) (rm_gsame l Z a0 hw [] xa xb u v h_tl) e_tl (g := (mkF m 306 #[(vj q0), sd, (vj q1), sd, (vj q2), sd, (vj q3), sd, (vi q4), (vj u), sd, (vj v), sd, (vj tq), sd, (vi s2), (vi dr), (vi rs), (vj xa), sd, (vj xb), sd, (vr gA), (vr eA), (vr eB), (vi rr), (vj rp), sd, (vj rq), sd, (vi 1), (vi 1), un] [(.long v), (.long u), (.long xb), (.long xa)])) rfl (by rw [hml]; rfl) (argsL := [(.long xa), (.long xb), (.long u), (.long v)]) (rest := []) (lenOf pd_pJJJJrZ rfl) rfl (W := 0) (by show 2 * 0 + _ ≤ _; exact Nat.le_of_eq rfl) (hb hby at_306) (by decide) (by decide) (by decide) (by decide)
            refine qat 309 #[(vj q0), sd, (vj q1), sd, (vj q2), sd, (vj q3), sd, (vi q4), (vj u), sd, (vj v), sd, (vj tq), sd, (vi s2), (vi dr), (vi rs), (vj xa), sd, (vj xb), sd, (vr gA), (vr eA), (vr eB), (vi rr), (vj rp), sd, (vj rq), sd, (vi 1), (vi 1), un] [(.int (gsame xa xb u v))] st14 ?_
            by_cases hc309_15 : (gsame xa xb u v) = (0 : Int32)
            · refine q_ifn 312 X14 hx hby at_309 rfl ((if0 _ _).trans (teq hc309_15).2) ?_
              refine qi 314 X14 hx hby at_312 rfl rfl ?_
              refine q_ifn 317 X14 hx hby at_314 rfl ((if0 _ _).trans (feq (by decide : ¬ ((1 : Int32) = (0 : Int32)))).1) ?_
              refine ql 319 X14 hx hby at_317 rfl rfl ?_
              refine ql 321 X14 hx hby at_319 rfl rfl ?_
              refine ql 323 X14 hx hby at_321 rfl rfl ?_
              refine ql 325 X14 hx hby at_323 rfl rfl ?_
              obtain ⟨T16, X16, e16, st16⟩ := own_callP X14 hx hZ (y := mn11) hown (tw103 hw) (tw104 hw) (tw3 hw) (tw105 hw) (by decide) (rm_gsame l Z a0 hw [] xa xb v tq h_tl) e14 (g := (mkF m 325 #[(vj q0), sd, (vj q1), sd, (vj q2), sd, (vj q3), sd, (vi q4), (vj u), sd, (vj v), sd, (vj tq), sd, (vi s2), (vi dr), (vi rs), (vj xa), sd, (vj xb), sd, (vr gA), (vr eA), (vr eB), (vi rr), (vj rp), sd, (vj rq), sd, (vi 1), (vi 1), un] [(.long tq), (.long v), (.long xb), (.long xa)])) rfl (by rw [hml]; rfl) (argsL := [(.long xa), (.long xb), (.long v), (.long tq)]) (rest := []) (lenOf pd_pJJJJrZ rfl) rfl (W := 0) (by show 2 * 0 + _ ≤ _; exact Nat.le_of_eq rfl) (hb hby at_325) (by decide) (by decide) (by decide) (by decide)
              refine qat 328 #[(vj q0), sd, (vj q1), sd, (vj q2), sd, (vj q3), sd, (vi q4), (vj u), sd, (vj v), sd, (vj tq), sd, (vi s2), (vi dr), (vi rs), (vj xa), sd, (vj xb), sd, (vr gA), (vr eA), (vr eB), (vi rr), (vj rp), sd, (vj rq), sd, (vi 1), (vi 1), un] [(.int (gsame xa xb v tq))] st16 ?_
              by_cases hc328_17 : (gsame xa xb v tq) = (0 : Int32)
              · refine q_ify 335 X16 hx hby at_328 rfl ((if0 _ _).trans (teq hc328_17).1) ?_
                refine qc1 336 0 X16 hx hby at_335 rfl rfl ?_
                refine qsi 338 #[(vj q0), sd, (vj q1), sd, (vj q2), sd, (vj q3), sd, (vi q4), (vj u), sd, (vj v), sd, (vj tq), sd, (vi s2), (vi dr), (vi rs), (vj xa), sd, (vj xb), sd, (vr gA), (vr eA), (vr eB), (vi rr), (vj rp), sd, (vj rq), sd, (vi 1), (vi 1), (vi 0)] X16 hx hby at_336 rfl rfl ?_
                refine qi 340 X16 hx hby at_338 rfl rfl ?_
                refine qi 342 X16 hx hby at_340 rfl rfl ?_
                refine q_cmn 345 X16 hx hby at_342 rfl (teq (res_0 hr (fun z => z.elim (fun y => sm_f hc309_15 y.2) (fun y => sm_f hc328_17 y.2)))).2 ?_
                refine qc1 346 1 X16 hx hby at_345 rfl rfl ?_
                refine q_goto 350 X16 hx hby at_346 rfl ?_
                exact own_retN X16 hx hlk .boolean (by simp) Bd.returns (hb hby at_350) ⟨rfl, N_tl⟩ (by decide) (by decide)
              · refine q_ifn 331 X16 hx hby at_328 rfl ((if0 _ _).trans (feq hc328_17).1) ?_
                refine qc1 332 1 X16 hx hby at_331 rfl rfl ?_
                refine q_goto 336 X16 hx hby at_332 rfl ?_
                refine qsi 338 #[(vj q0), sd, (vj q1), sd, (vj q2), sd, (vj q3), sd, (vi q4), (vj u), sd, (vj v), sd, (vj tq), sd, (vi s2), (vi dr), (vi rs), (vj xa), sd, (vj xb), sd, (vr gA), (vr eA), (vr eB), (vi rr), (vj rp), sd, (vj rq), sd, (vi 1), (vi 1), (vi 1)] X16 hx hby at_336 rfl rfl ?_
                refine qi 340 X16 hx hby at_338 rfl rfl ?_
                refine qi 342 X16 hx hby at_340 rfl rfl ?_
                refine q_cmn 345 X16 hx hby at_342 rfl (teq (res_1 hr (Or.inr ⟨⟨hc264_11, (fun z => z.1 hc238_10)⟩, sm_t hc328_17⟩))).2 ?_
                refine qc1 346 1 X16 hx hby at_345 rfl rfl ?_
                refine q_goto 350 X16 hx hby at_346 rfl ?_
                exact own_retN X16 hx hlk .boolean (by simp) Bd.returns (hb hby at_350) ⟨rfl, N_tl⟩ (by decide) (by decide)
            · refine q_ify 331 X14 hx hby at_309 rfl ((if0 _ _).trans (feq hc309_15).2) ?_
              refine qc1 332 1 X14 hx hby at_331 rfl rfl ?_
              refine q_goto 336 X14 hx hby at_332 rfl ?_
              refine qsi 338 #[(vj q0), sd, (vj q1), sd, (vj q2), sd, (vj q3), sd, (vi q4), (vj u), sd, (vj v), sd, (vj tq), sd, (vi s2), (vi dr), (vi rs), (vj xa), sd, (vj xb), sd, (vr gA), (vr eA), (vr eB), (vi rr), (vj rp), sd, (vj rq), sd, (vi 1), (vi 1), (vi 1)] X14 hx hby at_336 rfl rfl ?_
              refine qi 340 X14 hx hby at_338 rfl rfl ?_
              refine qi 342 X14 hx hby at_340 rfl rfl ?_
              refine q_cmn 345 X14 hx hby at_342 rfl (teq (res_1 hr (Or.inl ⟨(fun z => z.1 hc238_10), sm_t hc309_15⟩))).2 ?_
              refine qc1 346 1 X14 hx hby at_345 rfl rfl ?_
              refine q_goto 350 X14 hx hby at_346 rfl ?_
              exact own_retN X14 hx hlk .boolean (by simp) Bd.returns (hb hby at_350) ⟨rfl, N_tl⟩ (by decide) (by decide)
        · refine q_ifn 241 X_tl hx hby at_238 rfl ((if0 _ _).trans (feq hc238_10).1) ?_
          refine ql 243 X_tl hx hby at_241 rfl rfl ?_
          refine ql 245 X_tl hx hby at_243 rfl rfl ?_
          refine ql 247 X_tl hx hby at_245 rfl rfl ?_
          refine ql 249 X_tl hx hby at_247 rfl rfl ?_
          obtain ⟨T18, X18, e18, st18⟩ := own_callP X_tl hx hZ (y := mn11) hown (tw103 hw) (tw104 hw) (tw3 hw) (tw105 hw) (by decide) (rm_gsame l Z a0 hw [] u v rp rq h_tl) e_tl (g := (mkF m 249 #[(vj q0), sd, (vj q1), sd, (vj q2), sd, (vj q3), sd, (vi q4), (vj u), sd, (vj v), sd, (vj tq), sd, (vi s2), (vi dr), (vi rs), (vj xa), sd, (vj xb), sd, (vr gA), (vr eA), (vr eB), (vi rr), (vj rp), sd, (vj rq), sd, un, un, un] [(.long rq), (.long rp), (.long v), (.long u)])) rfl (by rw [hml]; rfl) (argsL := [(.long u), (.long v), (.long rp), (.long rq)]) (rest := []) (lenOf pd_pJJJJrZ rfl) rfl (W := 0) (by show 2 * 0 + _ ≤ _; exact Nat.le_of_eq rfl) (hb hby at_249) (by decide) (by decide) (by decide) (by decide)
          refine qat 252 #[(vj q0), sd, (vj q1), sd, (vj q2), sd, (vj q3), sd, (vi q4), (vj u), sd, (vj v), sd, (vj tq), sd, (vi s2), (vi dr), (vi rs), (vj xa), sd, (vj xb), sd, (vr gA), (vr eA), (vr eB), (vi rr), (vj rp), sd, (vj rq), sd, un, un, un] [(.int (gsame u v rp rq))] st18 ?_
          by_cases hc252_19 : (gsame u v rp rq) = (0 : Int32)
          · refine q_ifn 255 X18 hx hby at_252 rfl ((if0 _ _).trans (teq hc252_19).2) ?_
            refine qc1 256 1 X18 hx hby at_255 rfl rfl ?_
            refine q_goto 260 X18 hx hby at_256 rfl ?_
            refine qsi 262 #[(vj q0), sd, (vj q1), sd, (vj q2), sd, (vj q3), sd, (vi q4), (vj u), sd, (vj v), sd, (vj tq), sd, (vi s2), (vi dr), (vi rs), (vj xa), sd, (vj xb), sd, (vr gA), (vr eA), (vr eB), (vi rr), (vj rp), sd, (vj rq), sd, (vi 1), un, un] X18 hx hby at_260 rfl rfl ?_
            refine qi 264 X18 hx hby at_262 rfl rfl ?_
            by_cases hc264_20 : s2 = (0 : Int32)
            · refine q_ify 290 X18 hx hby at_264 rfl ((if0 _ _).trans (teq hc264_20).1) ?_
              refine qc1 291 0 X18 hx hby at_290 rfl rfl ?_
              refine qsi 293 #[(vj q0), sd, (vj q1), sd, (vj q2), sd, (vj q3), sd, (vi q4), (vj u), sd, (vj v), sd, (vj tq), sd, (vi s2), (vi dr), (vi rs), (vj xa), sd, (vj xb), sd, (vr gA), (vr eA), (vr eB), (vi rr), (vj rp), sd, (vj rq), sd, (vi 1), (vi 0), un] X18 hx hby at_291 rfl rfl ?_
              refine qi 295 X18 hx hby at_293 rfl rfl ?_
              refine q_ifn 298 X18 hx hby at_295 rfl ((if0 _ _).trans (feq (by decide : ¬ ((1 : Int32) = (0 : Int32)))).1) ?_
              refine ql 300 X18 hx hby at_298 rfl rfl ?_
              refine ql 302 X18 hx hby at_300 rfl rfl ?_
              refine ql 304 X18 hx hby at_302 rfl rfl ?_
              refine ql 306 X18 hx hby at_304 rfl rfl ?_
              obtain ⟨T21, X21, e21, st21⟩ := own_callP X18 hx hZ (y := mn11) hown (tw103 hw) (tw104 hw) (tw3 hw) (tw105 hw) (by decide) (rm_gsame l Z a0 hw [] xa xb u v h_tl) e18 (g := (mkF m 306 #[(vj q0), sd, (vj q1), sd, (vj q2), sd, (vj q3), sd, (vi q4), (vj u), sd, (vj v), sd, (vj tq), sd, (vi s2), (vi dr), (vi rs), (vj xa), sd, (vj xb), sd, (vr gA), (vr eA), (vr eB), (vi rr), (vj rp), sd, (vj rq), sd, (vi 1), (vi 0), un] [(.long v), (.long u), (.long xb), (.long xa)])) rfl (by rw [hml]; rfl) (argsL := [(.long xa), (.long xb), (.long u), (.long v)]) (rest := []) (lenOf pd_pJJJJrZ rfl) rfl (W := 0) (by show 2 * 0 + _ ≤ _; exact Nat.le_of_eq rfl) (hb hby at_306) (by decide) (by decide) (by decide) (by decide)
              refine qat 309 #[(vj q0), sd, (vj q1), sd, (vj q2), sd, (vj q3), sd, (vi q4), (vj u), sd, (vj v), sd, (vj tq), sd, (vi s2), (vi dr), (vi rs), (vj xa), sd, (vj xb), sd, (vr gA), (vr eA), (vr eB), (vi rr), (vj rp), sd, (vj rq), sd, (vi 1), (vi 0), un] [(.int (gsame xa xb u v))] st21 ?_
              by_cases hc309_22 : (gsame xa xb u v) = (0 : Int32)
              · refine q_ifn 312 X21 hx hby at_309 rfl ((if0 _ _).trans (teq hc309_22).2) ?_
                refine qi 314 X21 hx hby at_312 rfl rfl ?_
                refine q_ify 335 X21 hx hby at_314 rfl ((if0 _ _).trans (teq (by decide : (0 : Int32) = (0 : Int32))).1) ?_
                refine qc1 336 0 X21 hx hby at_335 rfl rfl ?_
                refine qsi 338 #[(vj q0), sd, (vj q1), sd, (vj q2), sd, (vj q3), sd, (vi q4), (vj u), sd, (vj v), sd, (vj tq), sd, (vi s2), (vi dr), (vi rs), (vj xa), sd, (vj xb), sd, (vr gA), (vr eA), (vr eB), (vi rr), (vj rp), sd, (vj rq), sd, (vi 1), (vi 0), (vi 0)] X21 hx hby at_336 rfl rfl ?_
                refine qi 340 X21 hx hby at_338 rfl rfl ?_
                refine qi 342 X21 hx hby at_340 rfl rfl ?_
                refine q_cmn 345 X21 hx hby at_342 rfl (teq (res_0 hr (fun z => z.elim (fun y => sm_f hc309_22 y.2) (fun y => y.1.1 hc264_20)))).2 ?_
                refine qc1 346 1 X21 hx hby at_345 rfl rfl ?_
                refine q_goto 350 X21 hx hby at_346 rfl ?_
                exact own_retN X21 hx hlk .boolean (by simp) Bd.returns (hb hby at_350) ⟨rfl, N_tl⟩ (by decide) (by decide)
              · refine q_ify 331 X21 hx hby at_309 rfl ((if0 _ _).trans (feq hc309_22).2) ?_
                refine qc1 332 1 X21 hx hby at_331 rfl rfl ?_
                refine q_goto 336 X21 hx hby at_332 rfl ?_
                refine qsi 338 #[(vj q0), sd, (vj q1), sd, (vj q2), sd, (vj q3), sd, (vi q4), (vj u), sd, (vj v), sd, (vj tq), sd, (vi s2), (vi dr), (vi rs), (vj xa), sd, (vj xb), sd, (vr gA), (vr eA), (vr eB), (vi rr), (vj rp), sd, (vj rq), sd, (vi 1), (vi 0), (vi 1)] X21 hx hby at_336 rfl rfl ?_
                refine qi 340 X21 hx hby at_338 rfl rfl ?_
                refine qi 342 X21 hx hby at_340 rfl rfl ?_
                refine q_cmn 345 X21 hx hby at_342 rfl (teq (res_1 hr (Or.inl ⟨(fun z => sm_f hc252_19 z.2), sm_t hc309_22⟩))).2 ?_
                refine qc1 346 1 X21 hx hby at_345 rfl rfl ?_
                refine q_goto 350 X21 hx hby at_346 rfl ?_
                exact own_retN X21 hx hlk .boolean (by simp) Bd.returns (hb hby at_350) ⟨rfl, N_tl⟩ (by decide) (by decide)
            · refine q_ifn 267 X18 hx hby at_264 rfl ((if0 _ _).trans (feq hc264_20).1) ?_
              refine qi 269 X18 hx hby at_267 rfl rfl ?_
              refine q_ifn 272 X18 hx hby at_269 rfl ((if0 _ _).trans (feq hc238_10).1) ?_
              refine ql 274 X18 hx hby at_272 rfl rfl ?_
              refine ql 276 X18 hx hby at_274 rfl rfl ?_
              refine ql 278 X18 hx hby at_276 rfl rfl ?_
              refine ql 280 X18 hx hby at_278 rfl rfl ?_
              obtain ⟨T23, X23, e23, st23⟩ := own_callP X18 hx hZ (y := mn11) hown (tw103 hw) (tw104 hw) (tw3 hw) (tw105 hw) (by decide) (rm_gsame l Z a0 hw [] v tq rp rq h_tl) e18 (g := (mkF m 280 #[(vj q0), sd, (vj q1), sd, (vj q2), sd, (vj q3), sd, (vi q4), (vj u), sd, (vj v), sd, (vj tq), sd, (vi s2), (vi dr), (vi rs), (vj xa), sd, (vj xb), sd, (vr gA), (vr eA), (vr eB), (vi rr), (vj rp), sd, (vj rq), sd, (vi 1), un, un] [(.long rq), (.long rp), (.long tq), (.long v)])) rfl (by rw [hml]; rfl) (argsL := [(.long v), (.long tq), (.long rp), (.long rq)]) (rest := []) (lenOf pd_pJJJJrZ rfl) rfl (W := 0) (by show 2 * 0 + _ ≤ _; exact Nat.le_of_eq rfl) (hb hby at_280) (by decide) (by decide) (by decide) (by decide)
              refine qat 283 #[(vj q0), sd, (vj q1), sd, (vj q2), sd, (vj q3), sd, (vi q4), (vj u), sd, (vj v), sd, (vj tq), sd, (vi s2), (vi dr), (vi rs), (vj xa), sd, (vj xb), sd, (vr gA), (vr eA), (vr eB), (vi rr), (vj rp), sd, (vj rq), sd, (vi 1), un, un] [(.int (gsame v tq rp rq))] st23 ?_
              by_cases hc283_24 : (gsame v tq rp rq) = (0 : Int32)
              · refine q_ifn 286 X23 hx hby at_283 rfl ((if0 _ _).trans (teq hc283_24).2) ?_
                refine qc1 287 1 X23 hx hby at_286 rfl rfl ?_
                refine q_goto 291 X23 hx hby at_287 rfl ?_
                refine qsi 293 #[(vj q0), sd, (vj q1), sd, (vj q2), sd, (vj q3), sd, (vi q4), (vj u), sd, (vj v), sd, (vj tq), sd, (vi s2), (vi dr), (vi rs), (vj xa), sd, (vj xb), sd, (vr gA), (vr eA), (vr eB), (vi rr), (vj rp), sd, (vj rq), sd, (vi 1), (vi 1), un] X23 hx hby at_291 rfl rfl ?_
                refine qi 295 X23 hx hby at_293 rfl rfl ?_
                refine q_ifn 298 X23 hx hby at_295 rfl ((if0 _ _).trans (feq (by decide : ¬ ((1 : Int32) = (0 : Int32)))).1) ?_
                refine ql 300 X23 hx hby at_298 rfl rfl ?_
                refine ql 302 X23 hx hby at_300 rfl rfl ?_
                refine ql 304 X23 hx hby at_302 rfl rfl ?_
                refine ql 306 X23 hx hby at_304 rfl rfl ?_
                obtain ⟨T25, X25, e25, st25⟩ := own_callP X23 hx hZ (y := mn11) hown (tw103 hw) (tw104 hw) (tw3 hw) (tw105 hw) (by decide) (rm_gsame l Z a0 hw [] xa xb u v h_tl) e23 (g := (mkF m 306 #[(vj q0), sd, (vj q1), sd, (vj q2), sd, (vj q3), sd, (vi q4), (vj u), sd, (vj v), sd, (vj tq), sd, (vi s2), (vi dr), (vi rs), (vj xa), sd, (vj xb), sd, (vr gA), (vr eA), (vr eB), (vi rr), (vj rp), sd, (vj rq), sd, (vi 1), (vi 1), un] [(.long v), (.long u), (.long xb), (.long xa)])) rfl (by rw [hml]; rfl) (argsL := [(.long xa), (.long xb), (.long u), (.long v)]) (rest := []) (lenOf pd_pJJJJrZ rfl) rfl (W := 0) (by show 2 * 0 + _ ≤ _; exact Nat.le_of_eq rfl) (hb hby at_306) (by decide) (by decide) (by decide) (by decide)
                refine qat 309 #[(vj q0), sd, (vj q1), sd, (vj q2), sd, (vj q3), sd, (vi q4), (vj u), sd, (vj v), sd, (vj tq), sd, (vi s2), (vi dr), (vi rs), (vj xa), sd, (vj xb), sd, (vr gA), (vr eA), (vr eB), (vi rr), (vj rp), sd, (vj rq), sd, (vi 1), (vi 1), un] [(.int (gsame xa xb u v))] st25 ?_
                by_cases hc309_26 : (gsame xa xb u v) = (0 : Int32)
                · refine q_ifn 312 X25 hx hby at_309 rfl ((if0 _ _).trans (teq hc309_26).2) ?_
                  refine qi 314 X25 hx hby at_312 rfl rfl ?_
                  refine q_ifn 317 X25 hx hby at_314 rfl ((if0 _ _).trans (feq (by decide : ¬ ((1 : Int32) = (0 : Int32)))).1) ?_
                  refine ql 319 X25 hx hby at_317 rfl rfl ?_
                  refine ql 321 X25 hx hby at_319 rfl rfl ?_
                  refine ql 323 X25 hx hby at_321 rfl rfl ?_
                  refine ql 325 X25 hx hby at_323 rfl rfl ?_
                  obtain ⟨T27, X27, e27, st27⟩ := own_callP X25 hx hZ (y := mn11) hown (tw103 hw) (tw104 hw) (tw3 hw) (tw105 hw) (by decide) (rm_gsame l Z a0 hw [] xa xb v tq h_tl) e25 (g := (mkF m 325 #[(vj q0), sd, (vj q1), sd, (vj q2), sd, (vj q3), sd, (vi q4), (vj u), sd, (vj v), sd, (vj tq), sd, (vi s2), (vi dr), (vi rs), (vj xa), sd, (vj xb), sd, (vr gA), (vr eA), (vr eB), (vi rr), (vj rp), sd, (vj rq), sd, (vi 1), (vi 1), un] [(.long tq), (.long v), (.long xb), (.long xa)])) rfl (by rw [hml]; rfl) (argsL := [(.long xa), (.long xb), (.long v), (.long tq)]) (rest := []) (lenOf pd_pJJJJrZ rfl) rfl (W := 0) (by show 2 * 0 + _ ≤ _; exact Nat.le_of_eq rfl) (hb hby at_325) (by decide) (by decide) (by decide) (by decide)
                  refine qat 328 #[(vj q0), sd, (vj q1), sd, (vj q2), sd, (vj q3), sd, (vi q4), (vj u), sd, (vj v), sd, (vj tq), sd, (vi s2), (vi dr), (vi rs), (vj xa), sd, (vj xb), sd, (vr gA), (vr eA), (vr eB), (vi rr), (vj rp), sd, (vj rq), sd, (vi 1), (vi 1), un] [(.int (gsame xa xb v tq))] st27 ?_
                  by_cases hc328_28 : (gsame xa xb v tq) = (0 : Int32)
                  · refine q_ify 335 X27 hx hby at_328 rfl ((if0 _ _).trans (teq hc328_28).1) ?_
                    refine qc1 336 0 X27 hx hby at_335 rfl rfl ?_
                    refine qsi 338 #[(vj q0), sd, (vj q1), sd, (vj q2), sd, (vj q3), sd, (vi q4), (vj u), sd, (vj v), sd, (vj tq), sd, (vi s2), (vi dr), (vi rs), (vj xa), sd, (vj xb), sd, (vr gA), (vr eA), (vr eB), (vi rr), (vj rp), sd, (vj rq), sd, (vi 1), (vi 1), (vi 0)] X27 hx hby at_336 rfl rfl ?_
                    refine qi 340 X27 hx hby at_338 rfl rfl ?_
                    refine qi 342 X27 hx hby at_340 rfl rfl ?_
                    refine q_cmn 345 X27 hx hby at_342 rfl (teq (res_0 hr (fun z => z.elim (fun y => sm_f hc309_26 y.2) (fun y => sm_f hc328_28 y.2)))).2 ?_
                    refine qc1 346 1 X27 hx hby at_345 rfl rfl ?_
                    refine q_goto 350 X27 hx hby at_346 rfl ?_
                    exact own_retN X27 hx hlk .boolean (by simp) Bd.returns (hb hby at_350) ⟨rfl, N_tl⟩ (by decide) (by decide)
                  · refine q_ifn 331 X27 hx hby at_328 rfl ((if0 _ _).trans (feq hc328_28).1) ?_
                    refine qc1 332 1 X27 hx hby at_331 rfl rfl ?_
                    refine q_goto 336 X27 hx hby at_332 rfl ?_
                    refine qsi 338 #[(vj q0), sd, (vj q1), sd, (vj q2), sd, (vj q3), sd, (vi q4), (vj u), sd, (vj v), sd, (vj tq), sd, (vi s2), (vi dr), (vi rs), (vj xa), sd, (vj xb), sd, (vr gA), (vr eA), (vr eB), (vi rr), (vj rp), sd, (vj rq), sd, (vi 1), (vi 1), (vi 1)] X27 hx hby at_336 rfl rfl ?_
                    refine qi 340 X27 hx hby at_338 rfl rfl ?_
                    refine qi 342 X27 hx hby at_340 rfl rfl ?_
                    refine q_cmn 345 X27 hx hby at_342 rfl (teq (res_1 hr (Or.inr ⟨⟨hc264_20, (fun z => sm_f hc283_24 z.2)⟩, sm_t hc328_28⟩))).2 ?_
                    refine qc1 346 1 X27 hx hby at_345 rfl rfl ?_
                    refine q_goto 350 X27 hx hby at_346 rfl ?_
                    exact own_retN X27 hx hlk .boolean (by simp) Bd.returns (hb hby at_350) ⟨rfl, N_tl⟩ (by decide) (by decide)
                · refine q_ify 331 X25 hx hby at_309 rfl ((if0 _ _).trans (feq hc309_26).2) ?_
                  refine qc1 332 1 X25 hx hby at_331 rfl rfl ?_
                  refine q_goto 336 X25 hx hby at_332 rfl ?_
                  refine qsi 338 #[(vj q0), sd, (vj q1), sd, (vj q2), sd, (vj q3), sd, (vi q4), (vj u), sd, (vj v), sd, (vj tq), sd, (vi s2), (vi dr), (vi rs), (vj xa), sd, (vj xb), sd, (vr gA), (vr eA), (vr eB), (vi rr), (vj rp), sd, (vj rq), sd, (vi 1), (vi 1), (vi 1)] X25 hx hby at_336 rfl rfl ?_
                  refine qi 340 X25 hx hby at_338 rfl rfl ?_
                  refine qi 342 X25 hx hby at_340 rfl rfl ?_
                  refine q_cmn 345 X25 hx hby at_342 rfl (teq (res_1 hr (Or.inl ⟨(fun z => sm_f hc252_19 z.2), sm_t hc309_26⟩))).2 ?_
                  refine qc1 346 1 X25 hx hby at_345 rfl rfl ?_
                  refine q_goto 350 X25 hx hby at_346 rfl ?_
                  exact own_retN X25 hx hlk .boolean (by simp) Bd.returns (hb hby at_350) ⟨rfl, N_tl⟩ (by decide) (by decide)
              · refine q_ify 290 X23 hx hby at_283 rfl ((if0 _ _).trans (feq hc283_24).2) ?_
                refine qc1 291 0 X23 hx hby at_290 rfl rfl ?_
                refine qsi 293 #[(vj q0), sd, (vj q1), sd, (vj q2), sd, (vj q3), sd, (vi q4), (vj u), sd, (vj v), sd, (vj tq), sd, (vi s2), (vi dr), (vi rs), (vj xa), sd, (vj xb), sd, (vr gA), (vr eA), (vr eB), (vi rr), (vj rp), sd, (vj rq), sd, (vi 1), (vi 0), un] X23 hx hby at_291 rfl rfl ?_
                refine qi 295 X23 hx hby at_293 rfl rfl ?_
                refine q_ifn 298 X23 hx hby at_295 rfl ((if0 _ _).trans (feq (by decide : ¬ ((1 : Int32) = (0 : Int32)))).1) ?_
                refine ql 300 X23 hx hby at_298 rfl rfl ?_
                refine ql 302 X23 hx hby at_300 rfl rfl ?_
                refine ql 304 X23 hx hby at_302 rfl rfl ?_
                refine ql 306 X23 hx hby at_304 rfl rfl ?_
                obtain ⟨T29, X29, e29, st29⟩ := own_callP X23 hx hZ (y := mn11) hown (tw103 hw) (tw104 hw) (tw3 hw) (tw105 hw) (by decide) (rm_gsame l Z a0 hw [] xa xb u v h_tl) e23 (g := (mkF m 306 #[(vj q0), sd, (vj q1), sd, (vj q2), sd, (vj q3), sd, (vi q4), (vj u), sd, (vj v), sd, (vj tq), sd, (vi s2), (vi dr), (vi rs), (vj xa), sd, (vj xb), sd, (vr gA), (vr eA), (vr eB), (vi rr), (vj rp), sd, (vj rq), sd, (vi 1), (vi 0), un] [(.long v), (.long u), (.long xb), (.long xa)])) rfl (by rw [hml]; rfl) (argsL := [(.long xa), (.long xb), (.long u), (.long v)]) (rest := []) (lenOf pd_pJJJJrZ rfl) rfl (W := 0) (by show 2 * 0 + _ ≤ _; exact Nat.le_of_eq rfl) (hb hby at_306) (by decide) (by decide) (by decide) (by decide)
                refine qat 309 #[(vj q0), sd, (vj q1), sd, (vj q2), sd, (vj q3), sd, (vi q4), (vj u), sd, (vj v), sd, (vj tq), sd, (vi s2), (vi dr), (vi rs), (vj xa), sd, (vj xb), sd, (vr gA), (vr eA), (vr eB), (vi rr), (vj rp), sd, (vj rq), sd, (vi 1), (vi 0), un] [(.int (gsame xa xb u v))] st29 ?_
                by_cases hc309_30 : (gsame xa xb u v) = (0 : Int32)
                · refine q_ifn 312 X29 hx hby at_309 rfl ((if0 _ _).trans (teq hc309_30).2) ?_
                  refine qi 314 X29 hx hby at_312 rfl rfl ?_
                  refine q_ify 335 X29 hx hby at_314 rfl ((if0 _ _).trans (teq (by decide : (0 : Int32) = (0 : Int32))).1) ?_
                  refine qc1 336 0 X29 hx hby at_335 rfl rfl ?_
                  refine qsi 338 #[(vj q0), sd, (vj q1), sd, (vj q2), sd, (vj q3), sd, (vi q4), (vj u), sd, (vj v), sd, (vj tq), sd, (vi s2), (vi dr), (vi rs), (vj xa), sd, (vj xb), sd, (vr gA), (vr eA), (vr eB), (vi rr), (vj rp), sd, (vj rq), sd, (vi 1), (vi 0), (vi 0)] X29 hx hby at_336 rfl rfl ?_
                  refine qi 340 X29 hx hby at_338 rfl rfl ?_
                  refine qi 342 X29 hx hby at_340 rfl rfl ?_
                  refine q_cmn 345 X29 hx hby at_342 rfl (teq (res_0 hr (fun z => z.elim (fun y => sm_f hc309_30 y.2) (fun y => y.1.2 ⟨hc238_10, sm_t hc283_24⟩)))).2 ?_
                  refine qc1 346 1 X29 hx hby at_345 rfl rfl ?_
                  refine q_goto 350 X29 hx hby at_346 rfl ?_
                  exact own_retN X29 hx hlk .boolean (by simp) Bd.returns (hb hby at_350) ⟨rfl, N_tl⟩ (by decide) (by decide)
                · refine q_ify 331 X29 hx hby at_309 rfl ((if0 _ _).trans (feq hc309_30).2) ?_
                  refine qc1 332 1 X29 hx hby at_331 rfl rfl ?_
                  refine q_goto 336 X29 hx hby at_332 rfl ?_
                  refine qsi 338 #[(vj q0), sd, (vj q1), sd, (vj q2), sd, (vj q3), sd, (vi q4), (vj u), sd, (vj v), sd, (vj tq), sd, (vi s2), (vi dr), (vi rs), (vj xa), sd, (vj xb), sd, (vr gA), (vr eA), (vr eB), (vi rr), (vj rp), sd, (vj rq), sd, (vi 1), (vi 0), (vi 1)] X29 hx hby at_336 rfl rfl ?_
                  refine qi 340 X29 hx hby at_338 rfl rfl ?_
                  refine qi 342 X29 hx hby at_340 rfl rfl ?_
                  refine q_cmn 345 X29 hx hby at_342 rfl (teq (res_1 hr (Or.inl ⟨(fun z => sm_f hc252_19 z.2), sm_t hc309_30⟩))).2 ?_
                  refine qc1 346 1 X29 hx hby at_345 rfl rfl ?_
                  refine q_goto 350 X29 hx hby at_346 rfl ?_
                  exact own_retN X29 hx hlk .boolean (by simp) Bd.returns (hb hby at_350) ⟨rfl, N_tl⟩ (by decide) (by decide)
          · refine q_ify 259 X18 hx hby at_252 rfl ((if0 _ _).trans (feq hc252_19).2) ?_
            refine qc1 260 0 X18 hx hby at_259 rfl rfl ?_
            refine qsi 262 #[(vj q0), sd, (vj q1), sd, (vj q2), sd, (vj q3), sd, (vi q4), (vj u), sd, (vj v), sd, (vj tq), sd, (vi s2), (vi dr), (vi rs), (vj xa), sd, (vj xb), sd, (vr gA), (vr eA), (vr eB), (vi rr), (vj rp), sd, (vj rq), sd, (vi 0), un, un] X18 hx hby at_260 rfl rfl ?_
            refine qi 264 X18 hx hby at_262 rfl rfl ?_
            by_cases hc264_31 : s2 = (0 : Int32)
            · refine q_ify 290 X18 hx hby at_264 rfl ((if0 _ _).trans (teq hc264_31).1) ?_
              refine qc1 291 0 X18 hx hby at_290 rfl rfl ?_
              refine qsi 293 #[(vj q0), sd, (vj q1), sd, (vj q2), sd, (vj q3), sd, (vi q4), (vj u), sd, (vj v), sd, (vj tq), sd, (vi s2), (vi dr), (vi rs), (vj xa), sd, (vj xb), sd, (vr gA), (vr eA), (vr eB), (vi rr), (vj rp), sd, (vj rq), sd, (vi 0), (vi 0), un] X18 hx hby at_291 rfl rfl ?_
              refine qi 295 X18 hx hby at_293 rfl rfl ?_
              refine q_ify 312 X18 hx hby at_295 rfl ((if0 _ _).trans (teq (by decide : (0 : Int32) = (0 : Int32))).1) ?_
              refine qi 314 X18 hx hby at_312 rfl rfl ?_
              refine q_ify 335 X18 hx hby at_314 rfl ((if0 _ _).trans (teq (by decide : (0 : Int32) = (0 : Int32))).1) ?_
              refine qc1 336 0 X18 hx hby at_335 rfl rfl ?_
              refine qsi 338 #[(vj q0), sd, (vj q1), sd, (vj q2), sd, (vj q3), sd, (vi q4), (vj u), sd, (vj v), sd, (vj tq), sd, (vi s2), (vi dr), (vi rs), (vj xa), sd, (vj xb), sd, (vr gA), (vr eA), (vr eB), (vi rr), (vj rp), sd, (vj rq), sd, (vi 0), (vi 0), (vi 0)] X18 hx hby at_336 rfl rfl ?_
              refine qi 340 X18 hx hby at_338 rfl rfl ?_
              refine qi 342 X18 hx hby at_340 rfl rfl ?_
              refine q_cmn 345 X18 hx hby at_342 rfl (teq (res_0 hr (fun z => z.elim (fun y => y.1 ⟨hc238_10, sm_t hc252_19⟩) (fun y => y.1.1 hc264_31)))).2 ?_
              refine qc1 346 1 X18 hx hby at_345 rfl rfl ?_
              refine q_goto 350 X18 hx hby at_346 rfl ?_
              exact own_retN X18 hx hlk .boolean (by simp) Bd.returns (hb hby at_350) ⟨rfl, N_tl⟩ (by decide) (by decide)
            · refine q_ifn 267 X18 hx hby at_264 rfl ((if0 _ _).trans (feq hc264_31).1) ?_
              refine qi 269 X18 hx hby at_267 rfl rfl ?_
              refine q_ifn 272 X18 hx hby at_269 rfl ((if0 _ _).trans (feq hc238_10).1) ?_
              refine ql 274 X18 hx hby at_272 rfl rfl ?_
              refine ql 276 X18 hx hby at_274 rfl rfl ?_
              refine ql 278 X18 hx hby at_276 rfl rfl ?_
              refine ql 280 X18 hx hby at_278 rfl rfl ?_
              obtain ⟨T32, X32, e32, st32⟩ := own_callP X18 hx hZ (y := mn11) hown (tw103 hw) (tw104 hw) (tw3 hw) (tw105 hw) (by decide) (rm_gsame l Z a0 hw [] v tq rp rq h_tl) e18 (g := (mkF m 280 #[(vj q0), sd, (vj q1), sd, (vj q2), sd, (vj q3), sd, (vi q4), (vj u), sd, (vj v), sd, (vj tq), sd, (vi s2), (vi dr), (vi rs), (vj xa), sd, (vj xb), sd, (vr gA), (vr eA), (vr eB), (vi rr), (vj rp), sd, (vj rq), sd, (vi 0), un, un] [(.long rq), (.long rp), (.long tq), (.long v)])) rfl (by rw [hml]; rfl) (argsL := [(.long v), (.long tq), (.long rp), (.long rq)]) (rest := []) (lenOf pd_pJJJJrZ rfl) rfl (W := 0) (by show 2 * 0 + _ ≤ _; exact Nat.le_of_eq rfl) (hb hby at_280) (by decide) (by decide) (by decide) (by decide)
              refine qat 283 #[(vj q0), sd, (vj q1), sd, (vj q2), sd, (vj q3), sd, (vi q4), (vj u), sd, (vj v), sd, (vj tq), sd, (vi s2), (vi dr), (vi rs), (vj xa), sd, (vj xb), sd, (vr gA), (vr eA), (vr eB), (vi rr), (vj rp), sd, (vj rq), sd, (vi 0), un, un] [(.int (gsame v tq rp rq))] st32 ?_
              by_cases hc283_33 : (gsame v tq rp rq) = (0 : Int32)
              · refine q_ifn 286 X32 hx hby at_283 rfl ((if0 _ _).trans (teq hc283_33).2) ?_
                refine qc1 287 1 X32 hx hby at_286 rfl rfl ?_
                refine q_goto 291 X32 hx hby at_287 rfl ?_
                refine qsi 293 #[(vj q0), sd, (vj q1), sd, (vj q2), sd, (vj q3), sd, (vi q4), (vj u), sd, (vj v), sd, (vj tq), sd, (vi s2), (vi dr), (vi rs), (vj xa), sd, (vj xb), sd, (vr gA), (vr eA), (vr eB), (vi rr), (vj rp), sd, (vj rq), sd, (vi 0), (vi 1), un] X32 hx hby at_291 rfl rfl ?_
                refine qi 295 X32 hx hby at_293 rfl rfl ?_
                refine q_ify 312 X32 hx hby at_295 rfl ((if0 _ _).trans (teq (by decide : (0 : Int32) = (0 : Int32))).1) ?_
                refine qi 314 X32 hx hby at_312 rfl rfl ?_
                refine q_ifn 317 X32 hx hby at_314 rfl ((if0 _ _).trans (feq (by decide : ¬ ((1 : Int32) = (0 : Int32)))).1) ?_
                refine ql 319 X32 hx hby at_317 rfl rfl ?_
                refine ql 321 X32 hx hby at_319 rfl rfl ?_
                refine ql 323 X32 hx hby at_321 rfl rfl ?_
                refine ql 325 X32 hx hby at_323 rfl rfl ?_
                obtain ⟨T34, X34, e34, st34⟩ := own_callP X32 hx hZ (y := mn11) hown (tw103 hw) (tw104 hw) (tw3 hw) (tw105 hw) (by decide) (rm_gsame l Z a0 hw [] xa xb v tq h_tl) e32 (g := (mkF m 325 #[(vj q0), sd, (vj q1), sd, (vj q2), sd, (vj q3), sd, (vi q4), (vj u), sd, (vj v), sd, (vj tq), sd, (vi s2), (vi dr), (vi rs), (vj xa), sd, (vj xb), sd, (vr gA), (vr eA), (vr eB), (vi rr), (vj rp), sd, (vj rq), sd, (vi 0), (vi 1), un] [(.long tq), (.long v), (.long xb), (.long xa)])) rfl (by rw [hml]; rfl) (argsL := [(.long xa), (.long xb), (.long v), (.long tq)]) (rest := []) (lenOf pd_pJJJJrZ rfl) rfl (W := 0) (by show 2 * 0 + _ ≤ _; exact Nat.le_of_eq rfl) (hb hby at_325) (by decide) (by decide) (by decide) (by decide)
                refine qat 328 #[(vj q0), sd, (vj q1), sd, (vj q2), sd, (vj q3), sd, (vi q4), (vj u), sd, (vj v), sd, (vj tq), sd, (vi s2), (vi dr), (vi rs), (vj xa), sd, (vj xb), sd, (vr gA), (vr eA), (vr eB), (vi rr), (vj rp), sd, (vj rq), sd, (vi 0), (vi 1), un] [(.int (gsame xa xb v tq))] st34 ?_
                by_cases hc328_35 : (gsame xa xb v tq) = (0 : Int32)
                · refine q_ify 335 X34 hx hby at_328 rfl ((if0 _ _).trans (teq hc328_35).1) ?_
                  refine qc1 336 0 X34 hx hby at_335 rfl rfl ?_
                  refine qsi 338 #[(vj q0), sd, (vj q1), sd, (vj q2), sd, (vj q3), sd, (vi q4), (vj u), sd, (vj v), sd, (vj tq), sd, (vi s2), (vi dr), (vi rs), (vj xa), sd, (vj xb), sd, (vr gA), (vr eA), (vr eB), (vi rr), (vj rp), sd, (vj rq), sd, (vi 0), (vi 1), (vi 0)] X34 hx hby at_336 rfl rfl ?_
                  refine qi 340 X34 hx hby at_338 rfl rfl ?_
                  refine qi 342 X34 hx hby at_340 rfl rfl ?_
                  refine q_cmn 345 X34 hx hby at_342 rfl (teq (res_0 hr (fun z => z.elim (fun y => y.1 ⟨hc238_10, sm_t hc252_19⟩) (fun y => sm_f hc328_35 y.2)))).2 ?_
                  refine qc1 346 1 X34 hx hby at_345 rfl rfl ?_
                  refine q_goto 350 X34 hx hby at_346 rfl ?_
                  exact own_retN X34 hx hlk .boolean (by simp) Bd.returns (hb hby at_350) ⟨rfl, N_tl⟩ (by decide) (by decide)
                · refine q_ifn 331 X34 hx hby at_328 rfl ((if0 _ _).trans (feq hc328_35).1) ?_
                  refine qc1 332 1 X34 hx hby at_331 rfl rfl ?_
                  refine q_goto 336 X34 hx hby at_332 rfl ?_
                  refine qsi 338 #[(vj q0), sd, (vj q1), sd, (vj q2), sd, (vj q3), sd, (vi q4), (vj u), sd, (vj v), sd, (vj tq), sd, (vi s2), (vi dr), (vi rs), (vj xa), sd, (vj xb), sd, (vr gA), (vr eA), (vr eB), (vi rr), (vj rp), sd, (vj rq), sd, (vi 0), (vi 1), (vi 1)] X34 hx hby at_336 rfl rfl ?_
                  refine qi 340 X34 hx hby at_338 rfl rfl ?_
                  refine qi 342 X34 hx hby at_340 rfl rfl ?_
                  refine q_cmn 345 X34 hx hby at_342 rfl (teq (res_1 hr (Or.inr ⟨⟨hc264_31, (fun z => sm_f hc283_33 z.2)⟩, sm_t hc328_35⟩))).2 ?_
                  refine qc1 346 1 X34 hx hby at_345 rfl rfl ?_
                  refine q_goto 350 X34 hx hby at_346 rfl ?_
                  exact own_retN X34 hx hlk .boolean (by simp) Bd.returns (hb hby at_350) ⟨rfl, N_tl⟩ (by decide) (by decide)
              · refine q_ify 290 X32 hx hby at_283 rfl ((if0 _ _).trans (feq hc283_33).2) ?_
                refine qc1 291 0 X32 hx hby at_290 rfl rfl ?_
                refine qsi 293 #[(vj q0), sd, (vj q1), sd, (vj q2), sd, (vj q3), sd, (vi q4), (vj u), sd, (vj v), sd, (vj tq), sd, (vi s2), (vi dr), (vi rs), (vj xa), sd, (vj xb), sd, (vr gA), (vr eA), (vr eB), (vi rr), (vj rp), sd, (vj rq), sd, (vi 0), (vi 0), un] X32 hx hby at_291 rfl rfl ?_
                refine qi 295 X32 hx hby at_293 rfl rfl ?_
                refine q_ify 312 X32 hx hby at_295 rfl ((if0 _ _).trans (teq (by decide : (0 : Int32) = (0 : Int32))).1) ?_
                refine qi 314 X32 hx hby at_312 rfl rfl ?_
                refine q_ify 335 X32 hx hby at_314 rfl ((if0 _ _).trans (teq (by decide : (0 : Int32) = (0 : Int32))).1) ?_
                refine qc1 336 0 X32 hx hby at_335 rfl rfl ?_
                refine qsi 338 #[(vj q0), sd, (vj q1), sd, (vj q2), sd, (vj q3), sd, (vi q4), (vj u), sd, (vj v), sd, (vj tq), sd, (vi s2), (vi dr), (vi rs), (vj xa), sd, (vj xb), sd, (vr gA), (vr eA), (vr eB), (vi rr), (vj rp), sd, (vj rq), sd, (vi 0), (vi 0), (vi 0)] X32 hx hby at_336 rfl rfl ?_
                refine qi 340 X32 hx hby at_338 rfl rfl ?_
                refine qi 342 X32 hx hby at_340 rfl rfl ?_
                refine q_cmn 345 X32 hx hby at_342 rfl (teq (res_0 hr (fun z => z.elim (fun y => y.1 ⟨hc238_10, sm_t hc252_19⟩) (fun y => y.1.2 ⟨hc238_10, sm_t hc283_33⟩)))).2 ?_
                refine qc1 346 1 X32 hx hby at_345 rfl rfl ?_
                refine q_goto 350 X32 hx hby at_346 rfl ?_
                exact own_retN X32 hx hlk .boolean (by simp) Bd.returns (hb hby at_350) ⟨rfl, N_tl⟩ (by decide) (by decide)
      show OEnds p e below s _ _ _ (T7.setTop (mkF m 121 #[(vj q0), sd, (vj q1), sd, (vj q2), sd, (vj q3), sd, (vi q4), (vj u), sd, (vj v), sd, (vj tq), sd, (vi s2), (vi dr), (vi rs), (vj xa), sd, (vj xb), sd, un, un, un, un, un, un, un, un, un, un, un] []))
      obtain ⟨T36, h36, X36, e36, E36, A36, D36, -, st36⟩ := newO X7 hx hZ hown (tw5 hw) (tw6 hw) (tw7 hw) e7 (g := (mkF m 121 #[(vj q0), sd, (vj q1), sd, (vj q2), sd, (vj q3), sd, (vi q4), (vj u), sd, (vj v), sd, (vj tq), sd, (vi s2), (vi dr), (vi rs), (vj xa), sd, (vj xb), sd, un, un, un, un, un, un, un, un, un, un, un] [])) rfl (hb hby at_121) (by decide) (by decide)
      obtain ⟨nb36, g36⟩ : ∃ z, z = h0.size := ⟨_, rfl⟩
      rw [← g36] at A36 D36 st36
      have g_nb36 : n0 ≤ nb36 := Nat.le_trans Z0 (Nat.le_of_eq g36.symm)
      have Z36 := Nat.le_trans Z0 E36.1
      have O36 : Obj Z h36 nb36 "com/example/tristream/tristream/SampleGraph" sch_sg [.null, .null] := Obj.new (so_sch_sg hw) A36 D36 [(.object "com/example/tristream/tristream/LongIndex"), (.array (.object "com/example/tristream/tristream/LongIndex"))] (by decide)
      refine qat 124 #[(vj q0), sd, (vj q1), sd, (vj q2), sd, (vj q3), sd, (vi q4), (vj u), sd, (vj v), sd, (vj tq), sd, (vi s2), (vi dr), (vi rs), (vj xa), sd, (vj xb), sd, un, un, un, un, un, un, un, un, un, un, un] [(.ref nb36)] st36 ?_
      refine q_dup 125 X36 hx hby at_124 rfl rfl ?_
      obtain ⟨v37, T37, L37, h37, X37, e37, hQ37, st37⟩ := own_callI X36 hx hZ (y := mn19) rfl hown (tw8 hw) (tw9 hw) (tw10 hw) (tw7 hw) (by decide) (rm_sginit l Z a0 hw [] nb36 h36 n0 Z36 O36 g_nb36) e36 (g := (mkF m 125 #[(vj q0), sd, (vj q1), sd, (vj q2), sd, (vj q3), sd, (vi q4), (vj u), sd, (vj v), sd, (vj tq), sd, (vi s2), (vi dr), (vi rs), (vj xa), sd, (vj xb), sd, un, un, un, un, un, un, un, un, un, un, un] [(.ref nb36), (.ref nb36)])) rfl (by rw [hml]; rfl) (argsL := []) (rest := [(.ref nb36)]) (lenOf pd_prV rfl) rfl (W := 1) (by show 2 * 0 + _ ≤ _; exact Nat.le_of_eq rfl) (hb hby at_125) (by decide) (by decide) (by decide) (by decide)
      obtain ⟨rfl, Nq37, Kq37, G37, hG37, hc37, hS37⟩ := hQ37
      have N37 := Fr.app N0 Nq37
      have Z37 := Nat.le_trans Z36 Kq37.1
      refine qtr 128 #[(vj q0), sd, (vj q1), sd, (vj q2), sd, (vj q3), sd, (vi q4), (vj u), sd, (vj v), sd, (vj tq), sd, (vi s2), (vi dr), (vi rs), (vj xa), sd, (vj xb), sd, un, un, un, un, un, un, un, un, un, un, un] [(.ref nb36)] st37 ?_
      refine qsa 130 #[(vj q0), sd, (vj q1), sd, (vj q2), sd, (vj q3), sd, (vi q4), (vj u), sd, (vj v), sd, (vj tq), sd, (vi s2), (vi dr), (vi rs), (vj xa), sd, (vj xb), sd, (vr nb36), un, un, un, un, un, un, un, un, un, un] X37 hx hby at_128 rfl rfl ?_
      obtain ⟨T38, h38, X38, e38, E38, A38, D38, -, st38⟩ := newO X37 hx hZ hown (tw39 hw) (tw40 hw) (tw41 hw) e37 (g := (mkF m 130 #[(vj q0), sd, (vj q1), sd, (vj q2), sd, (vj q3), sd, (vi q4), (vj u), sd, (vj v), sd, (vj tq), sd, (vi s2), (vi dr), (vi rs), (vj xa), sd, (vj xb), sd, (vr nb36), un, un, un, un, un, un, un, un, un, un] [])) rfl (hb hby at_130) (by decide) (by decide)
      obtain ⟨nb38, g38⟩ : ∃ z, z = h37.size := ⟨_, rfl⟩
      rw [← g38] at A38 D38 st38
      have g_nb38 : n0 ≤ nb38 := Nat.le_trans Z37 (Nat.le_of_eq g38.symm)
      have Z38 := Nat.le_trans Z37 E38.1
      have O38 : Obj Z h38 nb38 "com/example/tristream/tristream/Edge" sch_e [(.long 0), (.long 0)] := Obj.new (so_sch_e hw) A38 D38 [.long, .long] (by decide)
      refine qat 133 #[(vj q0), sd, (vj q1), sd, (vj q2), sd, (vj q3), sd, (vi q4), (vj u), sd, (vj v), sd, (vj tq), sd, (vi s2), (vi dr), (vi rs), (vj xa), sd, (vj xb), sd, (vr nb36), un, un, un, un, un, un, un, un, un, un] [(.ref nb38)] st38 ?_
      have hGx38 := gr_ext hG37 E38
      refine q_dup 134 X38 hx hby at_133 rfl rfl ?_
      refine ql 136 X38 hx hby at_134 rfl rfl ?_
      refine ql 138 X38 hx hby at_136 rfl rfl ?_
      obtain ⟨v39, T39, L39, h39, X39, e39, hQ39, st39⟩ := own_callI X38 hx hZ (y := mn15) rfl hown (tw42 hw) (tw43 hw) (tw44 hw) (tw41 hw) (by decide) (rm_edge l Z a0 hw [] nb38 u v h38 n0 Z38 O38 g_nb38 hn_u hn_v) e38 (g := (mkF m 138 #[(vj q0), sd, (vj q1), sd, (vj q2), sd, (vj q3), sd, (vi q4), (vj u), sd, (vj v), sd, (vj tq), sd, (vi s2), (vi dr), (vi rs), (vj xa), sd, (vj xb), sd, (vr nb36), un, un, un, un, un, un, un, un, un, un] [(.long v), (.long u), (.ref nb38), (.ref nb38)])) rfl (by rw [hml]; rfl) (argsL := [(.long u), (.long v)]) (rest := [(.ref nb38)]) (lenOf pd_pJJrV rfl) rfl (W := 1) (by show 2 * 0 + _ ≤ _; exact Nat.le_of_eq rfl) (hb hby at_138) (by decide) (by decide) (by decide) (by decide)
      obtain ⟨rfl, Nq39, Kq39, O39⟩ := hQ39
      have N39 := Fr.app N37 Nq39
      have Z39 := Nat.le_trans Z38 Kq39.1
      have hGk39 := gr_keepE (tw40 hw) hGx38 Kq39 O38
      refine qtr 141 #[(vj q0), sd, (vj q1), sd, (vj q2), sd, (vj q3), sd, (vi q4), (vj u), sd, (vj v), sd, (vj tq), sd, (vi s2), (vi dr), (vi rs), (vj xa), sd, (vj xb), sd, (vr nb36), un, un, un, un, un, un, un, un, un, un] [(.ref nb38)] st39 ?_
      refine qsa 143 #[(vj q0), sd, (vj q1), sd, (vj q2), sd, (vj q3), sd, (vi q4), (vj u), sd, (vj v), sd, (vj tq), sd, (vi s2), (vi dr), (vi rs), (vj xa), sd, (vj xb), sd, (vr nb36), (vr nb38), un, un, un, un, un, un, un, un, un] X39 hx hby at_141 rfl rfl ?_
      obtain ⟨T40, h40, X40, e40, E40, A40, D40, -, st40⟩ := newO X39 hx hZ hown (tw39 hw) (tw40 hw) (tw41 hw) e39 (g := (mkF m 143 #[(vj q0), sd, (vj q1), sd, (vj q2), sd, (vj q3), sd, (vi q4), (vj u), sd, (vj v), sd, (vj tq), sd, (vi s2), (vi dr), (vi rs), (vj xa), sd, (vj xb), sd, (vr nb36), (vr nb38), un, un, un, un, un, un, un, un, un] [])) rfl (hb hby at_143) (by decide) (by decide)
      obtain ⟨nb40, g40⟩ : ∃ z, z = h39.size := ⟨_, rfl⟩
      rw [← g40] at A40 D40 st40
      have g_nb40 : n0 ≤ nb40 := Nat.le_trans Z39 (Nat.le_of_eq g40.symm)
      have Z40 := Nat.le_trans Z39 E40.1
      have O40 : Obj Z h40 nb40 "com/example/tristream/tristream/Edge" sch_e [(.long 0), (.long 0)] := Obj.new (so_sch_e hw) A40 D40 [.long, .long] (by decide)
      refine qat 146 #[(vj q0), sd, (vj q1), sd, (vj q2), sd, (vj q3), sd, (vi q4), (vj u), sd, (vj v), sd, (vj tq), sd, (vi s2), (vi dr), (vi rs), (vj xa), sd, (vj xb), sd, (vr nb36), (vr nb38), un, un, un, un, un, un, un, un, un] [(.ref nb40)] st40 ?_
      have hGx40 := gr_ext hGk39 E40
      refine q_dup 147 X40 hx hby at_146 rfl rfl ?_
      refine ql 149 X40 hx hby at_147 rfl rfl ?_
      refine ql 151 X40 hx hby at_149 rfl rfl ?_
      obtain ⟨v41, T41, L41, h41, X41, e41, hQ41, st41⟩ := own_callI X40 hx hZ (y := mn15) rfl hown (tw42 hw) (tw43 hw) (tw44 hw) (tw41 hw) (by decide) (rm_edge l Z a0 hw [] nb40 v tq h40 n0 Z40 O40 g_nb40 hn_v hn_tq) e40 (g := (mkF m 151 #[(vj q0), sd, (vj q1), sd, (vj q2), sd, (vj q3), sd, (vi q4), (vj u), sd, (vj v), sd, (vj tq), sd, (vi s2), (vi dr), (vi rs), (vj xa), sd, (vj xb), sd, (vr nb36), (vr nb38), un, un, un, un, un, un, un, un, un] [(.long tq), (.long v), (.ref nb40), (.ref nb40)])) rfl (by rw [hml]; rfl) (argsL := [(.long v), (.long tq)]) (rest := [(.ref nb40)]) (lenOf pd_pJJrV rfl) rfl (W := 1) (by show 2 * 0 + _ ≤ _; exact Nat.le_of_eq rfl) (hb hby at_151) (by decide) (by decide) (by decide) (by decide)
      obtain ⟨rfl, Nq41, Kq41, O41⟩ := hQ41
      have N41 := Fr.app N39 Nq41
      have Z41 := Nat.le_trans Z40 Kq41.1
      have hGk41 := gr_keepE (tw40 hw) hGx40 Kq41 O40
      refine qtr 154 #[(vj q0), sd, (vj q1), sd, (vj q2), sd, (vj q3), sd, (vi q4), (vj u), sd, (vj v), sd, (vj tq), sd, (vi s2), (vi dr), (vi rs), (vj xa), sd, (vj xb), sd, (vr nb36), (vr nb38), un, un, un, un, un, un, un, un, un] [(.ref nb40)] st41 ?_
      refine qsa 156 #[(vj q0), sd, (vj q1), sd, (vj q2), sd, (vj q3), sd, (vi q4), (vj u), sd, (vj v), sd, (vj tq), sd, (vi s2), (vi dr), (vi rs), (vj xa), sd, (vj xb), sd, (vr nb36), (vr nb38), (vr nb40), un, un, un, un, un, un, un, un] X41 hx hby at_154 rfl rfl ?_
      refine qa 158 X41 hx hby at_156 rfl rfl ?_
      refine qa 160 X41 hx hby at_158 rfl rfl ?_
      have O43 := ((O39.ext E40).keep Kq41 (ninS (Nat.ne_of_lt (Nat.lt_of_lt_of_le O39.lt (Nat.le_of_eq g40.symm))) nin0))
      obtain ⟨v42, T42, L42, h42, X42, e42, hQ42, st42⟩ := own_callV X41 hx hZ (y := mn21) hown (tw57 hw) (tw58 hw) (tw60 hw) (tw59 hw) (tw61 hw) (tw7 hw) (by decide) hGk41.1.exa (rm_gadd l Z a0 hw [] nb36 nb38 (edge_u u v) (edge_v u v) G37 0 h41 n0 Z41 hGk41 O43 (mm_ne hc27) hS37 (Or.inl (by omega)) (fun j hj => by omega) (Nat.zero_le _)) e41 (g := (mkF m 160 #[(vj q0), sd, (vj q1), sd, (vj q2), sd, (vj q3), sd, (vi q4), (vj u), sd, (vj v), sd, (vj tq), sd, (vi s2), (vi dr), (vi rs), (vj xa), sd, (vj xb), sd, (vr nb36), (vr nb38), (vr nb40), un, un, un, un, un, un, un, un] [(.ref nb38), (.ref nb36)])) rfl (by rw [hml]; rfl) (argsL := [(.ref nb38)]) (rest := []) (lenOf pd_pLcom_example_tristream_tristream_Edge_rV rfl) rfl (W := 0) (by show 2 * 0 + _ ≤ _; exact Nat.le_of_eq rfl) (hb hby at_160) (by decide) (by decide) (by decide) (by decide)
      obtain ⟨rfl, Nq42, hsz42, hek42, G42, hG42, hE42, hLn42, hJ42, hcc42⟩ := hQ42
      have Oe42_nb38 := hek42 _ _ O43
      have Oe42_nb40 := hek42 _ _ O41
      have N42 := Fr.app N41 Nq42
      have Z42 : n0 ≤ h42.size := Nat.le_trans Z41 hsz42
      refine qtr 163 #[(vj q0), sd, (vj q1), sd, (vj q2), sd, (vj q3), sd, (vi q4), (vj u), sd, (vj v), sd, (vj tq), sd, (vi s2), (vi dr), (vi rs), (vj xa), sd, (vj xb), sd, (vr nb36), (vr nb38), (vr nb40), un, un, un, un, un, un, un, un] [] st42 ?_
      have hEA : ∀ x y, GEd G42.c G42.KS x y ↔ Sm x y u v := fun x y => ed_first (hE42 x y) (ed_zero hc37) (mm_sm x y u v)
      refine qi 165 X42 hx hby at_163 rfl rfl ?_
      by_cases hc165_44 : s2 = (0 : Int32)
      · refine q_ify 175 X42 hx hby at_165 rfl ((if0 _ _).trans (teq hc165_44).1) ?_
        have hAA : ∀ x y, GEd G42.c G42.KS x y ↔ Sm x y u v ∨ (s2 ≠ 0 ∧ Sm x y v tq) := fun x y => st_a0 hc165_44 (hEA x y)
        refine qi 177 X42 hx hby at_175 rfl rfl ?_
        by_cases hc177_45 : dr = (0 : Int32)
        · refine q_ify 197 X42 hx hby at_177 rfl ((if0 _ _).trans (teq hc177_45).1) ?_
          refine qa 199 X42 hx hby at_197 rfl rfl ?_
          refine ql 201 X42 hx hby at_199 rfl rfl ?_
          refine ql 203 X42 hx hby at_201 rfl rfl ?_
          obtain ⟨v46, T46, L46, h46, X46, e46, hQ46, st46⟩ := own_callV X42 hx hZ (y := mn24) hown (tw93 hw) (tw94 hw) (tw96 hw) (tw95 hw) (tw97 hw) (tw7 hw) (by decide) hG42.1.exa (rm_gct l Z a0 hw [] nb36 xa xb G42 h42 n0 Z42 hG42) e42 (g := (mkF m 203 #[(vj q0), sd, (vj q1), sd, (vj q2), sd, (vj q3), sd, (vi q4), (vj u), sd, (vj v), sd, (vj tq), sd, (vi s2), (vi dr), (vi rs), (vj xa), sd, (vj xb), sd, (vr nb36), (vr nb38), (vr nb40), un, un, un, un, un, un, un, un] [(.long xb), (.long xa), (.ref nb36)])) rfl (by rw [hml]; rfl) (argsL := [(.long xa), (.long xb)]) (rest := []) (lenOf pd_pJJrZ rfl) rfl (W := 0) (by show 2 * 0 + _ ≤ _; exact Nat.le_of_eq rfl) (hb hby at_203) (by decide) (by decide) (by decide) (by decide)
          obtain ⟨rv46, rfl, rfl, hq46, hr46⟩ := hQ46
          rw [hq46] at e46
          have N46 := Fr.app N42 (Fr.nil n0)
          refine qtr 206 #[(vj q0), sd, (vj q1), sd, (vj q2), sd, (vj q3), sd, (vi q4), (vj u), sd, (vj v), sd, (vj tq), sd, (vi s2), (vi dr), (vi rs), (vj xa), sd, (vj xb), sd, (vr nb36), (vr nb38), (vr nb40), un, un, un, un, un, un, un, un] [(.int rv46)] st46 ?_
          refine qsi 208 #[(vj q0), sd, (vj q1), sd, (vj q2), sd, (vj q3), sd, (vi q4), (vj u), sd, (vj v), sd, (vj tq), sd, (vi s2), (vi dr), (vi rs), (vj xa), sd, (vj xb), sd, (vr nb36), (vr nb38), (vr nb40), (vi rv46), un, un, un, un, un, un, un] X46 hx hby at_206 rfl rfl ?_
          have hF : GEd G42.c G42.KS xa xb ↔ Fexp s2 dr (if rs = (0 : Int32) then u else v) (if rs = (0 : Int32) then v else tq) u v tq xa xb := (st_r0 hc177_45 (hAA xa xb)).trans fexp_iff.symm
          exact tl T46 _ nb36 nb38 nb40 rv46 h42 Z42 (X46.more (by decide) (by decide)) e46 N46 (res_is hr46 hF)
        · refine q_ifn 180 X42 hx hby at_177 rfl ((if0 _ _).trans (feq hc177_45).1) ?_
          refine qa 182 X42 hx hby at_180 rfl rfl ?_
          refine qi 184 X42 hx hby at_182 rfl rfl ?_
          by_cases hc184_47 : rs = (0 : Int32)
          · refine q_ify 192 X42 hx hby at_184 rfl ((if0 _ _).trans (teq hc184_47).1) ?_
            refine qa 194 X42 hx hby at_192 rfl rfl ?_
            obtain ⟨v48, T48, L48, h48, X48, e48, hQ48, st48⟩ := own_callV X42 hx hZ (y := mn23) hown (tw122 hw) (tw123 hw) (tw125 hw) (tw124 hw) (tw126 hw) (tw7 hw) (by decide) hG42.1.exa (rm_grem l Z a0 hw [] nb36 nb38 (edge_u u v) (edge_v u v) G42 h42 n0 Z42 hG42 Oe42_nb38 (rem_pre hJ42)) e42 (g := (mkF m 194 #[(vj q0), sd, (vj q1), sd, (vj q2), sd, (vj q3), sd, (vi q4), (vj u), sd, (vj v), sd, (vj tq), sd, (vi s2), (vi dr), (vi rs), (vj xa), sd, (vj xb), sd, (vr nb36), (vr nb38), (vr nb40), un, un, un, un, un, un, un, un] [(.ref nb38), (.ref nb36)])) rfl (by rw [hml]; rfl) (argsL := [(.ref nb38)]) (rest := []) (lenOf pd_pLcom_example_tristream_tristream_Edge_rV rfl) rfl (W := 0) (by show 2 * 0 + _ ≤ _; exact Nat.le_of_eq rfl) (hb hby at_194) (by decide) (by decide) (by decide) (by decide)
            obtain ⟨rfl, Nq48, hsz48, hek48, G48, hG48, hE48⟩ := hQ48
            have Oe48_nb38 := hek48 _ _ Oe42_nb38
            have Oe48_nb40 := hek48 _ _ Oe42_nb40
            have N48 := Fr.app N42 Nq48
            have Z48 : n0 ≤ h48.size := Nat.le_trans Z42 hsz48
            refine qtr 197 #[(vj q0), sd, (vj q1), sd, (vj q2), sd, (vj q3), sd, (vi q4), (vj u), sd, (vj v), sd, (vj tq), sd, (vi s2), (vi dr), (vi rs), (vj xa), sd, (vj xb), sd, (vr nb36), (vr nb38), (vr nb40), un, un, un, un, un, un, un, un] [] st48 ?_
            refine qa 199 X48 hx hby at_197 rfl rfl ?_
            refine ql 201 X48 hx hby at_199 rfl rfl ?_
            refine ql 203 X48 hx hby at_201 rfl rfl ?_
            obtain ⟨v49, T49, L49, h49, X49, e49, hQ49, st49⟩ := own_callV X48 hx hZ (y := mn24) hown (tw93 hw) (tw94 hw) (tw96 hw) (tw95 hw) (tw97 hw) (tw7 hw) (by decide) hG48.1.exa (rm_gct l Z a0 hw [] nb36 xa xb G48 h48 n0 Z48 hG48) e48 (g := (mkF m 203 #[(vj q0), sd, (vj q1), sd, (vj q2), sd, (vj q3), sd, (vi q4), (vj u), sd, (vj v), sd, (vj tq), sd, (vi s2), (vi dr), (vi rs), (vj xa), sd, (vj xb), sd, (vr nb36), (vr nb38), (vr nb40), un, un, un, un, un, un, un, un] [(.long xb), (.long xa), (.ref nb36)])) rfl (by rw [hml]; rfl) (argsL := [(.long xa), (.long xb)]) (rest := []) (lenOf pd_pJJrZ rfl) rfl (W := 0) (by show 2 * 0 + _ ≤ _; exact Nat.le_of_eq rfl) (hb hby at_203) (by decide) (by decide) (by decide) (by decide)
            obtain ⟨rv49, rfl, rfl, hq49, hr49⟩ := hQ49
            rw [hq49] at e49
            have N49 := Fr.app N48 (Fr.nil n0)
            refine qtr 206 #[(vj q0), sd, (vj q1), sd, (vj q2), sd, (vj q3), sd, (vi q4), (vj u), sd, (vj v), sd, (vj tq), sd, (vi s2), (vi dr), (vi rs), (vj xa), sd, (vj xb), sd, (vr nb36), (vr nb38), (vr nb40), un, un, un, un, un, un, un, un] [(.int rv49)] st49 ?_
            refine qsi 208 #[(vj q0), sd, (vj q1), sd, (vj q2), sd, (vj q3), sd, (vi q4), (vj u), sd, (vj v), sd, (vj tq), sd, (vi s2), (vi dr), (vi rs), (vj xa), sd, (vj xb), sd, (vr nb36), (vr nb38), (vr nb40), (vi rv49), un, un, un, un, un, un, un] X49 hx hby at_206 rfl rfl ?_
            have hF : GEd G48.c G48.KS xa xb ↔ Fexp s2 dr (if rs = (0 : Int32) then u else v) (if rs = (0 : Int32) then v else tq) u v tq xa xb := (st_r1 hc177_45 (hE48 xa xb) (hAA xa xb) (by rw [if_pos hc184_47, if_pos hc184_47]; exact mm_sm xa xb _ _)).trans fexp_iff.symm
            exact tl T49 _ nb36 nb38 nb40 rv49 h48 Z48 (X49.more (by decide) (by decide)) e49 N49 (res_is hr49 hF)
          · refine q_ifn 187 X42 hx hby at_184 rfl ((if0 _ _).trans (feq hc184_47).1) ?_
            refine qa 189 X42 hx hby at_187 rfl rfl ?_
            refine q_goto 194 X42 hx hby at_189 rfl ?_
            obtain ⟨v50, T50, L50, h50, X50, e50, hQ50, st50⟩ := own_callV X42 hx hZ (y := mn23) hown (tw122 hw) (tw123 hw) (tw125 hw) (tw124 hw) (tw126 hw) (tw7 hw) (by decide) hG42.1.exa (rm_grem l Z a0 hw [] nb36 nb40 (edge_u v tq) (edge_v v tq) G42 h42 n0 Z42 hG42 Oe42_nb40 (rem_pre hJ42)) e42 (g := (mkF m 194 #[(vj q0), sd, (vj q1), sd, (vj q2), sd, (vj q3), sd, (vi q4), (vj u), sd, (vj v), sd, (vj tq), sd, (vi s2), (vi dr), (vi rs), (vj xa), sd, (vj xb), sd, (vr nb36), (vr nb38), (vr nb40), un, un, un, un, un, un, un, un] [(.ref nb40), (.ref nb36)])) rfl (by rw [hml]; rfl) (argsL := [(.ref nb40)]) (rest := []) (lenOf pd_pLcom_example_tristream_tristream_Edge_rV rfl) rfl (W := 0) (by show 2 * 0 + _ ≤ _; exact Nat.le_of_eq rfl) (hb hby at_194) (by decide) (by decide) (by decide) (by decide)
            obtain ⟨rfl, Nq50, hsz50, hek50, G50, hG50, hE50⟩ := hQ50
            have Oe50_nb38 := hek50 _ _ Oe42_nb38
            have Oe50_nb40 := hek50 _ _ Oe42_nb40
            have N50 := Fr.app N42 Nq50
            have Z50 : n0 ≤ h50.size := Nat.le_trans Z42 hsz50
            refine qtr 197 #[(vj q0), sd, (vj q1), sd, (vj q2), sd, (vj q3), sd, (vi q4), (vj u), sd, (vj v), sd, (vj tq), sd, (vi s2), (vi dr), (vi rs), (vj xa), sd, (vj xb), sd, (vr nb36), (vr nb38), (vr nb40), un, un, un, un, un, un, un, un] [] st50 ?_
            refine qa 199 X50 hx hby at_197 rfl rfl ?_
            refine ql 201 X50 hx hby at_199 rfl rfl ?_
            refine ql 203 X50 hx hby at_201 rfl rfl ?_
            obtain ⟨v51, T51, L51, h51, X51, e51, hQ51, st51⟩ := own_callV X50 hx hZ (y := mn24) hown (tw93 hw) (tw94 hw) (tw96 hw) (tw95 hw) (tw97 hw) (tw7 hw) (by decide) hG50.1.exa (rm_gct l Z a0 hw [] nb36 xa xb G50 h50 n0 Z50 hG50) e50 (g := (mkF m 203 #[(vj q0), sd, (vj q1), sd, (vj q2), sd, (vj q3), sd, (vi q4), (vj u), sd, (vj v), sd, (vj tq), sd, (vi s2), (vi dr), (vi rs), (vj xa), sd, (vj xb), sd, (vr nb36), (vr nb38), (vr nb40), un, un, un, un, un, un, un, un] [(.long xb), (.long xa), (.ref nb36)])) rfl (by rw [hml]; rfl) (argsL := [(.long xa), (.long xb)]) (rest := []) (lenOf pd_pJJrZ rfl) rfl (W := 0) (by show 2 * 0 + _ ≤ _; exact Nat.le_of_eq rfl) (hb hby at_203) (by decide) (by decide) (by decide) (by decide)
            obtain ⟨rv51, rfl, rfl, hq51, hr51⟩ := hQ51
            rw [hq51] at e51
            have N51 := Fr.app N50 (Fr.nil n0)
            refine qtr 206 #[(vj q0), sd, (vj q1), sd, (vj q2), sd, (vj q3), sd, (vi q4), (vj u), sd, (vj v), sd, (vj tq), sd, (vi s2), (vi dr), (vi rs), (vj xa), sd, (vj xb), sd, (vr nb36), (vr nb38), (vr nb40), un, un, un, un, un, un, un, un] [(.int rv51)] st51 ?_
            refine qsi 208 #[(vj q0), sd, (vj q1), sd, (vj q2), sd, (vj q3), sd, (vi q4), (vj u), sd, (vj v), sd, (vj tq), sd, (vi s2), (vi dr), (vi rs), (vj xa), sd, (vj xb), sd, (vr nb36), (vr nb38), (vr nb40), (vi rv51), un, un, un, un, un, un, un] X51 hx hby at_206 rfl rfl ?_
            have hF : GEd G50.c G50.KS xa xb ↔ Fexp s2 dr (if rs = (0 : Int32) then u else v) (if rs = (0 : Int32) then v else tq) u v tq xa xb := (st_r1 hc177_45 (hE50 xa xb) (hAA xa xb) (by rw [if_neg hc184_47, if_neg hc184_47]; exact mm_sm xa xb _ _)).trans fexp_iff.symm
            exact tl T51 _ nb36 nb38 nb40 rv51 h50 Z50 (X51.more (by decide) (by decide)) e51 N51 (res_is hr51 hF)
      · refine q_ifn 168 X42 hx hby at_165 rfl ((if0 _ _).trans (feq hc165_44).1) ?_
        refine qa 170 X42 hx hby at_168 rfl rfl ?_
        refine qa 172 X42 hx hby at_170 rfl rfl ?_
        obtain ⟨v52, T52, L52, h52, X52, e52, hQ52, st52⟩ := own_callV X42 hx hZ (y := mn21) hown (tw57 hw) (tw58 hw) (tw60 hw) (tw59 hw) (tw61 hw) (tw7 hw) (by decide) hG42.1.exa (rm_gadd l Z a0 hw [] nb36 nb40 (edge_u v tq) (edge_v v tq) G42 1 h42 n0 Z42 hG42 Oe42_nb40 (mm_ne hc35) (hJ42 (by omega)) (Or.inr (in_mm (ed_node (gr_len hG42) ((hEA v u).mpr (Or.inr ⟨rfl, rfl⟩))))) hLn42 (Nat.le_refl _)) e42 (g := (mkF m 172 #[(vj q0), sd, (vj q1), sd, (vj q2), sd, (vj q3), sd, (vi q4), (vj u), sd, (vj v), sd, (vj tq), sd, (vi s2), (vi dr), (vi rs), (vj xa), sd, (vj xb), sd, (vr nb36), (vr nb38), (vr nb40), un, un, un, un, un, un, un, un] [(.ref nb40), (.ref nb36)])) rfl (by rw [hml]; rfl) (argsL := [(.ref nb40)]) (rest := []) (lenOf pd_pLcom_example_tristream_tristream_Edge_rV rfl) rfl (W := 0) (by show 2 * 0 + _ ≤ _; exact Nat.le_of_eq rfl) (hb hby at_172) (by decide) (by decide) (by decide) (by decide)
        obtain ⟨rfl, Nq52, hsz52, hek52, G52, hG52, hE52, hLn52, hJ52, hcc52⟩ := hQ52
        have Oe52_nb38 := hek52 _ _ Oe42_nb38
        have Oe52_nb40 := hek52 _ _ Oe42_nb40
        have N52 := Fr.app N42 Nq52
        have Z52 : n0 ≤ h52.size := Nat.le_trans Z42 hsz52
        refine qtr 175 #[(vj q0), sd, (vj q1), sd, (vj q2), sd, (vj q3), sd, (vi q4), (vj u), sd, (vj v), sd, (vj tq), sd, (vi s2), (vi dr), (vi rs), (vj xa), sd, (vj xb), sd, (vr nb36), (vr nb38), (vr nb40), un, un, un, un, un, un, un, un] [] st52 ?_
        have hAA : ∀ x y, GEd G52.c G52.KS x y ↔ Sm x y u v ∨ (s2 ≠ 0 ∧ Sm x y v tq) := fun x y => st_a1 hc165_44 (hE52 x y) (hEA x y) (mm_sm x y v tq)
        refine qi 177 X52 hx hby at_175 rfl rfl ?_
        by_cases hc177_53 : dr = (0 : Int32)
        · refine q_ify 197 X52 hx hby at_177 rfl ((if0 _ _).trans (teq hc177_53).1) ?_
          refine qa 199 X52 hx hby at_197 rfl rfl ?_
          refine ql 201 X52 hx hby at_199 rfl rfl ?_
          refine ql 203 X52 hx hby at_201 rfl rfl ?_
          obtain ⟨v54, T54, L54, h54, X54, e54, hQ54, st54⟩ := own_callV X52 hx hZ (y := mn24) hown (tw93 hw) (tw94 hw) (tw96 hw) (tw95 hw) (tw97 hw) (tw7 hw) (by decide) hG52.1.exa (rm_gct l Z a0 hw [] nb36 xa xb G52 h52 n0 Z52 hG52) e52 (g := (mkF m 203 #[(vj q0), sd, (vj q1), sd, (vj q2), sd, (vj q3), sd, (vi q4), (vj u), sd, (vj v), sd, (vj tq), sd, (vi s2), (vi dr), (vi rs), (vj xa), sd, (vj xb), sd, (vr nb36), (vr nb38), (vr nb40), un, un, un, un, un, un, un, un] [(.long xb), (.long xa), (.ref nb36)])) rfl (by rw [hml]; rfl) (argsL := [(.long xa), (.long xb)]) (rest := []) (lenOf pd_pJJrZ rfl) rfl (W := 0) (by show 2 * 0 + _ ≤ _; exact Nat.le_of_eq rfl) (hb hby at_203) (by decide) (by decide) (by decide) (by decide)
          obtain ⟨rv54, rfl, rfl, hq54, hr54⟩ := hQ54
          rw [hq54] at e54
          have N54 := Fr.app N52 (Fr.nil n0)
          refine qtr 206 #[(vj q0), sd, (vj q1), sd, (vj q2), sd, (vj q3), sd, (vi q4), (vj u), sd, (vj v), sd, (vj tq), sd, (vi s2), (vi dr), (vi rs), (vj xa), sd, (vj xb), sd, (vr nb36), (vr nb38), (vr nb40), un, un, un, un, un, un, un, un] [(.int rv54)] st54 ?_
          refine qsi 208 #[(vj q0), sd, (vj q1), sd, (vj q2), sd, (vj q3), sd, (vi q4), (vj u), sd, (vj v), sd, (vj tq), sd, (vi s2), (vi dr), (vi rs), (vj xa), sd, (vj xb), sd, (vr nb36), (vr nb38), (vr nb40), (vi rv54), un, un, un, un, un, un, un] X54 hx hby at_206 rfl rfl ?_
          have hF : GEd G52.c G52.KS xa xb ↔ Fexp s2 dr (if rs = (0 : Int32) then u else v) (if rs = (0 : Int32) then v else tq) u v tq xa xb := (st_r0 hc177_53 (hAA xa xb)).trans fexp_iff.symm
          exact tl T54 _ nb36 nb38 nb40 rv54 h52 Z52 (X54.more (by decide) (by decide)) e54 N54 (res_is hr54 hF)
        · refine q_ifn 180 X52 hx hby at_177 rfl ((if0 _ _).trans (feq hc177_53).1) ?_
          refine qa 182 X52 hx hby at_180 rfl rfl ?_
          refine qi 184 X52 hx hby at_182 rfl rfl ?_
          by_cases hc184_55 : rs = (0 : Int32)
          · refine q_ify 192 X52 hx hby at_184 rfl ((if0 _ _).trans (teq hc184_55).1) ?_
            refine qa 194 X52 hx hby at_192 rfl rfl ?_
            obtain ⟨v56, T56, L56, h56, X56, e56, hQ56, st56⟩ := own_callV X52 hx hZ (y := mn23) hown (tw122 hw) (tw123 hw) (tw125 hw) (tw124 hw) (tw126 hw) (tw7 hw) (by decide) hG52.1.exa (rm_grem l Z a0 hw [] nb36 nb38 (edge_u u v) (edge_v u v) G52 h52 n0 Z52 hG52 Oe52_nb38 (rem_pre hJ52)) e52 (g := (mkF m 194 #[(vj q0), sd, (vj q1), sd, (vj q2), sd, (vj q3), sd, (vi q4), (vj u), sd, (vj v), sd, (vj tq), sd, (vi s2), (vi dr), (vi rs), (vj xa), sd, (vj xb), sd, (vr nb36), (vr nb38), (vr nb40), un, un, un, un, un, un, un, un] [(.ref nb38), (.ref nb36)])) rfl (by rw [hml]; rfl) (argsL := [(.ref nb38)]) (rest := []) (lenOf pd_pLcom_example_tristream_tristream_Edge_rV rfl) rfl (W := 0) (by show 2 * 0 + _ ≤ _; exact Nat.le_of_eq rfl) (hb hby at_194) (by decide) (by decide) (by decide) (by decide)
            obtain ⟨rfl, Nq56, hsz56, hek56, G56, hG56, hE56⟩ := hQ56
            have Oe56_nb38 := hek56 _ _ Oe52_nb38
            have Oe56_nb40 := hek56 _ _ Oe52_nb40
            have N56 := Fr.app N52 Nq56
            have Z56 : n0 ≤ h56.size := Nat.le_trans Z52 hsz56
            refine qtr 197 #[(vj q0), sd, (vj q1), sd, (vj q2), sd, (vj q3), sd, (vi q4), (vj u), sd, (vj v), sd, (vj tq), sd, (vi s2), (vi dr), (vi rs), (vj xa), sd, (vj xb), sd, (vr nb36), (vr nb38), (vr nb40), un, un, un, un, un, un, un, un] [] st56 ?_
            refine qa 199 X56 hx hby at_197 rfl rfl ?_
            refine ql 201 X56 hx hby at_199 rfl rfl ?_
            refine ql 203 X56 hx hby at_201 rfl rfl ?_
            obtain ⟨v57, T57, L57, h57, X57, e57, hQ57, st57⟩ := own_callV X56 hx hZ (y := mn24) hown (tw93 hw) (tw94 hw) (tw96 hw) (tw95 hw) (tw97 hw) (tw7 hw) (by decide) hG56.1.exa (rm_gct l Z a0 hw [] nb36 xa xb G56 h56 n0 Z56 hG56) e56 (g := (mkF m 203 #[(vj q0), sd, (vj q1), sd, (vj q2), sd, (vj q3), sd, (vi q4), (vj u), sd, (vj v), sd, (vj tq), sd, (vi s2), (vi dr), (vi rs), (vj xa), sd, (vj xb), sd, (vr nb36), (vr nb38), (vr nb40), un, un, un, un, un, un, un, un] [(.long xb), (.long xa), (.ref nb36)])) rfl (by rw [hml]; rfl) (argsL := [(.long xa), (.long xb)]) (rest := []) (lenOf pd_pJJrZ rfl) rfl (W := 0) (by show 2 * 0 + _ ≤ _; exact Nat.le_of_eq rfl) (hb hby at_203) (by decide) (by decide) (by decide) (by decide)
            obtain ⟨rv57, rfl, rfl, hq57, hr57⟩ := hQ57
            rw [hq57] at e57
            have N57 := Fr.app N56 (Fr.nil n0)
            refine qtr 206 #[(vj q0), sd, (vj q1), sd, (vj q2), sd, (vj q3), sd, (vi q4), (vj u), sd, (vj v), sd, (vj tq), sd, (vi s2), (vi dr), (vi rs), (vj xa), sd, (vj xb), sd, (vr nb36), (vr nb38), (vr nb40), un, un, un, un, un, un, un, un] [(.int rv57)] st57 ?_
            refine qsi 208 #[(vj q0), sd, (vj q1), sd, (vj q2), sd, (vj q3), sd, (vi q4), (vj u), sd, (vj v), sd, (vj tq), sd, (vi s2), (vi dr), (vi rs), (vj xa), sd, (vj xb), sd, (vr nb36), (vr nb38), (vr nb40), (vi rv57), un, un, un, un, un, un, un] X57 hx hby at_206 rfl rfl ?_
            have hF : GEd G56.c G56.KS xa xb ↔ Fexp s2 dr (if rs = (0 : Int32) then u else v) (if rs = (0 : Int32) then v else tq) u v tq xa xb := (st_r1 hc177_53 (hE56 xa xb) (hAA xa xb) (by rw [if_pos hc184_55, if_pos hc184_55]; exact mm_sm xa xb _ _)).trans fexp_iff.symm
            exact tl T57 _ nb36 nb38 nb40 rv57 h56 Z56 (X57.more (by decide) (by decide)) e57 N57 (res_is hr57 hF)
          · refine q_ifn 187 X52 hx hby at_184 rfl ((if0 _ _).trans (feq hc184_55).1) ?_
            refine qa 189 X52 hx hby at_187 rfl rfl ?_
            refine q_goto 194 X52 hx hby at_189 rfl ?_
            obtain ⟨v58, T58, L58, h58, X58, e58, hQ58, st58⟩ := own_callV X52 hx hZ (y := mn23) hown (tw122 hw) (tw123 hw) (tw125 hw) (tw124 hw) (tw126 hw) (tw7 hw) (by decide) hG52.1.exa (rm_grem l Z a0 hw [] nb36 nb40 (edge_u v tq) (edge_v v tq) G52 h52 n0 Z52 hG52 Oe52_nb40 (rem_pre hJ52)) e52 (g := (mkF m 194 #[(vj q0), sd, (vj q1), sd, (vj q2), sd, (vj q3), sd, (vi q4), (vj u), sd, (vj v), sd, (vj tq), sd, (vi s2), (vi dr), (vi rs), (vj xa), sd, (vj xb), sd, (vr nb36), (vr nb38), (vr nb40), un, un, un, un, un, un, un, un] [(.ref nb40), (.ref nb36)])) rfl (by rw [hml]; rfl) (argsL := [(.ref nb40)]) (rest := []) (lenOf pd_pLcom_example_tristream_tristream_Edge_rV rfl) rfl (W := 0) (by show 2 * 0 + _ ≤ _; exact Nat.le_of_eq rfl) (hb hby at_194) (by decide) (by decide) (by decide) (by decide)
            obtain ⟨rfl, Nq58, hsz58, hek58, G58, hG58, hE58⟩ := hQ58
            have Oe58_nb38 := hek58 _ _ Oe52_nb38
            have Oe58_nb40 := hek58 _ _ Oe52_nb40
            have N58 := Fr.app N52 Nq58
            have Z58 : n0 ≤ h58.size := Nat.le_trans Z52 hsz58
            refine qtr 197 #[(vj q0), sd, (vj q1), sd, (vj q2), sd, (vj q3), sd, (vi q4), (vj u), sd, (vj v), sd, (vj tq), sd, (vi s2), (vi dr), (vi rs), (vj xa), sd, (vj xb), sd, (vr nb36), (vr nb38), (vr nb40), un, un, un, un, un, un, un, un] [] st58 ?_
            refine qa 199 X58 hx hby at_197 rfl rfl ?_
            refine ql 201 X58 hx hby at_199 rfl rfl ?_
            refine ql 203 X58 hx hby at_201 rfl rfl ?_
            obtain ⟨v59, T59, L59, h59, X59, e59, hQ59, st59⟩ := own_callV X58 hx hZ (y := mn24) hown (tw93 hw) (tw94 hw) (tw96 hw) (tw95 hw) (tw97 hw) (tw7 hw) (by decide) hG58.1.exa (rm_gct l Z a0 hw [] nb36 xa xb G58 h58 n0 Z58 hG58) e58 (g := (mkF m 203 #[(vj q0), sd, (vj q1), sd, (vj q2), sd, (vj q3), sd, (vi q4), (vj u), sd, (vj v), sd, (vj tq), sd, (vi s2), (vi dr), (vi rs), (vj xa), sd, (vj xb), sd, (vr nb36), (vr nb38), (vr nb40), un, un, un, un, un, un, un, un] [(.long xb), (.long xa), (.ref nb36)])) rfl (by rw [hml]; rfl) (argsL := [(.long xa), (.long xb)]) (rest := []) (lenOf pd_pJJrZ rfl) rfl (W := 0) (by show 2 * 0 + _ ≤ _; exact Nat.le_of_eq rfl) (hb hby at_203) (by decide) (by decide) (by decide) (by decide)
            obtain ⟨rv59, rfl, rfl, hq59, hr59⟩ := hQ59
            rw [hq59] at e59
            have N59 := Fr.app N58 (Fr.nil n0)
            refine qtr 206 #[(vj q0), sd, (vj q1), sd, (vj q2), sd, (vj q3), sd, (vi q4), (vj u), sd, (vj v), sd, (vj tq), sd, (vi s2), (vi dr), (vi rs), (vj xa), sd, (vj xb), sd, (vr nb36), (vr nb38), (vr nb40), un, un, un, un, un, un, un, un] [(.int rv59)] st59 ?_
            refine qsi 208 #[(vj q0), sd, (vj q1), sd, (vj q2), sd, (vj q3), sd, (vi q4), (vj u), sd, (vj v), sd, (vj tq), sd, (vi s2), (vi dr), (vi rs), (vj xa), sd, (vj xb), sd, (vr nb36), (vr nb38), (vr nb40), (vi rv59), un, un, un, un, un, un, un] X59 hx hby at_206 rfl rfl ?_
            have hF : GEd G58.c G58.KS xa xb ↔ Fexp s2 dr (if rs = (0 : Int32) then u else v) (if rs = (0 : Int32) then v else tq) u v tq xa xb := (st_r1 hc177_53 (hE58 xa xb) (hAA xa xb) (by rw [if_neg hc184_55, if_neg hc184_55]; exact mm_sm xa xb _ _)).trans fexp_iff.symm
            exact tl T59 _ nb36 nb38 nb40 rv59 h58 Z58 (X59.more (by decide) (by decide)) e59 N59 (res_is hr59 hF)
set_option maxRecDepth 65536 in
set_option maxHeartbeats 40000000 in
theorem comes_1 {Post : Tables → Env → Array Value → State → Outcome → State → Prop} (hpost : ∀ tb e args s v u, (limb_1_1.after args s (.returned v) u = true ∧ limb_1_2.after args s (.returned v) u = true ∧ True) → FrameEnd s (.returned v) u (Jvm.fieldLocs frame_1_writes args s ++ Jvm.arrayLocs frame_1_arrays args s ++ Jvm.staticLocs frame_1_statics s) 48 256 → Post tb e args s (.returned v) u) :
    ArmFor flags0 classFile x code maxLocals ret World_1 tables_1 room_1 Calls_1 rest_1 Pre_1 Post := by
  intro l hfl _ _ p e ha hc hk s m args below hf hA hF happ hP
  obtain ⟨hcalls, hrest, hpre⟩ := hP
  obtain ⟨-, -, -, hnamed, -, -, -, hat⟩ := (Spec.applies_iff hf).mp happ
  obtain ⟨hg, hn⟩ := and_e (Cond.before_iff.mp (show (Jvm.Cond.and given_1 narrow_1).before args s = true from hpre))
  obtain ⟨hct, hg0⟩ := and_e hg
  obtain ⟨ga0, hg1⟩ := and_e hg0
  obtain ⟨ga1, hg2⟩ := and_e hg1
  obtain ⟨ga2, hg3⟩ := and_e hg2
  obtain ⟨ga3, hg4⟩ := and_e hg3
  have ga4 := hg4
  obtain ⟨w0, w1, w2, w3, w4, rfl⟩ : ∃ w0 w1 w2 w3 w4 : Value, args = #[w0, w1, w2, w3, w4] := by
    have hs : args.size = 5 := by simpa [Cond.value, given_1] using hct
    obtain ⟨L⟩ := args
    match L, hs with
    | [w0, w1, w2, w3, w4], _ => exact ⟨w0, w1, w2, w3, w4, rfl⟩
  have hw := fun d (hd : d ∈ tables_1) => atoms_spec (ws := Jvm.Cond.code x code maxLocals ret :: tables_1) hat d (List.mem_cons_of_mem _ hd)
  obtain ⟨i0, ei0⟩ := isL_v ga0
  obtain rfl : w0 = (.long i0) := Option.some.inj ei0
  obtain ⟨i1, ei1⟩ := isL_v ga1
  obtain rfl : w1 = (.long i1) := Option.some.inj ei1
  obtain ⟨i2, ei2⟩ := isL_v ga2
  obtain rfl : w2 = (.long i2) := Option.some.inj ei2
  obtain ⟨i3, ei3⟩ := isL_v ga3
  obtain rfl : w3 = (.long i3) := Option.some.inj ei3
  obtain ⟨i4, ei4⟩ := is_v ga4
  obtain rfl : w4 = (.int i4) := Option.some.inj ei4
  obtain ⟨n, o, h1, h2, h3, _, L, rfl, ⟨rfl, N⟩, hq⟩ := rm_law l s _ hw tables_1 i0 i1 i2 i3 i4 s.heap s.heap.size (Nat.le_refl _) p e ha hc hk s m _ below hf ((Spec.applies_iff_loose hf).mp happ).1 ⟨rfl, State.Warmed39.refl s, rfl⟩ trivial
  refine ⟨n, _, h1, h2, h3, hpost _ _ _ _ _ _ ⟨Cond.after_iff.mpr rfl, Cond.after_iff.mpr (eq_i res_at (Term.int_eval (1)) rfl), trivial⟩ ⟨hq.1, hq.2.1, (hq.2.2.sift fun y hy => Or.inr (N y hy)).mono (by decide) (by decide)⟩⟩
theorem main_1_1 : Claimed_1_1 := comes_1 fun _ _ _ _ _ _ h hF => ⟨h.1, hF⟩
theorem main_1_2 : Claimed_1_2 := comes_1 fun _ _ _ _ _ _ h hF => ⟨h.2.1, hF⟩
end Jvm.Pilot.@@N@@
namespace Jvm.Pilot.@@N@@
open Jvm Jvm.ClassFile Sem Op Lib Jvm.Free Jvm.Stand Jvm.Pilot.@@N@@.Jvm.D
/-! MADE BY PROGRAM (witnessworld.py) out of the Statement's table words and the real class files: 22 classes; the members and pool entries that the words name. The judged class is class 1, her method 3. -/
namespace start1
open Jvm.ClassFile
def u (s : String) : CpInfo := .utf8 (stringToUtf16 s)
/-- a pool by its gaps: so many unusable entries, then the entry; so many at the end -/
def gap : Nat → List CpInfo → List CpInfo
  | 0, r => r
  | n + 1, r => .unusable :: gap n r
def poolList (es : List (Nat × CpInfo)) (last : Nat) : List CpInfo := es.foldr (fun e r => gap e.1 (e.2 :: r)) (gap last [])
def pool (es : List (Nat × CpInfo)) (last : Nat) : Array CpInfo := ⟨poolList es last⟩
def fileOf (pool : Array CpInfo) (this : Nat) (attrs : Array Attribute := #[]) (ms : Array MethodInfo := #[]) (fl : Nat := 33) (sup : Nat := 0) (ifs : Array Nat := #[]) (fds : Array FieldInfo := #[]) : ClassFile where
  minorVersion := 0
  majorVersion := 65
  constantPool := pool
  accessFlags := fl
  thisClass := this
  superClass := sup
  interfaces := ifs
  fields := fds
  methods := ms
  attributes := attrs
def plain (name : String) (sup : Option ClassId) : Class where
  name := name
  kind := .ordinary
  loader := none
  accessFlags := 33
  super := sup
  interfaces := #[]
  cf := none
  fields := #[]
  methods := #[]
  instanceTypes := #[]
  staticTypes := #[]
  resolved := #[]
  callSites := []
  init := .initialized
  statics := none
  mirror := none

def pool0 : Array CpInfo := pool [(5, u "<init>"), (0, u "()V"), (1, .class_ 10), (1, u "java/lang/Object")] 113

def k0c0 : Code := { maxStack := 0, maxLocals := 1, code := object_method_1_code, exceptionTable := #[], attributes := #[] }
def k0m0 : Method := { name := "<init>", desc := "()V", sig := { parameters := [], returnType := none }, accessFlags := 1, code := some k0c0 }
/-- java/lang/Object -/
def k0 : Class := { plain "java/lang/Object" none with
  accessFlags := 33
  interfaces := #[]
  cf := some (fileOf pool0 8 #[] #[{ accessFlags := 1, nameIndex := 5, descriptorIndex := 6, attributes := #[] }] 33 0 #[] #[])
  fields := #[]
  methods := #[k0m0]
  instanceTypes := #[]
  staticTypes := #[]
  resolved := Array.replicate 124 none
  statics := none }

def pool1 : Array CpInfo := pool [(2, .class_ 4), (0, .nameAndType 5 6), (0, u "java/lang/Object"), (0, u "<init>"), (0, u "()V"), (2, .long 9223372036854775807), (1, .methodref 12 13), (0, .class_ 14), (0, .nameAndType 15 16), (0, u "com/example/tristream/tristream/SampleGraphContainsPinLaw"), (0, u "pick"), (0, u "(IJJJJ)J"), (0, .class_ 18), (0, u "com/example/tristream/tristream/SampleGraph"), (0, .methodref 17 3), (0, .class_ 21), (0, u "com/example/tristream/tristream/Edge"), (0, .methodref 20 23), (0, .nameAndType 5 24), (0, u "(JJ)V"), (0, .methodref 17 26), (0, .nameAndType 27 28), (0, u "add"), (0, u "(Lcom/example/tristream/tristream/Edge;)V"), (0, .methodref 17 30), (0, .nameAndType 31 28), (0, u "remove"), (0, .methodref 17 33), (0, .nameAndType 34 35), (0, u "contains"), (0, u "(JJ)Z"), (0, .methodref 12 37), (0, .nameAndType 38 39), (0, u "same"), (0, u "(JJJJ)Z"), (3, u "law"), (0, u "(JJJJI)Z")] 2

def k1m0 : Method := { name := "<init>", desc := "()V", sig := { parameters := [], returnType := none }, accessFlags := 1, code := none }
def k1c1 : Code := { maxStack := 2, maxLocals := 9, code := method_2_code, exceptionTable := #[], attributes := #[] }
def k1m1 : Method := { name := "pick", desc := "(IJJJJ)J", sig := { parameters := [.int, .long, .long, .long, .long], returnType := some .long }, accessFlags := 10, code := some k1c1 }
def k1c2 : Code := { maxStack := 4, maxLocals := 8, code := method_3_code, exceptionTable := #[], attributes := #[] }
def k1m2 : Method := { name := "same", desc := "(JJJJ)Z", sig := { parameters := [.long, .long, .long, .long], returnType := some .boolean }, accessFlags := 10, code := some k1c2 }
def k1c3 : Code := { maxStack := 9, maxLocals := 33, code := code, exceptionTable := #[], attributes := #[] }
def k1m3 : Method := { name := "law", desc := "(JJJJI)Z", sig := { parameters := [.long, .long, .long, .long, .int], returnType := some .boolean }, accessFlags := 9, code := some k1c3 }
/-- com/example/tristream/tristream/SampleGraphContainsPinLaw -/
def k1 : Class := { plain "com/example/tristream/tristream/SampleGraphContainsPinLaw" (some 0) with
  accessFlags := 49
  interfaces := #[]
  cf := some (fileOf pool1 12 #[] #[{ accessFlags := 1, nameIndex := 5, descriptorIndex := 6, attributes := #[] }, { accessFlags := 10, nameIndex := 15, descriptorIndex := 16, attributes := #[] }, { accessFlags := 10, nameIndex := 38, descriptorIndex := 39, attributes := #[] }, { accessFlags := 9, nameIndex := 43, descriptorIndex := 44, attributes := #[] }] 49 2 #[] #[])
  fields := #[]
  methods := #[k1m0, k1m1, k1m2, k1m3]
  instanceTypes := #[]
  staticTypes := #[]
  resolved := Array.replicate 47 none
  statics := none }

def pool2 : Array CpInfo := pool [(1, .methodref 2 3), (0, .class_ 4), (0, .nameAndType 5 6), (0, u "java/lang/Object"), (0, u "<init>"), (0, u "()V"), (0, .class_ 8), (0, u "com/example/tristream/tristream/LongIndex"), (0, .methodref 7 3), (0, .fieldref 11 12), (0, .class_ 13), (0, .nameAndType 14 15), (0, u "com/example/tristream/tristream/SampleGraph"), (0, u "nodes"), (0, u "Lcom/example/tristream/tristream/LongIndex;"), (0, .fieldref 11 17), (0, .nameAndType 18 19), (0, u "neighbours"), (0, u "[Lcom/example/tristream/tristream/LongIndex;"), (0, .methodref 21 22), (0, .class_ 23), (0, .nameAndType 24 25), (0, u "com/example/tristream/tristream/Edge"), (0, u "u"), (0, u "()J"), (0, .methodref 11 27), (0, .nameAndType 28 29), (0, u "neighboursOf"), (0, u "(J)Lcom/example/tristream/tristream/LongIndex;"), (0, .methodref 21 31), (0, .nameAndType 32 25), (0, u "v"), (0, .methodref 7 34), (0, .nameAndType 35 36), (0, u "add"), (0, u "(J)I"), (0, .methodref 11 38), (0, .nameAndType 39 40), (0, u "removeNeighbour"), (0, u "(JJ)V"), (0, .methodref 7 42), (0, .nameAndType 43 36), (0, u "indexOf"), (0, .methodref 7 45), (0, .nameAndType 46 47), (0, u "size"), (0, u "()I"), (9, u "(J)V"), (7, .methodref 7 66), (0, .nameAndType 67 57), (0, u "remove"), (2, u "(Lcom/example/tristream/tristream/Edge;)V"), (0, u "contains"), (0, u "(JJ)Z")] 5

def k2c0 : Code := { maxStack := 3, maxLocals := 1, code := prog_40_method_1_code, exceptionTable := #[], attributes := #[] }
def k2m0 : Method := { name := "<init>", desc := "()V", sig := { parameters := [], returnType := none }, accessFlags := 0, code := some k2c0 }
def k2c1 : Code := { maxStack := 3, maxLocals := 2, code := prog_40_method_2_code, exceptionTable := #[], attributes := #[] }
def k2m1 : Method := { name := "add", desc := "(Lcom/example/tristream/tristream/Edge;)V", sig := { parameters := [(.object "com/example/tristream/tristream/Edge")], returnType := none }, accessFlags := 0, code := some k2c1 }
def k2c2 : Code := { maxStack := 5, maxLocals := 2, code := prog_40_method_3_code, exceptionTable := #[], attributes := #[] }
def k2m2 : Method := { name := "remove", desc := "(Lcom/example/tristream/tristream/Edge;)V", sig := { parameters := [(.object "com/example/tristream/tristream/Edge")], returnType := none }, accessFlags := 0, code := some k2c2 }
def k2c3 : Code := { maxStack := 3, maxLocals := 6, code := prog_40_method_4_code, exceptionTable := #[], attributes := #[] }
def k2m3 : Method := { name := "contains", desc := "(JJ)Z", sig := { parameters := [.long, .long], returnType := some .boolean }, accessFlags := 0, code := some k2c3 }
def k2c4 : Code := { maxStack := 4, maxLocals := 4, code := prog_40_method_6_code, exceptionTable := #[], attributes := #[] }
def k2m4 : Method := { name := "neighboursOf", desc := "(J)Lcom/example/tristream/tristream/LongIndex;", sig := { parameters := [.long], returnType := some (.object "com/example/tristream/tristream/LongIndex") }, accessFlags := 2, code := some k2c4 }
def k2c5 : Code := { maxStack := 4, maxLocals := 7, code := prog_40_method_7_code, exceptionTable := #[], attributes := #[] }
def k2m5 : Method := { name := "removeNeighbour", desc := "(JJ)V", sig := { parameters := [.long, .long], returnType := none }, accessFlags := 2, code := some k2c5 }
/-- com/example/tristream/tristream/SampleGraph -/
def k2 : Class := { plain "com/example/tristream/tristream/SampleGraph" (some 0) with
  accessFlags := 48
  interfaces := #[]
  cf := some (fileOf pool2 11 #[] #[{ accessFlags := 0, nameIndex := 5, descriptorIndex := 6, attributes := #[] }, { accessFlags := 0, nameIndex := 35, descriptorIndex := 70, attributes := #[] }, { accessFlags := 0, nameIndex := 67, descriptorIndex := 70, attributes := #[] }, { accessFlags := 0, nameIndex := 71, descriptorIndex := 72, attributes := #[] }, { accessFlags := 2, nameIndex := 28, descriptorIndex := 29, attributes := #[] }, { accessFlags := 2, nameIndex := 39, descriptorIndex := 40, attributes := #[] }] 48 2 #[] #[{ accessFlags := 18, nameIndex := 14, descriptorIndex := 15, attributes := #[] }, { accessFlags := 2, nameIndex := 18, descriptorIndex := 19, attributes := #[] }])
  fields := #[{ name := "nodes", type := (.object "com/example/tristream/tristream/LongIndex"), accessFlags := 18, slot := 0, constantValue := 0 }, { name := "neighbours", type := (.array (.object "com/example/tristream/tristream/LongIndex")), accessFlags := 2, slot := 1, constantValue := 0 }]
  methods := #[k2m0, k2m1, k2m2, k2m3, k2m4, k2m5]
  instanceTypes := #[(.object "com/example/tristream/tristream/LongIndex"), (.array (.object "com/example/tristream/tristream/LongIndex"))]
  staticTypes := #[]
  resolved := Array.replicate 78 none
  statics := none }

def pool3 : Array CpInfo := pool [(1, .methodref 2 3), (0, .class_ 4), (0, .nameAndType 5 6), (0, u "java/lang/Object"), (0, u "<init>"), (0, u "()V"), (0, .class_ 8), (0, u "com/example/tristream/tristream/LongIndex"), (0, .fieldref 7 10), (0, .nameAndType 11 12), (0, u "keys"), (0, u "[J"), (0, .fieldref 7 14), (0, .nameAndType 15 16), (0, u "slots"), (0, u "[I"), (0, .methodref 18 19), (0, .class_ 20), (0, .nameAndType 21 22), (0, u "java/lang/Integer"), (0, u "numberOfTrailingZeros"), (0, u "(I)I"), (0, .fieldref 7 24), (0, .nameAndType 25 26), (0, u "shift"), (0, u "I"), (0, .fieldref 7 28), (0, .nameAndType 29 26), (0, u "size"), (0, .methodref 7 31), (0, .nameAndType 32 33), (0, u "find"), (0, u "(J)I"), (0, .integer 1073741824), (7, .methodref 7 43), (0, .nameAndType 44 45), (0, u "resize"), (0, u "(I)V"), (0, .methodref 47 48), (0, .class_ 49), (0, .nameAndType 50 51), (0, u "java/util/Arrays"), (0, u "copyOf"), (0, u "([JI)[J"), (0, .methodref 7 53), (0, .nameAndType 54 45), (0, u "clear"), (0, .methodref 7 56), (0, .nameAndType 57 33), (0, u "home"), (0, .long 11400714819323198485), (1, u "MAX_SLOTS"), (1, u "MIN_SLOTS"), (1, u "SPREAD"), (0, u "J"), (2, u "()I"), (2, u "indexOf"), (0, u "add"), (1, u "remove"), (0, u "(J)V")] 2

def k3c0 : Code := { maxStack := 3, maxLocals := 1, code := prog_25_method_1_code, exceptionTable := #[], attributes := #[] }
def k3m0 : Method := { name := "<init>", desc := "()V", sig := { parameters := [], returnType := none }, accessFlags := 0, code := some k3c0 }
def k3c1 : Code := { maxStack := 1, maxLocals := 1, code := prog_25_method_2_code, exceptionTable := #[], attributes := #[] }
def k3m1 : Method := { name := "size", desc := "()I", sig := { parameters := [], returnType := some .int }, accessFlags := 0, code := some k3c1 }
def k3c2 : Code := { maxStack := 4, maxLocals := 3, code := prog_25_method_4_code, exceptionTable := #[], attributes := #[] }
def k3m2 : Method := { name := "indexOf", desc := "(J)I", sig := { parameters := [.long], returnType := some .int }, accessFlags := 0, code := some k3c2 }
def k3c3 : Code := { maxStack := 4, maxLocals := 4, code := prog_25_method_5_code, exceptionTable := #[], attributes := #[] }
def k3m3 : Method := { name := "add", desc := "(J)I", sig := { parameters := [.long], returnType := some .int }, accessFlags := 0, code := some k3c3 }
def k3c4 : Code := { maxStack := 4, maxLocals := 7, code := prog_25_method_6_code, exceptionTable := #[], attributes := #[] }
def k3m4 : Method := { name := "remove", desc := "(J)V", sig := { parameters := [.long], returnType := none }, accessFlags := 0, code := some k3c4 }
def k3c5 : Code := { maxStack := 4, maxLocals := 5, code := prog_25_method_7_code, exceptionTable := #[], attributes := #[] }
def k3m5 : Method := { name := "find", desc := "(J)I", sig := { parameters := [.long], returnType := some .int }, accessFlags := 2, code := some k3c5 }
def k3c6 : Code := { maxStack := 4, maxLocals := 3, code := prog_25_method_8_code, exceptionTable := #[], attributes := #[] }
def k3m6 : Method := { name := "home", desc := "(J)I", sig := { parameters := [.long], returnType := some .int }, accessFlags := 2, code := some k3c6 }
def k3c7 : Code := { maxStack := 4, maxLocals := 6, code := prog_25_method_9_code, exceptionTable := #[], attributes := #[] }
def k3m7 : Method := { name := "clear", desc := "(I)V", sig := { parameters := [.int], returnType := none }, accessFlags := 2, code := some k3c7 }
def k3c8 : Code := { maxStack := 4, maxLocals := 5, code := prog_25_method_10_code, exceptionTable := #[], attributes := #[] }
def k3m8 : Method := { name := "resize", desc := "(I)V", sig := { parameters := [.int], returnType := none }, accessFlags := 2, code := some k3c8 }
/-- com/example/tristream/tristream/LongIndex -/
def k3 : Class := { plain "com/example/tristream/tristream/LongIndex" (some 0) with
  accessFlags := 48
  interfaces := #[]
  cf := some (fileOf pool3 7 #[] #[{ accessFlags := 0, nameIndex := 5, descriptorIndex := 6, attributes := #[] }, { accessFlags := 0, nameIndex := 29, descriptorIndex := 68, attributes := #[] }, { accessFlags := 0, nameIndex := 71, descriptorIndex := 33, attributes := #[] }, { accessFlags := 0, nameIndex := 72, descriptorIndex := 33, attributes := #[] }, { accessFlags := 0, nameIndex := 74, descriptorIndex := 75, attributes := #[] }, { accessFlags := 2, nameIndex := 32, descriptorIndex := 33, attributes := #[] }, { accessFlags := 2, nameIndex := 57, descriptorIndex := 33, attributes := #[] }, { accessFlags := 2, nameIndex := 54, descriptorIndex := 45, attributes := #[] }, { accessFlags := 2, nameIndex := 44, descriptorIndex := 45, attributes := #[] }] 48 2 #[] #[{ accessFlags := 26, nameIndex := 60, descriptorIndex := 26, attributes := #[] }, { accessFlags := 26, nameIndex := 62, descriptorIndex := 26, attributes := #[] }, { accessFlags := 26, nameIndex := 64, descriptorIndex := 65, attributes := #[] }, { accessFlags := 2, nameIndex := 11, descriptorIndex := 12, attributes := #[] }, { accessFlags := 2, nameIndex := 15, descriptorIndex := 16, attributes := #[] }, { accessFlags := 2, nameIndex := 25, descriptorIndex := 26, attributes := #[] }, { accessFlags := 2, nameIndex := 29, descriptorIndex := 26, attributes := #[] }])
  fields := #[{ name := "MAX_SLOTS", type := .int, accessFlags := 26, slot := 0, constantValue := 0 }, { name := "MIN_SLOTS", type := .int, accessFlags := 26, slot := 1, constantValue := 0 }, { name := "SPREAD", type := .long, accessFlags := 26, slot := 2, constantValue := 0 }, { name := "keys", type := (.array .long), accessFlags := 2, slot := 0, constantValue := 0 }, { name := "slots", type := (.array .int), accessFlags := 2, slot := 1, constantValue := 0 }, { name := "shift", type := .int, accessFlags := 2, slot := 2, constantValue := 0 }, { name := "size", type := .int, accessFlags := 2, slot := 3, constantValue := 0 }]
  methods := #[k3m0, k3m1, k3m2, k3m3, k3m4, k3m5, k3m6, k3m7, k3m8]
  instanceTypes := #[(.array .long), (.array .int), .int, .int]
  staticTypes := #[.int, .int, .long]
  resolved := Array.replicate 78 none
  statics := none }

def pool4 : Array CpInfo := pool [(1, .class_ 2), (0, u "java/io/Serializable"), (0, .class_ 4), (0, u "java/lang/Object")] 2

/-- java/io/Serializable -/
def k4 : Class := { plain "java/io/Serializable" (some 0) with
  accessFlags := 1537
  interfaces := #[]
  cf := some (fileOf pool4 1 #[] #[] 1537 3 #[] #[])
  fields := #[]
  methods := #[]
  instanceTypes := #[]
  staticTypes := #[]
  resolved := Array.replicate 7 none
  statics := none }

def pool5 : Array CpInfo := pool [(2, .class_ 4), (1, u "java/lang/Object"), (0, u "<init>"), (0, u "()V"), (1, .class_ 10), (1, u "java/lang/Number"), (2, .class_ 14), (0, u "java/io/Serializable"), (0, u "serialVersionUID"), (0, u "J")] 20

def k5m0 : Method := { name := "<init>", desc := "()V", sig := { parameters := [], returnType := none }, accessFlags := 1, code := none }
/-- java/lang/Number -/
def k5 : Class := { plain "java/lang/Number" (some 0) with
  accessFlags := 1057
  interfaces := #[4]
  cf := some (fileOf pool5 8 #[] #[{ accessFlags := 1, nameIndex := 5, descriptorIndex := 6, attributes := #[] }] 1057 2 #[13] #[{ accessFlags := 26, nameIndex := 15, descriptorIndex := 16, attributes := #[] }])
  fields := #[{ name := "serialVersionUID", type := .long, accessFlags := 26, slot := 0, constantValue := 0 }]
  methods := #[k5m0]
  instanceTypes := #[]
  staticTypes := #[.long]
  resolved := Array.replicate 37 none
  statics := none }

def pool6 : Array CpInfo := pool [(1, .class_ 2), (0, u "java/lang/Comparable"), (0, .class_ 4), (0, u "java/lang/Object")] 7

/-- java/lang/Comparable -/
def k6 : Class := { plain "java/lang/Comparable" (some 0) with
  accessFlags := 1537
  interfaces := #[]
  cf := some (fileOf pool6 1 #[] #[] 1537 3 #[] #[])
  fields := #[]
  methods := #[]
  instanceTypes := #[]
  staticTypes := #[]
  resolved := Array.replicate 12 none
  statics := none }

def pool7 : Array CpInfo := pool [(1, .class_ 2), (0, u "java/lang/constant/Constable"), (0, .class_ 4), (0, u "java/lang/Object")] 6

/-- java/lang/constant/Constable -/
def k7 : Class := { plain "java/lang/constant/Constable" (some 0) with
  accessFlags := 1537
  interfaces := #[]
  cf := some (fileOf pool7 1 #[] #[] 1537 3 #[] #[])
  fields := #[]
  methods := #[]
  instanceTypes := #[]
  staticTypes := #[]
  resolved := Array.replicate 11 none
  statics := none }

def pool8 : Array CpInfo := pool [(1, .class_ 2), (0, u "java/lang/constant/ConstantDesc"), (0, .class_ 4), (0, u "java/lang/Object")] 32

/-- java/lang/constant/ConstantDesc -/
def k8 : Class := { plain "java/lang/constant/ConstantDesc" (some 0) with
  accessFlags := 1537
  interfaces := #[]
  cf := some (fileOf pool8 1 #[] #[] 1537 3 #[] #[])
  fields := #[]
  methods := #[]
  instanceTypes := #[]
  staticTypes := #[]
  resolved := Array.replicate 37 none
  statics := none }

def pool9 : Array CpInfo := pool [(1, .class_ 2), (0, u "java/lang/Integer"), (16, u "digits"), (0, u "[C"), (33, u "(I)I"), (30, u "DigitOnes"), (0, u "[B"), (2, u "DigitTens"), (99, .class_ 190), (0, u "java/lang/Integer$IntegerCache"), (3, u "I"), (8, .class_ 204), (0, u "java/lang/Number"), (2, u "value"), (56, .integer 65536), (37, u "TYPE"), (0, u "Ljava/lang/Class;"), (0, .class_ 305), (0, u "java/lang/Comparable"), (0, .class_ 307), (0, u "java/lang/constant/Constable"), (0, .class_ 309), (0, u "java/lang/constant/ConstantDesc"), (0, u "MIN_VALUE"), (1, u "MAX_VALUE"), (3, u "SIZE"), (1, u "BYTES"), (1, u "serialVersionUID"), (0, u "J"), (84, u "numberOfTrailingZeros")] 46

def k9c0 : Code := { maxStack := 3, maxLocals := 2, code := jdk_33_method_48_code, exceptionTable := #[], attributes := #[] }
def k9m0 : Method := { name := "numberOfTrailingZeros", desc := "(I)I", sig := { parameters := [.int], returnType := some .int }, accessFlags := 9, code := some k9c0 }
/-- java/lang/Integer -/
def k9 : Class := { plain "java/lang/Integer" (some 5) with
  accessFlags := 49
  interfaces := #[6, 7, 8]
  cf := some (fileOf pool9 1 #[.nestMembers #[189]] #[{ accessFlags := 9, nameIndex := 406, descriptorIndex := 54, attributes := #[] }] 49 203 #[304, 306, 308] #[{ accessFlags := 25, nameIndex := 310, descriptorIndex := 194, attributes := #[] }, { accessFlags := 25, nameIndex := 312, descriptorIndex := 194, attributes := #[] }, { accessFlags := 25, nameIndex := 302, descriptorIndex := 303, attributes := #[] }, { accessFlags := 24, nameIndex := 19, descriptorIndex := 20, attributes := #[] }, { accessFlags := 24, nameIndex := 89, descriptorIndex := 86, attributes := #[] }, { accessFlags := 24, nameIndex := 85, descriptorIndex := 86, attributes := #[] }, { accessFlags := 18, nameIndex := 207, descriptorIndex := 194, attributes := #[] }, { accessFlags := 25, nameIndex := 316, descriptorIndex := 194, attributes := #[] }, { accessFlags := 25, nameIndex := 318, descriptorIndex := 194, attributes := #[] }, { accessFlags := 26, nameIndex := 320, descriptorIndex := 321, attributes := #[] }])
  fields := #[{ name := "MIN_VALUE", type := .int, accessFlags := 25, slot := 0, constantValue := 0 }, { name := "MAX_VALUE", type := .int, accessFlags := 25, slot := 1, constantValue := 0 }, { name := "TYPE", type := (.object "java/lang/Class"), accessFlags := 25, slot := 2, constantValue := 0 }, { name := "digits", type := (.array .char), accessFlags := 24, slot := 3, constantValue := 0 }, { name := "DigitTens", type := (.array .byte), accessFlags := 24, slot := 4, constantValue := 0 }, { name := "DigitOnes", type := (.array .byte), accessFlags := 24, slot := 5, constantValue := 0 }, { name := "value", type := .int, accessFlags := 18, slot := 0, constantValue := 0 }, { name := "SIZE", type := .int, accessFlags := 25, slot := 6, constantValue := 0 }, { name := "BYTES", type := .int, accessFlags := 25, slot := 7, constantValue := 0 }, { name := "serialVersionUID", type := .long, accessFlags := 26, slot := 8, constantValue := 0 }]
  methods := #[k9m0]
  instanceTypes := #[.int]
  staticTypes := #[.int, .int, (.object "java/lang/Class"), (.array .char), (.array .byte), (.array .byte), .int, .int, .long]
  resolved := Array.replicate 453 none
  statics := none }

def pool10 : Array CpInfo := pool [(1, .methodref 2 3), (0, .class_ 4), (0, .nameAndType 5 6), (0, u "java/lang/Object"), (0, u "<init>"), (0, u "()V"), (9, .methodref 17 18), (0, .class_ 19), (0, .nameAndType 20 21), (0, u "java/lang/Math"), (0, u "min"), (0, u "(JJ)J"), (0, .fieldref 23 24), (0, .class_ 25), (0, .nameAndType 26 27), (0, u "com/example/tristream/tristream/Edge"), (0, u "u"), (0, u "J"), (0, .methodref 17 29), (0, .nameAndType 30 21), (0, u "max"), (0, .fieldref 23 32), (0, .nameAndType 33 27), (0, u "v"), (0, u "(JJ)V"), (3, u "()J")] 19

def k10c0 : Code := { maxStack := 6, maxLocals := 5, code := prog_8_method_1_code, exceptionTable := #[], attributes := #[] }
def k10m0 : Method := { name := "<init>", desc := "(JJ)V", sig := { parameters := [.long, .long], returnType := none }, accessFlags := 1, code := some k10c0 }
def k10c1 : Code := { maxStack := 2, maxLocals := 1, code := prog_8_method_2_code, exceptionTable := #[], attributes := #[] }
def k10m1 : Method := { name := "u", desc := "()J", sig := { parameters := [], returnType := some .long }, accessFlags := 1, code := some k10c1 }
def k10c2 : Code := { maxStack := 2, maxLocals := 1, code := prog_8_method_3_code, exceptionTable := #[], attributes := #[] }
def k10m2 : Method := { name := "v", desc := "()J", sig := { parameters := [], returnType := some .long }, accessFlags := 1, code := some k10c2 }
/-- com/example/tristream/tristream/Edge -/
def k10 : Class := { plain "com/example/tristream/tristream/Edge" (some 0) with
  accessFlags := 49
  interfaces := #[]
  cf := some (fileOf pool10 23 #[] #[{ accessFlags := 1, nameIndex := 5, descriptorIndex := 34, attributes := #[] }, { accessFlags := 1, nameIndex := 26, descriptorIndex := 38, attributes := #[] }, { accessFlags := 1, nameIndex := 33, descriptorIndex := 38, attributes := #[] }] 49 2 #[] #[{ accessFlags := 18, nameIndex := 26, descriptorIndex := 27, attributes := #[] }, { accessFlags := 18, nameIndex := 33, descriptorIndex := 27, attributes := #[] }])
  fields := #[{ name := "u", type := .long, accessFlags := 18, slot := 0, constantValue := 0 }, { name := "v", type := .long, accessFlags := 18, slot := 1, constantValue := 0 }]
  methods := #[k10m0, k10m1, k10m2]
  instanceTypes := #[.long, .long]
  staticTypes := #[]
  resolved := Array.replicate 58 none
  statics := none }

def pool11 : Array CpInfo := pool [(1, .class_ 2), (0, u "java/lang/Math"), (1, .class_ 6), (1, u "java/lang/Object"), (0, u "<init>"), (0, u "()V"), (89, .class_ 100), (1, u "java/lang/Math$RandomNumberGeneratorHolder"), (20, u "(JJ)J"), (50, u "negativeZeroFloatBits"), (0, u "J"), (2, u "negativeZeroDoubleBits"), (21, u "max"), (2, u "min"), (43, u "$assertionsDisabled"), (0, u "Z"), (88, u "(II)I"), (2, u "twoToTheDoubleScaleDown"), (0, u "D"), (4, u "twoToTheDoubleScaleUp"), (9, u "E"), (3, u "PI"), (2, u "TAU"), (2, u "DEGREES_TO_RADIANS"), (0, u "RADIANS_TO_DEGREES")] 94

def k11m0 : Method := { name := "<init>", desc := "()V", sig := { parameters := [], returnType := none }, accessFlags := 2, code := none }
def k11c1 : Code := { maxStack := 4, maxLocals := 4, code := jdk_29_method_66_code, exceptionTable := #[], attributes := #[] }
def k11m1 : Method := { name := "max", desc := "(JJ)J", sig := { parameters := [.long, .long], returnType := some .long }, accessFlags := 9, code := some k11c1 }
def k11c2 : Code := { maxStack := 2, maxLocals := 2, code := jdk_29_method_69_code, exceptionTable := #[], attributes := #[] }
def k11m2 : Method := { name := "min", desc := "(II)I", sig := { parameters := [.int, .int], returnType := some .int }, accessFlags := 9, code := some k11c2 }
def k11c3 : Code := { maxStack := 4, maxLocals := 4, code := jdk_29_method_70_code, exceptionTable := #[], attributes := #[] }
def k11m3 : Method := { name := "min", desc := "(JJ)J", sig := { parameters := [.long, .long], returnType := some .long }, accessFlags := 9, code := some k11c3 }
/-- java/lang/Math -/
def k11 : Class := { plain "java/lang/Math" (some 0) with
  accessFlags := 49
  interfaces := #[]
  cf := some (fileOf pool11 1 #[.nestMembers #[98]] #[{ accessFlags := 2, nameIndex := 7, descriptorIndex := 8, attributes := #[] }, { accessFlags := 9, nameIndex := 198, descriptorIndex := 121, attributes := #[] }, { accessFlags := 9, nameIndex := 201, descriptorIndex := 335, attributes := #[] }, { accessFlags := 9, nameIndex := 201, descriptorIndex := 121, attributes := #[] }] 49 4 #[] #[{ accessFlags := 25, nameIndex := 354, descriptorIndex := 339, attributes := #[] }, { accessFlags := 25, nameIndex := 358, descriptorIndex := 339, attributes := #[] }, { accessFlags := 25, nameIndex := 361, descriptorIndex := 339, attributes := #[] }, { accessFlags := 26, nameIndex := 364, descriptorIndex := 339, attributes := #[] }, { accessFlags := 26, nameIndex := 365, descriptorIndex := 339, attributes := #[] }, { accessFlags := 26, nameIndex := 172, descriptorIndex := 173, attributes := #[] }, { accessFlags := 26, nameIndex := 176, descriptorIndex := 173, attributes := #[] }, { accessFlags := 8, nameIndex := 344, descriptorIndex := 339, attributes := #[] }, { accessFlags := 8, nameIndex := 338, descriptorIndex := 339, attributes := #[] }, { accessFlags := 4120, nameIndex := 245, descriptorIndex := 246, attributes := #[] }])
  fields := #[{ name := "E", type := .double, accessFlags := 25, slot := 0, constantValue := 0 }, { name := "PI", type := .double, accessFlags := 25, slot := 1, constantValue := 0 }, { name := "TAU", type := .double, accessFlags := 25, slot := 2, constantValue := 0 }, { name := "DEGREES_TO_RADIANS", type := .double, accessFlags := 26, slot := 3, constantValue := 0 }, { name := "RADIANS_TO_DEGREES", type := .double, accessFlags := 26, slot := 4, constantValue := 0 }, { name := "negativeZeroFloatBits", type := .long, accessFlags := 26, slot := 5, constantValue := 0 }, { name := "negativeZeroDoubleBits", type := .long, accessFlags := 26, slot := 6, constantValue := 0 }, { name := "twoToTheDoubleScaleUp", type := .double, accessFlags := 8, slot := 7, constantValue := 0 }, { name := "twoToTheDoubleScaleDown", type := .double, accessFlags := 8, slot := 8, constantValue := 0 }, { name := "$assertionsDisabled", type := .boolean, accessFlags := 4120, slot := 9, constantValue := 0 }]
  methods := #[k11m0, k11m1, k11m2, k11m3]
  instanceTypes := #[]
  staticTypes := #[.double, .double, .double, .double, .double, .long, .long, .double, .double, .boolean]
  resolved := Array.replicate 460 none
  statics := none }

def pool12 : Array CpInfo := pool [(2, .class_ 4), (1, u "java/lang/Object"), (0, u "<init>"), (0, u "()V"), (7, .class_ 16), (1, u "java/util/Arrays"), (57, .class_ 76), (1, u "java/util/Arrays$NaturalOrder"), (36, .class_ 115), (1, u "java/util/Arrays$LegacyMergeSort"), (1, u "Z"), (32, .methodref 151 152), (0, .class_ 153), (0, .nameAndType 154 155), (0, u "java/lang/System"), (0, u "arraycopy"), (0, u "(Ljava/lang/Object;ILjava/lang/Object;II)V"), (146, u "copyOf"), (1, .methodref 305 306), (0, .class_ 307), (0, .nameAndType 308 309), (0, u "java/lang/Math"), (0, u "min"), (0, u "(II)I"), (65, .class_ 376), (0, u "java/util/Arrays$ArrayList"), (68, u "$assertionsDisabled"), (269, u "MIN_ARRAY_SORT_GRAN"), (0, u "I"), (2, u "INSERTIONSORT_THRESHOLD"), (152, u "([JI)[J"), (102, .class_ 976), (0, u "java/util/Arrays$ArrayItr")] 52

def k12m0 : Method := { name := "<init>", desc := "()V", sig := { parameters := [], returnType := none }, accessFlags := 2, code := none }
def k12c1 : Code := { maxStack := 6, maxLocals := 3, code := jdk_65_method_124_code, exceptionTable := #[], attributes := #[] }
def k12m1 : Method := { name := "copyOf", desc := "([JI)[J", sig := { parameters := [(.array .long), .int], returnType := some (.array .long) }, accessFlags := 9, code := some k12c1 }
/-- java/util/Arrays -/
def k12 : Class := { plain "java/util/Arrays" (some 0) with
  accessFlags := 49
  interfaces := #[]
  cf := some (fileOf pool12 14 #[.nestMembers #[975, 375, 113, 74]] #[{ accessFlags := 2, nameIndex := 5, descriptorIndex := 6, attributes := #[] }, { accessFlags := 9, nameIndex := 302, descriptorIndex := 872, attributes := #[] }] 49 2 #[] #[{ accessFlags := 26, nameIndex := 715, descriptorIndex := 716, attributes := #[] }, { accessFlags := 26, nameIndex := 719, descriptorIndex := 716, attributes := #[] }, { accessFlags := 4120, nameIndex := 445, descriptorIndex := 117, attributes := #[] }])
  fields := #[{ name := "MIN_ARRAY_SORT_GRAN", type := .int, accessFlags := 26, slot := 0, constantValue := 0 }, { name := "INSERTIONSORT_THRESHOLD", type := .int, accessFlags := 26, slot := 1, constantValue := 0 }, { name := "$assertionsDisabled", type := .boolean, accessFlags := 4120, slot := 2, constantValue := 0 }]
  methods := #[k12m0, k12m1]
  instanceTypes := #[]
  staticTypes := #[.int, .int, .boolean]
  resolved := Array.replicate 1029 none
  statics := none }

def pool13 : Array CpInfo := pool [(2, .class_ 4), (1, u "java/lang/Object"), (0, u "<init>"), (0, u "()V"), (1, .class_ 10), (1, u "java/lang/System"), (0, u "allowSecurityManager"), (0, u "I"), (16, u "cons"), (0, u "Ljava/io/Console;"), (77, .class_ 110), (1, u "java/lang/System$CallersHolder"), (43, u "initialErrStream"), (0, u "Ljava/io/PrintStream;"), (19, u "security"), (0, u "Ljava/lang/SecurityManager;"), (31, .class_ 209), (0, u "java/lang/System$1"), (7, u "props"), (0, u "Ljava/util/Properties;"), (2, u "lineSeparator"), (0, u "Ljava/lang/String;"), (96, .class_ 321), (1, u "java/lang/System$LoggerFinder"), (5, .class_ 328), (0, u "java/lang/System$Logger"), (67, u "err"), (2, u "out"), (91, u "notSupportedJnuEncoding"), (15, u "in"), (17, u "initialIn"), (0, u "Ljava/io/InputStream;"), (35, u "bootLayer"), (0, u "Ljava/lang/ModuleLayer;"), (99, .class_ 664), (0, u "java/lang/System$2"), (9, u "NEVER"), (2, u "MAYBE"), (49, u "arraycopy"), (0, u "(Ljava/lang/Object;ILjava/lang/Object;II)V"), (72, .class_ 802), (0, u "java/lang/System$Logger$Level")] 31

def k13m0 : Method := { name := "<init>", desc := "()V", sig := { parameters := [], returnType := none }, accessFlags := 2, code := none }
def k13m1 : Method := { name := "arraycopy", desc := "(Ljava/lang/Object;ILjava/lang/Object;II)V", sig := { parameters := [(.object "java/lang/Object"), .int, (.object "java/lang/Object"), .int, .int], returnType := none }, accessFlags := 265, code := none }
/-- java/lang/System -/
def k13 : Class := { plain "java/lang/System" (some 0) with
  accessFlags := 49
  interfaces := #[]
  cf := some (fileOf pool13 8 #[.nestMembers #[319, 327, 801, 108, 663, 208]] #[{ accessFlags := 2, nameIndex := 5, descriptorIndex := 6, attributes := #[] }, { accessFlags := 265, nameIndex := 727, descriptorIndex := 728, attributes := #[] }] 49 2 #[] #[{ accessFlags := 25, nameIndex := 507, descriptorIndex := 526, attributes := #[] }, { accessFlags := 25, nameIndex := 399, descriptorIndex := 155, attributes := #[] }, { accessFlags := 25, nameIndex := 396, descriptorIndex := 155, attributes := #[] }, { accessFlags := 10, nameIndex := 525, descriptorIndex := 526, attributes := #[] }, { accessFlags := 26, nameIndex := 674, descriptorIndex := 12, attributes := #[] }, { accessFlags := 26, nameIndex := 677, descriptorIndex := 12, attributes := #[] }, { accessFlags := 10, nameIndex := 11, descriptorIndex := 12, attributes := #[] }, { accessFlags := 74, nameIndex := 175, descriptorIndex := 176, attributes := #[] }, { accessFlags := 10, nameIndex := 491, descriptorIndex := 222, attributes := #[] }, { accessFlags := 74, nameIndex := 29, descriptorIndex := 30, attributes := #[] }, { accessFlags := 74, nameIndex := 154, descriptorIndex := 155, attributes := #[] }, { accessFlags := 10, nameIndex := 217, descriptorIndex := 218, attributes := #[] }, { accessFlags := 10, nameIndex := 221, descriptorIndex := 222, attributes := #[] }, { accessFlags := 8, nameIndex := 562, descriptorIndex := 563, attributes := #[] }])
  fields := #[{ name := "in", type := (.object "java/io/InputStream"), accessFlags := 25, slot := 0, constantValue := 0 }, { name := "out", type := (.object "java/io/PrintStream"), accessFlags := 25, slot := 1, constantValue := 0 }, { name := "err", type := (.object "java/io/PrintStream"), accessFlags := 25, slot := 2, constantValue := 0 }, { name := "initialIn", type := (.object "java/io/InputStream"), accessFlags := 10, slot := 3, constantValue := 0 }, { name := "NEVER", type := .int, accessFlags := 26, slot := 4, constantValue := 0 }, { name := "MAYBE", type := .int, accessFlags := 26, slot := 5, constantValue := 0 }, { name := "allowSecurityManager", type := .int, accessFlags := 10, slot := 6, constantValue := 0 }, { name := "security", type := (.object "java/lang/SecurityManager"), accessFlags := 74, slot := 7, constantValue := 0 }, { name := "notSupportedJnuEncoding", type := (.object "java/lang/String"), accessFlags := 10, slot := 8, constantValue := 0 }, { name := "cons", type := (.object "java/io/Console"), accessFlags := 74, slot := 9, constantValue := 0 }, { name := "initialErrStream", type := (.object "java/io/PrintStream"), accessFlags := 74, slot := 10, constantValue := 0 }, { name := "props", type := (.object "java/util/Properties"), accessFlags := 10, slot := 11, constantValue := 0 }, { name := "lineSeparator", type := (.object "java/lang/String"), accessFlags := 10, slot := 12, constantValue := 0 }, { name := "bootLayer", type := (.object "java/lang/ModuleLayer"), accessFlags := 8, slot := 13, constantValue := 0 }]
  methods := #[k13m0, k13m1]
  instanceTypes := #[]
  staticTypes := #[(.object "java/io/InputStream"), (.object "java/io/PrintStream"), (.object "java/io/PrintStream"), (.object "java/io/InputStream"), .int, .int, .int, (.object "java/lang/SecurityManager"), (.object "java/lang/String"), (.object "java/io/Console"), (.object "java/io/PrintStream"), (.object "java/util/Properties"), (.object "java/lang/String"), (.object "java/lang/ModuleLayer")]
  resolved := Array.replicate 834 none
  statics := none }

def pool14 : Array CpInfo := pool [(1, u "java/lang/Cloneable"), (0, .class_ 1), (0, u "java/lang/Object"), (0, .class_ 3)] 3

/-- java/lang/Cloneable -/
def k14 : Class := { plain "java/lang/Cloneable" (some 0) with
  accessFlags := 1537
  interfaces := #[]
  cf := some (fileOf pool14 2 #[] #[] 1537 4 #[] #[])
  fields := #[]
  methods := #[]
  instanceTypes := #[]
  staticTypes := #[]
  resolved := Array.replicate 8 none
  statics := none }

/-- the primitive byte -/
def k15 : Class := { plain "byte" none with kind := .primitive 'B', accessFlags := 0x411 }
/-- [B -/
def k16 : Class := { plain "[B" (some 0) with kind := .array 15 .byte, interfaces := #[14, 4], accessFlags := 1041 }

/-- the primitive int -/
def k17 : Class := { plain "int" none with kind := .primitive 'I', accessFlags := 0x411 }
/-- [I -/
def k18 : Class := { plain "[I" (some 0) with kind := .array 17 .int, interfaces := #[14, 4], accessFlags := 1041 }

/-- the primitive long -/
def k19 : Class := { plain "long" none with kind := .primitive 'J', accessFlags := 0x411 }
/-- [J -/
def k20 : Class := { plain "[J" (some 0) with kind := .array 19 .long, interfaces := #[14, 4], accessFlags := 1041 }

/-- [Lcom/example/tristream/tristream/LongIndex; -/
def k21 : Class := { plain "[Lcom/example/tristream/tristream/LongIndex;" (some 0) with kind := .array 3 (.object "com/example/tristream/tristream/LongIndex"), interfaces := #[14, 4], accessFlags := 1041 }

def heap : Heap := #[]
def classes : Array Class := #[k0, k1, k2, k3, k4, k5, k6, k7, k8, k9, k10, k11, k12, k13, k14, k15, k16, k17, k18, k19, k20, k21]
def interned : List (Array UInt16 × Addr) := []
def slotsUsed : Nat := 0
def theMethod : MethodId := ⟨1, 3⟩
def args0 : Array Value := #[.long 5, .long 7, .long 9, .long 7, .int 115]
def aboutOver (below : List Frame) : State where
  vm := { classes := classes, interned := interned.toArray }
  heap := heap
  slotsUsed := slotsUsed
  threads := #[{ frames := .invoking theMethod args0 :: below }]
def below0 : List Frame := [.native { method := ⟨0, 0⟩, args := #[] }]
def about1 : State := aboutOver below0
def p0 : Program := .bare "" "" ""
def e0 : Env := launch0.env 0 0 0
theorem w_frames : about1.frames = Frame.invoking theMethod args0 :: below0 := rfl
set_option maxRecDepth 65536 in
theorem w_args : argsFit about1.vm theMethod args0 = true := by decide +kernel
set_option maxRecDepth 65536 in
theorem w_heap : heapFits about1 = true := by decide +kernel
set_option maxRecDepth 65536 in
theorem w_runnable : about1.curStatus? = some .runnable := by decide +kernel
set_option maxRecDepth 65536 in
theorem w_alone : about1.alone = true := by decide +kernel
set_option maxRecDepth 65536 in
theorem w_named : about1.methodNamed? x = some theMethod := by decide +kernel
set_option maxRecDepth 65536 in
theorem w_hears : about1.hears theMethod below0 = true := by decide +kernel
set_option maxRecDepth 65536 in
theorem w_ripe : about1.ripe theMethod args0 below0 = true := by decide +kernel
theorem w_running : about1.status = .running := rfl
set_option maxRecDepth 65536 in
theorem w_room : about1.hasRoom e0.platform room_1 = true :=
  launch0.hasRoom_least _ room_1 (by decide +kernel) (by decide +kernel) (by decide +kernel) (by decide +kernel) (by decide +kernel) (by decide +kernel)
theorem allAtoms_all (ts : List Jvm.Cond) (a : Array Jvm.Value) (st : Jvm.State) : (allAtoms ts).before a st = ts.all (fun c => c.before a st) := by
  induction ts with
  | nil => rfl
  | cons c t ih =>
    show (Jvm.Cond.and c (allAtoms t)).before a st = _
    rw [Jvm.Cond.before_and, ih, List.all_cons]
def words1 : List Jvm.Cond := Jvm.Cond.code x code maxLocals ret :: tables_1
/-- a 'code' word, met by the world's own term for the bytes: nothing is compared byte by byte -/
theorem code_word {y : MethodName} {bytes : ByteArray} {mx : Nat} {rt : Option FieldType} {a : Array Value} {s : State} {m : MethodId} {meth : Method} {c : Code} (h1 : s.methodNamed? y = some m) (h2 : s.vm.method? m = some meth) (h3 : meth.code = some c) (h4 : c.code = bytes)
    (h5 : (c.maxLocals == mx && c.exceptionTable.isEmpty && decide (c.maxStack ≤ mostOperands) && decide (meth.sig.returnType = rt) && !meth.locks && decide (parseMethodDescriptor y.desc = some meth.sig)) = true) : (Jvm.Cond.code y bytes mx rt).before a s = true := by
  simp only [Bool.and_eq_true, beq_iff_eq, Bool.not_eq_true', decide_eq_true_eq] at h5
  obtain ⟨⟨⟨⟨⟨g1, g2⟩, g3⟩, g4⟩, g5⟩, g6⟩ := h5
  simp [Cond.before, Cond.holds, Cond.value, h1, h2, h3, h4, g1, g2, g3, g4, g5, g6]
def isCode : Jvm.Cond → Bool
  | .code _ _ _ _ => true
  | _ => false
theorem all_split {L : List Jvm.Cond} {P : Jvm.Cond → Bool} (h1 : L.all (fun c => isCode c || P c) = true) (h2 : ∀ c ∈ L.filter isCode, P c = true) : L.all P = true := by
  refine List.all_eq_true.mpr fun c hc => ?_
  have h := List.all_eq_true.mp h1 c hc
  rcases Bool.eq_false_or_eq_true (isCode c) with hi | hi
  · exact h2 c (List.mem_filter.mpr ⟨hc, hi⟩)
  · simpa [hi] using h
set_option maxRecDepth 65536 in
theorem w_c0 : (Jvm.Cond.code x code maxLocals ret).before args0 about1 = true := code_word (m := ⟨1, 3⟩) (meth := k1m3) (c := k1c3) (by decide +kernel) rfl rfl rfl (by decide +kernel)
set_option maxRecDepth 65536 in
theorem w_c1 : (Jvm.Cond.code ({ cls := "com/example/tristream/tristream/SampleGraphContainsPinLaw", name := "pick", desc := "(IJJJJ)J" } : Jvm.MethodName) method_2_code (9 : Nat) (Option.some Jvm.ClassFile.FieldType.long)).before args0 about1 = true := code_word (m := ⟨1, 1⟩) (meth := k1m1) (c := k1c1) (by decide +kernel) rfl rfl rfl (by decide +kernel)
set_option maxRecDepth 65536 in
theorem w_c2 : (Jvm.Cond.code ({ cls := "com/example/tristream/tristream/SampleGraph", name := "<init>", desc := "()V" } : Jvm.MethodName) prog_40_method_1_code (1 : Nat) (Option.none : Option Jvm.ClassFile.FieldType)).before args0 about1 = true := code_word (m := ⟨2, 0⟩) (meth := k2m0) (c := k2c0) (by decide +kernel) rfl rfl rfl (by decide +kernel)
set_option maxRecDepth 65536 in
theorem w_c3 : (Jvm.Cond.code ({ cls := "java/lang/Object", name := "<init>", desc := "()V" } : Jvm.MethodName) object_method_1_code (1 : Nat) (Option.none : Option Jvm.ClassFile.FieldType)).before args0 about1 = true := code_word (m := ⟨0, 0⟩) (meth := k0m0) (c := k0c0) (by decide +kernel) rfl rfl rfl (by decide +kernel)
set_option maxRecDepth 65536 in
theorem w_c4 : (Jvm.Cond.code ({ cls := "com/example/tristream/tristream/LongIndex", name := "<init>", desc := "()V" } : Jvm.MethodName) prog_25_method_1_code (1 : Nat) (Option.none : Option Jvm.ClassFile.FieldType)).before args0 about1 = true := code_word (m := ⟨3, 0⟩) (meth := k3m0) (c := k3c0) (by decide +kernel) rfl rfl rfl (by decide +kernel)
set_option maxRecDepth 65536 in
theorem w_c5 : (Jvm.Cond.code ({ cls := "java/lang/Integer", name := "numberOfTrailingZeros", desc := "(I)I" } : Jvm.MethodName) jdk_33_method_48_code (2 : Nat) (Option.some Jvm.ClassFile.FieldType.int)).before args0 about1 = true := code_word (m := ⟨9, 0⟩) (meth := k9m0) (c := k9c0) (by decide +kernel) rfl rfl rfl (by decide +kernel)
set_option maxRecDepth 65536 in
theorem w_c6 : (Jvm.Cond.code ({ cls := "com/example/tristream/tristream/Edge", name := "<init>", desc := "(JJ)V" } : Jvm.MethodName) prog_8_method_1_code (5 : Nat) (Option.none : Option Jvm.ClassFile.FieldType)).before args0 about1 = true := code_word (m := ⟨10, 0⟩) (meth := k10m0) (c := k10c0) (by decide +kernel) rfl rfl rfl (by decide +kernel)
set_option maxRecDepth 65536 in
theorem w_c7 : (Jvm.Cond.code ({ cls := "java/lang/Math", name := "min", desc := "(JJ)J" } : Jvm.MethodName) jdk_29_method_70_code (4 : Nat) (Option.some Jvm.ClassFile.FieldType.long)).before args0 about1 = true := code_word (m := ⟨11, 3⟩) (meth := k11m3) (c := k11c3) (by decide +kernel) rfl rfl rfl (by decide +kernel)
set_option maxRecDepth 65536 in
theorem w_c8 : (Jvm.Cond.code ({ cls := "java/lang/Math", name := "max", desc := "(JJ)J" } : Jvm.MethodName) jdk_29_method_66_code (4 : Nat) (Option.some Jvm.ClassFile.FieldType.long)).before args0 about1 = true := code_word (m := ⟨11, 1⟩) (meth := k11m1) (c := k11c1) (by decide +kernel) rfl rfl rfl (by decide +kernel)
set_option maxRecDepth 65536 in
theorem w_c9 : (Jvm.Cond.code ({ cls := "com/example/tristream/tristream/SampleGraph", name := "add", desc := "(Lcom/example/tristream/tristream/Edge;)V" } : Jvm.MethodName) prog_40_method_2_code (2 : Nat) (Option.none : Option Jvm.ClassFile.FieldType)).before args0 about1 = true := code_word (m := ⟨2, 1⟩) (meth := k2m1) (c := k2c1) (by decide +kernel) rfl rfl rfl (by decide +kernel)
set_option maxRecDepth 65536 in
theorem w_c10 : (Jvm.Cond.code ({ cls := "com/example/tristream/tristream/Edge", name := "u", desc := "()J" } : Jvm.MethodName) prog_8_method_2_code (1 : Nat) (Option.some Jvm.ClassFile.FieldType.long)).before args0 about1 = true := code_word (m := ⟨10, 1⟩) (meth := k10m1) (c := k10c1) (by decide +kernel) rfl rfl rfl (by decide +kernel)
set_option maxRecDepth 65536 in
theorem w_c11 : (Jvm.Cond.code ({ cls := "com/example/tristream/tristream/SampleGraph", name := "neighboursOf", desc := "(J)Lcom/example/tristream/tristream/LongIndex;" } : Jvm.MethodName) prog_40_method_6_code (4 : Nat) (Option.some (Jvm.ClassFile.FieldType.object "com/example/tristream/tristream/LongIndex"))).before args0 about1 = true := code_word (m := ⟨2, 4⟩) (meth := k2m4) (c := k2c4) (by decide +kernel) rfl rfl rfl (by decide +kernel)
set_option maxRecDepth 65536 in
theorem w_c12 : (Jvm.Cond.code ({ cls := "com/example/tristream/tristream/LongIndex", name := "add", desc := "(J)I" } : Jvm.MethodName) prog_25_method_5_code (4 : Nat) (Option.some Jvm.ClassFile.FieldType.int)).before args0 about1 = true := code_word (m := ⟨3, 3⟩) (meth := k3m3) (c := k3c3) (by decide +kernel) rfl rfl rfl (by decide +kernel)
set_option maxRecDepth 65536 in
theorem w_c13 : (Jvm.Cond.code ({ cls := "com/example/tristream/tristream/LongIndex", name := "find", desc := "(J)I" } : Jvm.MethodName) prog_25_method_7_code (5 : Nat) (Option.some Jvm.ClassFile.FieldType.int)).before args0 about1 = true := code_word (m := ⟨3, 5⟩) (meth := k3m5) (c := k3c5) (by decide +kernel) rfl rfl rfl (by decide +kernel)
set_option maxRecDepth 65536 in
theorem w_c14 : (Jvm.Cond.code ({ cls := "com/example/tristream/tristream/LongIndex", name := "home", desc := "(J)I" } : Jvm.MethodName) prog_25_method_8_code (3 : Nat) (Option.some Jvm.ClassFile.FieldType.int)).before args0 about1 = true := code_word (m := ⟨3, 6⟩) (meth := k3m6) (c := k3c6) (by decide +kernel) rfl rfl rfl (by decide +kernel)
set_option maxRecDepth 65536 in
theorem w_c15 : (Jvm.Cond.code ({ cls := "com/example/tristream/tristream/Edge", name := "v", desc := "()J" } : Jvm.MethodName) prog_8_method_3_code (1 : Nat) (Option.some Jvm.ClassFile.FieldType.long)).before args0 about1 = true := code_word (m := ⟨10, 2⟩) (meth := k10m2) (c := k10c2) (by decide +kernel) rfl rfl rfl (by decide +kernel)
set_option maxRecDepth 65536 in
theorem w_c16 : (Jvm.Cond.code ({ cls := "com/example/tristream/tristream/SampleGraph", name := "contains", desc := "(JJ)Z" } : Jvm.MethodName) prog_40_method_4_code (6 : Nat) (Option.some Jvm.ClassFile.FieldType.boolean)).before args0 about1 = true := code_word (m := ⟨2, 3⟩) (meth := k2m3) (c := k2c3) (by decide +kernel) rfl rfl rfl (by decide +kernel)
set_option maxRecDepth 65536 in
theorem w_c17 : (Jvm.Cond.code ({ cls := "com/example/tristream/tristream/LongIndex", name := "indexOf", desc := "(J)I" } : Jvm.MethodName) prog_25_method_4_code (3 : Nat) (Option.some Jvm.ClassFile.FieldType.int)).before args0 about1 = true := code_word (m := ⟨3, 2⟩) (meth := k3m2) (c := k3c2) (by decide +kernel) rfl rfl rfl (by decide +kernel)
set_option maxRecDepth 65536 in
theorem w_c18 : (Jvm.Cond.code ({ cls := "com/example/tristream/tristream/SampleGraphContainsPinLaw", name := "same", desc := "(JJJJ)Z" } : Jvm.MethodName) method_3_code (8 : Nat) (Option.some Jvm.ClassFile.FieldType.boolean)).before args0 about1 = true := code_word (m := ⟨1, 2⟩) (meth := k1m2) (c := k1c2) (by decide +kernel) rfl rfl rfl (by decide +kernel)
set_option maxRecDepth 65536 in
theorem w_c19 : (Jvm.Cond.code ({ cls := "com/example/tristream/tristream/LongIndex", name := "resize", desc := "(I)V" } : Jvm.MethodName) prog_25_method_10_code (5 : Nat) (Option.none : Option Jvm.ClassFile.FieldType)).before args0 about1 = true := code_word (m := ⟨3, 8⟩) (meth := k3m8) (c := k3c8) (by decide +kernel) rfl rfl rfl (by decide +kernel)
set_option maxRecDepth 65536 in
theorem w_c20 : (Jvm.Cond.code ({ cls := "java/util/Arrays", name := "copyOf", desc := "([JI)[J" } : Jvm.MethodName) jdk_65_method_124_code (3 : Nat) (Option.some (Jvm.ClassFile.FieldType.array Jvm.ClassFile.FieldType.long))).before args0 about1 = true := code_word (m := ⟨12, 1⟩) (meth := k12m1) (c := k12c1) (by decide +kernel) rfl rfl rfl (by decide +kernel)
set_option maxRecDepth 65536 in
theorem w_c21 : (Jvm.Cond.code ({ cls := "java/lang/Math", name := "min", desc := "(II)I" } : Jvm.MethodName) jdk_29_method_69_code (2 : Nat) (Option.some Jvm.ClassFile.FieldType.int)).before args0 about1 = true := code_word (m := ⟨11, 2⟩) (meth := k11m2) (c := k11c2) (by decide +kernel) rfl rfl rfl (by decide +kernel)
set_option maxRecDepth 65536 in
theorem w_c22 : (Jvm.Cond.code ({ cls := "com/example/tristream/tristream/SampleGraph", name := "remove", desc := "(Lcom/example/tristream/tristream/Edge;)V" } : Jvm.MethodName) prog_40_method_3_code (2 : Nat) (Option.none : Option Jvm.ClassFile.FieldType)).before args0 about1 = true := code_word (m := ⟨2, 2⟩) (meth := k2m2) (c := k2c2) (by decide +kernel) rfl rfl rfl (by decide +kernel)
set_option maxRecDepth 65536 in
theorem w_c23 : (Jvm.Cond.code ({ cls := "com/example/tristream/tristream/SampleGraph", name := "removeNeighbour", desc := "(JJ)V" } : Jvm.MethodName) prog_40_method_7_code (7 : Nat) (Option.none : Option Jvm.ClassFile.FieldType)).before args0 about1 = true := code_word (m := ⟨2, 5⟩) (meth := k2m5) (c := k2c5) (by decide +kernel) rfl rfl rfl (by decide +kernel)
set_option maxRecDepth 65536 in
theorem w_c24 : (Jvm.Cond.code ({ cls := "com/example/tristream/tristream/LongIndex", name := "remove", desc := "(J)V" } : Jvm.MethodName) prog_25_method_6_code (7 : Nat) (Option.none : Option Jvm.ClassFile.FieldType)).before args0 about1 = true := code_word (m := ⟨3, 4⟩) (meth := k3m4) (c := k3c4) (by decide +kernel) rfl rfl rfl (by decide +kernel)
set_option maxRecDepth 65536 in
theorem w_c25 : (Jvm.Cond.code ({ cls := "com/example/tristream/tristream/LongIndex", name := "clear", desc := "(I)V" } : Jvm.MethodName) prog_25_method_9_code (6 : Nat) (Option.none : Option Jvm.ClassFile.FieldType)).before args0 about1 = true := code_word (m := ⟨3, 7⟩) (meth := k3m7) (c := k3c7) (by decide +kernel) rfl rfl rfl (by decide +kernel)
set_option maxRecDepth 65536 in
theorem w_c26 : (Jvm.Cond.code ({ cls := "com/example/tristream/tristream/LongIndex", name := "size", desc := "()I" } : Jvm.MethodName) prog_25_method_2_code (1 : Nat) (Option.some Jvm.ClassFile.FieldType.int)).before args0 about1 = true := code_word (m := ⟨3, 1⟩) (meth := k3m1) (c := k3c1) (by decide +kernel) rfl rfl rfl (by decide +kernel)
def codes1 : List Jvm.Cond := [Jvm.Cond.code x code maxLocals ret, Jvm.Cond.code ({ cls := "com/example/tristream/tristream/SampleGraphContainsPinLaw", name := "pick", desc := "(IJJJJ)J" } : Jvm.MethodName) method_2_code (9 : Nat) (Option.some Jvm.ClassFile.FieldType.long), Jvm.Cond.code ({ cls := "com/example/tristream/tristream/SampleGraph", name := "<init>", desc := "()V" } : Jvm.MethodName) prog_40_method_1_code (1 : Nat) (Option.none : Option Jvm.ClassFile.FieldType), Jvm.Cond.code ({ cls := "java/lang/Object", name := "<init>", desc := "()V" } : Jvm.MethodName) object_method_1_code (1 : Nat) (Option.none : Option Jvm.ClassFile.FieldType), Jvm.Cond.code ({ cls := "com/example/tristream/tristream/LongIndex", name := "<init>", desc := "()V" } : Jvm.MethodName) prog_25_method_1_code (1 : Nat) (Option.none : Option Jvm.ClassFile.FieldType), Jvm.Cond.code ({ cls := "java/lang/Integer", name := "numberOfTrailingZeros", desc := "(I)I" } : Jvm.MethodName) jdk_33_method_48_code (2 : Nat) (Option.some Jvm.ClassFile.FieldType.int), Jvm.Cond.code ({ cls := "com/example/tristream/tristream/Edge", name := "<init>", desc := "(JJ)V" } : Jvm.MethodName) prog_8_method_1_code (5 : Nat) (Option.none : Option Jvm.ClassFile.FieldType), Jvm.Cond.code ({ cls := "java/lang/Math", name := "min", desc := "(JJ)J" } : Jvm.MethodName) jdk_29_method_70_code (4 : Nat) (Option.some Jvm.ClassFile.FieldType.long), Jvm.Cond.code ({ cls := "java/lang/Math", name := "max", desc := "(JJ)J" } : Jvm.MethodName) jdk_29_method_66_code (4 : Nat) (Option.some Jvm.ClassFile.FieldType.long), Jvm.Cond.code ({ cls := "com/example/tristream/tristream/SampleGraph", name := "add", desc := "(Lcom/example/tristream/tristream/Edge;)V" } : Jvm.MethodName) prog_40_method_2_code (2 : Nat) (Option.none : Option Jvm.ClassFile.FieldType), Jvm.Cond.code ({ cls := "com/example/tristream/tristream/Edge", name := "u", desc := "()J" } : Jvm.MethodName) prog_8_method_2_code (1 : Nat) (Option.some Jvm.ClassFile.FieldType.long), Jvm.Cond.code ({ cls := "com/example/tristream/tristream/SampleGraph", name := "neighboursOf", desc := "(J)Lcom/example/tristream/tristream/LongIndex;" } : Jvm.MethodName) prog_40_method_6_code (4 : Nat) (Option.some (Jvm.ClassFile.FieldType.object "com/example/tristream/tristream/LongIndex")), Jvm.Cond.code ({ cls := "com/example/tristream/tristream/LongIndex", name := "add", desc := "(J)I" } : Jvm.MethodName) prog_25_method_5_code (4 : Nat) (Option.some Jvm.ClassFile.FieldType.int), Jvm.Cond.code ({ cls := "com/example/tristream/tristream/LongIndex", name := "find", desc := "(J)I" } : Jvm.MethodName) prog_25_method_7_code (5 : Nat) (Option.some Jvm.ClassFile.FieldType.int), Jvm.Cond.code ({ cls := "com/example/tristream/tristream/LongIndex", name := "home", desc := "(J)I" } : Jvm.MethodName) prog_25_method_8_code (3 : Nat) (Option.some Jvm.ClassFile.FieldType.int), Jvm.Cond.code ({ cls := "com/example/tristream/tristream/Edge", name := "v", desc := "()J" } : Jvm.MethodName) prog_8_method_3_code (1 : Nat) (Option.some Jvm.ClassFile.FieldType.long), Jvm.Cond.code ({ cls := "com/example/tristream/tristream/SampleGraph", name := "contains", desc := "(JJ)Z" } : Jvm.MethodName) prog_40_method_4_code (6 : Nat) (Option.some Jvm.ClassFile.FieldType.boolean), Jvm.Cond.code ({ cls := "com/example/tristream/tristream/LongIndex", name := "indexOf", desc := "(J)I" } : Jvm.MethodName) prog_25_method_4_code (3 : Nat) (Option.some Jvm.ClassFile.FieldType.int), Jvm.Cond.code ({ cls := "com/example/tristream/tristream/SampleGraphContainsPinLaw", name := "same", desc := "(JJJJ)Z" } : Jvm.MethodName) method_3_code (8 : Nat) (Option.some Jvm.ClassFile.FieldType.boolean), Jvm.Cond.code ({ cls := "com/example/tristream/tristream/LongIndex", name := "resize", desc := "(I)V" } : Jvm.MethodName) prog_25_method_10_code (5 : Nat) (Option.none : Option Jvm.ClassFile.FieldType), Jvm.Cond.code ({ cls := "java/util/Arrays", name := "copyOf", desc := "([JI)[J" } : Jvm.MethodName) jdk_65_method_124_code (3 : Nat) (Option.some (Jvm.ClassFile.FieldType.array Jvm.ClassFile.FieldType.long)), Jvm.Cond.code ({ cls := "java/lang/Math", name := "min", desc := "(II)I" } : Jvm.MethodName) jdk_29_method_69_code (2 : Nat) (Option.some Jvm.ClassFile.FieldType.int), Jvm.Cond.code ({ cls := "com/example/tristream/tristream/SampleGraph", name := "remove", desc := "(Lcom/example/tristream/tristream/Edge;)V" } : Jvm.MethodName) prog_40_method_3_code (2 : Nat) (Option.none : Option Jvm.ClassFile.FieldType), Jvm.Cond.code ({ cls := "com/example/tristream/tristream/SampleGraph", name := "removeNeighbour", desc := "(JJ)V" } : Jvm.MethodName) prog_40_method_7_code (7 : Nat) (Option.none : Option Jvm.ClassFile.FieldType), Jvm.Cond.code ({ cls := "com/example/tristream/tristream/LongIndex", name := "remove", desc := "(J)V" } : Jvm.MethodName) prog_25_method_6_code (7 : Nat) (Option.none : Option Jvm.ClassFile.FieldType), Jvm.Cond.code ({ cls := "com/example/tristream/tristream/LongIndex", name := "clear", desc := "(I)V" } : Jvm.MethodName) prog_25_method_9_code (6 : Nat) (Option.none : Option Jvm.ClassFile.FieldType), Jvm.Cond.code ({ cls := "com/example/tristream/tristream/LongIndex", name := "size", desc := "()I" } : Jvm.MethodName) prog_25_method_2_code (1 : Nat) (Option.some Jvm.ClassFile.FieldType.int)]
set_option maxRecDepth 65536 in
theorem codes_eq : words1.filter isCode = codes1 := rfl
theorem w_codes : ∀ c ∈ words1.filter isCode, c.before args0 about1 = true := by
  rw [codes_eq]
  intro c hc
  simp only [codes1, List.mem_cons, List.not_mem_nil, or_false] at hc
  rcases hc with rfl | rfl | rfl | rfl | rfl | rfl | rfl | rfl | rfl | rfl | rfl | rfl | rfl | rfl | rfl | rfl | rfl | rfl | rfl | rfl | rfl | rfl | rfl | rfl | rfl | rfl | rfl
  · exact w_c0
  · exact w_c1
  · exact w_c2
  · exact w_c3
  · exact w_c4
  · exact w_c5
  · exact w_c6
  · exact w_c7
  · exact w_c8
  · exact w_c9
  · exact w_c10
  · exact w_c11
  · exact w_c12
  · exact w_c13
  · exact w_c14
  · exact w_c15
  · exact w_c16
  · exact w_c17
  · exact w_c18
  · exact w_c19
  · exact w_c20
  · exact w_c21
  · exact w_c22
  · exact w_c23
  · exact w_c24
  · exact w_c25
  · exact w_c26
set_option maxRecDepth 65536 in
theorem w_t1 : (words1.take 24).all (fun c => isCode c || c.before args0 about1) = true := by decide +kernel
set_option maxRecDepth 65536 in
theorem w_t2 : ((words1.drop 24).take 24).all (fun c => isCode c || c.before args0 about1) = true := by decide +kernel
set_option maxRecDepth 65536 in
theorem w_t3 : (((words1.drop 24).drop 24).take 24).all (fun c => isCode c || c.before args0 about1) = true := by decide +kernel
set_option maxRecDepth 65536 in
theorem w_t4 : ((((words1.drop 24).drop 24).drop 24).take 24).all (fun c => isCode c || c.before args0 about1) = true := by decide +kernel
set_option maxRecDepth 65536 in
theorem w_t5 : (((((words1.drop 24).drop 24).drop 24).drop 24).take 24).all (fun c => isCode c || c.before args0 about1) = true := by decide +kernel
set_option maxRecDepth 65536 in
theorem w_t6 : ((((((words1.drop 24).drop 24).drop 24).drop 24).drop 24).take 24).all (fun c => isCode c || c.before args0 about1) = true := by decide +kernel
set_option maxRecDepth 65536 in
theorem w_t7 : ((((((words1.drop 24).drop 24).drop 24).drop 24).drop 24).drop 24).all (fun c => isCode c || c.before args0 about1) = true := by decide +kernel
theorem w_tables : (allAtoms (Jvm.Cond.code x code maxLocals ret :: tables_1)).before args0 about1 = true := by
  rw [allAtoms_all]
  show words1.all (fun c => c.before args0 about1) = true
  refine all_split ?_ w_codes
  rw [← List.take_append_drop 24 words1, List.all_append, w_t1, ← List.take_append_drop 24 (words1.drop 24), List.all_append, w_t2, ← List.take_append_drop 24 ((words1.drop 24).drop 24), List.all_append, w_t3, ← List.take_append_drop 24 (((words1.drop 24).drop 24).drop 24), List.all_append, w_t4, ← List.take_append_drop 24 ((((words1.drop 24).drop 24).drop 24).drop 24), List.all_append, w_t5, ← List.take_append_drop 24 (((((words1.drop 24).drop 24).drop 24).drop 24).drop 24), List.all_append, w_t6, w_t7]
  rfl
set_option maxRecDepth 65536 in
theorem w_case : (Jvm.Cond.and given_1 narrow_1).before args0 about1 = true := by decide +kernel
theorem w_applies : (headSpec (Jvm.Cond.code x code maxLocals ret :: tables_1) room_1).applies x e0.platform about1 = true :=
  (Spec.applies_iff w_frames).mpr ⟨w_running, w_runnable, w_alone, w_named, w_hears, w_ripe, w_room, w_tables⟩
theorem atStart : AtStart classFile x code maxLocals ret World_1 tables_1 room_1 Calls_1 rest_1 Pre_1 launch0 p0 e0 about1 theMethod args0 below0 :=
  ⟨lists_1, trivial, launch0.admits_env _ _ _, launch0.least_env, fairChoices_fair.cas, fairChoices_fair.clock, w_frames, w_args, w_heap, w_applies, trivial, trivial, w_case⟩
end start1
theorem witness_1 : WitnessClaimed_1 := ⟨start1.p0, start1.e0, start1.about1, start1.theMethod, start1.args0, start1.below0, start1.atStart⟩
end Jvm.Pilot.@@N@@
