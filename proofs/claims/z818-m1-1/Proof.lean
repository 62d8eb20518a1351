import JvmDerived
import JvmDerived.Pilot.@@N@@Statement
import JvmDerived.Pilot.@@N@@Code
set_option linter.unusedVariables false
set_option linter.unusedSimpArgs false
set_option maxRecDepth 65536
set_option maxHeartbeats 4000000
namespace Jvm.Pilot.@@N@@
open Jvm Jvm.ClassFile Sem Op Lib Jvm.Free Jvm.Stand Jvm.LawKit Jvm.RoadKit Bundle Jvm.Pilot.@@N@@.Jvm.D
theorem tw0 : Jvm.Cond.classLink "com/example/custode/custode/service/PartitionSplitMarkedPinLaw" 7 "com/example/custode/custode/service/Partition" ∈ tables_1 := List.mem_of_getElem? (i := 0) rfl
theorem tw1 : Jvm.Cond.instantiable "com/example/custode/custode/service/Partition" 9 ∈ tables_1 := List.mem_of_getElem? (i := 1) rfl
theorem tw2 : Jvm.Cond.initialized "com/example/custode/custode/service/Partition" ∈ tables_1 := List.mem_of_getElem? (i := 2) rfl
theorem tw3 : Jvm.Cond.methodLink "com/example/custode/custode/service/PartitionSplitMarkedPinLaw" (9 : Nat) (⟨"com/example/custode/custode/service/Partition", "<init>", "(I)V"⟩ : MethodName) ∈ tables_1 := List.mem_of_getElem? (i := 3) rfl
theorem tw4 : Jvm.Cond.instanceMethod (⟨"com/example/custode/custode/service/Partition", "<init>", "(I)V"⟩ : MethodName) ∈ tables_1 := List.mem_of_getElem? (i := 4) rfl
theorem tw5 : Jvm.Cond.code (⟨"com/example/custode/custode/service/Partition", "<init>", "(I)V"⟩ : MethodName) prog_75_method_1_code (3 : Nat) (Option.none : Option FieldType) ∈ tables_1 := List.mem_of_getElem? (i := 5) rfl
theorem tw6 : Jvm.Cond.methodLink "com/example/custode/custode/service/Partition" (1 : Nat) (⟨"java/lang/Object", "<init>", "()V"⟩ : MethodName) ∈ tables_1 := List.mem_of_getElem? (i := 6) rfl
theorem tw7 : Jvm.Cond.instanceMethod (⟨"java/lang/Object", "<init>", "()V"⟩ : MethodName) ∈ tables_1 := List.mem_of_getElem? (i := 7) rfl
theorem tw8 : Jvm.Cond.code (⟨"java/lang/Object", "<init>", "()V"⟩ : MethodName) object_method_1_code (1 : Nat) (Option.none : Option FieldType) ∈ tables_1 := List.mem_of_getElem? (i := 8) rfl
theorem tw9 : Jvm.Cond.arrayClass FieldType.int ∈ tables_1 := List.mem_of_getElem? (i := 9) rfl
theorem tw10 : Jvm.Cond.fieldLink "com/example/custode/custode/service/Partition" 7 "com/example/custode/custode/service/Partition" "states" "[I" ∈ tables_1 := List.mem_of_getElem? (i := 10) rfl
theorem tw11 : Jvm.Cond.laysFinal "com/example/custode/custode/service/Partition" "com/example/custode/custode/service/Partition" "states" "[I" ∈ tables_1 := List.mem_of_getElem? (i := 11) rfl
theorem tw12 : Jvm.Cond.fieldLink "com/example/custode/custode/service/Partition" 13 "com/example/custode/custode/service/Partition" "position" "[I" ∈ tables_1 := List.mem_of_getElem? (i := 12) rfl
theorem tw13 : Jvm.Cond.laysFinal "com/example/custode/custode/service/Partition" "com/example/custode/custode/service/Partition" "position" "[I" ∈ tables_1 := List.mem_of_getElem? (i := 13) rfl
theorem tw14 : Jvm.Cond.fieldLink "com/example/custode/custode/service/Partition" 16 "com/example/custode/custode/service/Partition" "block" "[I" ∈ tables_1 := List.mem_of_getElem? (i := 14) rfl
theorem tw15 : Jvm.Cond.laysFinal "com/example/custode/custode/service/Partition" "com/example/custode/custode/service/Partition" "block" "[I" ∈ tables_1 := List.mem_of_getElem? (i := 15) rfl
theorem tw16 : Jvm.Cond.fieldLink "com/example/custode/custode/service/Partition" 19 "com/example/custode/custode/service/Partition" "first" "[I" ∈ tables_1 := List.mem_of_getElem? (i := 16) rfl
theorem tw17 : Jvm.Cond.laysFinal "com/example/custode/custode/service/Partition" "com/example/custode/custode/service/Partition" "first" "[I" ∈ tables_1 := List.mem_of_getElem? (i := 17) rfl
theorem tw18 : Jvm.Cond.fieldLink "com/example/custode/custode/service/Partition" 22 "com/example/custode/custode/service/Partition" "end" "[I" ∈ tables_1 := List.mem_of_getElem? (i := 18) rfl
theorem tw19 : Jvm.Cond.laysFinal "com/example/custode/custode/service/Partition" "com/example/custode/custode/service/Partition" "end" "[I" ∈ tables_1 := List.mem_of_getElem? (i := 19) rfl
theorem tw20 : Jvm.Cond.fieldLink "com/example/custode/custode/service/Partition" 25 "com/example/custode/custode/service/Partition" "unmarked" "[I" ∈ tables_1 := List.mem_of_getElem? (i := 20) rfl
theorem tw21 : Jvm.Cond.laysFinal "com/example/custode/custode/service/Partition" "com/example/custode/custode/service/Partition" "unmarked" "[I" ∈ tables_1 := List.mem_of_getElem? (i := 21) rfl
theorem tw22 : Jvm.Cond.fieldLink "com/example/custode/custode/service/Partition" 28 "com/example/custode/custode/service/Partition" "touched" "[I" ∈ tables_1 := List.mem_of_getElem? (i := 22) rfl
theorem tw23 : Jvm.Cond.laysFinal "com/example/custode/custode/service/Partition" "com/example/custode/custode/service/Partition" "touched" "[I" ∈ tables_1 := List.mem_of_getElem? (i := 23) rfl
theorem tw24 : Jvm.Cond.fieldLink "com/example/custode/custode/service/Partition" 31 "com/example/custode/custode/service/Partition" "count" "I" ∈ tables_1 := List.mem_of_getElem? (i := 24) rfl
theorem tw25 : Jvm.Cond.lays "com/example/custode/custode/service/Partition" "com/example/custode/custode/service/Partition" "count" "I" ∈ tables_1 := List.mem_of_getElem? (i := 25) rfl
theorem tw26 : Jvm.Cond.methodLink "com/example/custode/custode/service/PartitionSplitMarkedPinLaw" (12 : Nat) (⟨"com/example/custode/custode/service/PartitionSplitMarkedPinLaw", "markRound", "(Lcom/example/custode/custode/service/Partition;III)V"⟩ : MethodName) ∈ tables_1 := List.mem_of_getElem? (i := 26) rfl
theorem tw27 : Jvm.Cond.static (⟨"com/example/custode/custode/service/PartitionSplitMarkedPinLaw", "markRound", "(Lcom/example/custode/custode/service/Partition;III)V"⟩ : MethodName) ∈ tables_1 := List.mem_of_getElem? (i := 27) rfl
theorem tw28 : Jvm.Cond.initialized "com/example/custode/custode/service/PartitionSplitMarkedPinLaw" ∈ tables_1 := List.mem_of_getElem? (i := 28) rfl
theorem tw29 : Jvm.Cond.code (⟨"com/example/custode/custode/service/PartitionSplitMarkedPinLaw", "markRound", "(Lcom/example/custode/custode/service/Partition;III)V"⟩ : MethodName) method_3_code (4 : Nat) (Option.none : Option FieldType) ∈ tables_1 := List.mem_of_getElem? (i := 29) rfl
theorem tw30 : Jvm.Cond.methodLink "com/example/custode/custode/service/PartitionSplitMarkedPinLaw" (45 : Nat) (⟨"com/example/custode/custode/service/PartitionSplitMarkedPinLaw", "markIf", "(Lcom/example/custode/custode/service/Partition;II)V"⟩ : MethodName) ∈ tables_1 := List.mem_of_getElem? (i := 30) rfl
theorem tw31 : Jvm.Cond.static (⟨"com/example/custode/custode/service/PartitionSplitMarkedPinLaw", "markIf", "(Lcom/example/custode/custode/service/Partition;II)V"⟩ : MethodName) ∈ tables_1 := List.mem_of_getElem? (i := 31) rfl
theorem tw32 : Jvm.Cond.code (⟨"com/example/custode/custode/service/PartitionSplitMarkedPinLaw", "markIf", "(Lcom/example/custode/custode/service/Partition;II)V"⟩ : MethodName) method_4_code (3 : Nat) (Option.none : Option FieldType) ∈ tables_1 := List.mem_of_getElem? (i := 32) rfl
theorem tw33 : Jvm.Cond.methodLink "com/example/custode/custode/service/PartitionSplitMarkedPinLaw" (18 : Nat) (⟨"com/example/custode/custode/service/Partition", "splitMarked", "()V"⟩ : MethodName) ∈ tables_1 := List.mem_of_getElem? (i := 33) rfl
theorem tw34 : Jvm.Cond.declares (⟨"com/example/custode/custode/service/Partition", "splitMarked", "()V"⟩ : MethodName) ∈ tables_1 := List.mem_of_getElem? (i := 34) rfl
theorem tw35 : Jvm.Cond.instanceMethod (⟨"com/example/custode/custode/service/Partition", "splitMarked", "()V"⟩ : MethodName) ∈ tables_1 := List.mem_of_getElem? (i := 35) rfl
theorem tw36 : Jvm.Cond.selects "com/example/custode/custode/service/Partition" (⟨"com/example/custode/custode/service/Partition", "splitMarked", "()V"⟩ : MethodName) (⟨"com/example/custode/custode/service/Partition", "splitMarked", "()V"⟩ : MethodName) ∈ tables_1 := List.mem_of_getElem? (i := 36) rfl
theorem tw37 : Jvm.Cond.code (⟨"com/example/custode/custode/service/Partition", "splitMarked", "()V"⟩ : MethodName) prog_75_method_8_code (6 : Nat) (Option.none : Option FieldType) ∈ tables_1 := List.mem_of_getElem? (i := 37) rfl
theorem tw38 : Jvm.Cond.fieldLink "com/example/custode/custode/service/Partition" 40 "com/example/custode/custode/service/Partition" "touchedCount" "I" ∈ tables_1 := List.mem_of_getElem? (i := 38) rfl
theorem tw39 : Jvm.Cond.lays "com/example/custode/custode/service/Partition" "com/example/custode/custode/service/Partition" "touchedCount" "I" ∈ tables_1 := List.mem_of_getElem? (i := 39) rfl
theorem tw40 : Jvm.Cond.methodLink "com/example/custode/custode/service/PartitionSplitMarkedPinLaw" (49 : Nat) (⟨"com/example/custode/custode/service/Partition", "mark", "(I)V"⟩ : MethodName) ∈ tables_1 := List.mem_of_getElem? (i := 40) rfl
theorem tw41 : Jvm.Cond.declares (⟨"com/example/custode/custode/service/Partition", "mark", "(I)V"⟩ : MethodName) ∈ tables_1 := List.mem_of_getElem? (i := 41) rfl
theorem tw42 : Jvm.Cond.instanceMethod (⟨"com/example/custode/custode/service/Partition", "mark", "(I)V"⟩ : MethodName) ∈ tables_1 := List.mem_of_getElem? (i := 42) rfl
theorem tw43 : Jvm.Cond.selects "com/example/custode/custode/service/Partition" (⟨"com/example/custode/custode/service/Partition", "mark", "(I)V"⟩ : MethodName) (⟨"com/example/custode/custode/service/Partition", "mark", "(I)V"⟩ : MethodName) ∈ tables_1 := List.mem_of_getElem? (i := 43) rfl
theorem tw44 : Jvm.Cond.code (⟨"com/example/custode/custode/service/Partition", "mark", "(I)V"⟩ : MethodName) prog_75_method_7_code (6 : Nat) (Option.none : Option FieldType) ∈ tables_1 := List.mem_of_getElem? (i := 44) rfl
theorem tw45 : Jvm.Cond.methodLink "com/example/custode/custode/service/PartitionSplitMarkedPinLaw" (21 : Nat) (⟨"com/example/custode/custode/service/PartitionSplitMarkedPinLaw", "split", "([IIII)I"⟩ : MethodName) ∈ tables_1 := List.mem_of_getElem? (i := 45) rfl
theorem tw46 : Jvm.Cond.static (⟨"com/example/custode/custode/service/PartitionSplitMarkedPinLaw", "split", "([IIII)I"⟩ : MethodName) ∈ tables_1 := List.mem_of_getElem? (i := 46) rfl
theorem tw47 : Jvm.Cond.code (⟨"com/example/custode/custode/service/PartitionSplitMarkedPinLaw", "split", "([IIII)I"⟩ : MethodName) method_6_code (7 : Nat) (Option.some FieldType.int) ∈ tables_1 := List.mem_of_getElem? (i := 47) rfl
theorem tw48 : Jvm.Cond.methodLink "com/example/custode/custode/service/PartitionSplitMarkedPinLaw" (25 : Nat) (⟨"com/example/custode/custode/service/PartitionSplitMarkedPinLaw", "firstIn", "(II)I"⟩ : MethodName) ∈ tables_1 := List.mem_of_getElem? (i := 48) rfl
theorem tw49 : Jvm.Cond.static (⟨"com/example/custode/custode/service/PartitionSplitMarkedPinLaw", "firstIn", "(II)I"⟩ : MethodName) ∈ tables_1 := List.mem_of_getElem? (i := 49) rfl
theorem tw50 : Jvm.Cond.code (⟨"com/example/custode/custode/service/PartitionSplitMarkedPinLaw", "firstIn", "(II)I"⟩ : MethodName) method_7_code (3 : Nat) (Option.some FieldType.int) ∈ tables_1 := List.mem_of_getElem? (i := 50) rfl
theorem tw51 : Jvm.Cond.methodLink "com/example/custode/custode/service/PartitionSplitMarkedPinLaw" (52 : Nat) (⟨"com/example/custode/custode/service/PartitionSplitMarkedPinLaw", "pc", "(I)I"⟩ : MethodName) ∈ tables_1 := List.mem_of_getElem? (i := 51) rfl
theorem tw52 : Jvm.Cond.static (⟨"com/example/custode/custode/service/PartitionSplitMarkedPinLaw", "pc", "(I)I"⟩ : MethodName) ∈ tables_1 := List.mem_of_getElem? (i := 52) rfl
theorem tw53 : Jvm.Cond.code (⟨"com/example/custode/custode/service/PartitionSplitMarkedPinLaw", "pc", "(I)I"⟩ : MethodName) method_5_code (1 : Nat) (Option.some FieldType.int) ∈ tables_1 := List.mem_of_getElem? (i := 53) rfl
theorem tw54 : Jvm.Cond.methodLink "com/example/custode/custode/service/PartitionSplitMarkedPinLaw" (29 : Nat) (⟨"com/example/custode/custode/service/Partition", "count", "()I"⟩ : MethodName) ∈ tables_1 := List.mem_of_getElem? (i := 54) rfl
theorem tw55 : Jvm.Cond.declares (⟨"com/example/custode/custode/service/Partition", "count", "()I"⟩ : MethodName) ∈ tables_1 := List.mem_of_getElem? (i := 55) rfl
theorem tw56 : Jvm.Cond.instanceMethod (⟨"com/example/custode/custode/service/Partition", "count", "()I"⟩ : MethodName) ∈ tables_1 := List.mem_of_getElem? (i := 56) rfl
theorem tw57 : Jvm.Cond.selects "com/example/custode/custode/service/Partition" (⟨"com/example/custode/custode/service/Partition", "count", "()I"⟩ : MethodName) (⟨"com/example/custode/custode/service/Partition", "count", "()I"⟩ : MethodName) ∈ tables_1 := List.mem_of_getElem? (i := 57) rfl
theorem tw58 : Jvm.Cond.code (⟨"com/example/custode/custode/service/Partition", "count", "()I"⟩ : MethodName) prog_75_method_2_code (1 : Nat) (Option.some FieldType.int) ∈ tables_1 := List.mem_of_getElem? (i := 58) rfl
theorem tw59 : Jvm.Cond.methodLink "com/example/custode/custode/service/PartitionSplitMarkedPinLaw" (33 : Nat) (⟨"com/example/custode/custode/service/Partition", "blocks", "()[I"⟩ : MethodName) ∈ tables_1 := List.mem_of_getElem? (i := 59) rfl
theorem tw60 : Jvm.Cond.declares (⟨"com/example/custode/custode/service/Partition", "blocks", "()[I"⟩ : MethodName) ∈ tables_1 := List.mem_of_getElem? (i := 60) rfl
theorem tw61 : Jvm.Cond.instanceMethod (⟨"com/example/custode/custode/service/Partition", "blocks", "()[I"⟩ : MethodName) ∈ tables_1 := List.mem_of_getElem? (i := 61) rfl
theorem tw62 : Jvm.Cond.selects "com/example/custode/custode/service/Partition" (⟨"com/example/custode/custode/service/Partition", "blocks", "()[I"⟩ : MethodName) (⟨"com/example/custode/custode/service/Partition", "blocks", "()[I"⟩ : MethodName) ∈ tables_1 := List.mem_of_getElem? (i := 62) rfl
theorem tw63 : Jvm.Cond.code (⟨"com/example/custode/custode/service/Partition", "blocks", "()[I"⟩ : MethodName) prog_75_method_3_code (1 : Nat) (Option.some (FieldType.array FieldType.int)) ∈ tables_1 := List.mem_of_getElem? (i := 63) rfl
theorem tw64 : Jvm.Cond.methodLink "com/example/custode/custode/service/Partition" (35 : Nat) (⟨"[I", "clone", "()Ljava/lang/Object;"⟩ : MethodName) ∈ tables_1 := List.mem_of_getElem? (i := 64) rfl
theorem tw65 : Jvm.Cond.sameMethod "[I" "java/lang/Object" "clone" "()Ljava/lang/Object;" ∈ tables_1 := List.mem_of_getElem? (i := 65) rfl
theorem tw67 : Jvm.Cond.instanceMethod (⟨"java/lang/Object", "clone", "()Ljava/lang/Object;"⟩ : MethodName) ∈ tables_1 := List.mem_of_getElem? (i := 67) rfl
theorem tw68 : Jvm.Cond.selects "[I" (⟨"[I", "clone", "()Ljava/lang/Object;"⟩ : MethodName) (⟨"java/lang/Object", "clone", "()Ljava/lang/Object;"⟩ : MethodName) ∈ tables_1 := List.mem_of_getElem? (i := 68) rfl
theorem tw69 : Jvm.Cond.native (⟨"java/lang/Object", "clone", "()Ljava/lang/Object;"⟩ : MethodName) ∈ tables_1 := List.mem_of_getElem? (i := 69) rfl
theorem tw70 : Jvm.Cond.castable "[I" "java/lang/Cloneable" ∈ tables_1 := List.mem_of_getElem? (i := 70) rfl
theorem tw71 : Jvm.Cond.classLink "com/example/custode/custode/service/Partition" 36 "[I" ∈ tables_1 := List.mem_of_getElem? (i := 71) rfl
theorem tw73 : Jvm.Cond.methodLink "com/example/custode/custode/service/PartitionSplitMarkedPinLaw" (37 : Nat) (⟨"com/example/custode/custode/service/PartitionSplitMarkedPinLaw", "inBlock", "([I[III)Z"⟩ : MethodName) ∈ tables_1 := List.mem_of_getElem? (i := 73) rfl
theorem tw74 : Jvm.Cond.static (⟨"com/example/custode/custode/service/PartitionSplitMarkedPinLaw", "inBlock", "([I[III)Z"⟩ : MethodName) ∈ tables_1 := List.mem_of_getElem? (i := 74) rfl
theorem tw75 : Jvm.Cond.code (⟨"com/example/custode/custode/service/PartitionSplitMarkedPinLaw", "inBlock", "([I[III)Z"⟩ : MethodName) method_8_code (5 : Nat) (Option.some FieldType.boolean) ∈ tables_1 := List.mem_of_getElem? (i := 75) rfl
theorem tw76 : Jvm.Cond.methodLink "com/example/custode/custode/service/PartitionSplitMarkedPinLaw" (41 : Nat) (⟨"com/example/custode/custode/service/PartitionSplitMarkedPinLaw", "rangeOk", "(Lcom/example/custode/custode/service/Partition;[III)Z"⟩ : MethodName) ∈ tables_1 := List.mem_of_getElem? (i := 76) rfl
theorem tw77 : Jvm.Cond.static (⟨"com/example/custode/custode/service/PartitionSplitMarkedPinLaw", "rangeOk", "(Lcom/example/custode/custode/service/Partition;[III)Z"⟩ : MethodName) ∈ tables_1 := List.mem_of_getElem? (i := 77) rfl
theorem tw78 : Jvm.Cond.code (⟨"com/example/custode/custode/service/PartitionSplitMarkedPinLaw", "rangeOk", "(Lcom/example/custode/custode/service/Partition;[III)Z"⟩ : MethodName) method_9_code (7 : Nat) (Option.some FieldType.boolean) ∈ tables_1 := List.mem_of_getElem? (i := 78) rfl
theorem tw79 : Jvm.Cond.methodLink "com/example/custode/custode/service/PartitionSplitMarkedPinLaw" (56 : Nat) (⟨"com/example/custode/custode/service/Partition", "first", "(I)I"⟩ : MethodName) ∈ tables_1 := List.mem_of_getElem? (i := 79) rfl
theorem tw80 : Jvm.Cond.declares (⟨"com/example/custode/custode/service/Partition", "first", "(I)I"⟩ : MethodName) ∈ tables_1 := List.mem_of_getElem? (i := 80) rfl
theorem tw81 : Jvm.Cond.instanceMethod (⟨"com/example/custode/custode/service/Partition", "first", "(I)I"⟩ : MethodName) ∈ tables_1 := List.mem_of_getElem? (i := 81) rfl
theorem tw82 : Jvm.Cond.selects "com/example/custode/custode/service/Partition" (⟨"com/example/custode/custode/service/Partition", "first", "(I)I"⟩ : MethodName) (⟨"com/example/custode/custode/service/Partition", "first", "(I)I"⟩ : MethodName) ∈ tables_1 := List.mem_of_getElem? (i := 82) rfl
theorem tw83 : Jvm.Cond.code (⟨"com/example/custode/custode/service/Partition", "first", "(I)I"⟩ : MethodName) prog_75_method_4_code (2 : Nat) (Option.some FieldType.int) ∈ tables_1 := List.mem_of_getElem? (i := 83) rfl
theorem tw84 : Jvm.Cond.methodLink "com/example/custode/custode/service/PartitionSplitMarkedPinLaw" (59 : Nat) (⟨"com/example/custode/custode/service/Partition", "end", "(I)I"⟩ : MethodName) ∈ tables_1 := List.mem_of_getElem? (i := 84) rfl
theorem tw85 : Jvm.Cond.declares (⟨"com/example/custode/custode/service/Partition", "end", "(I)I"⟩ : MethodName) ∈ tables_1 := List.mem_of_getElem? (i := 85) rfl
theorem tw86 : Jvm.Cond.instanceMethod (⟨"com/example/custode/custode/service/Partition", "end", "(I)I"⟩ : MethodName) ∈ tables_1 := List.mem_of_getElem? (i := 86) rfl
theorem tw87 : Jvm.Cond.selects "com/example/custode/custode/service/Partition" (⟨"com/example/custode/custode/service/Partition", "end", "(I)I"⟩ : MethodName) (⟨"com/example/custode/custode/service/Partition", "end", "(I)I"⟩ : MethodName) ∈ tables_1 := List.mem_of_getElem? (i := 87) rfl
theorem tw88 : Jvm.Cond.code (⟨"com/example/custode/custode/service/Partition", "end", "(I)I"⟩ : MethodName) prog_75_method_5_code (2 : Nat) (Option.some FieldType.int) ∈ tables_1 := List.mem_of_getElem? (i := 88) rfl
theorem tw89 : Jvm.Cond.methodLink "com/example/custode/custode/service/PartitionSplitMarkedPinLaw" (62 : Nat) (⟨"com/example/custode/custode/service/Partition", "stateAt", "(I)I"⟩ : MethodName) ∈ tables_1 := List.mem_of_getElem? (i := 89) rfl
theorem tw90 : Jvm.Cond.declares (⟨"com/example/custode/custode/service/Partition", "stateAt", "(I)I"⟩ : MethodName) ∈ tables_1 := List.mem_of_getElem? (i := 90) rfl
theorem tw91 : Jvm.Cond.instanceMethod (⟨"com/example/custode/custode/service/Partition", "stateAt", "(I)I"⟩ : MethodName) ∈ tables_1 := List.mem_of_getElem? (i := 91) rfl
theorem tw92 : Jvm.Cond.selects "com/example/custode/custode/service/Partition" (⟨"com/example/custode/custode/service/Partition", "stateAt", "(I)I"⟩ : MethodName) (⟨"com/example/custode/custode/service/Partition", "stateAt", "(I)I"⟩ : MethodName) ∈ tables_1 := List.mem_of_getElem? (i := 92) rfl
theorem tw93 : Jvm.Cond.code (⟨"com/example/custode/custode/service/Partition", "stateAt", "(I)I"⟩ : MethodName) prog_75_method_6_code (2 : Nat) (Option.some FieldType.int) ∈ tables_1 := List.mem_of_getElem? (i := 93) rfl
def lay : Nat → String × List (String × String)
  | 0 => ("com/example/custode/custode/service/Partition", [("states", "[I"), ("position", "[I"), ("block", "[I"), ("first", "[I"), ("end", "[I"), ("unmarked", "[I"), ("touched", "[I"), ("count", "I"), ("touchedCount", "I")])
  | _ => ("", [])
theorem lay_word (t : Nat) (nd : String × String) (h : nd ∈ (lay t).2) : Jvm.Cond.lays (lay t).1 (lay t).1 nd.1 nd.2 ∈ tables_1 ∨ Jvm.Cond.laysFinal (lay t).1 (lay t).1 nd.1 nd.2 ∈ tables_1 := by
  match t, h with
  | 0, h =>
    simp only [lay, List.mem_cons, List.not_mem_nil, or_false] at h
    rcases h with rfl | rfl | rfl | rfl | rfl | rfl | rfl | rfl | rfl
    · exact Or.inr (List.mem_of_getElem? (i := 11) rfl)
    · exact Or.inr (List.mem_of_getElem? (i := 13) rfl)
    · exact Or.inr (List.mem_of_getElem? (i := 15) rfl)
    · exact Or.inr (List.mem_of_getElem? (i := 17) rfl)
    · exact Or.inr (List.mem_of_getElem? (i := 19) rfl)
    · exact Or.inr (List.mem_of_getElem? (i := 21) rfl)
    · exact Or.inr (List.mem_of_getElem? (i := 23) rfl)
    · exact Or.inl (List.mem_of_getElem? (i := 25) rfl)
    · exact Or.inl (List.mem_of_getElem? (i := 39) rfl)
  | t + 1, h => simp [lay] at h
theorem lay_parse (t : Nat) (nd : String × String) (h : nd ∈ (lay t).2) : ∃ ty, parseFieldDescriptor nd.2 = some ty := by
  match t, h with
  | 0, h =>
    simp only [lay, List.mem_cons, List.not_mem_nil, or_false] at h
    rcases h with rfl | rfl | rfl | rfl | rfl | rfl | rfl | rfl | rfl
    · exact ⟨(.array .int), by decide +kernel⟩
    · exact ⟨(.array .int), by decide +kernel⟩
    · exact ⟨(.array .int), by decide +kernel⟩
    · exact ⟨(.array .int), by decide +kernel⟩
    · exact ⟨(.array .int), by decide +kernel⟩
    · exact ⟨(.array .int), by decide +kernel⟩
    · exact ⟨(.array .int), by decide +kernel⟩
    · exact ⟨.int, by decide +kernel⟩
    · exact ⟨.int, by decide +kernel⟩
  | t + 1, h => simp [lay] at h
theorem lay_names (t k k' : Nat) (nd nd' : String × String) (h1 : (lay t).2[k]? = some nd) (h2 : (lay t).2[k']? = some nd') (ne : k ≠ k') : nd.1 ≠ nd'.1 := by
  match t, h1, h2 with
  | 0, h1, h2 =>
    have hd : ∀ i j : Fin 9, i.1 ≠ j.1 → (["states", "position", "block", "first", "end", "unmarked", "touched", "count", "touchedCount"] : List String)[i.1]? ≠ (["states", "position", "block", "first", "end", "unmarked", "touched", "count", "touchedCount"] : List String)[j.1]? := by decide +kernel
    have e : ∀ i, (["states", "position", "block", "first", "end", "unmarked", "touched", "count", "touchedCount"] : List String)[i]? = ((lay 0).2[i]?).map (fun z : String × String => z.1) := fun i => by rw [← List.getElem?_map]; rfl
    have l1 : k < 9 := (List.getElem?_eq_some_iff.mp h1).1
    have l2 : k' < 9 := (List.getElem?_eq_some_iff.mp h2).1
    have q := hd ⟨k, l1⟩ ⟨k', l2⟩ ne
    rw [e, e, h1, h2] at q
    exact fun r => q (by simp [r])
  | t + 1, h1, h2 => simp [lay] at h1
/-! the abstract machine over the library's laws -/
abbrev Obj := Sum (FieldType × List Value) (Nat × List Value)
abbrev Gx := Launch × State × Array Value × Nat
abbrev Kx := Program × Env × Room × State × MethodId × Array Value × List Frame × Method × Code × Nat × Nat
/-- a reference of the model is the number of an own object; the object of number 0 lies at n -/
def sh (n : Nat) : Value → Value
  | .ref i => .ref (n + i)
  | v => v
theorem sh_cat (n : Nat) (v : Value) : (sh n v).category = v.category := by cases v <;> rfl
/-! local variables -/
def Wf (f : Nat → Option Slot) : Prop :=
  (∀ (k : Nat) (v : Value), f k = some (Slot.val v) → v.category = 2 → f (k + 1) = some .second) ∧ (∀ k, f k = some .second → ∃ v : Value, 1 ≤ k ∧ f (k - 1) = some (Slot.val v) ∧ v.category = 2)
def Lrel (n : Nat) (Ls : List (Option Value)) (L : Array Slot) : Prop :=
  L.size = Ls.length ∧ Wf (fun k => L[k]?) ∧ ∀ (k : Nat) (v : Value), Ls[k]? = some (some v) → L[k]? = some (Slot.val (sh n v))
def clr (Ls : List (Option Value)) : Nat → List (Option Value)
  | 0 => Ls
  | j + 1 => match Ls[j]? with
    | some (some w) => if w.category = 2 then Ls.set j none else Ls
    | _ => Ls
def stor (Ls : List (Option Value)) (i : Nat) (v : Value) : Option (List (Option Value)) :=
  if v.category = 2 then (if i + 1 < Ls.length then some (((clr Ls i).set i (some v)).set (i + 1) none) else none) else (if i < Ls.length then some ((clr Ls i).set i (some v)) else none)
theorem wf_gen {f f' : Nat → Option Slot} (hf : Wf f) {i last : Nat} {v : Value} (hl : (v.category = 2 ∧ last = i + 1 ∧ f' (i + 1) = some .second) ∨ (v.category ≠ 2 ∧ last = i)) (h0 : f' i = some (Slot.val v))
    (h1 : ∀ k, k + 1 = i → ∀ w : Value, f k = some (Slot.val w) → w.category = 2 → f' k = some .unset) (h2 : f (last + 1) = some .second → f' (last + 1) = some .unset)
    (h3 : ∀ k, k < i ∨ last < k → f' k = f k ∨ (f' k = some .unset ∧ ((k + 1 = i ∧ ∃ w : Value, f k = some (Slot.val w) ∧ w.category = 2) ∨ (k = last + 1 ∧ f k = some .second)))) : Wf f' := by
  have hc : ∀ k, k = i ∨ (k = i + 1 ∧ last = i + 1 ∧ f' (i + 1) = some .second) ∨ (k < i ∨ last < k) := fun k => by
    rcases hl with ⟨-, a, b⟩ | ⟨-, a⟩
    · by_cases h : k = i; · exact Or.inl h
      by_cases h' : k = i + 1; · exact Or.inr (Or.inl ⟨h', a, b⟩)
      exact Or.inr (Or.inr (by omega))
    · by_cases h : k = i; · exact Or.inl h
      exact Or.inr (Or.inr (by omega))
  have hli : i ≤ last := by omega
  constructor
  · intro k w hk hw
    rcases hc k with rfl | ⟨rfl, -, b⟩ | h
    · rcases hl with ⟨-, -, b⟩ | ⟨a, -⟩
      · exact b
      · rw [h0] at hk; cases hk; exact absurd hw a
    · rw [b] at hk; cases hk
    · rcases h3 k h with q | ⟨q, -⟩
      · rw [q] at hk
        have hs := hf.1 k w hk hw
        by_cases e1 : k + 1 = i
        · have := h1 k e1 w hk hw; rw [q, hk] at this; cases this
        · have h' : k + 1 < i ∨ last < k + 1 := by omega
          rcases h3 (k + 1) h' with q' | ⟨-, ⟨-, w', a, -⟩ | ⟨a, -⟩⟩
          · rw [q']; exact hs
          · rw [hs] at a; cases a
          · omega
      · rw [q] at hk; cases hk
  · intro k hk
    rcases hc k with rfl | ⟨rfl, a, b⟩ | h
    · rw [h0] at hk; cases hk
    · rcases hl with ⟨c, -, -⟩ | ⟨-, c⟩
      · exact ⟨v, by omega, by simpa using h0, c⟩
      · omega
    · rcases h3 k h with q | ⟨q, -⟩
      · rw [q] at hk
        obtain ⟨w, k1, hw, hw2⟩ := hf.2 k hk
        by_cases e1 : k = last + 1
        · subst e1; have := h2 hk; rw [q, hk] at this; cases this
        · have h' : k - 1 < i ∨ last < k - 1 := by
            rcases h with h | h
            · exact Or.inl (by omega)
            · exact Or.inr (by omega)
          rcases h3 (k - 1) h' with q' | ⟨-, ⟨a, -⟩ | ⟨a, b⟩⟩
          · exact ⟨w, k1, by rw [q']; exact hw, hw2⟩
          · have : k = i := by omega
            omega
          · rw [hw] at b; cases b
      · rw [q] at hk; cases hk
theorem clr_get {Ls : List (Option Value)} {i k : Nat} {w : Value} (h : (clr Ls i)[k]? = some (some w)) : Ls[k]? = some (some w) ∧ (k + 1 = i → w.category ≠ 2) := by
  cases i with
  | zero => exact ⟨h, fun q => by omega⟩
  | succ j =>
    simp only [clr] at h
    split at h
    · rename_i w' hw'
      split at h
      · rename_i h2
        by_cases e : j = k
        · subst e; rw [List.getElem?_set] at h; simp at h
        · rw [List.getElem?_set_ne e] at h; exact ⟨h, fun q => by omega⟩
      · rename_i h2
        refine ⟨h, fun q => ?_⟩
        have : j = k := by omega
        subst this; rw [hw'] at h; cases h; exact h2
    · rename_i hn
      refine ⟨h, fun q => ?_⟩
      have : j = k := by omega
      subst this; exact absurd h (hn w)
theorem clr_len (Ls : List (Option Value)) (i : Nat) : (clr Ls i).length = Ls.length := by
  cases i with
  | zero => rfl
  | succ j => simp only [clr]; split <;> (try split) <;> simp
theorem lrel_gen {n : Nat} {Ls Ls' : List (Option Value)} {L L' : Array Slot} {i last : Nat} {v : Value} (h : Lrel n Ls L) (hsz : L'.size = L.size) (hlen : Ls'.length = Ls.length)
    (hl : (v.category = 2 ∧ last = i + 1 ∧ L'[i + 1]? = some .second) ∨ (v.category ≠ 2 ∧ last = i)) (h0 : L'[i]? = some (Slot.val (sh n v)))
    (h1 : ∀ k, k + 1 = i → ∀ w : Value, L[k]? = some (Slot.val w) → w.category = 2 → L'[k]? = some .unset) (h2 : L[last + 1]? = some .second → L'[last + 1]? = some .unset)
    (h3 : ∀ k, k < i ∨ last < k → L'[k]? = L[k]? ∨ (L'[k]? = some .unset ∧ ((k + 1 = i ∧ ∃ w : Value, L[k]? = some (Slot.val w) ∧ w.category = 2) ∨ (k = last + 1 ∧ L[k]? = some .second))))
    (hs : ∀ k w, Ls'[k]? = some (some w) → (k = i ∧ w = v) ∨ ((k < i ∨ last < k) ∧ Ls[k]? = some (some w) ∧ (k + 1 = i → w.category ≠ 2))) : Lrel n Ls' L' := by
  refine ⟨by rw [hsz, hlen]; exact h.1, wf_gen (f := fun k => L[k]?) (f' := fun k => L'[k]?) (v := sh n v) h.2.1 (by rw [sh_cat]; exact hl) h0 h1 h2 h3, fun k w hk => ?_⟩
  rcases hs k w hk with ⟨rfl, rfl⟩ | ⟨a, b, c⟩
  · exact h0
  · have hb := h.2.2 k w b
    rcases h3 k a with q | ⟨-, ⟨q, w', r1, r2⟩ | ⟨-, r⟩⟩
    · rw [q]; exact hb
    · rw [hb] at r1; cases r1; exact absurd (by rw [← sh_cat n w]; exact r2) (c q)
    · rw [hb] at r; cases r
theorem get_set (L : Array Slot) (i j : Nat) (x : Slot) (hi : i < L.size) : (L.setIfInBounds i x)[j]? = if i = j then some x else L[j]? := by
  rw [Array.getElem?_setIfInBounds]; simp [hi]
theorem store_1 {n : Nat} {Ls Ls' : List (Option Value)} {L : Array Slot} {i : Nat} {v : Value} (h : Lrel n Ls L) (hc : v.category = 1) (hl : stor Ls i v = some Ls') : ∃ L', storeLocals L i (sh n v) = some L' ∧ Lrel n Ls' L' := by
  have hc2 : ¬ v.category = 2 := by omega
  simp only [stor, hc2, if_false] at hl
  have hi : i < Ls.length := Decidable.byContradiction fun hi => by rw [if_neg hi] at hl; cases hl
  rw [if_pos hi] at hl
  cases hl
  have hiL : i < L.size := by rw [h.1]; exact hi
  have hcs : (sh n v).category = 1 := (sh_cat n v).trans hc
  have hs : ∀ k w, ((clr Ls i).set i (some v))[k]? = some (some w) → (k = i ∧ w = v) ∨ ((k < i ∨ i < k) ∧ Ls[k]? = some (some w) ∧ (k + 1 = i → w.category ≠ 2)) := fun k w hk => by
    by_cases e : i = k
    · subst e
      rw [List.getElem?_set_self (by rw [clr_len]; exact hi)] at hk
      cases hk; exact Or.inl ⟨rfl, rfl⟩
    · rw [List.getElem?_set_ne e] at hk
      exact Or.inr ⟨by omega, clr_get hk⟩
  have hlen : ((clr Ls i).set i (some v)).length = Ls.length := by simp [clr_len]
  have hgo : L[i]? = some L[i] := Array.getElem?_eq_getElem hiL
  cases hq : L[i] with
  | unset =>
    rw [hq] at hgo
    refine ⟨L.setIfInBounds i (.val (sh n v)), by simp [storeLocals, storeSelf, setAt, hgo, hcs, hiL, hq], lrel_gen (i := i) (last := i) (v := v) h (by simp) hlen (Or.inr ⟨hc2, rfl⟩) ?_ ?_ ?_ ?_ hs⟩
    · rw [get_set _ _ _ _ hiL]; simp
    · intro k hk w hw hw2; have := h.2.1.1 k w hw hw2; simp only [hk] at this; rw [hgo] at this; cases this
    · intro hk; obtain ⟨w, -, a, -⟩ := h.2.1.2 _ hk; simp only [Nat.add_sub_cancel] at a; rw [hgo] at a; cases a
    · intro k hk; left; rw [get_set _ _ _ _ hiL, if_neg (by omega)]
  | second =>
    rw [hq] at hgo
    obtain ⟨w0, i1, hw0, hw2⟩ := h.2.1.2 _ hgo
    simp only at hw0
    have hi1 : i - 1 < L.size := by omega
    refine ⟨(L.setIfInBounds (i - 1) .unset).setIfInBounds i (.val (sh n v)), by simp [storeLocals, storeSelf, setAt, hgo, hcs, hiL, hi1, hq], lrel_gen (i := i) (last := i) (v := v) h (by simp) hlen (Or.inr ⟨hc2, rfl⟩) ?_ ?_ ?_ ?_ hs⟩
    · rw [get_set _ _ _ _ (by simpa using hiL)]; simp
    · intro k hk w hw hw2'; rw [get_set _ _ _ _ (by simpa using hiL), get_set _ _ _ _ hi1, if_neg (by omega), if_pos (by omega)]
    · intro hk; obtain ⟨w, -, a, -⟩ := h.2.1.2 _ hk; simp only [Nat.add_sub_cancel] at a; rw [hgo] at a; cases a
    · intro k hk; rw [get_set _ _ _ _ (by simpa using hiL), get_set _ _ _ _ hi1, if_neg (by omega)]
      by_cases e : i - 1 = k
      · subst e; rw [if_pos rfl]; exact Or.inr ⟨rfl, Or.inl ⟨by omega, w0, hw0, hw2⟩⟩
      · rw [if_neg e]; exact Or.inl rfl
  | val old =>
    rw [hq] at hgo
    have hnl : ∀ k, k + 1 = i → ∀ w : Value, L[k]? = some (Slot.val w) → w.category = 2 → False := fun k hk w hw hw2 => by
      have := h.2.1.1 k w hw hw2; simp only [hk] at this; rw [hgo] at this; cases this
    by_cases ho : old.category = 2
    · have hn : L[i + 1]? = some .second := h.2.1.1 i old hgo ho
      have hi1 : i + 1 < L.size := (Array.getElem?_eq_some_iff.mp hn).1
      refine ⟨(L.setIfInBounds (i + 1) .unset).setIfInBounds i (.val (sh n v)), by simp [storeLocals, storeSelf, setAt, hgo, hcs, hiL, hi1, ho, hq], lrel_gen (i := i) (last := i) (v := v) h (by simp) hlen (Or.inr ⟨hc2, rfl⟩) ?_ ?_ ?_ ?_ hs⟩
      · rw [get_set _ _ _ _ (by simpa using hiL)]; simp
      · intro k hk w hw hw2; exact (hnl k hk w hw hw2).elim
      · intro _; rw [get_set _ _ _ _ (by simpa using hiL), get_set _ _ _ _ hi1, if_neg (by omega), if_pos rfl]
      · intro k hk; rw [get_set _ _ _ _ (by simpa using hiL), get_set _ _ _ _ hi1, if_neg (by omega)]
        by_cases e : i + 1 = k
        · subst e; rw [if_pos rfl]; exact Or.inr ⟨rfl, Or.inr ⟨rfl, hn⟩⟩
        · rw [if_neg e]; exact Or.inl rfl
    · refine ⟨L.setIfInBounds i (.val (sh n v)), by simp [storeLocals, storeSelf, setAt, hgo, hcs, hiL, ho, hq], lrel_gen (i := i) (last := i) (v := v) h (by simp) hlen (Or.inr ⟨hc2, rfl⟩) ?_ ?_ ?_ ?_ hs⟩
      · rw [get_set _ _ _ _ hiL]; simp
      · intro k hk w hw hw2; exact (hnl k hk w hw hw2).elim
      · intro hk; obtain ⟨w, -, a, b⟩ := h.2.1.2 _ hk; simp only [Nat.add_sub_cancel] at a; rw [hgo] at a; cases a; exact absurd b ho
      · intro k hk; left; rw [get_set _ _ _ _ hiL, if_neg (by omega)]
/-- the second half of a long's store -/
theorem self_2 {l : Array Slot} {i : Nat} {v : Value} (hc : v.category = 2) (h1 : i + 1 < l.size) (hw : ∀ w : Value, l[i + 1]? = some (Slot.val w) → w.category = 2 → i + 2 < l.size) :
    ∃ l', storeSelf l i v = some l' ∧ l'.size = l.size ∧ l'[i]? = some (Slot.val v) ∧ l'[i + 1]? = some .second ∧ (∀ k, k < i ∨ i + 2 < k → l'[k]? = l[k]?) ∧
      ((∃ w : Value, l[i + 1]? = some (Slot.val w) ∧ w.category = 2) ∧ l'[i + 2]? = some .unset ∨ (¬ ∃ w : Value, l[i + 1]? = some (Slot.val w) ∧ w.category = 2) ∧ l'[i + 2]? = l[i + 2]?) := by
  have hi : i < l.size := by omega
  have hgo : l[i + 1]? = some l[i + 1] := Array.getElem?_eq_getElem h1
  have hgo' : (l.setIfInBounds i (.val v))[i + 1]? = some l[i + 1] := by rw [get_set _ _ _ _ hi, if_neg (by omega)]; exact hgo
  by_cases hx : ∃ w : Value, l[i + 1]? = some (Slot.val w) ∧ w.category = 2
  · obtain ⟨w, a, b⟩ := hx
    have h2 := hw w a b
    have e : l[i + 1] = .val w := Option.some.inj (hgo.symm.trans a)
    refine ⟨((l.setIfInBounds i (.val v)).setIfInBounds (i + 2) .unset).setIfInBounds (i + 1) .second, ?_, by simp, ?_, ?_, ?_, Or.inl ⟨⟨w, a, b⟩, ?_⟩⟩
    · rw [e] at hgo'
      simp [storeSelf, setAt, hi, hc, hgo', b, h1, h2, e]
    · rw [get_set _ _ _ _ (by simpa using h1), if_neg (by omega), get_set _ _ _ _ (by simpa using h2), if_neg (by omega), get_set _ _ _ _ hi, if_pos rfl]
    · rw [get_set _ _ _ _ (by simpa using h1), if_pos rfl]
    · intro k hk; rw [get_set _ _ _ _ (by simpa using h1), if_neg (by omega), get_set _ _ _ _ (by simpa using h2), if_neg (by omega), get_set _ _ _ _ hi, if_neg (by omega)]
    · rw [get_set _ _ _ _ (by simpa using h1), if_neg (by omega), get_set _ _ _ _ (by simpa using h2), if_pos rfl]
  · refine ⟨(l.setIfInBounds i (.val v)).setIfInBounds (i + 1) .second, ?_, by simp, ?_, ?_, ?_, Or.inr ⟨hx, ?_⟩⟩
    · cases e : l[i + 1] with
      | unset => rw [e] at hgo'; simp [storeSelf, setAt, hi, hc, hgo', h1, e]
      | second => rw [e] at hgo'; simp [storeSelf, setAt, hi, hc, hgo', h1, e]
      | val w =>
        rw [e] at hgo' hgo
        have hn : ¬ w.category = 2 := fun q => hx ⟨w, hgo, q⟩
        simp [storeSelf, setAt, hi, hc, hgo', h1, hn, e]
    · rw [get_set _ _ _ _ (by simpa using h1), if_neg (by omega), get_set _ _ _ _ hi, if_pos rfl]
    · rw [get_set _ _ _ _ (by simpa using h1), if_pos rfl]
    · intro k hk; rw [get_set _ _ _ _ (by simpa using h1), if_neg (by omega), get_set _ _ _ _ hi, if_neg (by omega)]
    · rw [get_set _ _ _ _ (by simpa using h1), if_neg (by omega), get_set _ _ _ _ hi, if_neg (by omega)]
theorem store_2 {n : Nat} {Ls Ls' : List (Option Value)} {L : Array Slot} {i : Nat} {v : Value} (h : Lrel n Ls L) (hc : v.category = 2) (hl : stor Ls i v = some Ls') : ∃ L', storeLocals L i (sh n v) = some L' ∧ Lrel n Ls' L' := by
  simp only [stor, hc, if_true] at hl
  have hi : i + 1 < Ls.length := Decidable.byContradiction fun hi => by rw [if_neg hi] at hl; cases hl
  rw [if_pos hi] at hl
  cases hl
  have hiL : i + 1 < L.size := by rw [h.1]; exact hi
  have hi0 : i < L.size := by omega
  have hcs : (sh n v).category = 2 := (sh_cat n v).trans hc
  have hs : ∀ k w, (((clr Ls i).set i (some v)).set (i + 1) none)[k]? = some (some w) → (k = i ∧ w = v) ∨ ((k < i ∨ i + 1 < k) ∧ Ls[k]? = some (some w) ∧ (k + 1 = i → w.category ≠ 2)) := fun k w hk => by
    by_cases e' : i + 1 = k
    · subst e'
      rw [List.getElem?_set_self (by simp [clr_len]; exact hi)] at hk
      cases hk
    · rw [List.getElem?_set_ne e'] at hk
      by_cases e : i = k
      · subst e
        rw [List.getElem?_set_self (by rw [clr_len]; omega)] at hk
        cases hk; exact Or.inl ⟨rfl, rfl⟩
      · rw [List.getElem?_set_ne e] at hk
        exact Or.inr ⟨by omega, clr_get hk⟩
  have hlen : (((clr Ls i).set i (some v)).set (i + 1) none).length = Ls.length := by simp [clr_len]
  have hgo : L[i]? = some L[i] := Array.getElem?_eq_getElem hi0
  have hW := h.2.1
  -- the first half: l1
  have key : ∃ l1, storeLocals L i (sh n v) = storeSelf l1 i (sh n v) ∧ l1.size = L.size ∧ (∀ k, k + 1 = i → ∀ w : Value, L[k]? = some (Slot.val w) → w.category = 2 → l1[k]? = some .unset) ∧
      (∀ k, k < i ∨ i + 1 < k → l1[k]? = L[k]? ∨ (l1[k]? = some .unset ∧ k + 1 = i ∧ ∃ w : Value, L[k]? = some (Slot.val w) ∧ w.category = 2)) ∧
      ((∃ w : Value, l1[i + 1]? = some (Slot.val w) ∧ w.category = 2) → L[i + 1]? = l1[i + 1]?) ∧ (L[i + 1]? = l1[i + 1]? ∨ L[i + 1]? = some .second) := by
    cases hq : L[i] with
    | unset =>
      rw [hq] at hgo
      refine ⟨L, by simp [storeLocals, hgo, hq], rfl, ?_, fun k _ => Or.inl rfl, fun _ => rfl, Or.inl rfl⟩
      intro k hk w hw hw2; have := hW.1 k w hw hw2; simp only [hk] at this; rw [hgo] at this; cases this
    | second =>
      rw [hq] at hgo
      obtain ⟨w0, i1, hw0, hw2⟩ := hW.2 _ hgo
      simp only at hw0
      have hi1 : i - 1 < L.size := by omega
      refine ⟨L.setIfInBounds (i - 1) .unset, by simp [storeLocals, setAt, hgo, hi1, hq], by simp, ?_, ?_, fun _ => by rw [get_set _ _ _ _ hi1, if_neg (by omega)], Or.inl (by rw [get_set _ _ _ _ hi1, if_neg (by omega)])⟩
      · intro k hk w hw hw2'; rw [get_set _ _ _ _ hi1, if_pos (by omega)]
      · intro k hk; rw [get_set _ _ _ _ hi1]
        by_cases e : i - 1 = k
        · subst e; rw [if_pos rfl]; exact Or.inr ⟨rfl, by omega, w0, hw0, hw2⟩
        · rw [if_neg e]; exact Or.inl rfl
    | val old =>
      rw [hq] at hgo
      have hnl : ∀ k, k + 1 = i → ∀ w : Value, L[k]? = some (Slot.val w) → w.category = 2 → False := fun k hk w hw hw2 => by
        have := hW.1 k w hw hw2; simp only [hk] at this; rw [hgo] at this; cases this
      by_cases ho : old.category = 2
      · have hn : L[i + 1]? = some .second := hW.1 i old hgo ho
        refine ⟨L.setIfInBounds (i + 1) .unset, by simp [storeLocals, setAt, hgo, hiL, ho, hq], by simp, fun k hk w hw hw2 => (hnl k hk w hw hw2).elim, ?_, ?_, Or.inr hn⟩
        · intro k hk; left; rw [get_set _ _ _ _ hiL, if_neg (by omega)]
        · rintro ⟨w, a, -⟩; rw [get_set _ _ _ _ hiL, if_pos rfl] at a; cases a
      · exact ⟨L, by simp [storeLocals, hgo, ho, hq], rfl, fun k hk w hw hw2 => (hnl k hk w hw hw2).elim, fun k _ => Or.inl rfl, fun _ => rfl, Or.inl rfl⟩
  obtain ⟨l1, k1, k2, k3, k4, k5, k6⟩ := key
  have hw2 : ∀ w : Value, l1[i + 1]? = some (Slot.val w) → w.category = 2 → i + 2 < l1.size := fun w a b => by
    have e := k5 ⟨w, a, b⟩
    rw [a] at e
    have := hW.1 (i + 1) w e b
    rw [k2]; exact (Array.getElem?_eq_some_iff.mp this).1
  obtain ⟨l', s1, s2, s3, s4, s5, s6⟩ := self_2 (v := sh n v) hcs (by rw [k2]; exact hiL) hw2
  refine ⟨l', by rw [k1]; exact s1, lrel_gen (i := i) (last := i + 1) (v := v) h (by rw [s2, k2]) hlen (Or.inl ⟨hc, rfl, s4⟩) s3 ?_ ?_ ?_ hs⟩
  · intro k hk w hw hw2'; rw [s5 k (by omega)]; exact k3 k hk w hw hw2'
  · intro hk
    obtain ⟨w, -, a, b⟩ := hW.2 _ hk
    simp only [Nat.add_sub_cancel] at a
    rcases s6 with ⟨-, q⟩ | ⟨q, -⟩
    · exact q
    · rcases k6 with k6 | k6
      · exact absurd ⟨w, by rw [← k6]; exact a, b⟩ q
      · rw [a] at k6; cases k6
  · intro k hk
    by_cases e : k = i + 2
    · subst e
      rcases s6 with ⟨⟨w, a, b⟩, q⟩ | ⟨-, q⟩
      · have e := k5 ⟨w, a, b⟩
        rw [a] at e
        exact Or.inr ⟨q, Or.inr ⟨rfl, hW.1 (i + 1) w e b⟩⟩
      · rcases k4 (i + 2) (by omega) with r | ⟨-, r, -⟩
        · left; rw [q, r]
        · omega
    · rw [s5 k (by omega)]
      rcases k4 k hk with r | ⟨r1, r2, r3⟩
      · exact Or.inl r
      · exact Or.inr ⟨r1, Or.inl ⟨r2, r3⟩⟩
/-! the entry -/
def aloc1 : List Value → List (Option Value)
  | [] => []
  | v :: r => if v.category = 2 then some v :: none :: aloc1 r else some v :: aloc1 r
def aloc (as : List Value) (maxL : Nat) : List (Option Value) := aloc1 as ++ List.replicate (maxL - (aloc1 as).length) none
def aslot : List Value → List Slot
  | [] => []
  | v :: r => if v.category = 2 then .val v :: .second :: aslot r else .val v :: aslot r
theorem aslot_eq (as : List Value) : ∀ acc : Array Slot, as.foldl (fun acc v => if v.category = 2 then (acc.push (Slot.val v)).push Slot.second else acc.push (Slot.val v)) acc = acc ++ (aslot as).toArray := by
  induction as with
  | nil => intro acc; simp [aslot]
  | cons v r ih =>
    intro acc
    rw [List.foldl_cons, ih]
    simp only [aslot]
    split <;> (apply Array.ext'; simp)
theorem aslot_len (n : Nat) (as : List Value) : (aslot (as.map (sh n))).length = (aloc1 as).length := by
  induction as with
  | nil => rfl
  | cons v r ih => simp only [List.map_cons, aslot, aloc1, sh_cat]; split <;> simp [ih]
theorem aslot_wf (as : List Value) : (∀ (k : Nat) (v : Value), (aslot as)[k]? = some (Slot.val v) → v.category = 2 → (aslot as)[k + 1]? = some .second) ∧ (∀ k, (aslot as)[k]? = some .second → ∃ v : Value, 1 ≤ k ∧ (aslot as)[k - 1]? = some (Slot.val v) ∧ v.category = 2) := by
  induction as with
  | nil => constructor <;> intro k <;> simp [aslot]
  | cons v r ih =>
    simp only [aslot]
    by_cases h : v.category = 2
    · rw [if_pos h]
      constructor
      · intro k w hk hw
        match k, hk with
        | 0, hk => rfl
        | 1, hk => simp at hk
        | k + 2, hk => simpa using ih.1 k w (by simpa using hk) hw
      · intro k hk
        match k, hk with
        | 0, hk => simp at hk
        | 1, hk => exact ⟨v, by omega, by simp, h⟩
        | k + 2, hk =>
          obtain ⟨w, a, b, c⟩ := ih.2 k (by simpa using hk)
          match k, a, b with
          | k + 1, a, b => exact ⟨w, by omega, by simpa using b, c⟩
    · rw [if_neg h]
      constructor
      · intro k w hk hw
        match k, hk with
        | 0, hk => simp at hk; subst hk; exact absurd hw h
        | k + 1, hk => simpa using ih.1 k w (by simpa using hk) hw
      · intro k hk
        match k, hk with
        | 0, hk => simp at hk
        | k + 1, hk =>
          obtain ⟨w, a, b, c⟩ := ih.2 k (by simpa using hk)
          match k, a, b with
          | k + 1, a, b => exact ⟨w, by omega, by simpa using b, c⟩
theorem aslot_val (n : Nat) (as : List Value) : ∀ (k : Nat) (v : Value), (aloc1 as)[k]? = some (some v) → (aslot (as.map (sh n)))[k]? = some (Slot.val (sh n v)) := by
  induction as with
  | nil => intro k v; simp [aloc1]
  | cons v r ih =>
    intro k w
    simp only [aloc1, List.map_cons, aslot, sh_cat]
    split
    · match k with
      | 0 => simp; intro h; rw [h]
      | 1 => simp
      | k + 2 => simpa using ih k w
    · match k with
      | 0 => simp; intro h; rw [h]
      | k + 1 => simpa using ih k w
theorem entry_rel (n : Nat) (as : List Value) (maxL : Nat) : Lrel n (aloc as maxL) (argsToLocals (as.map (sh n)).toArray maxL) := by
  have e : argsToLocals (as.map (sh n)).toArray maxL = (aslot (as.map (sh n)) ++ List.replicate (maxL - (aloc1 as).length) Slot.unset).toArray := by
    unfold argsToLocals
    simp only [List.foldl_toArray']
    rw [aslot_eq]
    apply Array.ext'
    simp [aslot_len]
  rw [e]
  have hl := aslot_len n as
  refine ⟨by simp [aloc, hl], ?_, ?_⟩
  · have hw := aslot_wf (as.map (sh n))
    constructor
    · intro k v hk hv
      simp only [List.getElem?_toArray] at hk ⊢
      by_cases h : k < (aslot (as.map (sh n))).length
      · rw [List.getElem?_append_left h] at hk
        have q := hw.1 k v hk hv
        rw [List.getElem?_append_left (List.getElem?_eq_some_iff.mp q).1]; exact q
      · rw [List.getElem?_append_right (by omega), List.getElem?_replicate] at hk
        split at hk <;> cases hk
    · intro k hk
      simp only [List.getElem?_toArray] at hk ⊢
      by_cases h : k < (aslot (as.map (sh n))).length
      · rw [List.getElem?_append_left h] at hk
        obtain ⟨v, a, b, c⟩ := hw.2 k hk
        exact ⟨v, a, by rw [List.getElem?_append_left (List.getElem?_eq_some_iff.mp b).1]; exact b, c⟩
      · rw [List.getElem?_append_right (by omega), List.getElem?_replicate] at hk
        split at hk <;> cases hk
  · intro k v hk
    simp only [List.getElem?_toArray]
    simp only [aloc] at hk
    by_cases h : k < (aloc1 as).length
    · rw [List.getElem?_append_left h] at hk
      rw [List.getElem?_append_left (by rw [hl]; exact h)]; exact aslot_val n as k v hk
    · rw [List.getElem?_append_right (by omega), List.getElem?_replicate] at hk
      split at hk <;> cases hk
/-! the heap -/
def ObjOk (Z : State) (n : Nat) (h : Heap) (a : Addr) : Obj → Prop
  | .inl (ty, vs) => Exa Z h a ("[" ++ ty.toString) ∧ ∃ c : Cell, Arr Z h a c ty ∧ c.slots = (vs.map (sh n)).toArray
  | .inr (t, vs) => Exa Z h a (lay t).1 ∧ vs.length = (lay t).2.length ∧ ∀ (k : Nat) (nd : String × String) (v : Value), (lay t).2[k]? = some nd → vs[k]? = some v → Fld Z h a (lay t).1 nd.1 nd.2 (sh n v)
def Sim (G : Gx) (H : List Obj) (h : Heap) : Prop := h.size = G.2.2.2 + H.length ∧ ∀ (i : Nat) (o : Obj), H[i]? = some o → ObjOk G.2.1 G.2.2.2 h (G.2.2.2 + i) o
def Done (G : Gx) (K : Kx) (rv : Option Value) (Hf : List Obj) (S0 : State) : Prop := match G, K with
  | (l, Z, a0, n), (p, e, R, s, m, args, below, meth, c, kc, ks) =>
    ∃ t o, Steps p.tables e below S0 t ∧ t.status = .running ∧ Ended t below o ∧ ∃ v L, o = .returned v ∧ (v = rv.map (sh n) ∧ Fr n L ∧ Sim (l, Z, a0, n) Hf t.heap ∧ s.heap.size + kc = n + Hf.length) ∧ FrameEnd s o t L kc ks
def Run (G : Gx) (K : Kx) (rv : Option Value) (Hf : List Obj) (pc : Nat) (Ls : List (Option Value)) (st : List Value) (H : List Obj) (cells slots : Nat) : Prop := match G, K with
  | (l, Z, a0, n), (p, e, R, s, m, args, below, meth, c, kc, ks) => ∀ T locs real, Stand p l e R s m args below meth c T locs cells slots → Fr n locs → Sim (l, Z, a0, n) H T.heap → s.heap.size + cells = n + H.length → Lrel n Ls real →
    Done (l, Z, a0, n) (p, e, R, s, m, args, below, meth, c, kc, ks) rv Hf (T.setTop (mkF m pc real (st.map (sh n))))
def Ok (G : Gx) (K : Kx) (own : String) (bytes : ByteArray) (maxL : Nat) (ret : Option FieldType) (R : Room) (mn : String) (kc ks : Nat) : Prop := match G, K with
  | (l, Z, a0, n), (p, e, R', s, m, args, below, meth, c, kc', ks') => p.tables.exec = Jvm.exec ∧ Z.Warmed39 s.vm ∧ s.vm.findClass own = some m.cls ∧ c.code = bytes ∧ c.maxLocals = maxL ∧ meth.sig.returnType = ret ∧ meth.locks = false ∧ R' = R ∧ meth.name = mn ∧ kc' = kc ∧ ks' = ks ∧ ∀ d ∈ tables_1, d.before a0 Z = true
def Con (G : Gx) (y : MethodName) (bytes : ByteArray) (maxL : Nat) (ret : Option FieldType) (rm : Room) (as : List Value) (H : List Obj) (rv : Option Value) (Hf : List Obj) : Prop := match G with
  | (l, Z, a0, n) => ∀ h0, Sim (l, Z, a0, n) H h0 → MetFree l y (head1 [Cond.code y bytes maxL ret] rm) (fun a U => a = (as.map (sh n)).toArray ∧ Z.Warmed39 U.vm ∧ U.heap = h0) (fun _ _ _ _ _ => True)
      (fun _ U o U' => ∃ v L, o = .returned v ∧ (v = rv.map (sh n) ∧ Fr n L ∧ Sim (l, Z, a0, n) Hf U'.heap ∧ Hf.length = H.length + rm.cells) ∧ FrameEnd U o U' L rm.cells rm.slots)
section Laws
variable {G : Gx} {K : Kx} {rv : Option Value} {Hf : List Obj} {pc pc' : Nat} {Ls Ls' : List (Option Value)} {st : List Value} {H : List Obj} {cells slots : Nat} {own : String} {bytes : ByteArray} {maxL : Nat} {ret : Option FieldType} {R : Room} {mn : String} {kc ks : Nat}
theorem Done.step {l : Launch} {Z : State} {a0 : Array Value} {n : Nat} {p : Program} {e : Env} {R : Room} {s : State} {m : MethodId} {args : Array Value} {below : List Frame} {meth : Method} {c : Code} {kc ks : Nat} {S0 S1 : State}
    (h : ∀ t, Steps p.tables e below S1 t → Steps p.tables e below S0 t) (k : Done (l, Z, a0, n) (p, e, R, s, m, args, below, meth, c, kc, ks) rv Hf S1) : Done (l, Z, a0, n) (p, e, R, s, m, args, below, meth, c, kc, ks) rv Hf S0 := by
  obtain ⟨t, o, h1, r⟩ := k
  exact ⟨t, o, h t h1, r⟩
theorem g_iconst {i : Int} {v : Int32} (O : Ok G K own bytes maxL ret R mn kc ks) (hd : decode bytes pc = .ok (.iconst i, 1)) (hv : Int32.ofInt i = v) (hp : pc + 1 = pc')
    (k : Run G K rv Hf pc' Ls (.int v :: st) H cells slots) : Run G K rv Hf pc Ls (st) H cells slots := by
  obtain ⟨l, Z, a0, n⟩ := G; obtain ⟨p, e, R', s, m, args, below, meth, c, kc', ks'⟩ := K
  obtain ⟨hx, hZ, hown, hby, hml, hret, hlk, rfl, hnm, rfl, rfl, hw⟩ := O
  subst hp
  intro T locs real X N S A L
  exact Done.step (fun t q => XT.iconstV X.here hx rfl v (hb hby hd) hv q) (k T locs real X N S A L)
theorem g_bipush {i : Int} {v : Int32} (O : Ok G K own bytes maxL ret R mn kc ks) (hd : decode bytes pc = .ok (.bipush i, 2)) (hv : (Int8.ofInt i).toInt32 = v) (hp : pc + 2 = pc')
    (k : Run G K rv Hf pc' Ls (.int v :: st) H cells slots) : Run G K rv Hf pc Ls (st) H cells slots := by
  obtain ⟨l, Z, a0, n⟩ := G; obtain ⟨p, e, R', s, m, args, below, meth, c, kc', ks'⟩ := K
  obtain ⟨hx, hZ, hown, hby, hml, hret, hlk, rfl, hnm, rfl, rfl, hw⟩ := O
  subst hp
  intro T locs real X N S A L
  exact Done.step (fun t q => XT.bipushV X.here hx rfl v (hb hby hd) hv q) (k T locs real X N S A L)
theorem g_sipush {i : Int} {v : Int32} (O : Ok G K own bytes maxL ret R mn kc ks) (hd : decode bytes pc = .ok (.sipush i, 3)) (hv : (Int16.ofInt i).toInt32 = v) (hp : pc + 3 = pc')
    (k : Run G K rv Hf pc' Ls (.int v :: st) H cells slots) : Run G K rv Hf pc Ls (st) H cells slots := by
  obtain ⟨l, Z, a0, n⟩ := G; obtain ⟨p, e, R', s, m, args, below, meth, c, kc', ks'⟩ := K
  obtain ⟨hx, hZ, hown, hby, hml, hret, hlk, rfl, hnm, rfl, rfl, hw⟩ := O
  subst hp
  intro T locs real X N S A L
  exact Done.step (fun t q => XT.sipushV X.here hx rfl v (hb hby hd) hv q) (k T locs real X N S A L)
theorem g_lconst {i : Fin 2} {v : Int64} (O : Ok G K own bytes maxL ret R mn kc ks) (hd : decode bytes pc = .ok (.lconst i, 1)) (hv : Int64.ofNat i = v) (hp : pc + 1 = pc')
    (k : Run G K rv Hf pc' Ls (.long v :: st) H cells slots) : Run G K rv Hf pc Ls (st) H cells slots := by
  obtain ⟨l, Z, a0, n⟩ := G; obtain ⟨p, e, R', s, m, args, below, meth, c, kc', ks'⟩ := K
  obtain ⟨hx, hZ, hown, hby, hml, hret, hlk, rfl, hnm, rfl, rfl, hw⟩ := O
  subst hp
  intro T locs real X N S A L
  exact Done.step (fun t q => XT.lconstV X.here hx rfl v (hb hby hd) hv q) (k T locs real X N S A L)
theorem g_iadd {x y : Int32} (O : Ok G K own bytes maxL ret R mn kc ks) (hd : decode bytes pc = .ok (.iadd, 1))  (hp : pc + 1 = pc')
    (k : Run G K rv Hf pc' Ls (.int (x + y) :: st) H cells slots) : Run G K rv Hf pc Ls (.int y :: .int x :: st) H cells slots := by
  obtain ⟨l, Z, a0, n⟩ := G; obtain ⟨p, e, R', s, m, args, below, meth, c, kc', ks'⟩ := K
  obtain ⟨hx, hZ, hown, hby, hml, hret, hlk, rfl, hnm, rfl, rfl, hw⟩ := O
  subst hp
  intro T locs real X N S A L
  exact Done.step (fun t q => XS.iadd X.here hx rfl (hb hby hd) rfl q) (k T locs real X N S A L)
theorem g_isub {x y : Int32} (O : Ok G K own bytes maxL ret R mn kc ks) (hd : decode bytes pc = .ok (.isub, 1))  (hp : pc + 1 = pc')
    (k : Run G K rv Hf pc' Ls (.int (x - y) :: st) H cells slots) : Run G K rv Hf pc Ls (.int y :: .int x :: st) H cells slots := by
  obtain ⟨l, Z, a0, n⟩ := G; obtain ⟨p, e, R', s, m, args, below, meth, c, kc', ks'⟩ := K
  obtain ⟨hx, hZ, hown, hby, hml, hret, hlk, rfl, hnm, rfl, rfl, hw⟩ := O
  subst hp
  intro T locs real X N S A L
  exact Done.step (fun t q => XS.isub X.here hx rfl (hb hby hd) rfl q) (k T locs real X N S A L)
theorem g_imul {x y : Int32} (O : Ok G K own bytes maxL ret R mn kc ks) (hd : decode bytes pc = .ok (.imul, 1))  (hp : pc + 1 = pc')
    (k : Run G K rv Hf pc' Ls (.int (x * y) :: st) H cells slots) : Run G K rv Hf pc Ls (.int y :: .int x :: st) H cells slots := by
  obtain ⟨l, Z, a0, n⟩ := G; obtain ⟨p, e, R', s, m, args, below, meth, c, kc', ks'⟩ := K
  obtain ⟨hx, hZ, hown, hby, hml, hret, hlk, rfl, hnm, rfl, rfl, hw⟩ := O
  subst hp
  intro T locs real X N S A L
  exact Done.step (fun t q => XS.imul X.here hx rfl (hb hby hd) rfl q) (k T locs real X N S A L)
theorem g_iand {x y : Int32} (O : Ok G K own bytes maxL ret R mn kc ks) (hd : decode bytes pc = .ok (.iand, 1))  (hp : pc + 1 = pc')
    (k : Run G K rv Hf pc' Ls (.int (x &&& y) :: st) H cells slots) : Run G K rv Hf pc Ls (.int y :: .int x :: st) H cells slots := by
  obtain ⟨l, Z, a0, n⟩ := G; obtain ⟨p, e, R', s, m, args, below, meth, c, kc', ks'⟩ := K
  obtain ⟨hx, hZ, hown, hby, hml, hret, hlk, rfl, hnm, rfl, rfl, hw⟩ := O
  subst hp
  intro T locs real X N S A L
  exact Done.step (fun t q => XS.iand X.here hx rfl (hb hby hd) rfl q) (k T locs real X N S A L)
theorem g_ior {x y : Int32} (O : Ok G K own bytes maxL ret R mn kc ks) (hd : decode bytes pc = .ok (.ior, 1))  (hp : pc + 1 = pc')
    (k : Run G K rv Hf pc' Ls (.int (x ||| y) :: st) H cells slots) : Run G K rv Hf pc Ls (.int y :: .int x :: st) H cells slots := by
  obtain ⟨l, Z, a0, n⟩ := G; obtain ⟨p, e, R', s, m, args, below, meth, c, kc', ks'⟩ := K
  obtain ⟨hx, hZ, hown, hby, hml, hret, hlk, rfl, hnm, rfl, rfl, hw⟩ := O
  subst hp
  intro T locs real X N S A L
  exact Done.step (fun t q => XT.ior X.here hx rfl (hb hby hd) rfl q) (k T locs real X N S A L)
theorem g_ixor {x y : Int32} (O : Ok G K own bytes maxL ret R mn kc ks) (hd : decode bytes pc = .ok (.ixor, 1))  (hp : pc + 1 = pc')
    (k : Run G K rv Hf pc' Ls (.int (x ^^^ y) :: st) H cells slots) : Run G K rv Hf pc Ls (.int y :: .int x :: st) H cells slots := by
  obtain ⟨l, Z, a0, n⟩ := G; obtain ⟨p, e, R', s, m, args, below, meth, c, kc', ks'⟩ := K
  obtain ⟨hx, hZ, hown, hby, hml, hret, hlk, rfl, hnm, rfl, rfl, hw⟩ := O
  subst hp
  intro T locs real X N S A L
  exact Done.step (fun t q => XT.ixor X.here hx rfl (hb hby hd) rfl q) (k T locs real X N S A L)
theorem g_ishl {x y : Int32} (O : Ok G K own bytes maxL ret R mn kc ks) (hd : decode bytes pc = .ok (.ishl, 1))  (hp : pc + 1 = pc')
    (k : Run G K rv Hf pc' Ls (.int (x <<< (y &&& 31)) :: st) H cells slots) : Run G K rv Hf pc Ls (.int y :: .int x :: st) H cells slots := by
  obtain ⟨l, Z, a0, n⟩ := G; obtain ⟨p, e, R', s, m, args, below, meth, c, kc', ks'⟩ := K
  obtain ⟨hx, hZ, hown, hby, hml, hret, hlk, rfl, hnm, rfl, rfl, hw⟩ := O
  subst hp
  intro T locs real X N S A L
  exact Done.step (fun t q => XT.ishl X.here hx rfl (hb hby hd) rfl q) (k T locs real X N S A L)
theorem g_ishr {x y : Int32} (O : Ok G K own bytes maxL ret R mn kc ks) (hd : decode bytes pc = .ok (.ishr, 1))  (hp : pc + 1 = pc')
    (k : Run G K rv Hf pc' Ls (.int (x >>> (y &&& 31)) :: st) H cells slots) : Run G K rv Hf pc Ls (.int y :: .int x :: st) H cells slots := by
  obtain ⟨l, Z, a0, n⟩ := G; obtain ⟨p, e, R', s, m, args, below, meth, c, kc', ks'⟩ := K
  obtain ⟨hx, hZ, hown, hby, hml, hret, hlk, rfl, hnm, rfl, rfl, hw⟩ := O
  subst hp
  intro T locs real X N S A L
  exact Done.step (fun t q => XT.ishr X.here hx rfl (hb hby hd) rfl q) (k T locs real X N S A L)
theorem g_iushr {x y : Int32} (O : Ok G K own bytes maxL ret R mn kc ks) (hd : decode bytes pc = .ok (.iushr, 1))  (hp : pc + 1 = pc')
    (k : Run G K rv Hf pc' Ls (.int (XT.ushr x y) :: st) H cells slots) : Run G K rv Hf pc Ls (.int y :: .int x :: st) H cells slots := by
  obtain ⟨l, Z, a0, n⟩ := G; obtain ⟨p, e, R', s, m, args, below, meth, c, kc', ks'⟩ := K
  obtain ⟨hx, hZ, hown, hby, hml, hret, hlk, rfl, hnm, rfl, rfl, hw⟩ := O
  subst hp
  intro T locs real X N S A L
  exact Done.step (fun t q => XT.iushr X.here hx rfl (hb hby hd) rfl q) (k T locs real X N S A L)
theorem g_ladd {x y : Int64} (O : Ok G K own bytes maxL ret R mn kc ks) (hd : decode bytes pc = .ok (.ladd, 1))  (hp : pc + 1 = pc')
    (k : Run G K rv Hf pc' Ls (.long (x + y) :: st) H cells slots) : Run G K rv Hf pc Ls (.long y :: .long x :: st) H cells slots := by
  obtain ⟨l, Z, a0, n⟩ := G; obtain ⟨p, e, R', s, m, args, below, meth, c, kc', ks'⟩ := K
  obtain ⟨hx, hZ, hown, hby, hml, hret, hlk, rfl, hnm, rfl, rfl, hw⟩ := O
  subst hp
  intro T locs real X N S A L
  exact Done.step (fun t q => XT.ladd X.here hx rfl (hb hby hd) rfl q) (k T locs real X N S A L)
theorem g_lsub {x y : Int64} (O : Ok G K own bytes maxL ret R mn kc ks) (hd : decode bytes pc = .ok (.lsub, 1))  (hp : pc + 1 = pc')
    (k : Run G K rv Hf pc' Ls (.long (x - y) :: st) H cells slots) : Run G K rv Hf pc Ls (.long y :: .long x :: st) H cells slots := by
  obtain ⟨l, Z, a0, n⟩ := G; obtain ⟨p, e, R', s, m, args, below, meth, c, kc', ks'⟩ := K
  obtain ⟨hx, hZ, hown, hby, hml, hret, hlk, rfl, hnm, rfl, rfl, hw⟩ := O
  subst hp
  intro T locs real X N S A L
  exact Done.step (fun t q => XT.lsub X.here hx rfl (hb hby hd) rfl q) (k T locs real X N S A L)
theorem g_lmul {x y : Int64} (O : Ok G K own bytes maxL ret R mn kc ks) (hd : decode bytes pc = .ok (.lmul, 1))  (hp : pc + 1 = pc')
    (k : Run G K rv Hf pc' Ls (.long (x * y) :: st) H cells slots) : Run G K rv Hf pc Ls (.long y :: .long x :: st) H cells slots := by
  obtain ⟨l, Z, a0, n⟩ := G; obtain ⟨p, e, R', s, m, args, below, meth, c, kc', ks'⟩ := K
  obtain ⟨hx, hZ, hown, hby, hml, hret, hlk, rfl, hnm, rfl, rfl, hw⟩ := O
  subst hp
  intro T locs real X N S A L
  exact Done.step (fun t q => XT.lmul X.here hx rfl (hb hby hd) rfl q) (k T locs real X N S A L)
theorem g_land {x y : Int64} (O : Ok G K own bytes maxL ret R mn kc ks) (hd : decode bytes pc = .ok (.land, 1))  (hp : pc + 1 = pc')
    (k : Run G K rv Hf pc' Ls (.long (x &&& y) :: st) H cells slots) : Run G K rv Hf pc Ls (.long y :: .long x :: st) H cells slots := by
  obtain ⟨l, Z, a0, n⟩ := G; obtain ⟨p, e, R', s, m, args, below, meth, c, kc', ks'⟩ := K
  obtain ⟨hx, hZ, hown, hby, hml, hret, hlk, rfl, hnm, rfl, rfl, hw⟩ := O
  subst hp
  intro T locs real X N S A L
  exact Done.step (fun t q => XT.land X.here hx rfl (hb hby hd) rfl q) (k T locs real X N S A L)
theorem g_lor {x y : Int64} (O : Ok G K own bytes maxL ret R mn kc ks) (hd : decode bytes pc = .ok (.lor, 1))  (hp : pc + 1 = pc')
    (k : Run G K rv Hf pc' Ls (.long (x ||| y) :: st) H cells slots) : Run G K rv Hf pc Ls (.long y :: .long x :: st) H cells slots := by
  obtain ⟨l, Z, a0, n⟩ := G; obtain ⟨p, e, R', s, m, args, below, meth, c, kc', ks'⟩ := K
  obtain ⟨hx, hZ, hown, hby, hml, hret, hlk, rfl, hnm, rfl, rfl, hw⟩ := O
  subst hp
  intro T locs real X N S A L
  exact Done.step (fun t q => XT.lor X.here hx rfl (hb hby hd) rfl q) (k T locs real X N S A L)
theorem g_lxor {x y : Int64} (O : Ok G K own bytes maxL ret R mn kc ks) (hd : decode bytes pc = .ok (.lxor, 1))  (hp : pc + 1 = pc')
    (k : Run G K rv Hf pc' Ls (.long (x ^^^ y) :: st) H cells slots) : Run G K rv Hf pc Ls (.long y :: .long x :: st) H cells slots := by
  obtain ⟨l, Z, a0, n⟩ := G; obtain ⟨p, e, R', s, m, args, below, meth, c, kc', ks'⟩ := K
  obtain ⟨hx, hZ, hown, hby, hml, hret, hlk, rfl, hnm, rfl, rfl, hw⟩ := O
  subst hp
  intro T locs real X N S A L
  exact Done.step (fun t q => XT.lxor X.here hx rfl (hb hby hd) rfl q) (k T locs real X N S A L)
theorem g_lshl {x : Int64} {y : Int32} (O : Ok G K own bytes maxL ret R mn kc ks) (hd : decode bytes pc = .ok (.lshl, 1))  (hp : pc + 1 = pc')
    (k : Run G K rv Hf pc' Ls (.long (x <<< (y.toInt64 &&& 63)) :: st) H cells slots) : Run G K rv Hf pc Ls (.int y :: .long x :: st) H cells slots := by
  obtain ⟨l, Z, a0, n⟩ := G; obtain ⟨p, e, R', s, m, args, below, meth, c, kc', ks'⟩ := K
  obtain ⟨hx, hZ, hown, hby, hml, hret, hlk, rfl, hnm, rfl, rfl, hw⟩ := O
  subst hp
  intro T locs real X N S A L
  exact Done.step (fun t q => XT.lshl X.here hx rfl (hb hby hd) rfl q) (k T locs real X N S A L)
theorem g_lshr {x : Int64} {y : Int32} (O : Ok G K own bytes maxL ret R mn kc ks) (hd : decode bytes pc = .ok (.lshr, 1))  (hp : pc + 1 = pc')
    (k : Run G K rv Hf pc' Ls (.long (x >>> (y.toInt64 &&& 63)) :: st) H cells slots) : Run G K rv Hf pc Ls (.int y :: .long x :: st) H cells slots := by
  obtain ⟨l, Z, a0, n⟩ := G; obtain ⟨p, e, R', s, m, args, below, meth, c, kc', ks'⟩ := K
  obtain ⟨hx, hZ, hown, hby, hml, hret, hlk, rfl, hnm, rfl, rfl, hw⟩ := O
  subst hp
  intro T locs real X N S A L
  exact Done.step (fun t q => XT.lshr X.here hx rfl (hb hby hd) rfl q) (k T locs real X N S A L)
theorem g_lushr {x : Int64} {y : Int32} (O : Ok G K own bytes maxL ret R mn kc ks) (hd : decode bytes pc = .ok (.lushr, 1))  (hp : pc + 1 = pc')
    (k : Run G K rv Hf pc' Ls (.long (XT.ushrL x y) :: st) H cells slots) : Run G K rv Hf pc Ls (.int y :: .long x :: st) H cells slots := by
  obtain ⟨l, Z, a0, n⟩ := G; obtain ⟨p, e, R', s, m, args, below, meth, c, kc', ks'⟩ := K
  obtain ⟨hx, hZ, hown, hby, hml, hret, hlk, rfl, hnm, rfl, rfl, hw⟩ := O
  subst hp
  intro T locs real X N S A L
  exact Done.step (fun t q => XT.lushr X.here hx rfl (hb hby hd) rfl q) (k T locs real X N S A L)
theorem g_idiv {x y : Int32} (O : Ok G K own bytes maxL ret R mn kc ks) (hd : decode bytes pc = .ok (.idiv, 1)) (hy : y ≠ 0) (hp : pc + 1 = pc')
    (k : Run G K rv Hf pc' Ls (.int (x / y) :: st) H cells slots) : Run G K rv Hf pc Ls (.int y :: .int x :: st) H cells slots := by
  obtain ⟨l, Z, a0, n⟩ := G; obtain ⟨p, e, R', s, m, args, below, meth, c, kc', ks'⟩ := K
  obtain ⟨hx, hZ, hown, hby, hml, hret, hlk, rfl, hnm, rfl, rfl, hw⟩ := O
  subst hp
  intro T locs real X N S A L
  exact Done.step (fun t q => XS.idiv X.here hx rfl (hb hby hd) rfl hy q) (k T locs real X N S A L)
theorem g_irem {x y : Int32} (O : Ok G K own bytes maxL ret R mn kc ks) (hd : decode bytes pc = .ok (.irem, 1)) (hy : y ≠ 0) (hp : pc + 1 = pc')
    (k : Run G K rv Hf pc' Ls (.int (x % y) :: st) H cells slots) : Run G K rv Hf pc Ls (.int y :: .int x :: st) H cells slots := by
  obtain ⟨l, Z, a0, n⟩ := G; obtain ⟨p, e, R', s, m, args, below, meth, c, kc', ks'⟩ := K
  obtain ⟨hx, hZ, hown, hby, hml, hret, hlk, rfl, hnm, rfl, rfl, hw⟩ := O
  subst hp
  intro T locs real X N S A L
  exact Done.step (fun t q => iremM X hx rfl (hb hby hd) rfl hy q) (k T locs real X N S A L)
theorem g_ldiv {x y : Int64} (O : Ok G K own bytes maxL ret R mn kc ks) (hd : decode bytes pc = .ok (.ldiv, 1)) (hy : y ≠ 0) (hp : pc + 1 = pc')
    (k : Run G K rv Hf pc' Ls (.long (x / y) :: st) H cells slots) : Run G K rv Hf pc Ls (.long y :: .long x :: st) H cells slots := by
  obtain ⟨l, Z, a0, n⟩ := G; obtain ⟨p, e, R', s, m, args, below, meth, c, kc', ks'⟩ := K
  obtain ⟨hx, hZ, hown, hby, hml, hret, hlk, rfl, hnm, rfl, rfl, hw⟩ := O
  subst hp
  intro T locs real X N S A L
  exact Done.step (fun t q => XT.ldiv X.here hx rfl (hb hby hd) rfl hy q) (k T locs real X N S A L)
theorem g_lrem {x y : Int64} (O : Ok G K own bytes maxL ret R mn kc ks) (hd : decode bytes pc = .ok (.lrem, 1)) (hy : y ≠ 0) (hp : pc + 1 = pc')
    (k : Run G K rv Hf pc' Ls (.long (x % y) :: st) H cells slots) : Run G K rv Hf pc Ls (.long y :: .long x :: st) H cells slots := by
  obtain ⟨l, Z, a0, n⟩ := G; obtain ⟨p, e, R', s, m, args, below, meth, c, kc', ks'⟩ := K
  obtain ⟨hx, hZ, hown, hby, hml, hret, hlk, rfl, hnm, rfl, rfl, hw⟩ := O
  subst hp
  intro T locs real X N S A L
  exact Done.step (fun t q => XT.lrem X.here hx rfl (hb hby hd) rfl hy (by rw [lrem_mod]; exact q)) (k T locs real X N S A L)
theorem g_i2l {x : Int32} (O : Ok G K own bytes maxL ret R mn kc ks) (hd : decode bytes pc = .ok (.i2l, 1))  (hp : pc + 1 = pc')
    (k : Run G K rv Hf pc' Ls (.long x.toInt64 :: st) H cells slots) : Run G K rv Hf pc Ls (.int x :: st) H cells slots := by
  obtain ⟨l, Z, a0, n⟩ := G; obtain ⟨p, e, R', s, m, args, below, meth, c, kc', ks'⟩ := K
  obtain ⟨hx, hZ, hown, hby, hml, hret, hlk, rfl, hnm, rfl, rfl, hw⟩ := O
  subst hp
  intro T locs real X N S A L
  exact Done.step (fun t q => XT.i2l X.here hx rfl (hb hby hd) rfl q) (k T locs real X N S A L)
theorem g_l2i {x : Int64} (O : Ok G K own bytes maxL ret R mn kc ks) (hd : decode bytes pc = .ok (.l2i, 1))  (hp : pc + 1 = pc')
    (k : Run G K rv Hf pc' Ls (.int x.toInt32 :: st) H cells slots) : Run G K rv Hf pc Ls (.long x :: st) H cells slots := by
  obtain ⟨l, Z, a0, n⟩ := G; obtain ⟨p, e, R', s, m, args, below, meth, c, kc', ks'⟩ := K
  obtain ⟨hx, hZ, hown, hby, hml, hret, hlk, rfl, hnm, rfl, rfl, hw⟩ := O
  subst hp
  intro T locs real X N S A L
  exact Done.step (fun t q => XT.l2i X.here hx rfl (hb hby hd) rfl q) (k T locs real X N S A L)
theorem g_i2b {x : Int32} (O : Ok G K own bytes maxL ret R mn kc ks) (hd : decode bytes pc = .ok (.i2b, 1))  (hp : pc + 1 = pc')
    (k : Run G K rv Hf pc' Ls (.int x.toInt8.toInt32 :: st) H cells slots) : Run G K rv Hf pc Ls (.int x :: st) H cells slots := by
  obtain ⟨l, Z, a0, n⟩ := G; obtain ⟨p, e, R', s, m, args, below, meth, c, kc', ks'⟩ := K
  obtain ⟨hx, hZ, hown, hby, hml, hret, hlk, rfl, hnm, rfl, rfl, hw⟩ := O
  subst hp
  intro T locs real X N S A L
  exact Done.step (fun t q => XT.i2b X.here hx rfl (hb hby hd) rfl q) (k T locs real X N S A L)
theorem g_i2c {x : Int32} (O : Ok G K own bytes maxL ret R mn kc ks) (hd : decode bytes pc = .ok (.i2c, 1))  (hp : pc + 1 = pc')
    (k : Run G K rv Hf pc' Ls (.int x.toUInt32.toUInt16.toUInt32.toInt32 :: st) H cells slots) : Run G K rv Hf pc Ls (.int x :: st) H cells slots := by
  obtain ⟨l, Z, a0, n⟩ := G; obtain ⟨p, e, R', s, m, args, below, meth, c, kc', ks'⟩ := K
  obtain ⟨hx, hZ, hown, hby, hml, hret, hlk, rfl, hnm, rfl, rfl, hw⟩ := O
  subst hp
  intro T locs real X N S A L
  exact Done.step (fun t q => XT.i2c X.here hx rfl (hb hby hd) rfl q) (k T locs real X N S A L)
theorem g_dup {x : Value} (O : Ok G K own bytes maxL ret R mn kc ks) (hd : decode bytes pc = .ok (.dup, 1)) (hc : x.category = 1) (hp : pc + 1 = pc')
    (k : Run G K rv Hf pc' Ls (x :: x :: st) H cells slots) : Run G K rv Hf pc Ls (x :: st) H cells slots := by
  obtain ⟨l, Z, a0, n⟩ := G; obtain ⟨p, e, R', s, m, args, below, meth, c, kc', ks'⟩ := K
  obtain ⟨hx, hZ, hown, hby, hml, hret, hlk, rfl, hnm, rfl, rfl, hw⟩ := O
  subst hp
  intro T locs real X N S A L
  exact Done.step (fun t q => XS.dup X.here hx rfl (hb hby hd) rfl ((sh_cat n x).trans hc) q) (k T locs real X N S A L)
theorem g_dup_x1 {x y : Value} (O : Ok G K own bytes maxL ret R mn kc ks) (hd : decode bytes pc = .ok (.dup_x1, 1)) (hc : x.category = 1) (hc' : y.category = 1) (hp : pc + 1 = pc')
    (k : Run G K rv Hf pc' Ls (x :: y :: x :: st) H cells slots) : Run G K rv Hf pc Ls (x :: y :: st) H cells slots := by
  obtain ⟨l, Z, a0, n⟩ := G; obtain ⟨p, e, R', s, m, args, below, meth, c, kc', ks'⟩ := K
  obtain ⟨hx, hZ, hown, hby, hml, hret, hlk, rfl, hnm, rfl, rfl, hw⟩ := O
  subst hp
  intro T locs real X N S A L
  exact Done.step (fun t q => XT.dupX1 X.here hx rfl (hb hby hd) rfl ((sh_cat n x).trans hc) ((sh_cat n y).trans hc') q) (k T locs real X N S A L)
theorem g_pop {x : Value} (O : Ok G K own bytes maxL ret R mn kc ks) (hd : decode bytes pc = .ok (.pop, 1)) (hc : x.category = 1) (hp : pc + 1 = pc')
    (k : Run G K rv Hf pc' Ls (st) H cells slots) : Run G K rv Hf pc Ls (x :: st) H cells slots := by
  obtain ⟨l, Z, a0, n⟩ := G; obtain ⟨p, e, R', s, m, args, below, meth, c, kc', ks'⟩ := K
  obtain ⟨hx, hZ, hown, hby, hml, hret, hlk, rfl, hnm, rfl, rfl, hw⟩ := O
  subst hp
  intro T locs real X N S A L
  exact Done.step (fun t q => XT.pop X.here hx rfl (hb hby hd) rfl ((sh_cat n x).trans hc) q) (k T locs real X N S A L)
theorem g_iload {j : Nat} {v : Int32} (O : Ok G K own bytes maxL ret R mn kc ks) (hd : decode bytes pc = .ok (.iload j, 2)) (hl : Ls[j]? = some (some (.int v))) (hp : pc + 2 = pc')
    (k : Run G K rv Hf pc' Ls (.int v :: st) H cells slots) : Run G K rv Hf pc Ls st H cells slots := by
  obtain ⟨l, Z, a0, n⟩ := G; obtain ⟨p, e, R', s, m, args, below, meth, c, kc', ks'⟩ := K
  obtain ⟨hx, hZ, hown, hby, hml, hret, hlk, rfl, hnm, rfl, rfl, hw⟩ := O
  subst hp
  intro T locs real X N S A L
  exact Done.step (fun t q => XS.iload X.here hx rfl (hb hby hd) (L.2.2 _ _ hl) q) (k T locs real X N S A L)
theorem g_iload_n {j : Fin 4} {v : Int32} (O : Ok G K own bytes maxL ret R mn kc ks) (hd : decode bytes pc = .ok (.iload_n j, 1)) (hl : Ls[j.val]? = some (some (.int v))) (hp : pc + 1 = pc')
    (k : Run G K rv Hf pc' Ls (.int v :: st) H cells slots) : Run G K rv Hf pc Ls st H cells slots := by
  obtain ⟨l, Z, a0, n⟩ := G; obtain ⟨p, e, R', s, m, args, below, meth, c, kc', ks'⟩ := K
  obtain ⟨hx, hZ, hown, hby, hml, hret, hlk, rfl, hnm, rfl, rfl, hw⟩ := O
  subst hp
  intro T locs real X N S A L
  exact Done.step (fun t q => XS.iloadN X.here hx rfl (hb hby hd) (L.2.2 _ _ hl) q) (k T locs real X N S A L)
theorem g_lload {j : Nat} {v : Int64} (O : Ok G K own bytes maxL ret R mn kc ks) (hd : decode bytes pc = .ok (.lload j, 2)) (hl : Ls[j]? = some (some (.long v))) (hp : pc + 2 = pc')
    (k : Run G K rv Hf pc' Ls (.long v :: st) H cells slots) : Run G K rv Hf pc Ls st H cells slots := by
  obtain ⟨l, Z, a0, n⟩ := G; obtain ⟨p, e, R', s, m, args, below, meth, c, kc', ks'⟩ := K
  obtain ⟨hx, hZ, hown, hby, hml, hret, hlk, rfl, hnm, rfl, rfl, hw⟩ := O
  subst hp
  intro T locs real X N S A L
  exact Done.step (fun t q => XT.lload X.here hx rfl (hb hby hd) (L.2.2 _ _ hl) q) (k T locs real X N S A L)
theorem g_lload_n {j : Fin 4} {v : Int64} (O : Ok G K own bytes maxL ret R mn kc ks) (hd : decode bytes pc = .ok (.lload_n j, 1)) (hl : Ls[j.val]? = some (some (.long v))) (hp : pc + 1 = pc')
    (k : Run G K rv Hf pc' Ls (.long v :: st) H cells slots) : Run G K rv Hf pc Ls st H cells slots := by
  obtain ⟨l, Z, a0, n⟩ := G; obtain ⟨p, e, R', s, m, args, below, meth, c, kc', ks'⟩ := K
  obtain ⟨hx, hZ, hown, hby, hml, hret, hlk, rfl, hnm, rfl, rfl, hw⟩ := O
  subst hp
  intro T locs real X N S A L
  exact Done.step (fun t q => XT.lloadN X.here hx rfl (hb hby hd) (L.2.2 _ _ hl) q) (k T locs real X N S A L)
theorem g_aload {j : Nat} {v : Nat} (O : Ok G K own bytes maxL ret R mn kc ks) (hd : decode bytes pc = .ok (.aload j, 2)) (hl : Ls[j]? = some (some (.ref v))) (hp : pc + 2 = pc')
    (k : Run G K rv Hf pc' Ls (.ref v :: st) H cells slots) : Run G K rv Hf pc Ls st H cells slots := by
  obtain ⟨l, Z, a0, n⟩ := G; obtain ⟨p, e, R', s, m, args, below, meth, c, kc', ks'⟩ := K
  obtain ⟨hx, hZ, hown, hby, hml, hret, hlk, rfl, hnm, rfl, rfl, hw⟩ := O
  subst hp
  intro T locs real X N S A L
  exact Done.step (fun t q => XS.aload X.here hx rfl (hb hby hd) (L.2.2 _ _ hl) rfl q) (k T locs real X N S A L)
theorem g_aload_n {j : Fin 4} {v : Nat} (O : Ok G K own bytes maxL ret R mn kc ks) (hd : decode bytes pc = .ok (.aload_n j, 1)) (hl : Ls[j.val]? = some (some (.ref v))) (hp : pc + 1 = pc')
    (k : Run G K rv Hf pc' Ls (.ref v :: st) H cells slots) : Run G K rv Hf pc Ls st H cells slots := by
  obtain ⟨l, Z, a0, n⟩ := G; obtain ⟨p, e, R', s, m, args, below, meth, c, kc', ks'⟩ := K
  obtain ⟨hx, hZ, hown, hby, hml, hret, hlk, rfl, hnm, rfl, rfl, hw⟩ := O
  subst hp
  intro T locs real X N S A L
  exact Done.step (fun t q => XS.aloadN X.here hx rfl (hb hby hd) (L.2.2 _ _ hl) rfl q) (k T locs real X N S A L)
theorem g_istore {j : Nat} {v : Int32} (O : Ok G K own bytes maxL ret R mn kc ks) (hd : decode bytes pc = .ok (.istore j, 2)) (hl : stor Ls j (.int v) = some Ls') (hp : pc + 2 = pc')
    (k : Run G K rv Hf pc' Ls' st H cells slots) : Run G K rv Hf pc Ls (.int v :: st) H cells slots := by
  obtain ⟨l, Z, a0, n⟩ := G; obtain ⟨p, e, R', s, m, args, below, meth, c, kc', ks'⟩ := K
  obtain ⟨hx, hZ, hown, hby, hml, hret, hlk, rfl, hnm, rfl, rfl, hw⟩ := O
  subst hp
  intro T locs real X N S A L
  obtain ⟨real', e1, L'⟩ := store_1 L rfl hl
  exact Done.step (fun t q => XS.istore X.here hx rfl (hb hby hd) rfl e1 q) (k T locs real' X N S A L')
theorem g_istore_n {j : Fin 4} {v : Int32} (O : Ok G K own bytes maxL ret R mn kc ks) (hd : decode bytes pc = .ok (.istore_n j, 1)) (hl : stor Ls j.val (.int v) = some Ls') (hp : pc + 1 = pc')
    (k : Run G K rv Hf pc' Ls' st H cells slots) : Run G K rv Hf pc Ls (.int v :: st) H cells slots := by
  obtain ⟨l, Z, a0, n⟩ := G; obtain ⟨p, e, R', s, m, args, below, meth, c, kc', ks'⟩ := K
  obtain ⟨hx, hZ, hown, hby, hml, hret, hlk, rfl, hnm, rfl, rfl, hw⟩ := O
  subst hp
  intro T locs real X N S A L
  obtain ⟨real', e1, L'⟩ := store_1 L rfl hl
  exact Done.step (fun t q => XS.istoreN X.here hx rfl (hb hby hd) rfl e1 q) (k T locs real' X N S A L')
theorem g_lstore {j : Nat} {v : Int64} (O : Ok G K own bytes maxL ret R mn kc ks) (hd : decode bytes pc = .ok (.lstore j, 2)) (hl : stor Ls j (.long v) = some Ls') (hp : pc + 2 = pc')
    (k : Run G K rv Hf pc' Ls' st H cells slots) : Run G K rv Hf pc Ls (.long v :: st) H cells slots := by
  obtain ⟨l, Z, a0, n⟩ := G; obtain ⟨p, e, R', s, m, args, below, meth, c, kc', ks'⟩ := K
  obtain ⟨hx, hZ, hown, hby, hml, hret, hlk, rfl, hnm, rfl, rfl, hw⟩ := O
  subst hp
  intro T locs real X N S A L
  obtain ⟨real', e1, L'⟩ := store_2 L rfl hl
  exact Done.step (fun t q => XT.lstore X.here hx rfl (hb hby hd) rfl e1 q) (k T locs real' X N S A L')
theorem g_lstore_n {j : Fin 4} {v : Int64} (O : Ok G K own bytes maxL ret R mn kc ks) (hd : decode bytes pc = .ok (.lstore_n j, 1)) (hl : stor Ls j.val (.long v) = some Ls') (hp : pc + 1 = pc')
    (k : Run G K rv Hf pc' Ls' st H cells slots) : Run G K rv Hf pc Ls (.long v :: st) H cells slots := by
  obtain ⟨l, Z, a0, n⟩ := G; obtain ⟨p, e, R', s, m, args, below, meth, c, kc', ks'⟩ := K
  obtain ⟨hx, hZ, hown, hby, hml, hret, hlk, rfl, hnm, rfl, rfl, hw⟩ := O
  subst hp
  intro T locs real X N S A L
  obtain ⟨real', e1, L'⟩ := store_2 L rfl hl
  exact Done.step (fun t q => XT.lstoreN X.here hx rfl (hb hby hd) rfl e1 q) (k T locs real' X N S A L')
theorem g_astore {j : Nat} {v : Nat} (O : Ok G K own bytes maxL ret R mn kc ks) (hd : decode bytes pc = .ok (.astore j, 2)) (hl : stor Ls j (.ref v) = some Ls') (hp : pc + 2 = pc')
    (k : Run G K rv Hf pc' Ls' st H cells slots) : Run G K rv Hf pc Ls (.ref v :: st) H cells slots := by
  obtain ⟨l, Z, a0, n⟩ := G; obtain ⟨p, e, R', s, m, args, below, meth, c, kc', ks'⟩ := K
  obtain ⟨hx, hZ, hown, hby, hml, hret, hlk, rfl, hnm, rfl, rfl, hw⟩ := O
  subst hp
  intro T locs real X N S A L
  obtain ⟨real', e1, L'⟩ := store_1 L rfl hl
  exact Done.step (fun t q => XS.astore X.here hx rfl (hb hby hd) rfl rfl e1 q) (k T locs real' X N S A L')
theorem g_astore_n {j : Fin 4} {v : Nat} (O : Ok G K own bytes maxL ret R mn kc ks) (hd : decode bytes pc = .ok (.astore_n j, 1)) (hl : stor Ls j.val (.ref v) = some Ls') (hp : pc + 1 = pc')
    (k : Run G K rv Hf pc' Ls' st H cells slots) : Run G K rv Hf pc Ls (.ref v :: st) H cells slots := by
  obtain ⟨l, Z, a0, n⟩ := G; obtain ⟨p, e, R', s, m, args, below, meth, c, kc', ks'⟩ := K
  obtain ⟨hx, hZ, hown, hby, hml, hret, hlk, rfl, hnm, rfl, rfl, hw⟩ := O
  subst hp
  intro T locs real X N S A L
  obtain ⟨real', e1, L'⟩ := store_1 L rfl hl
  exact Done.step (fun t q => XS.astoreN X.here hx rfl (hb hby hd) rfl rfl e1 q) (k T locs real' X N S A L')
theorem g_iinc {j : Nat} {i : Int} {v w : Int32} (O : Ok G K own bytes maxL ret R mn kc ks) (hd : decode bytes pc = .ok (.iinc j i, 3)) (hv : Int32.ofInt i = w) (hg : Ls[j]? = some (some (.int v))) (hl : stor Ls j (.int (v + w)) = some Ls') (hp : pc + 3 = pc')
    (k : Run G K rv Hf pc' Ls' st H cells slots) : Run G K rv Hf pc Ls st H cells slots := by
  obtain ⟨l, Z, a0, n⟩ := G; obtain ⟨p, e, R', s, m, args, below, meth, c, kc', ks'⟩ := K
  obtain ⟨hx, hZ, hown, hby, hml, hret, hlk, rfl, hnm, rfl, rfl, hw⟩ := O
  subst hp
  intro T locs real X N S A L
  obtain ⟨real', e1, L'⟩ := store_1 L rfl hl
  exact Done.step (fun t q => XT.iincV X.here hx rfl w (hb hby hd) hv (L.2.2 _ _ hg) e1 q) (k T locs real' X N S A L')
theorem g_goto {o : Int} (O : Ok G K own bytes maxL ret R mn kc ks) (hd : decode bytes pc = .ok (.goto o, 3)) (ho : 0 ≤ (pc : Int) + o) (hp : ((pc : Int) + o).toNat = pc')
    (k : Run G K rv Hf pc' Ls st H cells slots) : Run G K rv Hf pc Ls st H cells slots := by
  obtain ⟨l, Z, a0, n⟩ := G; obtain ⟨p, e, R', s, m, args, below, meth, c, kc', ks'⟩ := K
  obtain ⟨hx, hZ, hown, hby, hml, hret, hlk, rfl, hnm, rfl, rfl, hw⟩ := O
  intro T locs real X N S A L
  exact Done.step (fun t q => XS.goto X.here hx rfl (pc0 := pc) rfl (hb hby hd) ho hp q) (k T locs real X N S A L)
theorem g_icmp_eq {x y : Int32} {o : Int} {pc1 : Nat} (O : Ok G K own bytes maxL ret R mn kc ks) (hd : decode bytes pc = .ok (.if_icmp .eq o, 3)) (hp : pc + 3 = pc') (ho : 0 ≤ (pc : Int) + o) (ht : ((pc : Int) + o).toNat = pc1)
    (kt : x = y → Run G K rv Hf pc1 Ls st H cells slots) (kf : ¬ x = y → Run G K rv Hf pc' Ls st H cells slots) : Run G K rv Hf pc Ls (.int y :: .int x :: st) H cells slots := by
  obtain ⟨l, Z, a0, n⟩ := G; obtain ⟨p, e, R', s, m, args, below, meth, c, kc', ks'⟩ := K
  obtain ⟨hx, hZ, hown, hby, hml, hret, hlk, rfl, hnm, rfl, rfl, hw⟩ := O
  subst hp
  intro T locs real X N S A L
  by_cases h : x = y
  · exact Done.step (fun t q => XS.icmpYes X.here hx rfl (pc0 := pc) rfl (hb hby hd) rfl (XT.ii_eq_t h) ho ht q) (kt h T locs real X N S A L)
  · exact Done.step (fun t q => XS.icmpNo X.here hx rfl (hb hby hd) rfl (XT.ii_eq_f h) q) (kf h T locs real X N S A L)
theorem g_if_eq {x : Int32} {o : Int} {pc1 : Nat} (O : Ok G K own bytes maxL ret R mn kc ks) (hd : decode bytes pc = .ok (.ifCond .eq o, 3)) (hp : pc + 3 = pc') (ho : 0 ≤ (pc : Int) + o) (ht : ((pc : Int) + o).toNat = pc1)
    (kt : x = 0 → Run G K rv Hf pc1 Ls st H cells slots) (kf : ¬ x = 0 → Run G K rv Hf pc' Ls st H cells slots) : Run G K rv Hf pc Ls (.int x :: st) H cells slots := by
  obtain ⟨l, Z, a0, n⟩ := G; obtain ⟨p, e, R', s, m, args, below, meth, c, kc', ks'⟩ := K
  obtain ⟨hx, hZ, hown, hby, hml, hret, hlk, rfl, hnm, rfl, rfl, hw⟩ := O
  subst hp
  intro T locs real X N S A L
  by_cases h : x = 0
  · exact Done.step (fun t q => XS.ifYes X.here hx rfl (pc0 := pc) rfl (hb hby hd) rfl (XT.i0_eq_t h) ho ht q) (kt h T locs real X N S A L)
  · exact Done.step (fun t q => XS.ifNo X.here hx rfl (hb hby hd) rfl (XT.i0_eq_f h) q) (kf h T locs real X N S A L)
theorem g_lcmp_eq {x y : Int64} {pq : Nat} {o : Int} {pc1 : Nat} (O : Ok G K own bytes maxL ret R mn kc ks) (hd0 : decode bytes pc = .ok (.lcmp, 1)) (hq : pc + 1 = pq) (hd : decode bytes pq = .ok (.ifCond .eq o, 3)) (hp : pq + 3 = pc') (ho : 0 ≤ (pq : Int) + o) (ht : ((pq : Int) + o).toNat = pc1)
    (kt : x = y → Run G K rv Hf pc1 Ls st H cells slots) (kf : ¬ x = y → Run G K rv Hf pc' Ls st H cells slots) : Run G K rv Hf pc Ls (.long y :: .long x :: st) H cells slots := by
  obtain ⟨l, Z, a0, n⟩ := G; obtain ⟨p, e, R', s, m, args, below, meth, c, kc', ks'⟩ := K
  obtain ⟨hx, hZ, hown, hby, hml, hret, hlk, rfl, hnm, rfl, rfl, hw⟩ := O
  subst hq
  subst hp
  intro T locs real X N S A L
  by_cases h : x = y
  · exact Done.step (fun t q => XT.lcmp X.here hx rfl (hb hby hd0) rfl (XS.ifYes X.here hx rfl (pc0 := pc + 1) rfl (hb hby hd) rfl (XT.ll_eq_t h) ho ht q)) (kt h T locs real X N S A L)
  · exact Done.step (fun t q => XT.lcmp X.here hx rfl (hb hby hd0) rfl (XS.ifNo X.here hx rfl (hb hby hd) rfl (XT.ll_eq_f h) q)) (kf h T locs real X N S A L)
theorem g_icmp_ne {x y : Int32} {o : Int} {pc1 : Nat} (O : Ok G K own bytes maxL ret R mn kc ks) (hd : decode bytes pc = .ok (.if_icmp .ne o, 3)) (hp : pc + 3 = pc') (ho : 0 ≤ (pc : Int) + o) (ht : ((pc : Int) + o).toNat = pc1)
    (kt : ¬ x = y → Run G K rv Hf pc1 Ls st H cells slots) (kf : x = y → Run G K rv Hf pc' Ls st H cells slots) : Run G K rv Hf pc Ls (.int y :: .int x :: st) H cells slots := by
  obtain ⟨l, Z, a0, n⟩ := G; obtain ⟨p, e, R', s, m, args, below, meth, c, kc', ks'⟩ := K
  obtain ⟨hx, hZ, hown, hby, hml, hret, hlk, rfl, hnm, rfl, rfl, hw⟩ := O
  subst hp
  intro T locs real X N S A L
  by_cases h : x = y
  · exact Done.step (fun t q => XS.icmpNo X.here hx rfl (hb hby hd) rfl (XT.ii_ne_f h) q) (kf h T locs real X N S A L)
  · exact Done.step (fun t q => XS.icmpYes X.here hx rfl (pc0 := pc) rfl (hb hby hd) rfl (XT.ii_ne_t h) ho ht q) (kt h T locs real X N S A L)
theorem g_if_ne {x : Int32} {o : Int} {pc1 : Nat} (O : Ok G K own bytes maxL ret R mn kc ks) (hd : decode bytes pc = .ok (.ifCond .ne o, 3)) (hp : pc + 3 = pc') (ho : 0 ≤ (pc : Int) + o) (ht : ((pc : Int) + o).toNat = pc1)
    (kt : ¬ x = 0 → Run G K rv Hf pc1 Ls st H cells slots) (kf : x = 0 → Run G K rv Hf pc' Ls st H cells slots) : Run G K rv Hf pc Ls (.int x :: st) H cells slots := by
  obtain ⟨l, Z, a0, n⟩ := G; obtain ⟨p, e, R', s, m, args, below, meth, c, kc', ks'⟩ := K
  obtain ⟨hx, hZ, hown, hby, hml, hret, hlk, rfl, hnm, rfl, rfl, hw⟩ := O
  subst hp
  intro T locs real X N S A L
  by_cases h : x = 0
  · exact Done.step (fun t q => XS.ifNo X.here hx rfl (hb hby hd) rfl (XT.i0_ne_f h) q) (kf h T locs real X N S A L)
  · exact Done.step (fun t q => XS.ifYes X.here hx rfl (pc0 := pc) rfl (hb hby hd) rfl (XT.i0_ne_t h) ho ht q) (kt h T locs real X N S A L)
theorem g_lcmp_ne {x y : Int64} {pq : Nat} {o : Int} {pc1 : Nat} (O : Ok G K own bytes maxL ret R mn kc ks) (hd0 : decode bytes pc = .ok (.lcmp, 1)) (hq : pc + 1 = pq) (hd : decode bytes pq = .ok (.ifCond .ne o, 3)) (hp : pq + 3 = pc') (ho : 0 ≤ (pq : Int) + o) (ht : ((pq : Int) + o).toNat = pc1)
    (kt : ¬ x = y → Run G K rv Hf pc1 Ls st H cells slots) (kf : x = y → Run G K rv Hf pc' Ls st H cells slots) : Run G K rv Hf pc Ls (.long y :: .long x :: st) H cells slots := by
  obtain ⟨l, Z, a0, n⟩ := G; obtain ⟨p, e, R', s, m, args, below, meth, c, kc', ks'⟩ := K
  obtain ⟨hx, hZ, hown, hby, hml, hret, hlk, rfl, hnm, rfl, rfl, hw⟩ := O
  subst hq
  subst hp
  intro T locs real X N S A L
  by_cases h : x = y
  · exact Done.step (fun t q => XT.lcmp X.here hx rfl (hb hby hd0) rfl (XS.ifNo X.here hx rfl (hb hby hd) rfl (XT.ll_ne_f h) q)) (kf h T locs real X N S A L)
  · exact Done.step (fun t q => XT.lcmp X.here hx rfl (hb hby hd0) rfl (XS.ifYes X.here hx rfl (pc0 := pc + 1) rfl (hb hby hd) rfl (XT.ll_ne_t h) ho ht q)) (kt h T locs real X N S A L)
theorem g_icmp_lt {x y : Int32} {o : Int} {pc1 : Nat} (O : Ok G K own bytes maxL ret R mn kc ks) (hd : decode bytes pc = .ok (.if_icmp .lt o, 3)) (hp : pc + 3 = pc') (ho : 0 ≤ (pc : Int) + o) (ht : ((pc : Int) + o).toNat = pc1)
    (kt : x < y → Run G K rv Hf pc1 Ls st H cells slots) (kf : ¬ x < y → Run G K rv Hf pc' Ls st H cells slots) : Run G K rv Hf pc Ls (.int y :: .int x :: st) H cells slots := by
  obtain ⟨l, Z, a0, n⟩ := G; obtain ⟨p, e, R', s, m, args, below, meth, c, kc', ks'⟩ := K
  obtain ⟨hx, hZ, hown, hby, hml, hret, hlk, rfl, hnm, rfl, rfl, hw⟩ := O
  subst hp
  intro T locs real X N S A L
  by_cases h : x < y
  · exact Done.step (fun t q => XS.icmpYes X.here hx rfl (pc0 := pc) rfl (hb hby hd) rfl (XT.ii_lt_t h) ho ht q) (kt h T locs real X N S A L)
  · exact Done.step (fun t q => XS.icmpNo X.here hx rfl (hb hby hd) rfl (XT.ii_lt_f h) q) (kf h T locs real X N S A L)
theorem g_if_lt {x : Int32} {o : Int} {pc1 : Nat} (O : Ok G K own bytes maxL ret R mn kc ks) (hd : decode bytes pc = .ok (.ifCond .lt o, 3)) (hp : pc + 3 = pc') (ho : 0 ≤ (pc : Int) + o) (ht : ((pc : Int) + o).toNat = pc1)
    (kt : x < 0 → Run G K rv Hf pc1 Ls st H cells slots) (kf : ¬ x < 0 → Run G K rv Hf pc' Ls st H cells slots) : Run G K rv Hf pc Ls (.int x :: st) H cells slots := by
  obtain ⟨l, Z, a0, n⟩ := G; obtain ⟨p, e, R', s, m, args, below, meth, c, kc', ks'⟩ := K
  obtain ⟨hx, hZ, hown, hby, hml, hret, hlk, rfl, hnm, rfl, rfl, hw⟩ := O
  subst hp
  intro T locs real X N S A L
  by_cases h : x < 0
  · exact Done.step (fun t q => XS.ifYes X.here hx rfl (pc0 := pc) rfl (hb hby hd) rfl (XT.i0_lt_t h) ho ht q) (kt h T locs real X N S A L)
  · exact Done.step (fun t q => XS.ifNo X.here hx rfl (hb hby hd) rfl (XT.i0_lt_f h) q) (kf h T locs real X N S A L)
theorem g_lcmp_lt {x y : Int64} {pq : Nat} {o : Int} {pc1 : Nat} (O : Ok G K own bytes maxL ret R mn kc ks) (hd0 : decode bytes pc = .ok (.lcmp, 1)) (hq : pc + 1 = pq) (hd : decode bytes pq = .ok (.ifCond .lt o, 3)) (hp : pq + 3 = pc') (ho : 0 ≤ (pq : Int) + o) (ht : ((pq : Int) + o).toNat = pc1)
    (kt : x < y → Run G K rv Hf pc1 Ls st H cells slots) (kf : ¬ x < y → Run G K rv Hf pc' Ls st H cells slots) : Run G K rv Hf pc Ls (.long y :: .long x :: st) H cells slots := by
  obtain ⟨l, Z, a0, n⟩ := G; obtain ⟨p, e, R', s, m, args, below, meth, c, kc', ks'⟩ := K
  obtain ⟨hx, hZ, hown, hby, hml, hret, hlk, rfl, hnm, rfl, rfl, hw⟩ := O
  subst hq
  subst hp
  intro T locs real X N S A L
  by_cases h : x < y
  · exact Done.step (fun t q => XT.lcmp X.here hx rfl (hb hby hd0) rfl (XS.ifYes X.here hx rfl (pc0 := pc + 1) rfl (hb hby hd) rfl (XT.ll_lt_t h) ho ht q)) (kt h T locs real X N S A L)
  · exact Done.step (fun t q => XT.lcmp X.here hx rfl (hb hby hd0) rfl (XS.ifNo X.here hx rfl (hb hby hd) rfl (XT.ll_lt_f h) q)) (kf h T locs real X N S A L)
theorem g_icmp_ge {x y : Int32} {o : Int} {pc1 : Nat} (O : Ok G K own bytes maxL ret R mn kc ks) (hd : decode bytes pc = .ok (.if_icmp .ge o, 3)) (hp : pc + 3 = pc') (ho : 0 ≤ (pc : Int) + o) (ht : ((pc : Int) + o).toNat = pc1)
    (kt : ¬ x < y → Run G K rv Hf pc1 Ls st H cells slots) (kf : x < y → Run G K rv Hf pc' Ls st H cells slots) : Run G K rv Hf pc Ls (.int y :: .int x :: st) H cells slots := by
  obtain ⟨l, Z, a0, n⟩ := G; obtain ⟨p, e, R', s, m, args, below, meth, c, kc', ks'⟩ := K
  obtain ⟨hx, hZ, hown, hby, hml, hret, hlk, rfl, hnm, rfl, rfl, hw⟩ := O
  subst hp
  intro T locs real X N S A L
  by_cases h : x < y
  · exact Done.step (fun t q => XS.icmpNo X.here hx rfl (hb hby hd) rfl (XT.ii_ge_f h) q) (kf h T locs real X N S A L)
  · exact Done.step (fun t q => XS.icmpYes X.here hx rfl (pc0 := pc) rfl (hb hby hd) rfl (XT.ii_ge_t h) ho ht q) (kt h T locs real X N S A L)
theorem g_if_ge {x : Int32} {o : Int} {pc1 : Nat} (O : Ok G K own bytes maxL ret R mn kc ks) (hd : decode bytes pc = .ok (.ifCond .ge o, 3)) (hp : pc + 3 = pc') (ho : 0 ≤ (pc : Int) + o) (ht : ((pc : Int) + o).toNat = pc1)
    (kt : ¬ x < 0 → Run G K rv Hf pc1 Ls st H cells slots) (kf : x < 0 → Run G K rv Hf pc' Ls st H cells slots) : Run G K rv Hf pc Ls (.int x :: st) H cells slots := by
  obtain ⟨l, Z, a0, n⟩ := G; obtain ⟨p, e, R', s, m, args, below, meth, c, kc', ks'⟩ := K
  obtain ⟨hx, hZ, hown, hby, hml, hret, hlk, rfl, hnm, rfl, rfl, hw⟩ := O
  subst hp
  intro T locs real X N S A L
  by_cases h : x < 0
  · exact Done.step (fun t q => XS.ifNo X.here hx rfl (hb hby hd) rfl (XT.i0_ge_f h) q) (kf h T locs real X N S A L)
  · exact Done.step (fun t q => XS.ifYes X.here hx rfl (pc0 := pc) rfl (hb hby hd) rfl (XT.i0_ge_t h) ho ht q) (kt h T locs real X N S A L)
theorem g_lcmp_ge {x y : Int64} {pq : Nat} {o : Int} {pc1 : Nat} (O : Ok G K own bytes maxL ret R mn kc ks) (hd0 : decode bytes pc = .ok (.lcmp, 1)) (hq : pc + 1 = pq) (hd : decode bytes pq = .ok (.ifCond .ge o, 3)) (hp : pq + 3 = pc') (ho : 0 ≤ (pq : Int) + o) (ht : ((pq : Int) + o).toNat = pc1)
    (kt : ¬ x < y → Run G K rv Hf pc1 Ls st H cells slots) (kf : x < y → Run G K rv Hf pc' Ls st H cells slots) : Run G K rv Hf pc Ls (.long y :: .long x :: st) H cells slots := by
  obtain ⟨l, Z, a0, n⟩ := G; obtain ⟨p, e, R', s, m, args, below, meth, c, kc', ks'⟩ := K
  obtain ⟨hx, hZ, hown, hby, hml, hret, hlk, rfl, hnm, rfl, rfl, hw⟩ := O
  subst hq
  subst hp
  intro T locs real X N S A L
  by_cases h : x < y
  · exact Done.step (fun t q => XT.lcmp X.here hx rfl (hb hby hd0) rfl (XS.ifNo X.here hx rfl (hb hby hd) rfl (XT.ll_ge_f h) q)) (kf h T locs real X N S A L)
  · exact Done.step (fun t q => XT.lcmp X.here hx rfl (hb hby hd0) rfl (XS.ifYes X.here hx rfl (pc0 := pc + 1) rfl (hb hby hd) rfl (XT.ll_ge_t h) ho ht q)) (kt h T locs real X N S A L)
theorem g_icmp_gt {x y : Int32} {o : Int} {pc1 : Nat} (O : Ok G K own bytes maxL ret R mn kc ks) (hd : decode bytes pc = .ok (.if_icmp .gt o, 3)) (hp : pc + 3 = pc') (ho : 0 ≤ (pc : Int) + o) (ht : ((pc : Int) + o).toNat = pc1)
    (kt : y < x → Run G K rv Hf pc1 Ls st H cells slots) (kf : ¬ y < x → Run G K rv Hf pc' Ls st H cells slots) : Run G K rv Hf pc Ls (.int y :: .int x :: st) H cells slots := by
  obtain ⟨l, Z, a0, n⟩ := G; obtain ⟨p, e, R', s, m, args, below, meth, c, kc', ks'⟩ := K
  obtain ⟨hx, hZ, hown, hby, hml, hret, hlk, rfl, hnm, rfl, rfl, hw⟩ := O
  subst hp
  intro T locs real X N S A L
  by_cases h : y < x
  · exact Done.step (fun t q => XS.icmpYes X.here hx rfl (pc0 := pc) rfl (hb hby hd) rfl (XT.ii_gt_t h) ho ht q) (kt h T locs real X N S A L)
  · exact Done.step (fun t q => XS.icmpNo X.here hx rfl (hb hby hd) rfl (XT.ii_gt_f h) q) (kf h T locs real X N S A L)
theorem g_if_gt {x : Int32} {o : Int} {pc1 : Nat} (O : Ok G K own bytes maxL ret R mn kc ks) (hd : decode bytes pc = .ok (.ifCond .gt o, 3)) (hp : pc + 3 = pc') (ho : 0 ≤ (pc : Int) + o) (ht : ((pc : Int) + o).toNat = pc1)
    (kt : 0 < x → Run G K rv Hf pc1 Ls st H cells slots) (kf : ¬ 0 < x → Run G K rv Hf pc' Ls st H cells slots) : Run G K rv Hf pc Ls (.int x :: st) H cells slots := by
  obtain ⟨l, Z, a0, n⟩ := G; obtain ⟨p, e, R', s, m, args, below, meth, c, kc', ks'⟩ := K
  obtain ⟨hx, hZ, hown, hby, hml, hret, hlk, rfl, hnm, rfl, rfl, hw⟩ := O
  subst hp
  intro T locs real X N S A L
  by_cases h : 0 < x
  · exact Done.step (fun t q => XS.ifYes X.here hx rfl (pc0 := pc) rfl (hb hby hd) rfl (XT.i0_gt_t h) ho ht q) (kt h T locs real X N S A L)
  · exact Done.step (fun t q => XS.ifNo X.here hx rfl (hb hby hd) rfl (XT.i0_gt_f h) q) (kf h T locs real X N S A L)
theorem g_lcmp_gt {x y : Int64} {pq : Nat} {o : Int} {pc1 : Nat} (O : Ok G K own bytes maxL ret R mn kc ks) (hd0 : decode bytes pc = .ok (.lcmp, 1)) (hq : pc + 1 = pq) (hd : decode bytes pq = .ok (.ifCond .gt o, 3)) (hp : pq + 3 = pc') (ho : 0 ≤ (pq : Int) + o) (ht : ((pq : Int) + o).toNat = pc1)
    (kt : y < x → Run G K rv Hf pc1 Ls st H cells slots) (kf : ¬ y < x → Run G K rv Hf pc' Ls st H cells slots) : Run G K rv Hf pc Ls (.long y :: .long x :: st) H cells slots := by
  obtain ⟨l, Z, a0, n⟩ := G; obtain ⟨p, e, R', s, m, args, below, meth, c, kc', ks'⟩ := K
  obtain ⟨hx, hZ, hown, hby, hml, hret, hlk, rfl, hnm, rfl, rfl, hw⟩ := O
  subst hq
  subst hp
  intro T locs real X N S A L
  by_cases h : y < x
  · exact Done.step (fun t q => XT.lcmp X.here hx rfl (hb hby hd0) rfl (XS.ifYes X.here hx rfl (pc0 := pc + 1) rfl (hb hby hd) rfl (XT.ll_gt_t h) ho ht q)) (kt h T locs real X N S A L)
  · exact Done.step (fun t q => XT.lcmp X.here hx rfl (hb hby hd0) rfl (XS.ifNo X.here hx rfl (hb hby hd) rfl (XT.ll_gt_f h) q)) (kf h T locs real X N S A L)
theorem g_icmp_le {x y : Int32} {o : Int} {pc1 : Nat} (O : Ok G K own bytes maxL ret R mn kc ks) (hd : decode bytes pc = .ok (.if_icmp .le o, 3)) (hp : pc + 3 = pc') (ho : 0 ≤ (pc : Int) + o) (ht : ((pc : Int) + o).toNat = pc1)
    (kt : ¬ y < x → Run G K rv Hf pc1 Ls st H cells slots) (kf : y < x → Run G K rv Hf pc' Ls st H cells slots) : Run G K rv Hf pc Ls (.int y :: .int x :: st) H cells slots := by
  obtain ⟨l, Z, a0, n⟩ := G; obtain ⟨p, e, R', s, m, args, below, meth, c, kc', ks'⟩ := K
  obtain ⟨hx, hZ, hown, hby, hml, hret, hlk, rfl, hnm, rfl, rfl, hw⟩ := O
  subst hp
  intro T locs real X N S A L
  by_cases h : y < x
  · exact Done.step (fun t q => XS.icmpNo X.here hx rfl (hb hby hd) rfl (XT.ii_le_f h) q) (kf h T locs real X N S A L)
  · exact Done.step (fun t q => XS.icmpYes X.here hx rfl (pc0 := pc) rfl (hb hby hd) rfl (XT.ii_le_t h) ho ht q) (kt h T locs real X N S A L)
theorem g_if_le {x : Int32} {o : Int} {pc1 : Nat} (O : Ok G K own bytes maxL ret R mn kc ks) (hd : decode bytes pc = .ok (.ifCond .le o, 3)) (hp : pc + 3 = pc') (ho : 0 ≤ (pc : Int) + o) (ht : ((pc : Int) + o).toNat = pc1)
    (kt : ¬ 0 < x → Run G K rv Hf pc1 Ls st H cells slots) (kf : 0 < x → Run G K rv Hf pc' Ls st H cells slots) : Run G K rv Hf pc Ls (.int x :: st) H cells slots := by
  obtain ⟨l, Z, a0, n⟩ := G; obtain ⟨p, e, R', s, m, args, below, meth, c, kc', ks'⟩ := K
  obtain ⟨hx, hZ, hown, hby, hml, hret, hlk, rfl, hnm, rfl, rfl, hw⟩ := O
  subst hp
  intro T locs real X N S A L
  by_cases h : 0 < x
  · exact Done.step (fun t q => XS.ifNo X.here hx rfl (hb hby hd) rfl (XT.i0_le_f h) q) (kf h T locs real X N S A L)
  · exact Done.step (fun t q => XS.ifYes X.here hx rfl (pc0 := pc) rfl (hb hby hd) rfl (XT.i0_le_t h) ho ht q) (kt h T locs real X N S A L)
theorem g_lcmp_le {x y : Int64} {pq : Nat} {o : Int} {pc1 : Nat} (O : Ok G K own bytes maxL ret R mn kc ks) (hd0 : decode bytes pc = .ok (.lcmp, 1)) (hq : pc + 1 = pq) (hd : decode bytes pq = .ok (.ifCond .le o, 3)) (hp : pq + 3 = pc') (ho : 0 ≤ (pq : Int) + o) (ht : ((pq : Int) + o).toNat = pc1)
    (kt : ¬ y < x → Run G K rv Hf pc1 Ls st H cells slots) (kf : y < x → Run G K rv Hf pc' Ls st H cells slots) : Run G K rv Hf pc Ls (.long y :: .long x :: st) H cells slots := by
  obtain ⟨l, Z, a0, n⟩ := G; obtain ⟨p, e, R', s, m, args, below, meth, c, kc', ks'⟩ := K
  obtain ⟨hx, hZ, hown, hby, hml, hret, hlk, rfl, hnm, rfl, rfl, hw⟩ := O
  subst hq
  subst hp
  intro T locs real X N S A L
  by_cases h : y < x
  · exact Done.step (fun t q => XT.lcmp X.here hx rfl (hb hby hd0) rfl (XS.ifNo X.here hx rfl (hb hby hd) rfl (XT.ll_le_f h) q)) (kf h T locs real X N S A L)
  · exact Done.step (fun t q => XT.lcmp X.here hx rfl (hb hby hd0) rfl (XS.ifYes X.here hx rfl (pc0 := pc + 1) rfl (hb hby hd) rfl (XT.ll_le_t h) ho ht q)) (kt h T locs real X N S A L)
/-! reading and writing the heap, in the model -/
def arr (ty : FieldType) (H : List Obj) (i : Nat) : Option (List Value) := match H[i]? with
  | some (.inl (t, vs)) => if t = ty then some vs else none
  | _ => none
def rd (ty : FieldType) (H : List Obj) (i : Nat) (j : Int32) : Option Value := (arr ty H i).bind fun vs => if j < 0 then none else vs[j.toNatClampNeg]?
def getI : Value → Option Int32
  | .int x => some x
  | _ => none
def getJ : Value → Option Int64
  | .long x => some x
  | _ => none
def getA : Value → Option Nat
  | .ref x => some x
  | _ => none
def rdI (ty : FieldType) (H : List Obj) (i : Nat) (j : Int32) : Option Int32 := (rd ty H i j).bind getI
def rdJ (H : List Obj) (i : Nat) (j : Int32) : Option Int64 := (rd .long H i j).bind getJ
def wr (ty : FieldType) (H : List Obj) (i : Nat) (j : Int32) (v : Value) : Option (List Obj) := (arr ty H i).bind fun vs => if j < 0 ∨ vs.length ≤ j.toNatClampNeg then none else some (H.set i (.inl (ty, vs.set j.toNatClampNeg v)))
def alen (H : List Obj) (i : Nat) : Option Int32 := match H[i]? with
  | some (.inl (_, vs)) => some vs.length.toInt32
  | _ => none
def mkArr (ty : FieldType) (cap : Nat) (H : List Obj) (j : Int32) : Option (List Obj) := if j < 0 ∨ cap < j.toNatClampNeg then none else some (H ++ [.inl (ty, List.replicate j.toNatClampNeg (defaultValue ty))])
def obj (t : Nat) (H : List Obj) (i : Nat) : Option (List Value) := match H[i]? with
  | some (.inr (t', vs)) => if t' = t then some vs else none
  | _ => none
def fld (t k : Nat) (H : List Obj) (i : Nat) : Option Value := (obj t H i).bind fun vs => vs[k]?
def fldI (t k : Nat) (H : List Obj) (i : Nat) : Option Int32 := (fld t k H i).bind getI
def fldJ (t k : Nat) (H : List Obj) (i : Nat) : Option Int64 := (fld t k H i).bind getJ
def fldA (t k : Nat) (H : List Obj) (i : Nat) : Option Nat := (fld t k H i).bind getA
def setF (t k : Nat) (H : List Obj) (i : Nat) (v : Value) : Option (List Obj) := (obj t H i).bind fun vs => if k < vs.length then some (H.set i (.inr (t, vs.set k v))) else none
theorem getI_e {v : Value} {x : Int32} (h : getI v = some x) : v = .int x := by cases v <;> simp [getI] at h; rw [h]
theorem getJ_e {v : Value} {x : Int64} (h : getJ v = some x) : v = .long x := by cases v <;> simp [getJ] at h; rw [h]
theorem getA_e {v : Value} {x : Nat} (h : getA v = some x) : v = .ref x := by cases v <;> simp [getA] at h; rw [h]
theorem rdI_e {ty : FieldType} {i : Nat} {j x : Int32} (h : rdI ty H i j = some x) : rd ty H i j = some (.int x) := by
  obtain ⟨v, h1, h2⟩ := Option.bind_eq_some_iff.mp h; rw [h1, getI_e h2]
theorem rdJ_e {i : Nat} {j : Int32} {x : Int64} (h : rdJ H i j = some x) : rd .long H i j = some (.long x) := by
  obtain ⟨v, h1, h2⟩ := Option.bind_eq_some_iff.mp h; rw [h1, getJ_e h2]
theorem fldI_e {t k i : Nat} {x : Int32} (h : fldI t k H i = some x) : fld t k H i = some (.int x) := by
  obtain ⟨v, h1, h2⟩ := Option.bind_eq_some_iff.mp h; rw [h1, getI_e h2]
theorem fldJ_e {t k i : Nat} {x : Int64} (h : fldJ t k H i = some x) : fld t k H i = some (.long x) := by
  obtain ⟨v, h1, h2⟩ := Option.bind_eq_some_iff.mp h; rw [h1, getJ_e h2]
theorem fldA_e {t k i x : Nat} (h : fldA t k H i = some x) : fld t k H i = some (.ref x) := by
  obtain ⟨v, h1, h2⟩ := Option.bind_eq_some_iff.mp h; rw [h1, getA_e h2]
theorem arr_e {ty : FieldType} {i : Nat} {vs : List Value} (h : arr ty H i = some vs) : H[i]? = some (.inl (ty, vs)) := by
  unfold arr at h; split at h
  · rename_i t us hh; split at h
    · rename_i e; cases h; rw [hh, e]
    · cases h
  · cases h
theorem obj_e {t i : Nat} {vs : List Value} (h : obj t H i = some vs) : H[i]? = some (.inr (t, vs)) := by
  unfold obj at h; split at h
  · rename_i t us hh; split at h
    · rename_i e; cases h; rw [hh, e]
    · cases h
  · cases h
theorem sim_arr {h : Heap} {ty : FieldType} {i : Nat} {vs : List Value} (S : Sim G H h) (e : arr ty H i = some vs) : ∃ c : Cell, Arr G.2.1 h (G.2.2.2 + i) c ty ∧ c.slots = (vs.map (sh G.2.2.2)).toArray := (S.2 i _ (arr_e e)).2
theorem sim_obj {h : Heap} {t i : Nat} {vs : List Value} (S : Sim G H h) (e : obj t H i = some vs) : Exa G.2.1 h (G.2.2.2 + i) (lay t).1 ∧ vs.length = (lay t).2.length ∧ ∀ (k : Nat) (nd : String × String) (v : Value), (lay t).2[k]? = some nd → vs[k]? = some v → Fld G.2.1 h (G.2.2.2 + i) (lay t).1 nd.1 nd.2 (sh G.2.2.2 v) := S.2 i _ (obj_e e)
theorem sim_ext {h h' : Heap} {o : Obj} (S : Sim G H h) (E : Ext h h') (hs : h'.size = h.size + 1) (ho : ObjOk G.2.1 G.2.2.2 h' h.size o) : Sim G (H ++ [o]) h' := by
  refine ⟨by rw [hs, S.1, List.length_append]; rfl, fun i q hq => ?_⟩
  by_cases hi : i < H.length
  · rw [List.getElem?_append_left hi] at hq
    have r := S.2 i q hq
    rcases q with ⟨ty, vs⟩ | ⟨t, vs⟩
    · obtain ⟨X, c, A, r⟩ := r; exact ⟨X.ext E, c, A.ext E, r⟩
    · obtain ⟨X, l, F⟩ := r; exact ⟨X.ext E, l, fun k nd v h1 h2 => (F k nd v h1 h2).ext E⟩
  · rw [List.getElem?_append_right (Nat.le_of_not_lt hi)] at hq
    have : i - H.length = 0 := by
      have := (List.getElem?_eq_some_iff.mp hq).1; simp at this; omega
    rw [this] at hq
    cases hq
    have : G.2.2.2 + i = h.size := by rw [S.1]; have := Nat.le_of_not_lt hi; omega
    rw [this]; exact ho
theorem sim_wr {h h' : Heap} {ty : FieldType} {i j : Nat} {vs : List Value} {v : Value} (S : Sim G H h) (e : arr ty H i = some vs) (W : Wr h h' (G.2.2.2 + i) j (sh G.2.2.2 v)) : Sim G (H.set i (.inl (ty, vs.set j v))) h' := by
  refine ⟨by rw [W.size, S.1, List.length_set], fun i' q hq => ?_⟩
  have hlt := (List.getElem?_eq_some_iff.mp (arr_e e)).1
  by_cases hi : i = i'
  · subst hi
    rw [List.getElem?_set_self hlt] at hq
    cases hq
    obtain ⟨X, c, A, r⟩ := S.2 i _ (arr_e e)
    exact ⟨X.wr W, _, A.same W, by simp [Cell.setSlot, r, List.map_set]⟩
  · rw [List.getElem?_set_ne hi] at hq
    have r := S.2 i' q hq
    have ne : G.2.2.2 + i' ≠ G.2.2.2 + i := by omega
    rcases q with ⟨ty, vs⟩ | ⟨t, vs⟩
    · obtain ⟨X, c, A, r⟩ := r; exact ⟨X.wr W, c, A.other W ne, r⟩
    · obtain ⟨X, l, F⟩ := r; exact ⟨X.wr W, l, fun k nd v h1 h2 => (F k nd v h1 h2).other W (Or.inl ne)⟩
theorem lay_slot {Z : State} {a0 : Array Value} (hw : ∀ d ∈ tables_1, d.before a0 Z = true) {t k k' : Nat} {nd nd' : String × String} (h1 : (lay t).2[k]? = some nd) (h2 : (lay t).2[k']? = some nd') (ne : k ≠ k') : Jvm.RoadKit.slotOf Z (lay t).1 nd.1 nd.2 ≠ Jvm.RoadKit.slotOf Z (lay t).1 nd'.1 nd'.2 := by
  obtain ⟨t1, p1⟩ := lay_parse t nd (List.mem_of_getElem? h1)
  obtain ⟨t2, p2⟩ := lay_parse t nd' (List.mem_of_getElem? h2)
  exact slot_ne (C := (lay t).1) (a0 := a0) ((lay_word t nd (List.mem_of_getElem? h1)).imp (hw _) (hw _)) ((lay_word t nd' (List.mem_of_getElem? h2)).imp (hw _) (hw _)) (lay_names t k k' nd nd' h1 h2 ne) p1 p2
theorem sim_put {h h' : Heap} {t i k : Nat} {nd : String × String} {vs : List Value} {v : Value} (hw : ∀ d ∈ tables_1, d.before G.2.2.1 G.2.1 = true) (S : Sim G H h) (e : obj t H i = some vs) (hk : (lay t).2[k]? = some nd) (W : Wr h h' (G.2.2.2 + i) (Jvm.RoadKit.slotOf G.2.1 (lay t).1 nd.1 nd.2) (sh G.2.2.2 v)) : Sim G (H.set i (.inr (t, vs.set k v))) h' := by
  refine ⟨by rw [W.size, S.1, List.length_set], fun i' q hq => ?_⟩
  have hlt := (List.getElem?_eq_some_iff.mp (obj_e e)).1
  by_cases hi : i = i'
  · subst hi
    rw [List.getElem?_set_self hlt] at hq
    cases hq
    obtain ⟨X, l, F⟩ := S.2 i _ (obj_e e)
    refine ⟨X.wr W, by rw [List.length_set]; exact l, fun k' nd' v' h1 h2 => ?_⟩
    have hkl : k < vs.length := by rw [l]; exact (List.getElem?_eq_some_iff.mp hk).1
    by_cases ek : k = k'
    · subst ek
      rw [List.getElem?_set_self hkl] at h2
      cases h2
      cases hk.symm.trans h1
      exact (F k nd _ hk (List.getElem?_eq_getElem hkl)).same W
    · rw [List.getElem?_set_ne ek] at h2
      exact (F k' nd' v' h1 h2).other W (Or.inr (lay_slot hw h1 hk (Ne.symm ek)))
  · rw [List.getElem?_set_ne hi] at hq
    have r := S.2 i' q hq
    have ne : G.2.2.2 + i' ≠ G.2.2.2 + i := by omega
    rcases q with ⟨ty, vs⟩ | ⟨t, vs⟩
    · obtain ⟨X, c, A, r⟩ := r; exact ⟨X.wr W, c, A.other W ne, r⟩
    · obtain ⟨X, l, F⟩ := r; exact ⟨X.wr W, l, fun k nd v h1 h2 => (F k nd v h1 h2).other W (Or.inl ne)⟩
/-! the steps that read the tables or the heap -/
theorem g_ldc {ix : Nat} {v : Int32} (O : Ok G K own bytes maxL ret R mn kc ks) (hd : decode bytes pc = .ok (.ldc ix, 2)) (w : Jvm.Cond.constant own ix v ∈ tables_1) (hp : pc + 2 = pc')
    (k : Run G K rv Hf pc' Ls (.int v :: st) H cells slots) : Run G K rv Hf pc Ls st H cells slots := by
  obtain ⟨l, Z, a0, n⟩ := G; obtain ⟨p, e, R', s, m, args, below, meth, c, kc', ks'⟩ := K
  obtain ⟨hx, hZ, hown, hby, hml, hret, hlk, rfl, hnm, rfl, rfl, hw⟩ := O
  subst hp
  intro T locs real X N S A L
  exact Done.step (fun t q => X.ldcI hx hown (mv hZ (hw _ w)) rfl (hb hby hd) q) (k T locs real X N S A L)
theorem g_ldc2 {ix : Nat} {v : Int64} (O : Ok G K own bytes maxL ret R mn kc ks) (hd : decode bytes pc = .ok (.ldc2_w ix, 3)) (w : Jvm.Cond.constantLong own ix v ∈ tables_1) (hp : pc + 3 = pc')
    (k : Run G K rv Hf pc' Ls (.long v :: st) H cells slots) : Run G K rv Hf pc Ls st H cells slots := by
  obtain ⟨l, Z, a0, n⟩ := G; obtain ⟨p, e, R', s, m, args, below, meth, c, kc', ks'⟩ := K
  obtain ⟨hx, hZ, hown, hby, hml, hret, hlk, rfl, hnm, rfl, rfl, hw⟩ := O
  subst hp
  intro T locs real X N S A L
  exact Done.step (fun t q => X.ldc2J hx hown (mv hZ (hw _ w)) rfl (hb hby hd) q) (k T locs real X N S A L)
theorem rd_e {ty : FieldType} {i : Nat} {j : Int32} {v : Value} (h : rd ty H i j = some v) : ∃ vs, arr ty H i = some vs ∧ ¬ j < 0 ∧ vs[j.toNatClampNeg]? = some v := by
  obtain ⟨vs, h1, h2⟩ := Option.bind_eq_some_iff.mp h
  split at h2
  · cases h2
  · exact ⟨vs, h1, by assumption, h2⟩
theorem inb_sl {c : Cell} {vs : List Value} {n : Nat} {j : Int32} {v : Value} (e : c.slots = (vs.map (sh n)).toArray) (h0 : ¬ j < 0) (h : vs[j.toNatClampNeg]? = some v) : ¬ (j < 0 ∨ c.slots.size ≤ j.toNatClampNeg) ∧ c.slots[j.toNatClampNeg]? = some (sh n v) := by
  have := (List.getElem?_eq_some_iff.mp h).1
  refine ⟨fun q => q.elim h0 (fun q => by rw [e] at q; simp at q; omega), by rw [e]; simp [h]⟩
theorem g_iaload {i : Nat} {j : Int32} {v : Int32} (O : Ok G K own bytes maxL ret R mn kc ks) (hd : decode bytes pc = .ok (.iaload, 1)) (hr : rdI .int H i j = some v) (hp : pc + 1 = pc')
    (k : Run G K rv Hf pc' Ls (.int v :: st) H cells slots) : Run G K rv Hf pc Ls (.int j :: .ref i :: st) H cells slots := by
  obtain ⟨l, Z, a0, n⟩ := G; obtain ⟨p, e, R', s, m, args, below, meth, c, kc', ks'⟩ := K
  obtain ⟨hx, hZ, hown, hby, hml, hret, hlk, rfl, hnm, rfl, rfl, hw⟩ := O
  subst hp
  intro T locs real X N S A L
  obtain ⟨vs, h1, h2, h3⟩ := rd_e (rdI_e hr)
  obtain ⟨cl, B, es⟩ := sim_arr S h1
  obtain ⟨q1, q2⟩ := inb_sl es h2 h3
  exact Done.step (fun t q => X.iaload hx B.1 (State.isArrayOf_alike hZ.alike B.2.1) B.2.2 q1 q2 (g := mkF m pc real ((.int j :: .ref i :: st).map (sh n))) rfl rfl (hb hby hd) t q) (k T locs real X N S A L)
theorem g_caload {i : Nat} {j : Int32} {v : Int32} (O : Ok G K own bytes maxL ret R mn kc ks) (hd : decode bytes pc = .ok (.caload, 1)) (hr : rdI .char H i j = some v) (hp : pc + 1 = pc')
    (k : Run G K rv Hf pc' Ls (.int v :: st) H cells slots) : Run G K rv Hf pc Ls (.int j :: .ref i :: st) H cells slots := by
  obtain ⟨l, Z, a0, n⟩ := G; obtain ⟨p, e, R', s, m, args, below, meth, c, kc', ks'⟩ := K
  obtain ⟨hx, hZ, hown, hby, hml, hret, hlk, rfl, hnm, rfl, rfl, hw⟩ := O
  subst hp
  intro T locs real X N S A L
  obtain ⟨vs, h1, h2, h3⟩ := rd_e (rdI_e hr)
  obtain ⟨cl, B, es⟩ := sim_arr S h1
  obtain ⟨q1, q2⟩ := inb_sl es h2 h3
  exact Done.step (fun t q => X.caload hx B.1 (State.isArrayOf_alike hZ.alike B.2.1) B.2.2 q1 q2 (g := mkF m pc real ((.int j :: .ref i :: st).map (sh n))) rfl rfl (hb hby hd) t q) (k T locs real X N S A L)
theorem g_baload {i : Nat} {j : Int32} {v : Int32} (O : Ok G K own bytes maxL ret R mn kc ks) (hd : decode bytes pc = .ok (.baload, 1)) (hr : rdI .byte H i j = some v) (hp : pc + 1 = pc')
    (k : Run G K rv Hf pc' Ls (.int v :: st) H cells slots) : Run G K rv Hf pc Ls (.int j :: .ref i :: st) H cells slots := by
  obtain ⟨l, Z, a0, n⟩ := G; obtain ⟨p, e, R', s, m, args, below, meth, c, kc', ks'⟩ := K
  obtain ⟨hx, hZ, hown, hby, hml, hret, hlk, rfl, hnm, rfl, rfl, hw⟩ := O
  subst hp
  intro T locs real X N S A L
  obtain ⟨vs, h1, h2, h3⟩ := rd_e (rdI_e hr)
  obtain ⟨cl, B, es⟩ := sim_arr S h1
  obtain ⟨q1, q2⟩ := inb_sl es h2 h3
  exact Done.step (fun t q => X.baloadBytes hx B.1 (State.isArrayOf_alike hZ.alike B.2.1) B.2.2 q1 q2 (g := mkF m pc real ((.int j :: .ref i :: st).map (sh n))) rfl rfl (hb hby hd) t q) (k T locs real X N S A L)
theorem g_laload {i : Nat} {j : Int32} {v : Int64} (O : Ok G K own bytes maxL ret R mn kc ks) (hd : decode bytes pc = .ok (.laload, 1)) (hr : rdJ H i j = some v) (hp : pc + 1 = pc')
    (k : Run G K rv Hf pc' Ls (.long v :: st) H cells slots) : Run G K rv Hf pc Ls (.int j :: .ref i :: st) H cells slots := by
  obtain ⟨l, Z, a0, n⟩ := G; obtain ⟨p, e, R', s, m, args, below, meth, c, kc', ks'⟩ := K
  obtain ⟨hx, hZ, hown, hby, hml, hret, hlk, rfl, hnm, rfl, rfl, hw⟩ := O
  subst hp
  intro T locs real X N S A L
  obtain ⟨vs, h1, h2, h3⟩ := rd_e (rdJ_e hr)
  obtain ⟨cl, B, es⟩ := sim_arr S h1
  obtain ⟨q1, q2⟩ := inb_sl es h2 h3
  exact Done.step (fun t q => X.laload hx B.1 (State.isArrayOf_alike hZ.alike B.2.1) B.2.2 q1 q2 (g := mkF m pc real ((.int j :: .ref i :: st).map (sh n))) rfl rfl (hb hby hd) t q) (k T locs real X N S A L)
theorem g_arraylength {i : Nat} {v : Int32} (O : Ok G K own bytes maxL ret R mn kc ks) (hd : decode bytes pc = .ok (.arraylength, 1)) (hr : alen H i = some v) (hp : pc + 1 = pc')
    (k : Run G K rv Hf pc' Ls (.int v :: st) H cells slots) : Run G K rv Hf pc Ls (.ref i :: st) H cells slots := by
  obtain ⟨l, Z, a0, n⟩ := G; obtain ⟨p, e, R', s, m, args, below, meth, c, kc', ks'⟩ := K
  obtain ⟨hx, hZ, hown, hby, hml, hret, hlk, rfl, hnm, rfl, rfl, hw⟩ := O
  subst hp
  intro T locs real X N S A L
  unfold alen at hr
  split at hr
  · rename_i ty vs hh
    cases hr
    obtain ⟨-, cl, B, es⟩ := S.2 i _ hh
    have q1 : cl.slots.size = vs.length := by rw [es]; simp
    exact Done.step (fun t q => X.arraylength hx B.1 (State.isArrayOf_alike hZ.alike B.2.1) (g := mkF m pc real ((.ref i :: st).map (sh n))) rfl rfl (hb hby hd) t (by rw [q1]; exact q)) (k T locs real X N S A L)
  · cases hr
theorem wr_e {ty : FieldType} {i : Nat} {j : Int32} {v : Value} {H' : List Obj} (h : wr ty H i j v = some H') : ∃ vs, arr ty H i = some vs ∧ ¬ (j < 0 ∨ vs.length ≤ j.toNatClampNeg) ∧ H' = H.set i (.inl (ty, vs.set j.toNatClampNeg v)) := by
  obtain ⟨vs, h1, h2⟩ := Option.bind_eq_some_iff.mp h
  split at h2
  · cases h2
  · cases h2; exact ⟨vs, h1, by assumption, rfl⟩
theorem wr_len {ty : FieldType} {i : Nat} {j : Int32} {v : Value} {H' : List Obj} (h : wr ty H i j v = some H') : H'.length = H.length := by
  obtain ⟨vs, -, -, rfl⟩ := wr_e h; simp
theorem sl_len {c : Cell} {vs : List Value} {n : Nat} (e : c.slots = (vs.map (sh n)).toArray) : c.slots.size = vs.length := by rw [e]; simp
theorem g_iastore {i : Nat} {j x : Int32} {H' : List Obj} (O : Ok G K own bytes maxL ret R mn kc ks) (hd : decode bytes pc = .ok (.iastore, 1)) (hr : wr .int H i j (.int x) = some H') (hp : pc + 1 = pc')
    (k : Run G K rv Hf pc' Ls st H' cells slots) : Run G K rv Hf pc Ls (.int x :: .int j :: .ref i :: st) H cells slots := by
  obtain ⟨l, Z, a0, n⟩ := G; obtain ⟨p, e, R', s, m, args, below, meth, c, kc', ks'⟩ := K
  obtain ⟨hx, hZ, hown, hby, hml, hret, hlk, rfl, hnm, rfl, rfl, hw⟩ := O
  subst hp
  intro T locs real X N S A L
  obtain ⟨vs, h1, h2, rfl⟩ := wr_e hr
  obtain ⟨cl, B, es⟩ := sim_arr S h1
  obtain ⟨T', h', X', e', W, stp⟩ := stI X hx hZ rfl B (j := j) (x := x) (by rw [sl_len es]; exact h2) (g := mkF m pc real ((.int x :: .int j :: .ref i :: st).map (sh n))) rfl rfl (hb hby hd)
  exact Done.step stp (k T' _ real X' (Fr.snoc X' N (Nat.le_add_right _ _)) (by rw [e']; exact sim_wr (v := .int x) S h1 W) (by simpa using A) L)
theorem g_lastore {i : Nat} {j : Int32} {x : Int64} {H' : List Obj} (O : Ok G K own bytes maxL ret R mn kc ks) (hd : decode bytes pc = .ok (.lastore, 1)) (hr : wr .long H i j (.long x) = some H') (hp : pc + 1 = pc')
    (k : Run G K rv Hf pc' Ls st H' cells slots) : Run G K rv Hf pc Ls (.long x :: .int j :: .ref i :: st) H cells slots := by
  obtain ⟨l, Z, a0, n⟩ := G; obtain ⟨p, e, R', s, m, args, below, meth, c, kc', ks'⟩ := K
  obtain ⟨hx, hZ, hown, hby, hml, hret, hlk, rfl, hnm, rfl, rfl, hw⟩ := O
  subst hp
  intro T locs real X N S A L
  obtain ⟨vs, h1, h2, rfl⟩ := wr_e hr
  obtain ⟨cl, B, es⟩ := sim_arr S h1
  obtain ⟨T', h', X', e', W, stp⟩ := stJ X hx hZ rfl B (j := j) (x := x) (by rw [sl_len es]; exact h2) (g := mkF m pc real ((.long x :: .int j :: .ref i :: st).map (sh n))) rfl rfl (hb hby hd)
  exact Done.step stp (k T' _ real X' (Fr.snoc X' N (Nat.le_add_right _ _)) (by rw [e']; exact sim_wr (v := .long x) S h1 W) (by simpa using A) L)
theorem g_bastore {i : Nat} {j x : Int32} {H' : List Obj} (O : Ok G K own bytes maxL ret R mn kc ks) (hd : decode bytes pc = .ok (.bastore, 1)) (hr : wr .byte H i j (.int (nar .byte x)) = some H') (hp : pc + 1 = pc')
    (k : Run G K rv Hf pc' Ls st H' cells slots) : Run G K rv Hf pc Ls (.int x :: .int j :: .ref i :: st) H cells slots := by
  obtain ⟨l, Z, a0, n⟩ := G; obtain ⟨p, e, R', s, m, args, below, meth, c, kc', ks'⟩ := K
  obtain ⟨hx, hZ, hown, hby, hml, hret, hlk, rfl, hnm, rfl, rfl, hw⟩ := O
  subst hp
  intro T locs real X N S A L
  obtain ⟨vs, h1, h2, rfl⟩ := wr_e hr
  obtain ⟨cl, B, es⟩ := sim_arr S h1
  obtain ⟨T', h', X', e', W, stp⟩ := stB X hx hZ rfl B (j := j) (x := x) (by rw [sl_len es]; exact h2) (g := mkF m pc real ((.int x :: .int j :: .ref i :: st).map (sh n))) rfl rfl (hb hby hd)
  exact Done.step stp (k T' _ real X' (Fr.snoc X' N (Nat.le_add_right _ _)) (by rw [e']; exact sim_wr (v := .int (nar .byte x)) S h1 W) (by simpa using A) L)
theorem g_castore {i : Nat} {j x : Int32} {H' : List Obj} (O : Ok G K own bytes maxL ret R mn kc ks) (hd : decode bytes pc = .ok (.castore, 1)) (hr : wr .char H i j (.int (nar .char x)) = some H') (hp : pc + 1 = pc')
    (k : Run G K rv Hf pc' Ls st H' cells slots) : Run G K rv Hf pc Ls (.int x :: .int j :: .ref i :: st) H cells slots := by
  obtain ⟨l, Z, a0, n⟩ := G; obtain ⟨p, e, R', s, m, args, below, meth, c, kc', ks'⟩ := K
  obtain ⟨hx, hZ, hown, hby, hml, hret, hlk, rfl, hnm, rfl, rfl, hw⟩ := O
  subst hp
  intro T locs real X N S A L
  obtain ⟨vs, h1, h2, rfl⟩ := wr_e hr
  obtain ⟨cl, B, es⟩ := sim_arr S h1
  obtain ⟨T', h', X', e', W, stp⟩ := stC X hx hZ rfl B (j := j) (x := x) (by rw [sl_len es]; exact h2) (g := mkF m pc real ((.int x :: .int j :: .ref i :: st).map (sh n))) rfl rfl (hb hby hd)
  exact Done.step stp (k T' _ real X' (Fr.snoc X' N (Nat.le_add_right _ _)) (by rw [e']; exact sim_wr (v := .int (nar .char x)) S h1 W) (by simpa using A) L)
theorem g_newarray {aty : ArrayType} {cap : Nat} {j : Int32} {H' : List Obj} (O : Ok G K own bytes maxL ret R mn kc ks) (hd : decode bytes pc = .ok (.newarray aty, 2)) (w : Jvm.Cond.arrayClass (newarray.typeOf aty) ∈ tables_1)
    (hr : mkArr (newarray.typeOf aty) cap H j = some H') (hb8 : cap * 8 ≤ 536870912) {c2 s2 : Nat} (hc2 : cells + 1 = c2) (hs2 : slots + cap = s2) (hc : c2 ≤ R.cells) (hs : s2 ≤ R.slots) (hp : pc + 2 = pc')
    (k : Run G K rv Hf pc' Ls (.ref H.length :: st) H' c2 s2) : Run G K rv Hf pc Ls (.int j :: st) H cells slots := by
  obtain ⟨l, Z, a0, n⟩ := G; obtain ⟨p, e, R', s, m, args, below, meth, c, kc', ks'⟩ := K
  obtain ⟨hx, hZ, hown, hby, hml, hret, hlk, rfl, hnm, rfl, rfl, hw⟩ := O
  subst hp hc2 hs2
  intro T locs real X N S A L
  unfold mkArr at hr
  split at hr
  · cases hr
  rename_i hj
  cases hr
  have hj0 : ¬ j < 0 := fun q => hj (Or.inl q)
  obtain ⟨T', h', cA, X', e', E, B, EX, stp⟩ := newPE X hx hZ (hw _ w) rfl (g := mkF m pc real ((.int j :: st).map (sh n))) rfl (hb hby hd) rfl hj0 (cap := cap) (Nat.le_of_not_lt fun q => hj (Or.inr q)) hb8 hc hs rfl
  have hsz : h'.size = T.heap.size + 1 := by
    have a1 : Array.size T.heap < Array.size h' := B.lt
    have a2 : Array.size T'.heap ≤ Array.size s.heap + (cells + 1) := X'.heapSize
    rw [e'] at a2
    have a3 : Array.size T.heap = n + H.length := S.1
    have a4 : Array.size s.heap + cells = n + H.length := A
    omega
  have ea : T.heap.size = n + H.length := S.1
  have S' : Sim (l, Z, a0, n) (H ++ [.inl (newarray.typeOf aty, List.replicate j.toNatClampNeg (defaultValue (newarray.typeOf aty)))]) T'.heap := by
    rw [e']
    refine sim_ext S E hsz ⟨EX, _, B, ?_⟩
    have : sh n (defaultValue (newarray.typeOf aty)) = defaultValue (newarray.typeOf aty) := by cases aty <;> rfl
    simp [newA, this]
  refine Done.step stp ?_
  have k' := k T' locs real X' N S' (by simp only [List.length_append, List.length_singleton] at A ⊢; omega) L
  rw [ea]
  exact k'
theorem g_new {ix t nn : Nat} {H' : List Obj} (O : Ok G K own bytes maxL ret R mn kc ks) (hd : decode bytes pc = .ok (.new ix, 3)) (w1 : Jvm.Cond.classLink own ix (lay t).1 ∈ tables_1) (w2 : Jvm.Cond.instantiable (lay t).1 nn ∈ tables_1) (w3 : Jvm.Cond.initialized (lay t).1 ∈ tables_1)
    {vs : List Value} (hvs : (lay t).2.map (fun nd => (parseFieldDescriptor nd.2).map defaultValue) = vs.map some) (hH : H' = H ++ [.inr (t, vs)]) {c2 s2 : Nat} (hc2 : cells + 1 = c2) (hs2 : slots + nn = s2) (hc : c2 ≤ R.cells) (hs : s2 ≤ R.slots) (hp : pc + 3 = pc')
    (k : Run G K rv Hf pc' Ls (.ref H.length :: st) H' c2 s2) : Run G K rv Hf pc Ls st H cells slots := by
  obtain ⟨l, Z, a0, n⟩ := G; obtain ⟨p, e, R', s, m, args, below, meth, c, kc', ks'⟩ := K
  obtain ⟨hx, hZ, hown, hby, hml, hret, hlk, rfl, hnm, rfl, rfl, hw⟩ := O
  subst hp hH hc2 hs2
  intro T locs real X N S A L
  obtain ⟨T', h', X', e', E, B, D, -, stp⟩ := newO X hx hZ hown (hw _ w1) (hw _ w2) (hw _ w3) rfl (g := mkF m pc real (st.map (sh n))) rfl (hb hby hd) hc hs
  have hsz : h'.size = T.heap.size + 1 := by
    have a1 : Array.size T.heap < Array.size h' := B.lt
    have a2 : Array.size T'.heap ≤ Array.size s.heap + (cells + 1) := X'.heapSize
    rw [e'] at a2
    have a3 : Array.size T.heap = n + H.length := S.1
    have a4 : Array.size s.heap + cells = n + H.length := A
    omega
  have ea : T.heap.size = n + H.length := S.1
  have S' : Sim (l, Z, a0, n) (H ++ [.inr (t, vs)]) T'.heap := by
    rw [e']
    refine sim_ext S E hsz ⟨B, by have := congrArg List.length hvs; simpa using this.symm, fun k nd v h1 h2 => ?_⟩
    have q : ((lay t).2.map (fun nd => (parseFieldDescriptor nd.2).map defaultValue))[k]? = some (some v) := by rw [hvs]; simp [h2]
    rw [List.getElem?_map, h1] at q
    simp only [Option.map_some, Option.some.injEq, Option.map_eq_some_iff] at q
    obtain ⟨ty, q1, q2⟩ := q
    have q3 : sh n v = defaultValue ty := by rw [← q2]; cases ty <;> rfl
    rw [q3]
    exact D ((lay_word t nd (List.mem_of_getElem? h1)).imp (hw _) (hw _)) q1
  refine Done.step stp ?_
  have k' := k T' locs real X' N S' (by simp only [List.length_append, List.length_singleton] at A ⊢; omega) L
  rw [ea]
  exact k'
theorem g_getfield {ix t kf i : Nat} {nd : String × String} {v : Value} (O : Ok G K own bytes maxL ret R mn kc ks) (hd : decode bytes pc = .ok (.getfield ix, 3)) (hk : (lay t).2[kf]? = some nd) (w : Jvm.Cond.fieldLink own ix (lay t).1 nd.1 nd.2 ∈ tables_1)
    (hr : fld t kf H i = some v) (hp : pc + 3 = pc') (k : Run G K rv Hf pc' Ls (v :: st) H cells slots) : Run G K rv Hf pc Ls (.ref i :: st) H cells slots := by
  obtain ⟨l, Z, a0, n⟩ := G; obtain ⟨p, e, R', s, m, args, below, meth, c, kc', ks'⟩ := K
  obtain ⟨hx, hZ, hown, hby, hml, hret, hlk, rfl, hnm, rfl, rfl, hw⟩ := O
  subst hp
  intro T locs real X N S A L
  obtain ⟨vs, h1, h2⟩ := Option.bind_eq_some_iff.mp hr
  obtain ⟨B, l1, F⟩ := sim_obj S h1
  obtain ⟨T', X', e', stp⟩ := getF X hx hZ hown (host := "") (Or.inl (hw _ w)) Via.refl rfl (F kf nd v hk h2) (g := mkF m pc real ((.ref i :: st).map (sh n))) rfl rfl (hb hby hd)
  exact Done.step stp (k T' locs real X' N (by rw [e']; exact S) A L)
theorem g_putfield {ix t kf i nn : Nat} {nd : String × String} {v : Value} {ty : FieldType} {H' : List Obj} (O : Ok G K own bytes maxL ret R mn kc ks) (hd : decode bytes pc = .ok (.putfield ix, 3)) (hk : (lay t).2[kf]? = some nd) (w : Jvm.Cond.fieldLink own ix (lay t).1 nd.1 nd.2 ∈ tables_1)
    (w2 : Jvm.Cond.lays (lay t).1 (lay t).1 nd.1 nd.2 ∈ tables_1 ∨ (Jvm.Cond.laysFinal (lay t).1 (lay t).1 nd.1 nd.2 ∈ tables_1 ∧ own = (lay t).1 ∧ mn = "<init>")) (w3 : Jvm.Cond.instantiable (lay t).1 nn ∈ tables_1) (hty : parseFieldDescriptor nd.2 = some ty) (hn : ∀ n, narrow ty (sh n v) = sh n v) (hf : ∀ n, fits ty (sh n v) = true)
    (hr : setF t kf H i v = some H') (hp : pc + 3 = pc') (k : Run G K rv Hf pc' Ls st H' cells slots) : Run G K rv Hf pc Ls (v :: .ref i :: st) H cells slots := by
  obtain ⟨l, Z, a0, n⟩ := G; obtain ⟨p, e, R', s, m, args, below, meth, c, kc', ks'⟩ := K
  obtain ⟨hx, hZ, hown, hby, hml, hret, hlk, rfl, hnm, rfl, rfl, hw⟩ := O
  subst hp
  intro T locs real X N S A L
  obtain ⟨vs, h1, h2⟩ := Option.bind_eq_some_iff.mp hr
  have hkv : kf < vs.length := Decidable.byContradiction fun hkv => by rw [if_neg hkv] at h2; cases h2
  rw [if_pos hkv] at h2
  cases h2
  obtain ⟨B, l1, F⟩ := sim_obj S h1
  obtain ⟨T', h', X', e', W, stp⟩ := putF X hx hZ hown (host := "") (Or.inl (hw _ w)) Via.refl rfl (F kf nd _ hk (List.getElem?_eq_getElem hkv)) B (w2.imp (hw _) fun q => ⟨hw _ q.1, q.2.1, hnm.trans q.2.2⟩) (hw _ w3) hty (hn n) (hf n) (g := mkF m pc real ((v :: .ref i :: st).map (sh n))) rfl rfl (hb hby hd)
  exact Done.step stp (k T' _ real X' (Fr.snoc X' N (Nat.le_add_right _ _)) (by rw [e']; exact sim_put hw S h1 hk W) (by simpa using A) L)
theorem g_objinit {ix i W : Nat} (O : Ok G K own bytes maxL ret R mn kc ks) (hd : decode bytes pc = .ok (.invokespecial ix, 3)) (w1 : Jvm.Cond.methodLink own ix Lib.objectInit ∈ tables_1) (w2 : Jvm.Cond.instanceMethod Lib.objectInit ∈ tables_1) (w3 : Jvm.Cond.code Lib.objectInit ⟨#[0xb1]⟩ 1 none ∈ tables_1)
    (hLs : Ls.length = maxL) (hW : (st.map fun v => v.category).sum = W) (hf : 1 ≤ R.frames) (hl : W + 12 ≤ R.locals) (hp : pc + 3 = pc') (k : Run G K rv Hf pc' Ls st H cells slots) : Run G K rv Hf pc Ls (.ref i :: st) H cells slots := by
  obtain ⟨l, Z, a0, n⟩ := G; obtain ⟨p, e, R', s, m, args, below, meth, c, kc', ks'⟩ := K
  obtain ⟨hx, hZ, hown, hby, hml, hret, hlk, rfl, hnm, rfl, rfl, hw⟩ := O
  subst hp
  intro T locs real X N S A L
  obtain ⟨T', X', e', stp⟩ := initO X hx hZ hown (hw _ w1) (hw _ w2) (hw _ w3) rfl (g := mkF m pc real ((.ref i :: st).map (sh n))) rfl (by show real.size = _; rw [L.1, hml]; exact hLs) rfl (hb hby hd) hf (W := W) (by show 2 * 0 + ((st.map (sh n)).map _).sum ≤ _; rw [List.map_map, ← hW]; simp [Function.comp_def, sh_cat]) hl
  exact Done.step stp (k T' locs real X' N (by rw [e']; exact S) A L)
def Fg : List (Option Value) → List (Option Value) → Prop
  | [], [] => True
  | _ :: a, none :: b => Fg a b
  | x :: a, some v :: b => x = some v ∧ Fg a b
  | [], _ :: _ => False
  | _ :: _, [] => False
theorem Fg.spec : ∀ {A B : List (Option Value)}, Fg A B → A.length = B.length ∧ ∀ (k : Nat) (v : Value), B[k]? = some (some v) → A[k]? = some (some v)
  | [], [], _ => ⟨rfl, fun k v h => h⟩
  | x :: a, none :: b, h => by
    obtain ⟨h1, h2⟩ := Fg.spec (A := a) (B := b) h
    refine ⟨by simp [h1], fun k v hk => ?_⟩
    cases k with
    | zero => simp at hk
    | succ k => simpa using h2 k v (by simpa using hk)
  | x :: a, some w :: b, h => by
    have h' : x = some w ∧ Fg a b := h
    obtain ⟨h1, h2⟩ := Fg.spec (A := a) (B := b) h'.2
    refine ⟨by simp [h1], fun k v hk => ?_⟩
    cases k with
    | zero => simp at hk; simp [h'.1, hk]
    | succ k => simpa using h2 k v (by simpa using hk)
theorem g_forget (h : Fg Ls Ls') (k : Run G K rv Hf pc Ls' st H cells slots) : Run G K rv Hf pc Ls st H cells slots := by
  obtain ⟨l, Z, a0, n⟩ := G; obtain ⟨p, e, R', s, m, args, below, meth, c, kc', ks'⟩ := K
  obtain ⟨h1, h2⟩ := h.spec
  intro T locs real X N S A L
  exact k T locs real X N S A ⟨L.1.trans h1, L.2.1, fun j v hj => L.2.2 j v (h2 j v hj)⟩
/-! calls and returns -/
theorem cat_sum (n : Nat) (st : List Value) : ((st.map (sh n)).map fun v => v.category).sum = (st.map fun v => v.category).sum := by rw [List.map_map]; simp [Function.comp_def, sh_cat]
theorem g_static {ix : Nat} {y : MethodName} {bytes' : ByteArray} {maxL' : Nat} {ret' : Option FieldType} {rm : Room} {as : List Value} {H' : List Obj} {v : Option Value} {ps : List FieldType} {W : Nat} {stk : List Value} (O : Ok G K own bytes maxL ret R mn kc ks) (hd : decode bytes pc = .ok (.invokestatic ix, 3))
    (w1 : Jvm.Cond.methodLink own ix y ∈ tables_1) (w2 : Jvm.Cond.static y ∈ tables_1) (w3 : Jvm.Cond.initialized y.cls ∈ tables_1) (w4 : Jvm.Cond.code y bytes' maxL' ret' ∈ tables_1) (hy : y.cls ≠ "java/lang/invoke/MethodHandle" ∧ y.cls ≠ "java/lang/invoke/VarHandle")
    (pd : parseMethodDescriptor y.desc = some ⟨ps, ret'⟩) (hl : as.length = ps.length) (hstk : stk = as.reverse ++ st) (hLs : Ls.length = maxL) (hW : (st.map fun v => v.category).sum = W) (hf : rm.frames + 1 ≤ R.frames) (hlo : W + (maxL' + 11) + rm.locals ≤ R.locals) {c2 s2 : Nat} (hc2 : cells + rm.cells = c2) (hs2 : slots + rm.slots = s2) (hc : c2 ≤ R.cells) (hs : s2 ≤ R.slots)
    (con : Con G y bytes' maxL' ret' rm as H v H') (hp : pc + 3 = pc') (k : Run G K rv Hf pc' Ls (v.toList ++ st) H' c2 s2) : Run G K rv Hf pc Ls stk H cells slots := by
  obtain ⟨l, Z, a0, n⟩ := G; obtain ⟨p, e, R', s, m, args, below, meth, c, kc', ks'⟩ := K
  obtain ⟨hx, hZ, hown, hby, hml, hret, hlk, rfl, hnm, rfl, rfl, hw⟩ := O
  subst hp hstk hc2 hs2
  intro T locs real X N S A L
  obtain ⟨v', _, ⟨T', L', k', n'⟩, -, X', ⟨Lc, ⟨hv, N', S', hlen⟩, l1, y1, z1⟩, stp⟩ := Jvm.LawKit.callS X hx (y := y) hown (mvT hZ (hw _ w1)) (mvT hZ (hw _ w2)) (mvT hZ (hw _ w3)) (mvT hZ (hw _ w4)) hy (backOf (W := W) (Q := fun u hh LL => u = Option.map (sh n) v ∧ Fr n LL ∧ Sim (l, Z, a0, n) H' hh ∧ H'.length = H.length + rm.cells) (con T.heap S) hZ (hw _ w4) (hw _ w3) hf hlo) (g := mkF m pc real ((as.reverse ++ st).map (sh n))) rfl (by show real.size = _; rw [L.1, hml]; exact hLs)
    (argsL := as.map (sh n)) (rest := st.map (sh n)) (lenOf pd (by simpa using hl)) (by simp) (by show 2 * 0 + _ ≤ _; rw [cat_sum, hW]; exact Nat.le_of_eq (Nat.zero_add _)) (hb hby hd) (fun _ _ => ⟨rfl, rfl, hc, hs⟩)
  dsimp only [Pt.U, Pt.locs, Pt.cells, Pt.slots] at X' l1 y1 z1 stp S' N'
  subst l1 y1 z1 hv
  have k2 := k T' _ real X' (Fr.app N N') S' (by omega) L
  refine Done.step stp ?_
  cases v <;> exact k2
theorem g_special {ix i : Nat} {y : MethodName} {bytes' : ByteArray} {maxL' : Nat} {rm : Room} {as : List Value} {H' : List Obj} {ps : List FieldType} {W : Nat} {stk : List Value} (O : Ok G K own bytes maxL ret R mn kc ks) (hd : decode bytes pc = .ok (.invokespecial ix, 3)) (hy1 : y.name = "<init>")
    (w1 : Jvm.Cond.methodLink own ix y ∈ tables_1) (w2 : Jvm.Cond.instanceMethod y ∈ tables_1) (w3 : Jvm.Cond.initialized y.cls ∈ tables_1) (w4 : Jvm.Cond.code y bytes' maxL' none ∈ tables_1) (hy : y.cls ≠ "java/lang/invoke/MethodHandle" ∧ y.cls ≠ "java/lang/invoke/VarHandle")
    (pd : parseMethodDescriptor y.desc = some ⟨ps, none⟩) (hl : as.length = ps.length) (hstk : stk = as.reverse ++ .ref i :: st) (hLs : Ls.length = maxL) (hW : (st.map fun v => v.category).sum = W) (hf : rm.frames + 1 ≤ R.frames) (hlo : W + (maxL' + 11) + rm.locals ≤ R.locals) {c2 s2 : Nat} (hc2 : cells + rm.cells = c2) (hs2 : slots + rm.slots = s2) (hc : c2 ≤ R.cells) (hs : s2 ≤ R.slots)
    (con : Con G y bytes' maxL' none rm (.ref i :: as) H none H') (hp : pc + 3 = pc') (k : Run G K rv Hf pc' Ls st H' c2 s2) : Run G K rv Hf pc Ls stk H cells slots := by
  obtain ⟨l, Z, a0, n⟩ := G; obtain ⟨p, e, R', s, m, args, below, meth, c, kc', ks'⟩ := K
  obtain ⟨hx, hZ, hown, hby, hml, hret, hlk, rfl, hnm, rfl, rfl, hw⟩ := O
  subst hp hstk hc2 hs2
  intro T locs real X N S A L
  obtain ⟨v', _, ⟨T', L', k', n'⟩, -, X', ⟨Lc, ⟨hv, N', S', hlen⟩, l1, y1, z1⟩, stp⟩ := X.specialBack hx (y := y) hy1 hown (mvT hZ (hw _ w1)) (mvT hZ (hw _ w2)) (mvT hZ (hw _ w4)) hy (backOf (W := W) (Q := fun u hh LL => u = Option.map (sh n) none ∧ Fr n LL ∧ Sim (l, Z, a0, n) H' hh ∧ H'.length = H.length + rm.cells) (con T.heap S) hZ (hw _ w4) (hw _ w3) hf hlo) (g := mkF m pc real ((as.reverse ++ .ref i :: st).map (sh n))) rfl (by show real.size = _; rw [L.1, hml]; exact hLs) (Steps.refl _)
    (a := n + i) (argsL := as.map (sh n)) (rest := st.map (sh n)) (lenOf pd (by simpa using hl)) (by simp [sh]) (by show 2 * 0 + _ ≤ _; rw [cat_sum, hW]; exact Nat.le_of_eq (Nat.zero_add _)) (hb hby hd) (fun _ _ => ⟨rfl, rfl, hc, hs⟩)
  dsimp only [Pt.U, Pt.locs, Pt.cells, Pt.slots] at X' l1 y1 z1 stp S' N'
  subst l1 y1 z1 hv
  exact Done.step (fun t q => stp.trans q) (k T' _ real X' (Fr.app N N') S' (by omega) L)
theorem g_virtual {ix i t : Nat} {y : MethodName} {bytes' : ByteArray} {maxL' : Nat} {ret' : Option FieldType} {rm : Room} {as vs : List Value} {H' : List Obj} {v : Option Value} {ps : List FieldType} {W : Nat} {stk : List Value} (O : Ok G K own bytes maxL ret R mn kc ks) (hd : decode bytes pc = .ok (.invokevirtual ix, 3))
    (w1 : Jvm.Cond.methodLink own ix y ∈ tables_1) (w2 : Jvm.Cond.declares y ∈ tables_1) (w5 : Jvm.Cond.selects (lay t).1 y y ∈ tables_1) (w6 : Jvm.Cond.instanceMethod y ∈ tables_1) (w3 : Jvm.Cond.initialized y.cls ∈ tables_1) (w4 : Jvm.Cond.code y bytes' maxL' ret' ∈ tables_1) (hy : y.cls ≠ "java/lang/invoke/MethodHandle" ∧ y.cls ≠ "java/lang/invoke/VarHandle")
    (ho : obj t H i = some vs) (pd : parseMethodDescriptor y.desc = some ⟨ps, ret'⟩) (hl : as.length = ps.length) (hstk : stk = as.reverse ++ .ref i :: st) (hLs : Ls.length = maxL) (hW : (st.map fun v => v.category).sum = W) (hf : rm.frames + 1 ≤ R.frames) (hlo : W + (maxL' + 11) + rm.locals ≤ R.locals) {c2 s2 : Nat} (hc2 : cells + rm.cells = c2) (hs2 : slots + rm.slots = s2) (hc : c2 ≤ R.cells) (hs : s2 ≤ R.slots)
    (con : Con G y bytes' maxL' ret' rm (.ref i :: as) H v H') (hp : pc + 3 = pc') (k : Run G K rv Hf pc' Ls (v.toList ++ st) H' c2 s2) : Run G K rv Hf pc Ls stk H cells slots := by
  obtain ⟨l, Z, a0, n⟩ := G; obtain ⟨p, e, R', s, m, args, below, meth, c, kc', ks'⟩ := K
  obtain ⟨hx, hZ, hown, hby, hml, hret, hlk, rfl, hnm, rfl, rfl, hw⟩ := O
  subst hp hstk hc2 hs2
  intro T locs real X N S A L
  obtain ⟨cq, kq, qa, qb, qc⟩ := isOf hZ (T := T) rfl (sim_obj S ho).1
  obtain ⟨v', _, ⟨T', L', k', n'⟩, -, X', ⟨Lc, ⟨hv, N', S', hlen⟩, l1, y1, z1⟩, stp⟩ := X.virtualBack hx (y := y) (z := y) hown (mvT hZ (hw _ w1)) (mvT hZ (hw _ w2)) (notFace_of_selects (args := #[]) (mvT hZ (hw _ w5))) (mvT hZ (hw _ w5)) (mvT hZ (hw _ w6)) hy (backOf (W := W) (Q := fun u hh LL => u = Option.map (sh n) v ∧ Fr n LL ∧ Sim (l, Z, a0, n) H' hh ∧ H'.length = H.length + rm.cells) (con T.heap S) hZ (hw _ w4) (hw _ w3) hf hlo) qa qc (g := mkF m pc real ((as.reverse ++ .ref i :: st).map (sh n))) rfl (by show real.size = _; rw [L.1, hml]; exact hLs) (Steps.refl _)
    (argsL := as.map (sh n)) (rest := st.map (sh n)) (lenOf pd (by simpa using hl)) (by simp [sh]) (by show 2 * 0 + _ ≤ _; rw [cat_sum, hW]; exact Nat.le_of_eq (Nat.zero_add _)) (hb hby hd) (fun _ _ => ⟨rfl, rfl, hc, hs⟩)
  dsimp only [Pt.U, Pt.locs, Pt.cells, Pt.slots] at X' l1 y1 z1 stp S' N'
  subst l1 y1 z1 hv
  have k2 := k T' _ real X' (Fr.app N N') S' (by omega) L
  refine Done.step (fun t q => stp.trans q) ?_
  cases v <;> exact k2
theorem g_ret_void (O : Ok G K own bytes maxL none R mn kc ks) (hd : decode bytes pc = .ok (.return_, 1)) (hc : cells = kc) (hs : slots ≤ ks) : Run G K none H pc Ls [] H cells slots := by
  obtain ⟨l, Z, a0, n⟩ := G; obtain ⟨p, e, R', s, m, args, below, meth, c, kc', ks'⟩ := K
  obtain ⟨hx, hZ, hown, hby, hml, hret, hlk, rfl, hnm, rfl, rfl, hw⟩ := O
  intro T locs real X N S A L
  subst hc
  obtain ⟨fs, hr, hrun, hended, hW, hsame⟩ := X.leave (v := none) (fun _ => rfl) hlk
  exact ⟨_, _, X.returnOut hx hret (hb hby hd) hr, hrun, hended, _, _, rfl, ⟨rfl, N, S, A⟩, ⟨_, rfl⟩, hW, hsame.mono (Nat.le_refl _) hs⟩
theorem g_ret_int {x : Int32} (O : Ok G K own bytes maxL (some .int) R mn kc ks) (hd : decode bytes pc = .ok (.ireturn, 1)) (hc : cells = kc) (hs : slots ≤ ks) : Run G K (some (.int x)) H pc Ls (.int x :: st) H cells slots := by
  obtain ⟨l, Z, a0, n⟩ := G; obtain ⟨p, e, R', s, m, args, below, meth, c, kc', ks'⟩ := K
  obtain ⟨hx, hZ, hown, hby, hml, hret, hlk, rfl, hnm, rfl, rfl, hw⟩ := O
  intro T locs real X N S A L
  subst hc
  obtain ⟨fs, hr, hrun, hended, hW, hsame⟩ := X.leave (v := some (.int x)) (fun h => by rw [hret] at h; cases h) hlk
  exact ⟨_, _, retOut X hx hret rfl (Or.inl ⟨rfl, Or.inl rfl, x, rfl⟩) (hb hby hd) hr, hrun, hended, _, _, rfl, ⟨rfl, N, S, A⟩, ⟨_, rfl⟩, hW, hsame.mono (Nat.le_refl _) hs⟩
theorem g_ret_nar {t : FieldType} {x y : Int32} (O : Ok G K own bytes maxL (some t) R mn kc ks) (hd : decode bytes pc = .ok (.ireturn, 1)) (ht : t = .boolean ∨ t = .byte ∨ t = .char ∨ t = .short) (hy : nar t x = y) (hc : cells = kc) (hs : slots ≤ ks) : Run G K (some (.int y)) H pc Ls (.int x :: st) H cells slots := by
  obtain ⟨l, Z, a0, n⟩ := G; obtain ⟨p, e, R', s, m, args, below, meth, c, kc', ks'⟩ := K
  obtain ⟨hx, hZ, hown, hby, hml, hret, hlk, rfl, hnm, rfl, rfl, hw⟩ := O
  intro T locs real X N S A L
  subst hc hy
  obtain ⟨fs, hr, hrun, hended, hW, hsame⟩ := X.leave (v := some (.int (nar t x))) (fun h => by rw [hret] at h; cases h) hlk
  exact ⟨_, _, retN X hx hret ht (hb hby hd) hr, hrun, hended, _, _, rfl, ⟨rfl, N, S, A⟩, ⟨_, rfl⟩, hW, hsame.mono (Nat.le_refl _) hs⟩
theorem g_ret_long {x : Int64} (O : Ok G K own bytes maxL (some .long) R mn kc ks) (hd : decode bytes pc = .ok (.lreturn, 1)) (hc : cells = kc) (hs : slots ≤ ks) : Run G K (some (.long x)) H pc Ls (.long x :: st) H cells slots := by
  obtain ⟨l, Z, a0, n⟩ := G; obtain ⟨p, e, R', s, m, args, below, meth, c, kc', ks'⟩ := K
  obtain ⟨hx, hZ, hown, hby, hml, hret, hlk, rfl, hnm, rfl, rfl, hw⟩ := O
  intro T locs real X N S A L
  subst hc
  obtain ⟨fs, hr, hrun, hended, hW, hsame⟩ := X.leave (v := some (.long x)) (fun h => by rw [hret] at h; cases h) hlk
  exact ⟨_, _, retOut X hx hret rfl (Or.inr (Or.inl ⟨rfl, rfl, x, rfl⟩)) (hb hby hd) hr, hrun, hended, _, _, rfl, ⟨rfl, N, S, A⟩, ⟨_, rfl⟩, hW, hsame.mono (Nat.le_refl _) hs⟩
theorem g_ret_ref {t : FieldType} {i : Nat} (O : Ok G K own bytes maxL (some t) R mn kc ks) (hd : decode bytes pc = .ok (.areturn, 1)) (ht : t.isReference = true) (hn : ∀ a, narrow t (.ref a) = .ref a) (hc : cells = kc) (hs : slots ≤ ks) : Run G K (some (.ref i)) H pc Ls (.ref i :: st) H cells slots := by
  obtain ⟨l, Z, a0, n⟩ := G; obtain ⟨p, e, R', s, m, args, below, meth, c, kc', ks'⟩ := K
  obtain ⟨hx, hZ, hown, hby, hml, hret, hlk, rfl, hnm, rfl, rfl, hw⟩ := O
  intro T locs real X N S A L
  subst hc
  obtain ⟨fs, hr, hrun, hended, hW, hsame⟩ := X.leave (v := some (.ref (n + i))) (fun h => by rw [hret] at h; cases h) hlk
  exact ⟨_, _, retOut X hx hret (hn _) (Or.inr (Or.inr (Or.inr (Or.inr ⟨rfl, ht, rfl⟩)))) (hb hby hd) hr, hrun, hended, _, _, rfl, ⟨rfl, N, S, A⟩, ⟨_, rfl⟩, hW, hsame.mono (Nat.le_refl _) hs⟩
theorem con_of {y : MethodName} {rm : Room} {as : List Value} (hw : ∀ d ∈ tables_1, d.before G.2.2.1 G.2.1 = true) (pn : plainFor y = true) (hL : aloc as maxL = Ls) (body : ∀ K, Ok G K y.cls bytes maxL ret rm y.name rm.cells rm.slots → Run G K rv Hf 0 Ls [] H 0 0) : Con G y bytes maxL ret rm as H rv Hf := by
  obtain ⟨l, Z, a0, n⟩ := G
  intro h0 S0
  refine MetFree.of_bodySF pn hisR ?_
  intro p e s m args below meth c s₁ Bd hml0 hP hK
  obtain ⟨rfl, hZ, rfl⟩ := hP
  have X0 : Stand p l e rm s m _ below meth c s₁ [] 0 0 := Stand.of_body Bd
  have e0 : s₁.heap = s.heap := by rw [Bd.state]; rfl
  have k := body (p, e, rm, s, m, (as.map (sh n)).toArray, below, meth, c, rm.cells, rm.slots) ⟨Bd.exec, hZ, findClass_of_methodNamed Bd.named, Bd.bytes, hml0, Bd.returns, Bd.notSynchronized, rfl, (name_of_methodNamed Bd.named Bd.method).1, rfl, rfl, hw⟩
  subst hL
  obtain ⟨t, o, h1, h2, h3, v, L, h4, ⟨h5, h6, h7, h8⟩, h9⟩ := k s₁ [] _ X0 (Fr.nil n) (by rw [e0]; exact S0) (by rw [Nat.add_zero]; exact S0.1) (entry_rel n as maxL)
  refine ⟨t, o, h1, h2, h3, v, L, h4, ⟨h5, h6, h7, ?_⟩, h9⟩
  have := S0.1
  simp only at this
  omega
/-- the law itself, over an empty own heap -/
theorem law_of {l : Launch} {s : State} {a0 : Array Value} {as : List Value} {k0 k1 : Nat} (hw : ∀ d ∈ tables_1, d.before a0 s = true) (pn : plainFor x = true) (hL : aloc as maxLocals = Ls) (hid : as.map (sh s.heap.size) = as)
    (body : ∀ K, Ok (l, s, a0, s.heap.size) K x.cls code maxLocals Jvm.Pilot.@@N@@.ret room_1 x.name k0 k1 → Run (l, s, a0, s.heap.size) K rv Hf 0 Ls [] [] 0 0) :
    MetFree l x (head1 (Jvm.Cond.code x code maxLocals Jvm.Pilot.@@N@@.ret :: tables_1) room_1) (fun a U => a = as.toArray ∧ s.Warmed39 U.vm ∧ U.heap = s.heap) (fun _ _ _ _ _ => True) (fun _ U o U' => ∃ v L, o = .returned v ∧ (v = rv.map (sh s.heap.size) ∧ Fr s.heap.size L) ∧ FrameEnd U o U' L k0 k1) := by
  refine MetFree.of_bodySF pn hisR ?_
  intro p e U m args below meth c s₁ Bd hml0 hP hK
  obtain ⟨rfl, hZ, hU⟩ := hP
  have X0 : Stand p l e room_1 U m _ below meth c s₁ [] 0 0 := Stand.of_body Bd
  have e0 : s₁.heap = U.heap := by rw [Bd.state]; rfl
  have k := body (p, e, room_1, U, m, as.toArray, below, meth, c, k0, k1) ⟨Bd.exec, hZ, findClass_of_methodNamed Bd.named, Bd.bytes, hml0, Bd.returns, Bd.notSynchronized, rfl, (name_of_methodNamed Bd.named Bd.method).1, rfl, rfl, hw⟩
  subst hL
  have S0 : Sim (l, s, a0, s.heap.size) [] s₁.heap := ⟨by rw [e0, hU]; rfl, fun i o h => by simp at h⟩
  have er := entry_rel s.heap.size as maxLocals
  rw [hid] at er
  obtain ⟨t, o, h1, h2, h3, v, L, h4, ⟨h5, h6, h7, h8⟩, h9⟩ := k s₁ [] _ X0 (Fr.nil _) S0 (by rw [hU]; rfl) er
  exact ⟨t, o, h1, h2, h3, v, L, h4, ⟨h5, h6⟩, h9⟩
theorem Ok.w (O : Ok G K own bytes maxL ret R mn kc ks) : ∀ d ∈ tables_1, d.before G.2.2.1 G.2.1 = true := by
  obtain ⟨l, Z, a0, n⟩ := G; obtain ⟨p, e, R', s, m, args, below, meth, c, kc', ks'⟩ := K
  obtain ⟨-, -, -, -, -, -, -, -, -, -, -, hw⟩ := O
  exact hw
theorem bnd {α β : Type} {o : Option α} {f : α → Option β} {b : β} (h : o.bind f = some b) : ∃ a, o = some a ∧ f a = some b := Option.bind_eq_some_iff.mp h
theorem g_static1 {ix : Nat} {y : MethodName} {bytes' : ByteArray} {maxL' : Nat} {ret' : Option FieldType} {rm : Room} {as : List Value} {H' : List Obj} {v : Value} {ps : List FieldType} {W : Nat} {stk : List Value} (O : Ok G K own bytes maxL ret R mn kc ks) (hd : decode bytes pc = .ok (.invokestatic ix, 3))
    (w1 : Jvm.Cond.methodLink own ix y ∈ tables_1) (w2 : Jvm.Cond.static y ∈ tables_1) (w3 : Jvm.Cond.initialized y.cls ∈ tables_1) (w4 : Jvm.Cond.code y bytes' maxL' ret' ∈ tables_1) (hy : y.cls ≠ "java/lang/invoke/MethodHandle" ∧ y.cls ≠ "java/lang/invoke/VarHandle")
    (pd : parseMethodDescriptor y.desc = some ⟨ps, ret'⟩) (hl : as.length = ps.length) (hstk : stk = as.reverse ++ st) (hLs : Ls.length = maxL) (hW : (st.map fun v => v.category).sum = W) (hf : rm.frames + 1 ≤ R.frames) (hlo : W + (maxL' + 11) + rm.locals ≤ R.locals) {c2 s2 : Nat} (hc2 : cells + rm.cells = c2) (hs2 : slots + rm.slots = s2) (hc : c2 ≤ R.cells) (hs : s2 ≤ R.slots)
    (con : Con G y bytes' maxL' ret' rm as H (some v) H') (hp : pc + 3 = pc') (k : Run G K rv Hf pc' Ls (v :: st) H' c2 s2) : Run G K rv Hf pc Ls stk H cells slots := g_static O hd w1 w2 w3 w4 hy pd hl hstk hLs hW hf hlo hc2 hs2 hc hs con hp k
theorem g_static0 {ix : Nat} {y : MethodName} {bytes' : ByteArray} {maxL' : Nat} {ret' : Option FieldType} {rm : Room} {as : List Value} {H' : List Obj} {ps : List FieldType} {W : Nat} {stk : List Value} (O : Ok G K own bytes maxL ret R mn kc ks) (hd : decode bytes pc = .ok (.invokestatic ix, 3))
    (w1 : Jvm.Cond.methodLink own ix y ∈ tables_1) (w2 : Jvm.Cond.static y ∈ tables_1) (w3 : Jvm.Cond.initialized y.cls ∈ tables_1) (w4 : Jvm.Cond.code y bytes' maxL' ret' ∈ tables_1) (hy : y.cls ≠ "java/lang/invoke/MethodHandle" ∧ y.cls ≠ "java/lang/invoke/VarHandle")
    (pd : parseMethodDescriptor y.desc = some ⟨ps, ret'⟩) (hl : as.length = ps.length) (hstk : stk = as.reverse ++ st) (hLs : Ls.length = maxL) (hW : (st.map fun v => v.category).sum = W) (hf : rm.frames + 1 ≤ R.frames) (hlo : W + (maxL' + 11) + rm.locals ≤ R.locals) {c2 s2 : Nat} (hc2 : cells + rm.cells = c2) (hs2 : slots + rm.slots = s2) (hc : c2 ≤ R.cells) (hs : s2 ≤ R.slots)
    (con : Con G y bytes' maxL' ret' rm as H none H') (hp : pc + 3 = pc') (k : Run G K rv Hf pc' Ls st H' c2 s2) : Run G K rv Hf pc Ls stk H cells slots := g_static O hd w1 w2 w3 w4 hy pd hl hstk hLs hW hf hlo hc2 hs2 hc hs con hp k
theorem g_virtual1 {ix i t : Nat} {y : MethodName} {bytes' : ByteArray} {maxL' : Nat} {ret' : Option FieldType} {rm : Room} {as vs : List Value} {H' : List Obj} {v : Value} {ps : List FieldType} {W : Nat} {stk : List Value} (O : Ok G K own bytes maxL ret R mn kc ks) (hd : decode bytes pc = .ok (.invokevirtual ix, 3))
    (w1 : Jvm.Cond.methodLink own ix y ∈ tables_1) (w2 : Jvm.Cond.declares y ∈ tables_1) (w5 : Jvm.Cond.selects (lay t).1 y y ∈ tables_1) (w6 : Jvm.Cond.instanceMethod y ∈ tables_1) (w3 : Jvm.Cond.initialized y.cls ∈ tables_1) (w4 : Jvm.Cond.code y bytes' maxL' ret' ∈ tables_1) (hy : y.cls ≠ "java/lang/invoke/MethodHandle" ∧ y.cls ≠ "java/lang/invoke/VarHandle")
    (ho : obj t H i = some vs) (pd : parseMethodDescriptor y.desc = some ⟨ps, ret'⟩) (hl : as.length = ps.length) (hstk : stk = as.reverse ++ .ref i :: st) (hLs : Ls.length = maxL) (hW : (st.map fun v => v.category).sum = W) (hf : rm.frames + 1 ≤ R.frames) (hlo : W + (maxL' + 11) + rm.locals ≤ R.locals) {c2 s2 : Nat} (hc2 : cells + rm.cells = c2) (hs2 : slots + rm.slots = s2) (hc : c2 ≤ R.cells) (hs : s2 ≤ R.slots)
    (con : Con G y bytes' maxL' ret' rm (.ref i :: as) H (some v) H') (hp : pc + 3 = pc') (k : Run G K rv Hf pc' Ls (v :: st) H' c2 s2) : Run G K rv Hf pc Ls stk H cells slots := g_virtual O hd w1 w2 w5 w6 w3 w4 hy ho pd hl hstk hLs hW hf hlo hc2 hs2 hc hs con hp k
theorem g_virtual0 {ix i t : Nat} {y : MethodName} {bytes' : ByteArray} {maxL' : Nat} {ret' : Option FieldType} {rm : Room} {as vs : List Value} {H' : List Obj} {ps : List FieldType} {W : Nat} {stk : List Value} (O : Ok G K own bytes maxL ret R mn kc ks) (hd : decode bytes pc = .ok (.invokevirtual ix, 3))
    (w1 : Jvm.Cond.methodLink own ix y ∈ tables_1) (w2 : Jvm.Cond.declares y ∈ tables_1) (w5 : Jvm.Cond.selects (lay t).1 y y ∈ tables_1) (w6 : Jvm.Cond.instanceMethod y ∈ tables_1) (w3 : Jvm.Cond.initialized y.cls ∈ tables_1) (w4 : Jvm.Cond.code y bytes' maxL' ret' ∈ tables_1) (hy : y.cls ≠ "java/lang/invoke/MethodHandle" ∧ y.cls ≠ "java/lang/invoke/VarHandle")
    (ho : obj t H i = some vs) (pd : parseMethodDescriptor y.desc = some ⟨ps, ret'⟩) (hl : as.length = ps.length) (hstk : stk = as.reverse ++ .ref i :: st) (hLs : Ls.length = maxL) (hW : (st.map fun v => v.category).sum = W) (hf : rm.frames + 1 ≤ R.frames) (hlo : W + (maxL' + 11) + rm.locals ≤ R.locals) {c2 s2 : Nat} (hc2 : cells + rm.cells = c2) (hs2 : slots + rm.slots = s2) (hc : c2 ≤ R.cells) (hs : s2 ≤ R.slots)
    (con : Con G y bytes' maxL' ret' rm (.ref i :: as) H none H') (hp : pc + 3 = pc') (k : Run G K rv Hf pc' Ls st H' c2 s2) : Run G K rv Hf pc Ls stk H cells slots := g_virtual O hd w1 w2 w5 w6 w3 w4 hy ho pd hl hstk hLs hW hf hlo hc2 hs2 hc hs con hp k
/-- clone() of an int[] -/
def cloneI (cap : Nat) (H : List Obj) (i : Nat) : Option (List Obj) := (arr .int H i).bind fun vs => if vs.length ≤ cap ∧ vs.all (fun v => (getI v).isSome) = true then some (H ++ [.inl (.int, vs)]) else none
theorem g_cloneI {ix i cap W : Nat} {H' : List Obj} (O : Ok G K own bytes maxL ret R mn kc ks) (hd : decode bytes pc = .ok (.invokevirtual ix, 3)) (w1 : Jvm.Cond.methodLink own ix (⟨"[I", "clone", "()Ljava/lang/Object;"⟩ : MethodName) ∈ tables_1) (w2 : Jvm.Cond.sameMethod "[I" "java/lang/Object" "clone" "()Ljava/lang/Object;" ∈ tables_1) (w3 : Jvm.Cond.native (⟨"java/lang/Object", "clone", "()Ljava/lang/Object;"⟩ : MethodName) ∈ tables_1)
    (w4 : Jvm.Cond.instanceMethod (⟨"java/lang/Object", "clone", "()Ljava/lang/Object;"⟩ : MethodName) ∈ tables_1) (w5 : Jvm.Cond.selects "[I" (⟨"[I", "clone", "()Ljava/lang/Object;"⟩ : MethodName) (⟨"java/lang/Object", "clone", "()Ljava/lang/Object;"⟩ : MethodName) ∈ tables_1) (w6 : Jvm.Cond.castable "[I" "java/lang/Cloneable" ∈ tables_1) (hr : cloneI cap H i = some H')
    (hLs : Ls.length = maxL) (hW : (st.map fun v => v.category).sum = W) (hf : 1 ≤ R.frames) (hl : W + 14 ≤ R.locals) {c2 s2 : Nat} (hc2 : cells + 1 = c2) (hs2 : slots + cap = s2) (hc : c2 ≤ R.cells) (hs : s2 ≤ R.slots) (hp : pc + 3 = pc')
    (k : Run G K rv Hf pc' Ls (.ref H.length :: st) H' c2 s2) : Run G K rv Hf pc Ls (.ref i :: st) H cells slots := by
  obtain ⟨l, Z, a0, n⟩ := G; obtain ⟨p, e, R', s, m, args, below, meth, c, kc', ks'⟩ := K
  obtain ⟨hx, hZ, hown, hby, hml, hret, hlk, rfl, hnm, rfl, rfl, hw⟩ := O
  subst hp hc2 hs2
  intro T locs real X N S A L
  obtain ⟨vs, h1, h2⟩ := bnd hr
  have hv : vs.length ≤ cap ∧ vs.all (fun v => (getI v).isSome) = true := Decidable.byContradiction fun hv => by rw [if_neg hv] at h2; cases h2
  rw [if_pos hv] at h2
  cases h2
  obtain ⟨EX, cl, B, es⟩ := S.2 i _ (arr_e h1)
  have FC : FitC Z cl := fitC_of B fun j hj v hjv => by
    rw [es] at hjv
    simp only [List.getElem?_toArray, List.getElem?_map, Option.map_eq_some_iff] at hjv
    obtain ⟨u, q1, q2⟩ := hjv
    have := List.all_eq_true.mp hv.2 u (List.mem_of_getElem? q1)
    cases u <;> simp [getI] at this
    rw [← q2]; rfl
  obtain ⟨T', h', X', e', E, B', EX', stp⟩ := cloneA X hx hZ hown (hw _ w1) (hw _ w2) (hw _ w3) (hw _ w4) (hw _ w5) (hw _ w6) rfl B EX FC (g := mkF m pc real ((.ref i :: st).map (sh n))) rfl (by show real.size = _; rw [L.1, hml]; exact hLs) rfl (hb hby hd) hf (W := W) (cap := cap) (by show 2 * 0 + _ ≤ _; rw [cat_sum, hW]; exact Nat.le_of_eq (Nat.zero_add _)) hl (by rw [sl_len es]; exact hv.1) hc hs
  have hsz : h'.size = T.heap.size + 1 := by
    have a1 : Array.size T.heap < Array.size h' := B'.lt
    have a2 : Array.size T'.heap ≤ Array.size s.heap + (cells + 1) := X'.heapSize
    rw [e'] at a2
    have a3 : Array.size T.heap = n + H.length := S.1
    have a4 : Array.size s.heap + cells = n + H.length := A
    omega
  have ea : T.heap.size = n + H.length := S.1
  have S' : Sim (l, Z, a0, n) (H ++ [.inl (.int, vs)]) T'.heap := by
    rw [e']
    exact sim_ext S E hsz ⟨EX', _, B', es⟩
  refine Done.step stp ?_
  have k' := k T' locs real X' N S' (by simp only [List.length_append, List.length_singleton] at A ⊢; omega) L
  rw [ea]
  exact k'
theorem g_checkcastI {ix i : Nat} {vs : List Value} (O : Ok G K own bytes maxL ret R mn kc ks) (hd : decode bytes pc = .ok (.checkcast ix, 3)) (w1 : Jvm.Cond.classLink own ix "[I" ∈ tables_1) (ha : arr .int H i = some vs) (hp : pc + 3 = pc')
    (k : Run G K rv Hf pc' Ls (.ref i :: st) H cells slots) : Run G K rv Hf pc Ls (.ref i :: st) H cells slots := by
  obtain ⟨l, Z, a0, n⟩ := G; obtain ⟨p, e, R', s, m, args, below, meth, c, kc', ks'⟩ := K
  obtain ⟨hx, hZ, hown, hby, hml, hret, hlk, rfl, hnm, rfl, rfl, hw⟩ := O
  subst hp
  intro T locs real X N S A L
  obtain ⟨EX, cl, B, es⟩ := S.2 i _ (arr_e ha)
  obtain ⟨T', X', e', stp⟩ := castY X hx hZ hown (hw _ w1) rfl (Ins.self EX) (g := mkF m pc real ((.ref i :: st).map (sh n))) rfl rfl (hb hby hd)
  exact Done.step stp (k T' locs real X' N (by rw [e']; exact S) A L)
end Laws
/-! small facts on numbers -/
theorem own_n0 : nar .boolean 0 = 0 := rfl
theorem own_n1 : nar .boolean 1 = 1 := rfl
theorem own_fin {r : Int32} {N : Nat} (h0 : 0 ≤ r.toInt) (h1 : r.toInt < N) (hN : N ≤ 2147483648) : ∃ j : Fin N, r = (j.1).toInt32 := by
  refine ⟨⟨r.toInt.toNat, by omega⟩, Int32.toInt_inj.mp ?_⟩
  show r.toInt = (r.toInt.toNat).toInt32.toInt
  rw [len_toInt (by show r.toInt.toNat < 2 ^ 31; omega)]
  omega
theorem own_lt {x y : Int32} : x < y ↔ x.toInt < y.toInt := Int32.lt_iff_toInt_lt
theorem own_le {x y : Int32} : x ≤ y ↔ x.toInt ≤ y.toInt := Int32.le_iff_toInt_le
theorem own_eq {x y : Int32} : x = y ↔ x.toInt = y.toInt := Int32.toInt_inj.symm
theorem own_ltL {x y : Int64} : x < y ↔ x.toInt < y.toInt := Int64.lt_iff_toInt_lt
theorem own_eqL {x y : Int64} : x = y ↔ x.toInt = y.toInt := Int64.toInt_inj.symm
/-- x & (2^31 - 1), then a remainder by a small number -/
theorem own_m31 (a : Int32) : (a &&& 2147483647).toInt = a.toInt % 2147483648 := c_mask a 2147483647 31 (by decide) (by decide)
theorem own_mod {a y : Int32} {d : Int} (hy : y.toInt = d) (h : 0 ≤ a.toInt) : (a % y).toInt = a.toInt % d := (c_irem a y d hy).1 h

/-! body 1 -/
theorem d1_0 : decode prog_75_method_1_code 0 = .ok (.aload_n 0, 1) := by decide +kernel
theorem d1_1 : decode prog_75_method_1_code 1 = .ok (.invokespecial 1, 3) := by decide +kernel
theorem d1_4 : decode prog_75_method_1_code 4 = .ok (.aload_n 0, 1) := by decide +kernel
theorem d1_5 : decode prog_75_method_1_code 5 = .ok (.iload_n 1, 1) := by decide +kernel
theorem d1_6 : decode prog_75_method_1_code 6 = .ok (.newarray .int, 2) := by decide +kernel
theorem d1_8 : decode prog_75_method_1_code 8 = .ok (.putfield 7, 3) := by decide +kernel
theorem d1_11 : decode prog_75_method_1_code 11 = .ok (.aload_n 0, 1) := by decide +kernel
theorem d1_12 : decode prog_75_method_1_code 12 = .ok (.iload_n 1, 1) := by decide +kernel
theorem d1_13 : decode prog_75_method_1_code 13 = .ok (.newarray .int, 2) := by decide +kernel
theorem d1_15 : decode prog_75_method_1_code 15 = .ok (.putfield 13, 3) := by decide +kernel
theorem d1_18 : decode prog_75_method_1_code 18 = .ok (.aload_n 0, 1) := by decide +kernel
theorem d1_19 : decode prog_75_method_1_code 19 = .ok (.iload_n 1, 1) := by decide +kernel
theorem d1_20 : decode prog_75_method_1_code 20 = .ok (.newarray .int, 2) := by decide +kernel
theorem d1_22 : decode prog_75_method_1_code 22 = .ok (.putfield 16, 3) := by decide +kernel
theorem d1_25 : decode prog_75_method_1_code 25 = .ok (.iconst 0, 1) := by decide +kernel
theorem d1_26 : decode prog_75_method_1_code 26 = .ok (.istore_n 2, 1) := by decide +kernel
theorem d1_27 : decode prog_75_method_1_code 27 = .ok (.iload_n 2, 1) := by decide +kernel
theorem d1_28 : decode prog_75_method_1_code 28 = .ok (.iload_n 1, 1) := by decide +kernel
theorem d1_29 : decode prog_75_method_1_code 29 = .ok (.if_icmp .ge 23, 3) := by decide +kernel
theorem d1_32 : decode prog_75_method_1_code 32 = .ok (.aload_n 0, 1) := by decide +kernel
theorem d1_33 : decode prog_75_method_1_code 33 = .ok (.getfield 7, 3) := by decide +kernel
theorem d1_36 : decode prog_75_method_1_code 36 = .ok (.iload_n 2, 1) := by decide +kernel
theorem d1_37 : decode prog_75_method_1_code 37 = .ok (.iload_n 2, 1) := by decide +kernel
theorem d1_38 : decode prog_75_method_1_code 38 = .ok (.iastore, 1) := by decide +kernel
theorem d1_39 : decode prog_75_method_1_code 39 = .ok (.aload_n 0, 1) := by decide +kernel
theorem d1_40 : decode prog_75_method_1_code 40 = .ok (.getfield 13, 3) := by decide +kernel
theorem d1_43 : decode prog_75_method_1_code 43 = .ok (.iload_n 2, 1) := by decide +kernel
theorem d1_44 : decode prog_75_method_1_code 44 = .ok (.iload_n 2, 1) := by decide +kernel
theorem d1_45 : decode prog_75_method_1_code 45 = .ok (.iastore, 1) := by decide +kernel
theorem d1_46 : decode prog_75_method_1_code 46 = .ok (.iinc 2 1, 3) := by decide +kernel
theorem d1_49 : decode prog_75_method_1_code 49 = .ok (.goto (-22), 3) := by decide +kernel
theorem d1_52 : decode prog_75_method_1_code 52 = .ok (.aload_n 0, 1) := by decide +kernel
theorem d1_53 : decode prog_75_method_1_code 53 = .ok (.iload_n 1, 1) := by decide +kernel
theorem d1_54 : decode prog_75_method_1_code 54 = .ok (.newarray .int, 2) := by decide +kernel
theorem d1_56 : decode prog_75_method_1_code 56 = .ok (.putfield 19, 3) := by decide +kernel
theorem d1_59 : decode prog_75_method_1_code 59 = .ok (.aload_n 0, 1) := by decide +kernel
theorem d1_60 : decode prog_75_method_1_code 60 = .ok (.iload_n 1, 1) := by decide +kernel
theorem d1_61 : decode prog_75_method_1_code 61 = .ok (.newarray .int, 2) := by decide +kernel
theorem d1_63 : decode prog_75_method_1_code 63 = .ok (.putfield 22, 3) := by decide +kernel
theorem d1_66 : decode prog_75_method_1_code 66 = .ok (.aload_n 0, 1) := by decide +kernel
theorem d1_67 : decode prog_75_method_1_code 67 = .ok (.iload_n 1, 1) := by decide +kernel
theorem d1_68 : decode prog_75_method_1_code 68 = .ok (.newarray .int, 2) := by decide +kernel
theorem d1_70 : decode prog_75_method_1_code 70 = .ok (.putfield 25, 3) := by decide +kernel
theorem d1_73 : decode prog_75_method_1_code 73 = .ok (.aload_n 0, 1) := by decide +kernel
theorem d1_74 : decode prog_75_method_1_code 74 = .ok (.iload_n 1, 1) := by decide +kernel
theorem d1_75 : decode prog_75_method_1_code 75 = .ok (.newarray .int, 2) := by decide +kernel
theorem d1_77 : decode prog_75_method_1_code 77 = .ok (.putfield 28, 3) := by decide +kernel
theorem d1_80 : decode prog_75_method_1_code 80 = .ok (.iload_n 1, 1) := by decide +kernel
theorem d1_81 : decode prog_75_method_1_code 81 = .ok (.ifCond .le 15, 3) := by decide +kernel
theorem d1_84 : decode prog_75_method_1_code 84 = .ok (.aload_n 0, 1) := by decide +kernel
theorem d1_85 : decode prog_75_method_1_code 85 = .ok (.getfield 22, 3) := by decide +kernel
theorem d1_88 : decode prog_75_method_1_code 88 = .ok (.iconst 0, 1) := by decide +kernel
theorem d1_89 : decode prog_75_method_1_code 89 = .ok (.iload_n 1, 1) := by decide +kernel
theorem d1_90 : decode prog_75_method_1_code 90 = .ok (.iastore, 1) := by decide +kernel
theorem d1_91 : decode prog_75_method_1_code 91 = .ok (.aload_n 0, 1) := by decide +kernel
theorem d1_92 : decode prog_75_method_1_code 92 = .ok (.iconst 1, 1) := by decide +kernel
theorem d1_93 : decode prog_75_method_1_code 93 = .ok (.putfield 31, 3) := by decide +kernel
theorem d1_96 : decode prog_75_method_1_code 96 = .ok (.return_, 1) := by decide +kernel
theorem pd1 : parseMethodDescriptor "(I)V" = some ⟨[.int], none⟩ := by decide +kernel
theorem pn1 : plainFor (⟨"com/example/custode/custode/service/Partition", "<init>", "(I)V"⟩ : MethodName) = true := by first | exact plainFor_of_name (by first | (simp [plainName, overriddenIn]; done) | decide +kernel) | decide +kernel
abbrev rm1 : Room := { frames := 1, cells := 7, slots := 28, locals := 12 }
abbrev Ok1 (G : Gx) (K : Kx) : Prop := Ok G K "com/example/custode/custode/service/Partition" prog_75_method_1_code 3 (Option.none : Option FieldType) rm1 "<init>" 7 28
def m1_b96 (H : List Obj) : Option (List Obj) :=
  some H
theorem m1_t96 {G : Gx} {K : Kx} (O : Ok1 G K) (H : List Obj) (_ : Unit) (Hf : List Obj) (hf : m1_b96 H = some Hf) : Run G K none Hf 96 [none, none, none] [] H 7 28 := by
  unfold m1_b96 at hf
  cases hf
  exact g_ret_void O d1_96 rfl (by decide)
def m1_b27 : Nat → Nat → Int32 → Int32 → List Obj → Option (List Obj)
  | 0, _, _, _, _ => none
  | n + 1, v0, v1, v2, H =>
    if v2 < v1 then
      (fldA 0 0 H v0).bind fun x33 =>
      (wr .int H x33 v2 (.int v2)).bind fun H38 =>
      (fldA 0 1 H38 v0).bind fun x40 =>
      (wr .int H38 x40 v2 (.int v2)).bind fun H45 =>
      m1_b27 n v0 v1 (v2 + (1 : Int32)) H45
    else
      (mkArr .int 4 H v1).bind fun H54 =>
      (setF 0 3 H54 v0 (.ref (H.length))).bind fun H56 =>
      (mkArr .int 4 H56 v1).bind fun H61 =>
      (setF 0 4 H61 v0 (.ref (H56.length))).bind fun H63 =>
      (mkArr .int 4 H63 v1).bind fun H68 =>
      (setF 0 5 H68 v0 (.ref (H63.length))).bind fun H70 =>
      (mkArr .int 4 H70 v1).bind fun H75 =>
      (setF 0 6 H75 v0 (.ref (H70.length))).bind fun H77 =>
      if 0 < v1 then
        (fldA 0 4 H77 v0).bind fun x85 =>
        (wr .int H77 x85 (0 : Int32) (.int v1)).bind fun H90 =>
        (setF 0 7 H90 v0 (.int (1 : Int32))).bind fun H93 =>
        m1_b96 H93
      else
        m1_b96 H77
theorem m1_t27 {G : Gx} {K : Kx} (O : Ok1 G K) : ∀ (n : Nat) (v0 : Nat) (v1 : Int32) (v2 : Int32) (H : List Obj) (_ : Unit) (Hf : List Obj), m1_b27 n v0 v1 v2 H = some Hf → Run G K none Hf 27 [some (.ref v0), some (.int v1), some (.int v2)] [] H 3 12 := by
  intro n
  induction n with
  | zero => intro v0 v1 v2 H r Hf hf; cases hf
  | succ n ih =>
    intro v0 v1 v2 H r Hf hf
    rw [m1_b27] at hf
    refine g_iload_n O (pc' := 28) d1_27 (v := v2) rfl rfl ?_
    refine g_iload_n O (pc' := 29) d1_28 (v := v1) rfl rfl ?_
    refine g_icmp_ge O (pc' := 32) d1_29 rfl (by decide) (pc1 := 52) (by decide) (fun h29 => ?_) (fun h29 => ?_)
    · rw [if_neg h29] at hf
      refine g_aload_n O (pc' := 53) d1_52 (v := v0) rfl rfl ?_
      refine g_iload_n O (pc' := 54) d1_53 (v := v1) rfl rfl ?_
      obtain ⟨H54, h54, hf⟩ := bnd hf
      refine g_newarray O (pc' := 56) d1_54 (cap := 4) tw9 h54 (by decide) (c2 := 4) (s2 := 16) rfl rfl (by decide) (by decide) rfl ?_
      obtain ⟨H56, h56, hf⟩ := bnd hf
      refine g_putfield O (pc' := 59) d1_56 (t := 0) (kf := 3) rfl tw16 (Or.inr ⟨tw17, rfl, rfl⟩) tw1 (ty := (.array .int)) (by decide) (fun _ => rfl) (fun _ => rfl) h56 rfl ?_
      refine g_aload_n O (pc' := 60) d1_59 (v := v0) rfl rfl ?_
      refine g_iload_n O (pc' := 61) d1_60 (v := v1) rfl rfl ?_
      obtain ⟨H61, h61, hf⟩ := bnd hf
      refine g_newarray O (pc' := 63) d1_61 (cap := 4) tw9 h61 (by decide) (c2 := 5) (s2 := 20) rfl rfl (by decide) (by decide) rfl ?_
      obtain ⟨H63, h63, hf⟩ := bnd hf
      refine g_putfield O (pc' := 66) d1_63 (t := 0) (kf := 4) rfl tw18 (Or.inr ⟨tw19, rfl, rfl⟩) tw1 (ty := (.array .int)) (by decide) (fun _ => rfl) (fun _ => rfl) h63 rfl ?_
      refine g_aload_n O (pc' := 67) d1_66 (v := v0) rfl rfl ?_
      refine g_iload_n O (pc' := 68) d1_67 (v := v1) rfl rfl ?_
      obtain ⟨H68, h68, hf⟩ := bnd hf
      refine g_newarray O (pc' := 70) d1_68 (cap := 4) tw9 h68 (by decide) (c2 := 6) (s2 := 24) rfl rfl (by decide) (by decide) rfl ?_
      obtain ⟨H70, h70, hf⟩ := bnd hf
      refine g_putfield O (pc' := 73) d1_70 (t := 0) (kf := 5) rfl tw20 (Or.inr ⟨tw21, rfl, rfl⟩) tw1 (ty := (.array .int)) (by decide) (fun _ => rfl) (fun _ => rfl) h70 rfl ?_
      refine g_aload_n O (pc' := 74) d1_73 (v := v0) rfl rfl ?_
      refine g_iload_n O (pc' := 75) d1_74 (v := v1) rfl rfl ?_
      obtain ⟨H75, h75, hf⟩ := bnd hf
      refine g_newarray O (pc' := 77) d1_75 (cap := 4) tw9 h75 (by decide) (c2 := 7) (s2 := 28) rfl rfl (by decide) (by decide) rfl ?_
      obtain ⟨H77, h77, hf⟩ := bnd hf
      refine g_putfield O (pc' := 80) d1_77 (t := 0) (kf := 6) rfl tw22 (Or.inr ⟨tw23, rfl, rfl⟩) tw1 (ty := (.array .int)) (by decide) (fun _ => rfl) (fun _ => rfl) h77 rfl ?_
      refine g_iload_n O (pc' := 81) d1_80 (v := v1) rfl rfl ?_
      refine g_if_le O (pc' := 84) d1_81 rfl (by decide) (pc1 := 96) (by decide) (fun h81 => ?_) (fun h81 => ?_)
      · rw [if_neg h81] at hf
        refine g_forget (Ls' := [none, none, none]) trivial ?_
        exact m1_t96 O H77 () _ hf
      · rw [if_pos h81] at hf
        refine g_aload_n O (pc' := 85) d1_84 (v := v0) rfl rfl ?_
        obtain ⟨x85, h85, hf⟩ := bnd hf
        refine g_getfield O (pc' := 88) d1_85 (t := 0) (kf := 4) rfl tw18 (fldA_e h85) rfl ?_
        refine g_iconst O (pc' := 89) d1_88 (v := 0) (by decide) rfl ?_
        refine g_iload_n O (pc' := 90) d1_89 (v := v1) rfl rfl ?_
        obtain ⟨H90, h90, hf⟩ := bnd hf
        refine g_iastore O (pc' := 91) d1_90 h90 rfl ?_
        refine g_aload_n O (pc' := 92) d1_91 (v := v0) rfl rfl ?_
        refine g_iconst O (pc' := 93) d1_92 (v := 1) (by decide) rfl ?_
        obtain ⟨H93, h93, hf⟩ := bnd hf
        refine g_putfield O (pc' := 96) d1_93 (t := 0) (kf := 7) rfl tw24 (Or.inl tw25) tw1 (ty := .int) (by decide) (fun _ => rfl) (fun _ => rfl) h93 rfl ?_
        refine g_forget (Ls' := [none, none, none]) trivial ?_
        exact m1_t96 O H93 () _ hf
    · rw [if_pos h29] at hf
      refine g_aload_n O (pc' := 33) d1_32 (v := v0) rfl rfl ?_
      obtain ⟨x33, h33, hf⟩ := bnd hf
      refine g_getfield O (pc' := 36) d1_33 (t := 0) (kf := 0) rfl tw10 (fldA_e h33) rfl ?_
      refine g_iload_n O (pc' := 37) d1_36 (v := v2) rfl rfl ?_
      refine g_iload_n O (pc' := 38) d1_37 (v := v2) rfl rfl ?_
      obtain ⟨H38, h38, hf⟩ := bnd hf
      refine g_iastore O (pc' := 39) d1_38 h38 rfl ?_
      refine g_aload_n O (pc' := 40) d1_39 (v := v0) rfl rfl ?_
      obtain ⟨x40, h40, hf⟩ := bnd hf
      refine g_getfield O (pc' := 43) d1_40 (t := 0) (kf := 1) rfl tw12 (fldA_e h40) rfl ?_
      refine g_iload_n O (pc' := 44) d1_43 (v := v2) rfl rfl ?_
      refine g_iload_n O (pc' := 45) d1_44 (v := v2) rfl rfl ?_
      obtain ⟨H45, h45, hf⟩ := bnd hf
      refine g_iastore O (pc' := 46) d1_45 h45 rfl ?_
      refine g_iinc O (pc' := 49) d1_46 (w := 1) (v := v2) (by decide) rfl (Ls' := [some (.ref v0), some (.int v1), some (.int (v2 + (1 : Int32)))]) rfl rfl ?_
      refine g_goto O d1_49 (by decide) (pc' := 27) (by decide) ?_
      exact ih v0 v1 (v2 + (1 : Int32)) H45 () _ hf
def m1_b0 (v0 : Nat) (v1 : Int32) (H : List Obj) : Option (List Obj) :=
  (mkArr .int 4 H v1).bind fun H6 =>
  (setF 0 0 H6 v0 (.ref (H.length))).bind fun H8 =>
  (mkArr .int 4 H8 v1).bind fun H13 =>
  (setF 0 1 H13 v0 (.ref (H8.length))).bind fun H15 =>
  (mkArr .int 4 H15 v1).bind fun H20 =>
  (setF 0 2 H20 v0 (.ref (H15.length))).bind fun H22 =>
  m1_b27 8 v0 v1 (0 : Int32) H22
theorem m1_t0 {G : Gx} {K : Kx} (O : Ok1 G K) (v0 : Nat) (v1 : Int32) (H : List Obj) (_ : Unit) (Hf : List Obj) (hf : m1_b0 v0 v1 H = some Hf) : Run G K none Hf 0 [some (.ref v0), some (.int v1), none] [] H 0 0 := by
  unfold m1_b0 at hf
  refine g_aload_n O (pc' := 1) d1_0 (v := v0) rfl rfl ?_
  refine g_objinit O (pc' := 4) d1_1 tw6 tw7 tw8 rfl (W := 0) rfl (by decide) (by decide) rfl ?_
  refine g_aload_n O (pc' := 5) d1_4 (v := v0) rfl rfl ?_
  refine g_iload_n O (pc' := 6) d1_5 (v := v1) rfl rfl ?_
  obtain ⟨H6, h6, hf⟩ := bnd hf
  refine g_newarray O (pc' := 8) d1_6 (cap := 4) tw9 h6 (by decide) (c2 := 1) (s2 := 4) rfl rfl (by decide) (by decide) rfl ?_
  obtain ⟨H8, h8, hf⟩ := bnd hf
  refine g_putfield O (pc' := 11) d1_8 (t := 0) (kf := 0) rfl tw10 (Or.inr ⟨tw11, rfl, rfl⟩) tw1 (ty := (.array .int)) (by decide) (fun _ => rfl) (fun _ => rfl) h8 rfl ?_
  refine g_aload_n O (pc' := 12) d1_11 (v := v0) rfl rfl ?_
  refine g_iload_n O (pc' := 13) d1_12 (v := v1) rfl rfl ?_
  obtain ⟨H13, h13, hf⟩ := bnd hf
  refine g_newarray O (pc' := 15) d1_13 (cap := 4) tw9 h13 (by decide) (c2 := 2) (s2 := 8) rfl rfl (by decide) (by decide) rfl ?_
  obtain ⟨H15, h15, hf⟩ := bnd hf
  refine g_putfield O (pc' := 18) d1_15 (t := 0) (kf := 1) rfl tw12 (Or.inr ⟨tw13, rfl, rfl⟩) tw1 (ty := (.array .int)) (by decide) (fun _ => rfl) (fun _ => rfl) h15 rfl ?_
  refine g_aload_n O (pc' := 19) d1_18 (v := v0) rfl rfl ?_
  refine g_iload_n O (pc' := 20) d1_19 (v := v1) rfl rfl ?_
  obtain ⟨H20, h20, hf⟩ := bnd hf
  refine g_newarray O (pc' := 22) d1_20 (cap := 4) tw9 h20 (by decide) (c2 := 3) (s2 := 12) rfl rfl (by decide) (by decide) rfl ?_
  obtain ⟨H22, h22, hf⟩ := bnd hf
  refine g_putfield O (pc' := 25) d1_22 (t := 0) (kf := 2) rfl tw14 (Or.inr ⟨tw15, rfl, rfl⟩) tw1 (ty := (.array .int)) (by decide) (fun _ => rfl) (fun _ => rfl) h22 rfl ?_
  refine g_iconst O (pc' := 26) d1_25 (v := 0) (by decide) rfl ?_
  refine g_istore_n O (pc' := 27) d1_26 (Ls' := [some (.ref v0), some (.int v1), some (.int (0 : Int32))]) rfl rfl ?_
  exact m1_t27 O 8 v0 v1 (0 : Int32) H22 () _ hf
abbrev m1 (v0 : Nat) (v1 : Int32) (H : List Obj) : Option (List Obj) := m1_b0 v0 v1 H
theorem con1 {G : Gx} (hw : ∀ d ∈ tables_1, d.before G.2.2.1 G.2.1 = true) (v0 : Nat) (v1 : Int32) (H : List Obj) {Hf : List Obj} (hf : m1 v0 v1 H = some Hf) : Con G (⟨"com/example/custode/custode/service/Partition", "<init>", "(I)V"⟩ : MethodName) prog_75_method_1_code 3 (Option.none : Option FieldType) rm1 [(.ref v0), (.int v1)] H none Hf :=
  con_of hw pn1 rfl fun K O => m1_t0 O v0 v1 H () Hf hf

/-! body 5 -/
theorem d5_0 : decode prog_75_method_7_code 0 = .ok (.aload_n 0, 1) := by decide +kernel
theorem d5_1 : decode prog_75_method_7_code 1 = .ok (.getfield 16, 3) := by decide +kernel
theorem d5_4 : decode prog_75_method_7_code 4 = .ok (.iload_n 1, 1) := by decide +kernel
theorem d5_5 : decode prog_75_method_7_code 5 = .ok (.iaload, 1) := by decide +kernel
theorem d5_6 : decode prog_75_method_7_code 6 = .ok (.istore_n 2, 1) := by decide +kernel
theorem d5_7 : decode prog_75_method_7_code 7 = .ok (.aload_n 0, 1) := by decide +kernel
theorem d5_8 : decode prog_75_method_7_code 8 = .ok (.getfield 13, 3) := by decide +kernel
theorem d5_11 : decode prog_75_method_7_code 11 = .ok (.iload_n 1, 1) := by decide +kernel
theorem d5_12 : decode prog_75_method_7_code 12 = .ok (.iaload, 1) := by decide +kernel
theorem d5_13 : decode prog_75_method_7_code 13 = .ok (.istore_n 3, 1) := by decide +kernel
theorem d5_14 : decode prog_75_method_7_code 14 = .ok (.aload_n 0, 1) := by decide +kernel
theorem d5_15 : decode prog_75_method_7_code 15 = .ok (.getfield 25, 3) := by decide +kernel
theorem d5_18 : decode prog_75_method_7_code 18 = .ok (.iload_n 2, 1) := by decide +kernel
theorem d5_19 : decode prog_75_method_7_code 19 = .ok (.iaload, 1) := by decide +kernel
theorem d5_20 : decode prog_75_method_7_code 20 = .ok (.istore 4, 2) := by decide +kernel
theorem d5_22 : decode prog_75_method_7_code 22 = .ok (.iload_n 3, 1) := by decide +kernel
theorem d5_23 : decode prog_75_method_7_code 23 = .ok (.iload 4, 2) := by decide +kernel
theorem d5_25 : decode prog_75_method_7_code 25 = .ok (.if_icmp .lt 82, 3) := by decide +kernel
theorem d5_28 : decode prog_75_method_7_code 28 = .ok (.iload 4, 2) := by decide +kernel
theorem d5_30 : decode prog_75_method_7_code 30 = .ok (.aload_n 0, 1) := by decide +kernel
theorem d5_31 : decode prog_75_method_7_code 31 = .ok (.getfield 19, 3) := by decide +kernel
theorem d5_34 : decode prog_75_method_7_code 34 = .ok (.iload_n 2, 1) := by decide +kernel
theorem d5_35 : decode prog_75_method_7_code 35 = .ok (.iaload, 1) := by decide +kernel
theorem d5_36 : decode prog_75_method_7_code 36 = .ok (.if_icmp .ne 20, 3) := by decide +kernel
theorem d5_39 : decode prog_75_method_7_code 39 = .ok (.aload_n 0, 1) := by decide +kernel
theorem d5_40 : decode prog_75_method_7_code 40 = .ok (.getfield 28, 3) := by decide +kernel
theorem d5_43 : decode prog_75_method_7_code 43 = .ok (.aload_n 0, 1) := by decide +kernel
theorem d5_44 : decode prog_75_method_7_code 44 = .ok (.dup, 1) := by decide +kernel
theorem d5_45 : decode prog_75_method_7_code 45 = .ok (.getfield 40, 3) := by decide +kernel
theorem d5_48 : decode prog_75_method_7_code 48 = .ok (.dup_x1, 1) := by decide +kernel
theorem d5_49 : decode prog_75_method_7_code 49 = .ok (.iconst 1, 1) := by decide +kernel
theorem d5_50 : decode prog_75_method_7_code 50 = .ok (.iadd, 1) := by decide +kernel
theorem d5_51 : decode prog_75_method_7_code 51 = .ok (.putfield 40, 3) := by decide +kernel
theorem d5_54 : decode prog_75_method_7_code 54 = .ok (.iload_n 2, 1) := by decide +kernel
theorem d5_55 : decode prog_75_method_7_code 55 = .ok (.iastore, 1) := by decide +kernel
theorem d5_56 : decode prog_75_method_7_code 56 = .ok (.aload_n 0, 1) := by decide +kernel
theorem d5_57 : decode prog_75_method_7_code 57 = .ok (.getfield 7, 3) := by decide +kernel
theorem d5_60 : decode prog_75_method_7_code 60 = .ok (.iload 4, 2) := by decide +kernel
theorem d5_62 : decode prog_75_method_7_code 62 = .ok (.iaload, 1) := by decide +kernel
theorem d5_63 : decode prog_75_method_7_code 63 = .ok (.istore 5, 2) := by decide +kernel
theorem d5_65 : decode prog_75_method_7_code 65 = .ok (.aload_n 0, 1) := by decide +kernel
theorem d5_66 : decode prog_75_method_7_code 66 = .ok (.getfield 7, 3) := by decide +kernel
theorem d5_69 : decode prog_75_method_7_code 69 = .ok (.iload_n 3, 1) := by decide +kernel
theorem d5_70 : decode prog_75_method_7_code 70 = .ok (.iload 5, 2) := by decide +kernel
theorem d5_72 : decode prog_75_method_7_code 72 = .ok (.iastore, 1) := by decide +kernel
theorem d5_73 : decode prog_75_method_7_code 73 = .ok (.aload_n 0, 1) := by decide +kernel
theorem d5_74 : decode prog_75_method_7_code 74 = .ok (.getfield 13, 3) := by decide +kernel
theorem d5_77 : decode prog_75_method_7_code 77 = .ok (.iload 5, 2) := by decide +kernel
theorem d5_79 : decode prog_75_method_7_code 79 = .ok (.iload_n 3, 1) := by decide +kernel
theorem d5_80 : decode prog_75_method_7_code 80 = .ok (.iastore, 1) := by decide +kernel
theorem d5_81 : decode prog_75_method_7_code 81 = .ok (.aload_n 0, 1) := by decide +kernel
theorem d5_82 : decode prog_75_method_7_code 82 = .ok (.getfield 7, 3) := by decide +kernel
theorem d5_85 : decode prog_75_method_7_code 85 = .ok (.iload 4, 2) := by decide +kernel
theorem d5_87 : decode prog_75_method_7_code 87 = .ok (.iload_n 1, 1) := by decide +kernel
theorem d5_88 : decode prog_75_method_7_code 88 = .ok (.iastore, 1) := by decide +kernel
theorem d5_89 : decode prog_75_method_7_code 89 = .ok (.aload_n 0, 1) := by decide +kernel
theorem d5_90 : decode prog_75_method_7_code 90 = .ok (.getfield 13, 3) := by decide +kernel
theorem d5_93 : decode prog_75_method_7_code 93 = .ok (.iload_n 1, 1) := by decide +kernel
theorem d5_94 : decode prog_75_method_7_code 94 = .ok (.iload 4, 2) := by decide +kernel
theorem d5_96 : decode prog_75_method_7_code 96 = .ok (.iastore, 1) := by decide +kernel
theorem d5_97 : decode prog_75_method_7_code 97 = .ok (.aload_n 0, 1) := by decide +kernel
theorem d5_98 : decode prog_75_method_7_code 98 = .ok (.getfield 25, 3) := by decide +kernel
theorem d5_101 : decode prog_75_method_7_code 101 = .ok (.iload_n 2, 1) := by decide +kernel
theorem d5_102 : decode prog_75_method_7_code 102 = .ok (.iload 4, 2) := by decide +kernel
theorem d5_104 : decode prog_75_method_7_code 104 = .ok (.iconst 1, 1) := by decide +kernel
theorem d5_105 : decode prog_75_method_7_code 105 = .ok (.iadd, 1) := by decide +kernel
theorem d5_106 : decode prog_75_method_7_code 106 = .ok (.iastore, 1) := by decide +kernel
theorem d5_107 : decode prog_75_method_7_code 107 = .ok (.return_, 1) := by decide +kernel
theorem pd5 : parseMethodDescriptor "(I)V" = some ⟨[.int], none⟩ := by decide +kernel
theorem pn5 : plainFor (⟨"com/example/custode/custode/service/Partition", "mark", "(I)V"⟩ : MethodName) = true := by first | exact plainFor_of_name (by first | (simp [plainName, overriddenIn]; done) | decide +kernel) | decide +kernel
abbrev rm5 : Room := { frames := 0, cells := 0, slots := 0, locals := 0 }
abbrev Ok5 (G : Gx) (K : Kx) : Prop := Ok G K "com/example/custode/custode/service/Partition" prog_75_method_7_code 6 (Option.none : Option FieldType) rm5 "mark" 0 0
def m5_b107 (H : List Obj) : Option (List Obj) :=
  some H
theorem m5_t107 {G : Gx} {K : Kx} (O : Ok5 G K) (H : List Obj) (_ : Unit) (Hf : List Obj) (hf : m5_b107 H = some Hf) : Run G K none Hf 107 [none, none, none, none, none, none] [] H 0 0 := by
  unfold m5_b107 at hf
  cases hf
  exact g_ret_void O d5_107 rfl (by decide)
def m5_b56 (v0 : Nat) (v1 : Int32) (v2 : Int32) (v3 : Int32) (v4 : Int32) (H : List Obj) : Option (List Obj) :=
  (fldA 0 0 H v0).bind fun x57 =>
  (rdI .int H x57 v4).bind fun x62 =>
  (fldA 0 0 H v0).bind fun x66 =>
  (wr .int H x66 v3 (.int x62)).bind fun H72 =>
  (fldA 0 1 H72 v0).bind fun x74 =>
  (wr .int H72 x74 x62 (.int v3)).bind fun H80 =>
  (fldA 0 0 H80 v0).bind fun x82 =>
  (wr .int H80 x82 v4 (.int v1)).bind fun H88 =>
  (fldA 0 1 H88 v0).bind fun x90 =>
  (wr .int H88 x90 v1 (.int v4)).bind fun H96 =>
  (fldA 0 5 H96 v0).bind fun x98 =>
  (wr .int H96 x98 v2 (.int (v4 + (1 : Int32)))).bind fun H106 =>
  m5_b107 H106
theorem m5_t56 {G : Gx} {K : Kx} (O : Ok5 G K) (v0 : Nat) (v1 : Int32) (v2 : Int32) (v3 : Int32) (v4 : Int32) (H : List Obj) (_ : Unit) (Hf : List Obj) (hf : m5_b56 v0 v1 v2 v3 v4 H = some Hf) : Run G K none Hf 56 [some (.ref v0), some (.int v1), some (.int v2), some (.int v3), some (.int v4), none] [] H 0 0 := by
  unfold m5_b56 at hf
  refine g_aload_n O (pc' := 57) d5_56 (v := v0) rfl rfl ?_
  obtain ⟨x57, h57, hf⟩ := bnd hf
  refine g_getfield O (pc' := 60) d5_57 (t := 0) (kf := 0) rfl tw10 (fldA_e h57) rfl ?_
  refine g_iload O (pc' := 62) d5_60 (v := v4) rfl rfl ?_
  obtain ⟨x62, h62, hf⟩ := bnd hf
  refine g_iaload O (pc' := 63) d5_62 h62 rfl ?_
  refine g_istore O (pc' := 65) d5_63 (Ls' := [some (.ref v0), some (.int v1), some (.int v2), some (.int v3), some (.int v4), some (.int x62)]) rfl rfl ?_
  refine g_aload_n O (pc' := 66) d5_65 (v := v0) rfl rfl ?_
  obtain ⟨x66, h66, hf⟩ := bnd hf
  refine g_getfield O (pc' := 69) d5_66 (t := 0) (kf := 0) rfl tw10 (fldA_e h66) rfl ?_
  refine g_iload_n O (pc' := 70) d5_69 (v := v3) rfl rfl ?_
  refine g_iload O (pc' := 72) d5_70 (v := x62) rfl rfl ?_
  obtain ⟨H72, h72, hf⟩ := bnd hf
  refine g_iastore O (pc' := 73) d5_72 h72 rfl ?_
  refine g_aload_n O (pc' := 74) d5_73 (v := v0) rfl rfl ?_
  obtain ⟨x74, h74, hf⟩ := bnd hf
  refine g_getfield O (pc' := 77) d5_74 (t := 0) (kf := 1) rfl tw12 (fldA_e h74) rfl ?_
  refine g_iload O (pc' := 79) d5_77 (v := x62) rfl rfl ?_
  refine g_iload_n O (pc' := 80) d5_79 (v := v3) rfl rfl ?_
  obtain ⟨H80, h80, hf⟩ := bnd hf
  refine g_iastore O (pc' := 81) d5_80 h80 rfl ?_
  refine g_aload_n O (pc' := 82) d5_81 (v := v0) rfl rfl ?_
  obtain ⟨x82, h82, hf⟩ := bnd hf
  refine g_getfield O (pc' := 85) d5_82 (t := 0) (kf := 0) rfl tw10 (fldA_e h82) rfl ?_
  refine g_iload O (pc' := 87) d5_85 (v := v4) rfl rfl ?_
  refine g_iload_n O (pc' := 88) d5_87 (v := v1) rfl rfl ?_
  obtain ⟨H88, h88, hf⟩ := bnd hf
  refine g_iastore O (pc' := 89) d5_88 h88 rfl ?_
  refine g_aload_n O (pc' := 90) d5_89 (v := v0) rfl rfl ?_
  obtain ⟨x90, h90, hf⟩ := bnd hf
  refine g_getfield O (pc' := 93) d5_90 (t := 0) (kf := 1) rfl tw12 (fldA_e h90) rfl ?_
  refine g_iload_n O (pc' := 94) d5_93 (v := v1) rfl rfl ?_
  refine g_iload O (pc' := 96) d5_94 (v := v4) rfl rfl ?_
  obtain ⟨H96, h96, hf⟩ := bnd hf
  refine g_iastore O (pc' := 97) d5_96 h96 rfl ?_
  refine g_aload_n O (pc' := 98) d5_97 (v := v0) rfl rfl ?_
  obtain ⟨x98, h98, hf⟩ := bnd hf
  refine g_getfield O (pc' := 101) d5_98 (t := 0) (kf := 5) rfl tw20 (fldA_e h98) rfl ?_
  refine g_iload_n O (pc' := 102) d5_101 (v := v2) rfl rfl ?_
  refine g_iload O (pc' := 104) d5_102 (v := v4) rfl rfl ?_
  refine g_iconst O (pc' := 105) d5_104 (v := 1) (by decide) rfl ?_
  refine g_iadd O (pc' := 106) d5_105 rfl ?_
  obtain ⟨H106, h106, hf⟩ := bnd hf
  refine g_iastore O (pc' := 107) d5_106 h106 rfl ?_
  refine g_forget (Ls' := [none, none, none, none, none, none]) trivial ?_
  exact m5_t107 O H106 () _ hf
def m5_b0 (v0 : Nat) (v1 : Int32) (H : List Obj) : Option (List Obj) :=
  (fldA 0 2 H v0).bind fun x1 =>
  (rdI .int H x1 v1).bind fun x5 =>
  (fldA 0 1 H v0).bind fun x8 =>
  (rdI .int H x8 v1).bind fun x12 =>
  (fldA 0 5 H v0).bind fun x15 =>
  (rdI .int H x15 x5).bind fun x19 =>
  if x12 < x19 then
    m5_b107 H
  else
    (fldA 0 3 H v0).bind fun x31 =>
    (rdI .int H x31 x5).bind fun x35 =>
    if x19 = x35 then
      (fldA 0 6 H v0).bind fun x40 =>
      (fldI 0 8 H v0).bind fun x45 =>
      (setF 0 8 H v0 (.int (x45 + (1 : Int32)))).bind fun H51 =>
      (wr .int H51 x40 x45 (.int x5)).bind fun H55 =>
      m5_b56 v0 v1 x5 x12 x19 H55
    else
      m5_b56 v0 v1 x5 x12 x19 H
theorem m5_t0 {G : Gx} {K : Kx} (O : Ok5 G K) (v0 : Nat) (v1 : Int32) (H : List Obj) (_ : Unit) (Hf : List Obj) (hf : m5_b0 v0 v1 H = some Hf) : Run G K none Hf 0 [some (.ref v0), some (.int v1), none, none, none, none] [] H 0 0 := by
  unfold m5_b0 at hf
  refine g_aload_n O (pc' := 1) d5_0 (v := v0) rfl rfl ?_
  obtain ⟨x1, h1, hf⟩ := bnd hf
  refine g_getfield O (pc' := 4) d5_1 (t := 0) (kf := 2) rfl tw14 (fldA_e h1) rfl ?_
  refine g_iload_n O (pc' := 5) d5_4 (v := v1) rfl rfl ?_
  obtain ⟨x5, h5, hf⟩ := bnd hf
  refine g_iaload O (pc' := 6) d5_5 h5 rfl ?_
  refine g_istore_n O (pc' := 7) d5_6 (Ls' := [some (.ref v0), some (.int v1), some (.int x5), none, none, none]) rfl rfl ?_
  refine g_aload_n O (pc' := 8) d5_7 (v := v0) rfl rfl ?_
  obtain ⟨x8, h8, hf⟩ := bnd hf
  refine g_getfield O (pc' := 11) d5_8 (t := 0) (kf := 1) rfl tw12 (fldA_e h8) rfl ?_
  refine g_iload_n O (pc' := 12) d5_11 (v := v1) rfl rfl ?_
  obtain ⟨x12, h12, hf⟩ := bnd hf
  refine g_iaload O (pc' := 13) d5_12 h12 rfl ?_
  refine g_istore_n O (pc' := 14) d5_13 (Ls' := [some (.ref v0), some (.int v1), some (.int x5), some (.int x12), none, none]) rfl rfl ?_
  refine g_aload_n O (pc' := 15) d5_14 (v := v0) rfl rfl ?_
  obtain ⟨x15, h15, hf⟩ := bnd hf
  refine g_getfield O (pc' := 18) d5_15 (t := 0) (kf := 5) rfl tw20 (fldA_e h15) rfl ?_
  refine g_iload_n O (pc' := 19) d5_18 (v := x5) rfl rfl ?_
  obtain ⟨x19, h19, hf⟩ := bnd hf
  refine g_iaload O (pc' := 20) d5_19 h19 rfl ?_
  refine g_istore O (pc' := 22) d5_20 (Ls' := [some (.ref v0), some (.int v1), some (.int x5), some (.int x12), some (.int x19), none]) rfl rfl ?_
  refine g_iload_n O (pc' := 23) d5_22 (v := x12) rfl rfl ?_
  refine g_iload O (pc' := 25) d5_23 (v := x19) rfl rfl ?_
  refine g_icmp_lt O (pc' := 28) d5_25 rfl (by decide) (pc1 := 107) (by decide) (fun h25 => ?_) (fun h25 => ?_)
  · rw [if_pos h25] at hf
    refine g_forget (Ls' := [none, none, none, none, none, none]) trivial ?_
    exact m5_t107 O H () _ hf
  · rw [if_neg h25] at hf
    refine g_iload O (pc' := 30) d5_28 (v := x19) rfl rfl ?_
    refine g_aload_n O (pc' := 31) d5_30 (v := v0) rfl rfl ?_
    obtain ⟨x31, h31, hf⟩ := bnd hf
    refine g_getfield O (pc' := 34) d5_31 (t := 0) (kf := 3) rfl tw16 (fldA_e h31) rfl ?_
    refine g_iload_n O (pc' := 35) d5_34 (v := x5) rfl rfl ?_
    obtain ⟨x35, h35, hf⟩ := bnd hf
    refine g_iaload O (pc' := 36) d5_35 h35 rfl ?_
    refine g_icmp_ne O (pc' := 39) d5_36 rfl (by decide) (pc1 := 56) (by decide) (fun h36 => ?_) (fun h36 => ?_)
    · rw [if_neg h36] at hf
      exact m5_t56 O v0 v1 x5 x12 x19 H () _ hf
    · rw [if_pos h36] at hf
      refine g_aload_n O (pc' := 40) d5_39 (v := v0) rfl rfl ?_
      obtain ⟨x40, h40, hf⟩ := bnd hf
      refine g_getfield O (pc' := 43) d5_40 (t := 0) (kf := 6) rfl tw22 (fldA_e h40) rfl ?_
      refine g_aload_n O (pc' := 44) d5_43 (v := v0) rfl rfl ?_
      refine g_dup O (pc' := 45) d5_44 rfl rfl ?_
      obtain ⟨x45, h45, hf⟩ := bnd hf
      refine g_getfield O (pc' := 48) d5_45 (t := 0) (kf := 8) rfl tw38 (fldI_e h45) rfl ?_
      refine g_dup_x1 O (pc' := 49) d5_48 rfl rfl rfl ?_
      refine g_iconst O (pc' := 50) d5_49 (v := 1) (by decide) rfl ?_
      refine g_iadd O (pc' := 51) d5_50 rfl ?_
      obtain ⟨H51, h51, hf⟩ := bnd hf
      refine g_putfield O (pc' := 54) d5_51 (t := 0) (kf := 8) rfl tw38 (Or.inl tw39) tw1 (ty := .int) (by decide) (fun _ => rfl) (fun _ => rfl) h51 rfl ?_
      refine g_iload_n O (pc' := 55) d5_54 (v := x5) rfl rfl ?_
      obtain ⟨H55, h55, hf⟩ := bnd hf
      refine g_iastore O (pc' := 56) d5_55 h55 rfl ?_
      exact m5_t56 O v0 v1 x5 x12 x19 H55 () _ hf
abbrev m5 (v0 : Nat) (v1 : Int32) (H : List Obj) : Option (List Obj) := m5_b0 v0 v1 H
theorem con5 {G : Gx} (hw : ∀ d ∈ tables_1, d.before G.2.2.1 G.2.1 = true) (v0 : Nat) (v1 : Int32) (H : List Obj) {Hf : List Obj} (hf : m5 v0 v1 H = some Hf) : Con G (⟨"com/example/custode/custode/service/Partition", "mark", "(I)V"⟩ : MethodName) prog_75_method_7_code 6 (Option.none : Option FieldType) rm5 [(.ref v0), (.int v1)] H none Hf :=
  con_of hw pn5 rfl fun K O => m5_t0 O v0 v1 H () Hf hf

/-! body 3 -/
theorem d3_0 : decode method_4_code 0 = .ok (.iload_n 1, 1) := by decide +kernel
theorem d3_1 : decode method_4_code 1 = .ok (.iload_n 2, 1) := by decide +kernel
theorem d3_2 : decode method_4_code 2 = .ok (.ishr, 1) := by decide +kernel
theorem d3_3 : decode method_4_code 3 = .ok (.iconst 1, 1) := by decide +kernel
theorem d3_4 : decode method_4_code 4 = .ok (.iand, 1) := by decide +kernel
theorem d3_5 : decode method_4_code 5 = .ok (.ifCond .eq 8, 3) := by decide +kernel
theorem d3_8 : decode method_4_code 8 = .ok (.aload_n 0, 1) := by decide +kernel
theorem d3_9 : decode method_4_code 9 = .ok (.iload_n 2, 1) := by decide +kernel
theorem d3_10 : decode method_4_code 10 = .ok (.invokevirtual 49, 3) := by decide +kernel
theorem d3_13 : decode method_4_code 13 = .ok (.return_, 1) := by decide +kernel
theorem pd3 : parseMethodDescriptor "(Lcom/example/custode/custode/service/Partition;II)V" = some ⟨[.object "com/example/custode/custode/service/Partition", .int, .int], none⟩ := by decide +kernel
theorem pn3 : plainFor (⟨"com/example/custode/custode/service/PartitionSplitMarkedPinLaw", "markIf", "(Lcom/example/custode/custode/service/Partition;II)V"⟩ : MethodName) = true := by first | exact plainFor_of_name (by first | (simp [plainName, overriddenIn]; done) | decide +kernel) | decide +kernel
abbrev rm3 : Room := { frames := 1, cells := 0, slots := 0, locals := 17 }
abbrev Ok3 (G : Gx) (K : Kx) : Prop := Ok G K "com/example/custode/custode/service/PartitionSplitMarkedPinLaw" method_4_code 3 (Option.none : Option FieldType) rm3 "markIf" 0 0
def m3_b13 (H : List Obj) : Option (List Obj) :=
  some H
theorem m3_t13 {G : Gx} {K : Kx} (O : Ok3 G K) (H : List Obj) (_ : Unit) (Hf : List Obj) (hf : m3_b13 H = some Hf) : Run G K none Hf 13 [none, none, none] [] H 0 0 := by
  unfold m3_b13 at hf
  cases hf
  exact g_ret_void O d3_13 rfl (by decide)
def m3_b0 (v0 : Nat) (v1 : Int32) (v2 : Int32) (H : List Obj) : Option (List Obj) :=
  if ((v1 >>> (v2 &&& 31)) &&& (1 : Int32)) = 0 then
    m3_b13 H
  else
    (obj 0 H v0).bind fun _ =>
    (m5 v0 v2 H).bind fun H10 =>
    m3_b13 H10
theorem m3_t0 {G : Gx} {K : Kx} (O : Ok3 G K) (v0 : Nat) (v1 : Int32) (v2 : Int32) (H : List Obj) (_ : Unit) (Hf : List Obj) (hf : m3_b0 v0 v1 v2 H = some Hf) : Run G K none Hf 0 [some (.ref v0), some (.int v1), some (.int v2)] [] H 0 0 := by
  unfold m3_b0 at hf
  refine g_iload_n O (pc' := 1) d3_0 (v := v1) rfl rfl ?_
  refine g_iload_n O (pc' := 2) d3_1 (v := v2) rfl rfl ?_
  refine g_ishr O (pc' := 3) d3_2 rfl ?_
  refine g_iconst O (pc' := 4) d3_3 (v := 1) (by decide) rfl ?_
  refine g_iand O (pc' := 5) d3_4 rfl ?_
  refine g_if_eq O (pc' := 8) d3_5 rfl (by decide) (pc1 := 13) (by decide) (fun h5 => ?_) (fun h5 => ?_)
  · rw [if_pos h5] at hf
    refine g_forget (Ls' := [none, none, none]) trivial ?_
    exact m3_t13 O H () _ hf
  · rw [if_neg h5] at hf
    refine g_aload_n O (pc' := 9) d3_8 (v := v0) rfl rfl ?_
    refine g_iload_n O (pc' := 10) d3_9 (v := v2) rfl rfl ?_
    obtain ⟨_, ho10, hf⟩ := bnd hf
    obtain ⟨H10, h10, hf⟩ := bnd hf
    refine g_virtual0 O (pc' := 13) d3_10 (t := 0) tw40 tw41 tw43 tw42 tw2 tw44 (by decide) (ho10) pd5 (as := [(.int v2)]) rfl (st := []) rfl rfl (W := 0) rfl (rm := rm5) (by decide) (by decide) (c2 := 0) (s2 := 0) rfl rfl (by decide) (by decide) (con5 (Ok.w O) v0 v2 H h10) rfl ?_
    refine g_forget (Ls' := [none, none, none]) trivial ?_
    exact m3_t13 O H10 () _ hf
abbrev m3 (v0 : Nat) (v1 : Int32) (v2 : Int32) (H : List Obj) : Option (List Obj) := m3_b0 v0 v1 v2 H
theorem con3 {G : Gx} (hw : ∀ d ∈ tables_1, d.before G.2.2.1 G.2.1 = true) (v0 : Nat) (v1 : Int32) (v2 : Int32) (H : List Obj) {Hf : List Obj} (hf : m3 v0 v1 v2 H = some Hf) : Con G (⟨"com/example/custode/custode/service/PartitionSplitMarkedPinLaw", "markIf", "(Lcom/example/custode/custode/service/Partition;II)V"⟩ : MethodName) method_4_code 3 (Option.none : Option FieldType) rm3 [(.ref v0), (.int v1), (.int v2)] H none Hf :=
  con_of hw pn3 rfl fun K O => m3_t0 O v0 v1 v2 H () Hf hf

/-! body 2 -/
theorem d2_0 : decode method_3_code 0 = .ok (.aload_n 0, 1) := by decide +kernel
theorem d2_1 : decode method_3_code 1 = .ok (.iload_n 1, 1) := by decide +kernel
theorem d2_2 : decode method_3_code 2 = .ok (.iload_n 2, 1) := by decide +kernel
theorem d2_3 : decode method_3_code 3 = .ok (.invokestatic 45, 3) := by decide +kernel
theorem d2_6 : decode method_3_code 6 = .ok (.aload_n 0, 1) := by decide +kernel
theorem d2_7 : decode method_3_code 7 = .ok (.iload_n 1, 1) := by decide +kernel
theorem d2_8 : decode method_3_code 8 = .ok (.iload_n 2, 1) := by decide +kernel
theorem d2_9 : decode method_3_code 9 = .ok (.iconst 1, 1) := by decide +kernel
theorem d2_10 : decode method_3_code 10 = .ok (.iadd, 1) := by decide +kernel
theorem d2_11 : decode method_3_code 11 = .ok (.iconst 3, 1) := by decide +kernel
theorem d2_12 : decode method_3_code 12 = .ok (.iand, 1) := by decide +kernel
theorem d2_13 : decode method_3_code 13 = .ok (.invokestatic 45, 3) := by decide +kernel
theorem d2_16 : decode method_3_code 16 = .ok (.aload_n 0, 1) := by decide +kernel
theorem d2_17 : decode method_3_code 17 = .ok (.iload_n 1, 1) := by decide +kernel
theorem d2_18 : decode method_3_code 18 = .ok (.iload_n 2, 1) := by decide +kernel
theorem d2_19 : decode method_3_code 19 = .ok (.iconst 2, 1) := by decide +kernel
theorem d2_20 : decode method_3_code 20 = .ok (.iadd, 1) := by decide +kernel
theorem d2_21 : decode method_3_code 21 = .ok (.iconst 3, 1) := by decide +kernel
theorem d2_22 : decode method_3_code 22 = .ok (.iand, 1) := by decide +kernel
theorem d2_23 : decode method_3_code 23 = .ok (.invokestatic 45, 3) := by decide +kernel
theorem d2_26 : decode method_3_code 26 = .ok (.aload_n 0, 1) := by decide +kernel
theorem d2_27 : decode method_3_code 27 = .ok (.iload_n 1, 1) := by decide +kernel
theorem d2_28 : decode method_3_code 28 = .ok (.iload_n 2, 1) := by decide +kernel
theorem d2_29 : decode method_3_code 29 = .ok (.iconst 3, 1) := by decide +kernel
theorem d2_30 : decode method_3_code 30 = .ok (.iadd, 1) := by decide +kernel
theorem d2_31 : decode method_3_code 31 = .ok (.iconst 3, 1) := by decide +kernel
theorem d2_32 : decode method_3_code 32 = .ok (.iand, 1) := by decide +kernel
theorem d2_33 : decode method_3_code 33 = .ok (.invokestatic 45, 3) := by decide +kernel
theorem d2_36 : decode method_3_code 36 = .ok (.aload_n 0, 1) := by decide +kernel
theorem d2_37 : decode method_3_code 37 = .ok (.iload_n 1, 1) := by decide +kernel
theorem d2_38 : decode method_3_code 38 = .ok (.iload_n 3, 1) := by decide +kernel
theorem d2_39 : decode method_3_code 39 = .ok (.invokestatic 45, 3) := by decide +kernel
theorem d2_42 : decode method_3_code 42 = .ok (.return_, 1) := by decide +kernel
theorem pd2 : parseMethodDescriptor "(Lcom/example/custode/custode/service/Partition;III)V" = some ⟨[.object "com/example/custode/custode/service/Partition", .int, .int, .int], none⟩ := by decide +kernel
theorem pn2 : plainFor (⟨"com/example/custode/custode/service/PartitionSplitMarkedPinLaw", "markRound", "(Lcom/example/custode/custode/service/Partition;III)V"⟩ : MethodName) = true := by first | exact plainFor_of_name (by first | (simp [plainName, overriddenIn]; done) | decide +kernel) | decide +kernel
abbrev rm2 : Room := { frames := 2, cells := 0, slots := 0, locals := 31 }
abbrev Ok2 (G : Gx) (K : Kx) : Prop := Ok G K "com/example/custode/custode/service/PartitionSplitMarkedPinLaw" method_3_code 4 (Option.none : Option FieldType) rm2 "markRound" 0 0
def m2_b0 (v0 : Nat) (v1 : Int32) (v2 : Int32) (v3 : Int32) (H : List Obj) : Option (List Obj) :=
  (m3 v0 v1 v2 H).bind fun H3 =>
  (m3 v0 v1 ((v2 + (1 : Int32)) &&& (3 : Int32)) H3).bind fun H13 =>
  (m3 v0 v1 ((v2 + (2 : Int32)) &&& (3 : Int32)) H13).bind fun H23 =>
  (m3 v0 v1 ((v2 + (3 : Int32)) &&& (3 : Int32)) H23).bind fun H33 =>
  (m3 v0 v1 v3 H33).bind fun H39 =>
  some H39
theorem m2_t0 {G : Gx} {K : Kx} (O : Ok2 G K) (v0 : Nat) (v1 : Int32) (v2 : Int32) (v3 : Int32) (H : List Obj) (_ : Unit) (Hf : List Obj) (hf : m2_b0 v0 v1 v2 v3 H = some Hf) : Run G K none Hf 0 [some (.ref v0), some (.int v1), some (.int v2), some (.int v3)] [] H 0 0 := by
  unfold m2_b0 at hf
  refine g_aload_n O (pc' := 1) d2_0 (v := v0) rfl rfl ?_
  refine g_iload_n O (pc' := 2) d2_1 (v := v1) rfl rfl ?_
  refine g_iload_n O (pc' := 3) d2_2 (v := v2) rfl rfl ?_
  obtain ⟨H3, h3, hf⟩ := bnd hf
  refine g_static0 O (pc' := 6) d2_3 tw30 tw31 tw28 tw32 (by decide) pd3 (as := [(.ref v0), (.int v1), (.int v2)]) rfl (st := []) rfl rfl (W := 0) rfl (rm := rm3) (by decide) (by decide) (c2 := 0) (s2 := 0) rfl rfl (by decide) (by decide) (con3 (Ok.w O) v0 v1 v2 H h3) rfl ?_
  refine g_aload_n O (pc' := 7) d2_6 (v := v0) rfl rfl ?_
  refine g_iload_n O (pc' := 8) d2_7 (v := v1) rfl rfl ?_
  refine g_iload_n O (pc' := 9) d2_8 (v := v2) rfl rfl ?_
  refine g_iconst O (pc' := 10) d2_9 (v := 1) (by decide) rfl ?_
  refine g_iadd O (pc' := 11) d2_10 rfl ?_
  refine g_iconst O (pc' := 12) d2_11 (v := 3) (by decide) rfl ?_
  refine g_iand O (pc' := 13) d2_12 rfl ?_
  obtain ⟨H13, h13, hf⟩ := bnd hf
  refine g_static0 O (pc' := 16) d2_13 tw30 tw31 tw28 tw32 (by decide) pd3 (as := [(.ref v0), (.int v1), (.int ((v2 + (1 : Int32)) &&& (3 : Int32)))]) rfl (st := []) rfl rfl (W := 0) rfl (rm := rm3) (by decide) (by decide) (c2 := 0) (s2 := 0) rfl rfl (by decide) (by decide) (con3 (Ok.w O) v0 v1 ((v2 + (1 : Int32)) &&& (3 : Int32)) H3 h13) rfl ?_
  refine g_aload_n O (pc' := 17) d2_16 (v := v0) rfl rfl ?_
  refine g_iload_n O (pc' := 18) d2_17 (v := v1) rfl rfl ?_
  refine g_iload_n O (pc' := 19) d2_18 (v := v2) rfl rfl ?_
  refine g_iconst O (pc' := 20) d2_19 (v := 2) (by decide) rfl ?_
  refine g_iadd O (pc' := 21) d2_20 rfl ?_
  refine g_iconst O (pc' := 22) d2_21 (v := 3) (by decide) rfl ?_
  refine g_iand O (pc' := 23) d2_22 rfl ?_
  obtain ⟨H23, h23, hf⟩ := bnd hf
  refine g_static0 O (pc' := 26) d2_23 tw30 tw31 tw28 tw32 (by decide) pd3 (as := [(.ref v0), (.int v1), (.int ((v2 + (2 : Int32)) &&& (3 : Int32)))]) rfl (st := []) rfl rfl (W := 0) rfl (rm := rm3) (by decide) (by decide) (c2 := 0) (s2 := 0) rfl rfl (by decide) (by decide) (con3 (Ok.w O) v0 v1 ((v2 + (2 : Int32)) &&& (3 : Int32)) H13 h23) rfl ?_
  refine g_aload_n O (pc' := 27) d2_26 (v := v0) rfl rfl ?_
  refine g_iload_n O (pc' := 28) d2_27 (v := v1) rfl rfl ?_
  refine g_iload_n O (pc' := 29) d2_28 (v := v2) rfl rfl ?_
  refine g_iconst O (pc' := 30) d2_29 (v := 3) (by decide) rfl ?_
  refine g_iadd O (pc' := 31) d2_30 rfl ?_
  refine g_iconst O (pc' := 32) d2_31 (v := 3) (by decide) rfl ?_
  refine g_iand O (pc' := 33) d2_32 rfl ?_
  obtain ⟨H33, h33, hf⟩ := bnd hf
  refine g_static0 O (pc' := 36) d2_33 tw30 tw31 tw28 tw32 (by decide) pd3 (as := [(.ref v0), (.int v1), (.int ((v2 + (3 : Int32)) &&& (3 : Int32)))]) rfl (st := []) rfl rfl (W := 0) rfl (rm := rm3) (by decide) (by decide) (c2 := 0) (s2 := 0) rfl rfl (by decide) (by decide) (con3 (Ok.w O) v0 v1 ((v2 + (3 : Int32)) &&& (3 : Int32)) H23 h33) rfl ?_
  refine g_aload_n O (pc' := 37) d2_36 (v := v0) rfl rfl ?_
  refine g_iload_n O (pc' := 38) d2_37 (v := v1) rfl rfl ?_
  refine g_iload_n O (pc' := 39) d2_38 (v := v3) rfl rfl ?_
  obtain ⟨H39, h39, hf⟩ := bnd hf
  refine g_static0 O (pc' := 42) d2_39 tw30 tw31 tw28 tw32 (by decide) pd3 (as := [(.ref v0), (.int v1), (.int v3)]) rfl (st := []) rfl rfl (W := 0) rfl (rm := rm3) (by decide) (by decide) (c2 := 0) (s2 := 0) rfl rfl (by decide) (by decide) (con3 (Ok.w O) v0 v1 v3 H33 h39) rfl ?_
  cases hf
  exact g_ret_void O d2_42 rfl (by decide)
abbrev m2 (v0 : Nat) (v1 : Int32) (v2 : Int32) (v3 : Int32) (H : List Obj) : Option (List Obj) := m2_b0 v0 v1 v2 v3 H
theorem con2 {G : Gx} (hw : ∀ d ∈ tables_1, d.before G.2.2.1 G.2.1 = true) (v0 : Nat) (v1 : Int32) (v2 : Int32) (v3 : Int32) (H : List Obj) {Hf : List Obj} (hf : m2 v0 v1 v2 v3 H = some Hf) : Con G (⟨"com/example/custode/custode/service/PartitionSplitMarkedPinLaw", "markRound", "(Lcom/example/custode/custode/service/Partition;III)V"⟩ : MethodName) method_3_code 4 (Option.none : Option FieldType) rm2 [(.ref v0), (.int v1), (.int v2), (.int v3)] H none Hf :=
  con_of hw pn2 rfl fun K O => m2_t0 O v0 v1 v2 v3 H () Hf hf

/-! body 4 -/
theorem d4_0 : decode prog_75_method_8_code 0 = .ok (.iconst 0, 1) := by decide +kernel
theorem d4_1 : decode prog_75_method_8_code 1 = .ok (.istore_n 1, 1) := by decide +kernel
theorem d4_2 : decode prog_75_method_8_code 2 = .ok (.iload_n 1, 1) := by decide +kernel
theorem d4_3 : decode prog_75_method_8_code 3 = .ok (.aload_n 0, 1) := by decide +kernel
theorem d4_4 : decode prog_75_method_8_code 4 = .ok (.getfield 40, 3) := by decide +kernel
theorem d4_7 : decode prog_75_method_8_code 7 = .ok (.if_icmp .ge 191, 3) := by decide +kernel
theorem d4_10 : decode prog_75_method_8_code 10 = .ok (.aload_n 0, 1) := by decide +kernel
theorem d4_11 : decode prog_75_method_8_code 11 = .ok (.getfield 28, 3) := by decide +kernel
theorem d4_14 : decode prog_75_method_8_code 14 = .ok (.iload_n 1, 1) := by decide +kernel
theorem d4_15 : decode prog_75_method_8_code 15 = .ok (.iaload, 1) := by decide +kernel
theorem d4_16 : decode prog_75_method_8_code 16 = .ok (.istore_n 2, 1) := by decide +kernel
theorem d4_17 : decode prog_75_method_8_code 17 = .ok (.aload_n 0, 1) := by decide +kernel
theorem d4_18 : decode prog_75_method_8_code 18 = .ok (.getfield 25, 3) := by decide +kernel
theorem d4_21 : decode prog_75_method_8_code 21 = .ok (.iload_n 2, 1) := by decide +kernel
theorem d4_22 : decode prog_75_method_8_code 22 = .ok (.iaload, 1) := by decide +kernel
theorem d4_23 : decode prog_75_method_8_code 23 = .ok (.istore_n 3, 1) := by decide +kernel
theorem d4_24 : decode prog_75_method_8_code 24 = .ok (.iload_n 3, 1) := by decide +kernel
theorem d4_25 : decode prog_75_method_8_code 25 = .ok (.aload_n 0, 1) := by decide +kernel
theorem d4_26 : decode prog_75_method_8_code 26 = .ok (.getfield 22, 3) := by decide +kernel
theorem d4_29 : decode prog_75_method_8_code 29 = .ok (.iload_n 2, 1) := by decide +kernel
theorem d4_30 : decode prog_75_method_8_code 30 = .ok (.iaload, 1) := by decide +kernel
theorem d4_31 : decode prog_75_method_8_code 31 = .ok (.if_icmp .ge 149, 3) := by decide +kernel
theorem d4_34 : decode prog_75_method_8_code 34 = .ok (.aload_n 0, 1) := by decide +kernel
theorem d4_35 : decode prog_75_method_8_code 35 = .ok (.dup, 1) := by decide +kernel
theorem d4_36 : decode prog_75_method_8_code 36 = .ok (.getfield 31, 3) := by decide +kernel
theorem d4_39 : decode prog_75_method_8_code 39 = .ok (.dup_x1, 1) := by decide +kernel
theorem d4_40 : decode prog_75_method_8_code 40 = .ok (.iconst 1, 1) := by decide +kernel
theorem d4_41 : decode prog_75_method_8_code 41 = .ok (.iadd, 1) := by decide +kernel
theorem d4_42 : decode prog_75_method_8_code 42 = .ok (.putfield 31, 3) := by decide +kernel
theorem d4_45 : decode prog_75_method_8_code 45 = .ok (.istore 4, 2) := by decide +kernel
theorem d4_47 : decode prog_75_method_8_code 47 = .ok (.iload_n 3, 1) := by decide +kernel
theorem d4_48 : decode prog_75_method_8_code 48 = .ok (.aload_n 0, 1) := by decide +kernel
theorem d4_49 : decode prog_75_method_8_code 49 = .ok (.getfield 19, 3) := by decide +kernel
theorem d4_52 : decode prog_75_method_8_code 52 = .ok (.iload_n 2, 1) := by decide +kernel
theorem d4_53 : decode prog_75_method_8_code 53 = .ok (.iaload, 1) := by decide +kernel
theorem d4_54 : decode prog_75_method_8_code 54 = .ok (.isub, 1) := by decide +kernel
theorem d4_55 : decode prog_75_method_8_code 55 = .ok (.aload_n 0, 1) := by decide +kernel
theorem d4_56 : decode prog_75_method_8_code 56 = .ok (.getfield 22, 3) := by decide +kernel
theorem d4_59 : decode prog_75_method_8_code 59 = .ok (.iload_n 2, 1) := by decide +kernel
theorem d4_60 : decode prog_75_method_8_code 60 = .ok (.iaload, 1) := by decide +kernel
theorem d4_61 : decode prog_75_method_8_code 61 = .ok (.iload_n 3, 1) := by decide +kernel
theorem d4_62 : decode prog_75_method_8_code 62 = .ok (.isub, 1) := by decide +kernel
theorem d4_63 : decode prog_75_method_8_code 63 = .ok (.if_icmp .gt 34, 3) := by decide +kernel
theorem d4_66 : decode prog_75_method_8_code 66 = .ok (.aload_n 0, 1) := by decide +kernel
theorem d4_67 : decode prog_75_method_8_code 67 = .ok (.getfield 19, 3) := by decide +kernel
theorem d4_70 : decode prog_75_method_8_code 70 = .ok (.iload 4, 2) := by decide +kernel
theorem d4_72 : decode prog_75_method_8_code 72 = .ok (.aload_n 0, 1) := by decide +kernel
theorem d4_73 : decode prog_75_method_8_code 73 = .ok (.getfield 19, 3) := by decide +kernel
theorem d4_76 : decode prog_75_method_8_code 76 = .ok (.iload_n 2, 1) := by decide +kernel
theorem d4_77 : decode prog_75_method_8_code 77 = .ok (.iaload, 1) := by decide +kernel
theorem d4_78 : decode prog_75_method_8_code 78 = .ok (.iastore, 1) := by decide +kernel
theorem d4_79 : decode prog_75_method_8_code 79 = .ok (.aload_n 0, 1) := by decide +kernel
theorem d4_80 : decode prog_75_method_8_code 80 = .ok (.getfield 22, 3) := by decide +kernel
theorem d4_83 : decode prog_75_method_8_code 83 = .ok (.iload 4, 2) := by decide +kernel
theorem d4_85 : decode prog_75_method_8_code 85 = .ok (.iload_n 3, 1) := by decide +kernel
theorem d4_86 : decode prog_75_method_8_code 86 = .ok (.iastore, 1) := by decide +kernel
theorem d4_87 : decode prog_75_method_8_code 87 = .ok (.aload_n 0, 1) := by decide +kernel
theorem d4_88 : decode prog_75_method_8_code 88 = .ok (.getfield 19, 3) := by decide +kernel
theorem d4_91 : decode prog_75_method_8_code 91 = .ok (.iload_n 2, 1) := by decide +kernel
theorem d4_92 : decode prog_75_method_8_code 92 = .ok (.iload_n 3, 1) := by decide +kernel
theorem d4_93 : decode prog_75_method_8_code 93 = .ok (.iastore, 1) := by decide +kernel
theorem d4_94 : decode prog_75_method_8_code 94 = .ok (.goto 31, 3) := by decide +kernel
theorem d4_97 : decode prog_75_method_8_code 97 = .ok (.aload_n 0, 1) := by decide +kernel
theorem d4_98 : decode prog_75_method_8_code 98 = .ok (.getfield 19, 3) := by decide +kernel
theorem d4_101 : decode prog_75_method_8_code 101 = .ok (.iload 4, 2) := by decide +kernel
theorem d4_103 : decode prog_75_method_8_code 103 = .ok (.iload_n 3, 1) := by decide +kernel
theorem d4_104 : decode prog_75_method_8_code 104 = .ok (.iastore, 1) := by decide +kernel
theorem d4_105 : decode prog_75_method_8_code 105 = .ok (.aload_n 0, 1) := by decide +kernel
theorem d4_106 : decode prog_75_method_8_code 106 = .ok (.getfield 22, 3) := by decide +kernel
theorem d4_109 : decode prog_75_method_8_code 109 = .ok (.iload 4, 2) := by decide +kernel
theorem d4_111 : decode prog_75_method_8_code 111 = .ok (.aload_n 0, 1) := by decide +kernel
theorem d4_112 : decode prog_75_method_8_code 112 = .ok (.getfield 22, 3) := by decide +kernel
theorem d4_115 : decode prog_75_method_8_code 115 = .ok (.iload_n 2, 1) := by decide +kernel
theorem d4_116 : decode prog_75_method_8_code 116 = .ok (.iaload, 1) := by decide +kernel
theorem d4_117 : decode prog_75_method_8_code 117 = .ok (.iastore, 1) := by decide +kernel
theorem d4_118 : decode prog_75_method_8_code 118 = .ok (.aload_n 0, 1) := by decide +kernel
theorem d4_119 : decode prog_75_method_8_code 119 = .ok (.getfield 22, 3) := by decide +kernel
theorem d4_122 : decode prog_75_method_8_code 122 = .ok (.iload_n 2, 1) := by decide +kernel
theorem d4_123 : decode prog_75_method_8_code 123 = .ok (.iload_n 3, 1) := by decide +kernel
theorem d4_124 : decode prog_75_method_8_code 124 = .ok (.iastore, 1) := by decide +kernel
theorem d4_125 : decode prog_75_method_8_code 125 = .ok (.aload_n 0, 1) := by decide +kernel
theorem d4_126 : decode prog_75_method_8_code 126 = .ok (.getfield 19, 3) := by decide +kernel
theorem d4_129 : decode prog_75_method_8_code 129 = .ok (.iload 4, 2) := by decide +kernel
theorem d4_131 : decode prog_75_method_8_code 131 = .ok (.iaload, 1) := by decide +kernel
theorem d4_132 : decode prog_75_method_8_code 132 = .ok (.istore 5, 2) := by decide +kernel
theorem d4_134 : decode prog_75_method_8_code 134 = .ok (.iload 5, 2) := by decide +kernel
theorem d4_136 : decode prog_75_method_8_code 136 = .ok (.aload_n 0, 1) := by decide +kernel
theorem d4_137 : decode prog_75_method_8_code 137 = .ok (.getfield 22, 3) := by decide +kernel
theorem d4_140 : decode prog_75_method_8_code 140 = .ok (.iload 4, 2) := by decide +kernel
theorem d4_142 : decode prog_75_method_8_code 142 = .ok (.iaload, 1) := by decide +kernel
theorem d4_143 : decode prog_75_method_8_code 143 = .ok (.if_icmp .ge 23, 3) := by decide +kernel
theorem d4_146 : decode prog_75_method_8_code 146 = .ok (.aload_n 0, 1) := by decide +kernel
theorem d4_147 : decode prog_75_method_8_code 147 = .ok (.getfield 16, 3) := by decide +kernel
theorem d4_150 : decode prog_75_method_8_code 150 = .ok (.aload_n 0, 1) := by decide +kernel
theorem d4_151 : decode prog_75_method_8_code 151 = .ok (.getfield 7, 3) := by decide +kernel
theorem d4_154 : decode prog_75_method_8_code 154 = .ok (.iload 5, 2) := by decide +kernel
theorem d4_156 : decode prog_75_method_8_code 156 = .ok (.iaload, 1) := by decide +kernel
theorem d4_157 : decode prog_75_method_8_code 157 = .ok (.iload 4, 2) := by decide +kernel
theorem d4_159 : decode prog_75_method_8_code 159 = .ok (.iastore, 1) := by decide +kernel
theorem d4_160 : decode prog_75_method_8_code 160 = .ok (.iinc 5 1, 3) := by decide +kernel
theorem d4_163 : decode prog_75_method_8_code 163 = .ok (.goto (-29), 3) := by decide +kernel
theorem d4_166 : decode prog_75_method_8_code 166 = .ok (.aload_n 0, 1) := by decide +kernel
theorem d4_167 : decode prog_75_method_8_code 167 = .ok (.getfield 25, 3) := by decide +kernel
theorem d4_170 : decode prog_75_method_8_code 170 = .ok (.iload 4, 2) := by decide +kernel
theorem d4_172 : decode prog_75_method_8_code 172 = .ok (.aload_n 0, 1) := by decide +kernel
theorem d4_173 : decode prog_75_method_8_code 173 = .ok (.getfield 19, 3) := by decide +kernel
theorem d4_176 : decode prog_75_method_8_code 176 = .ok (.iload 4, 2) := by decide +kernel
theorem d4_178 : decode prog_75_method_8_code 178 = .ok (.iaload, 1) := by decide +kernel
theorem d4_179 : decode prog_75_method_8_code 179 = .ok (.iastore, 1) := by decide +kernel
theorem d4_180 : decode prog_75_method_8_code 180 = .ok (.aload_n 0, 1) := by decide +kernel
theorem d4_181 : decode prog_75_method_8_code 181 = .ok (.getfield 25, 3) := by decide +kernel
theorem d4_184 : decode prog_75_method_8_code 184 = .ok (.iload_n 2, 1) := by decide +kernel
theorem d4_185 : decode prog_75_method_8_code 185 = .ok (.aload_n 0, 1) := by decide +kernel
theorem d4_186 : decode prog_75_method_8_code 186 = .ok (.getfield 19, 3) := by decide +kernel
theorem d4_189 : decode prog_75_method_8_code 189 = .ok (.iload_n 2, 1) := by decide +kernel
theorem d4_190 : decode prog_75_method_8_code 190 = .ok (.iaload, 1) := by decide +kernel
theorem d4_191 : decode prog_75_method_8_code 191 = .ok (.iastore, 1) := by decide +kernel
theorem d4_192 : decode prog_75_method_8_code 192 = .ok (.iinc 1 1, 3) := by decide +kernel
theorem d4_195 : decode prog_75_method_8_code 195 = .ok (.goto (-193), 3) := by decide +kernel
theorem d4_198 : decode prog_75_method_8_code 198 = .ok (.aload_n 0, 1) := by decide +kernel
theorem d4_199 : decode prog_75_method_8_code 199 = .ok (.iconst 0, 1) := by decide +kernel
theorem d4_200 : decode prog_75_method_8_code 200 = .ok (.putfield 40, 3) := by decide +kernel
theorem d4_203 : decode prog_75_method_8_code 203 = .ok (.return_, 1) := by decide +kernel
theorem pd4 : parseMethodDescriptor "()V" = some ⟨[], none⟩ := by decide +kernel
theorem pn4 : plainFor (⟨"com/example/custode/custode/service/Partition", "splitMarked", "()V"⟩ : MethodName) = true := by first | exact plainFor_of_name (by first | (simp [plainName, overriddenIn]; done) | decide +kernel) | decide +kernel
abbrev rm4 : Room := { frames := 0, cells := 0, slots := 0, locals := 0 }
abbrev Ok4 (G : Gx) (K : Kx) : Prop := Ok G K "com/example/custode/custode/service/Partition" prog_75_method_8_code 6 (Option.none : Option FieldType) rm4 "splitMarked" 0 0
def m4_b180 (k2 : Nat → Int32 → List Obj → Option (List Obj)) (v0 : Nat) (v1 : Int32) (v2 : Int32) (H : List Obj) : Option (List Obj) :=
  (fldA 0 5 H v0).bind fun x181 =>
  (fldA 0 3 H v0).bind fun x186 =>
  (rdI .int H x186 v2).bind fun x190 =>
  (wr .int H x181 v2 (.int x190)).bind fun H191 =>
  k2 v0 (v1 + (1 : Int32)) H191
theorem m4_t180 {G : Gx} {K : Kx} (O : Ok4 G K) {k2 : Nat → Int32 → List Obj → Option (List Obj)} (hk2 : ∀ (v0 : Nat) (v1 : Int32) (H : List Obj) (_ : Unit) (Hf : List Obj), k2 v0 v1 H = some Hf → Run G K none Hf 2 [some (.ref v0), some (.int v1), none, none, none, none] [] H 0 0) (v0 : Nat) (v1 : Int32) (v2 : Int32) (H : List Obj) (_ : Unit) (Hf : List Obj) (hf : m4_b180 k2 v0 v1 v2 H = some Hf) : Run G K none Hf 180 [some (.ref v0), some (.int v1), some (.int v2), none, none, none] [] H 0 0 := by
  unfold m4_b180 at hf
  refine g_aload_n O (pc' := 181) d4_180 (v := v0) rfl rfl ?_
  obtain ⟨x181, h181, hf⟩ := bnd hf
  refine g_getfield O (pc' := 184) d4_181 (t := 0) (kf := 5) rfl tw20 (fldA_e h181) rfl ?_
  refine g_iload_n O (pc' := 185) d4_184 (v := v2) rfl rfl ?_
  refine g_aload_n O (pc' := 186) d4_185 (v := v0) rfl rfl ?_
  obtain ⟨x186, h186, hf⟩ := bnd hf
  refine g_getfield O (pc' := 189) d4_186 (t := 0) (kf := 3) rfl tw16 (fldA_e h186) rfl ?_
  refine g_iload_n O (pc' := 190) d4_189 (v := v2) rfl rfl ?_
  obtain ⟨x190, h190, hf⟩ := bnd hf
  refine g_iaload O (pc' := 191) d4_190 h190 rfl ?_
  obtain ⟨H191, h191, hf⟩ := bnd hf
  refine g_iastore O (pc' := 192) d4_191 h191 rfl ?_
  refine g_iinc O (pc' := 195) d4_192 (w := 1) (v := v1) (by decide) rfl (Ls' := [some (.ref v0), some (.int (v1 + (1 : Int32))), some (.int v2), none, none, none]) rfl rfl ?_
  refine g_goto O d4_195 (by decide) (pc' := 2) (by decide) ?_
  refine g_forget (Ls' := [some (.ref v0), some (.int (v1 + (1 : Int32))), none, none, none, none]) (And.intro rfl (And.intro rfl trivial)) ?_
  exact hk2 v0 (v1 + (1 : Int32)) H191 () _ hf
def m4_b134 (k2 : Nat → Int32 → List Obj → Option (List Obj)) : Nat → Nat → Int32 → Int32 → Int32 → Int32 → List Obj → Option (List Obj)
  | 0, _, _, _, _, _, _ => none
  | n + 1, v0, v1, v2, v4, v5, H =>
    (fldA 0 4 H v0).bind fun x137 =>
    (rdI .int H x137 v4).bind fun x142 =>
    if v5 < x142 then
      (fldA 0 2 H v0).bind fun x147 =>
      (fldA 0 0 H v0).bind fun x151 =>
      (rdI .int H x151 v5).bind fun x156 =>
      (wr .int H x147 x156 (.int v4)).bind fun H159 =>
      m4_b134 k2 n v0 v1 v2 v4 (v5 + (1 : Int32)) H159
    else
      (fldA 0 5 H v0).bind fun x167 =>
      (fldA 0 3 H v0).bind fun x173 =>
      (rdI .int H x173 v4).bind fun x178 =>
      (wr .int H x167 v4 (.int x178)).bind fun H179 =>
      m4_b180 k2 v0 v1 v2 H179
theorem m4_t134 {G : Gx} {K : Kx} (O : Ok4 G K) {k2 : Nat → Int32 → List Obj → Option (List Obj)} (hk2 : ∀ (v0 : Nat) (v1 : Int32) (H : List Obj) (_ : Unit) (Hf : List Obj), k2 v0 v1 H = some Hf → Run G K none Hf 2 [some (.ref v0), some (.int v1), none, none, none, none] [] H 0 0) : ∀ (n : Nat) (v0 : Nat) (v1 : Int32) (v2 : Int32) (v4 : Int32) (v5 : Int32) (H : List Obj) (_ : Unit) (Hf : List Obj), m4_b134 k2 n v0 v1 v2 v4 v5 H = some Hf → Run G K none Hf 134 [some (.ref v0), some (.int v1), some (.int v2), none, some (.int v4), some (.int v5)] [] H 0 0 := by
  intro n
  induction n with
  | zero => intro v0 v1 v2 v4 v5 H r Hf hf; cases hf
  | succ n ih =>
    intro v0 v1 v2 v4 v5 H r Hf hf
    rw [m4_b134] at hf
    refine g_iload O (pc' := 136) d4_134 (v := v5) rfl rfl ?_
    refine g_aload_n O (pc' := 137) d4_136 (v := v0) rfl rfl ?_
    obtain ⟨x137, h137, hf⟩ := bnd hf
    refine g_getfield O (pc' := 140) d4_137 (t := 0) (kf := 4) rfl tw18 (fldA_e h137) rfl ?_
    refine g_iload O (pc' := 142) d4_140 (v := v4) rfl rfl ?_
    obtain ⟨x142, h142, hf⟩ := bnd hf
    refine g_iaload O (pc' := 143) d4_142 h142 rfl ?_
    refine g_icmp_ge O (pc' := 146) d4_143 rfl (by decide) (pc1 := 166) (by decide) (fun h143 => ?_) (fun h143 => ?_)
    · rw [if_neg h143] at hf
      refine g_aload_n O (pc' := 167) d4_166 (v := v0) rfl rfl ?_
      obtain ⟨x167, h167, hf⟩ := bnd hf
      refine g_getfield O (pc' := 170) d4_167 (t := 0) (kf := 5) rfl tw20 (fldA_e h167) rfl ?_
      refine g_iload O (pc' := 172) d4_170 (v := v4) rfl rfl ?_
      refine g_aload_n O (pc' := 173) d4_172 (v := v0) rfl rfl ?_
      obtain ⟨x173, h173, hf⟩ := bnd hf
      refine g_getfield O (pc' := 176) d4_173 (t := 0) (kf := 3) rfl tw16 (fldA_e h173) rfl ?_
      refine g_iload O (pc' := 178) d4_176 (v := v4) rfl rfl ?_
      obtain ⟨x178, h178, hf⟩ := bnd hf
      refine g_iaload O (pc' := 179) d4_178 h178 rfl ?_
      obtain ⟨H179, h179, hf⟩ := bnd hf
      refine g_iastore O (pc' := 180) d4_179 h179 rfl ?_
      refine g_forget (Ls' := [some (.ref v0), some (.int v1), some (.int v2), none, none, none]) (And.intro rfl (And.intro rfl (And.intro rfl trivial))) ?_
      exact m4_t180 O hk2 v0 v1 v2 H179 () _ hf
    · rw [if_pos h143] at hf
      refine g_aload_n O (pc' := 147) d4_146 (v := v0) rfl rfl ?_
      obtain ⟨x147, h147, hf⟩ := bnd hf
      refine g_getfield O (pc' := 150) d4_147 (t := 0) (kf := 2) rfl tw14 (fldA_e h147) rfl ?_
      refine g_aload_n O (pc' := 151) d4_150 (v := v0) rfl rfl ?_
      obtain ⟨x151, h151, hf⟩ := bnd hf
      refine g_getfield O (pc' := 154) d4_151 (t := 0) (kf := 0) rfl tw10 (fldA_e h151) rfl ?_
      refine g_iload O (pc' := 156) d4_154 (v := v5) rfl rfl ?_
      obtain ⟨x156, h156, hf⟩ := bnd hf
      refine g_iaload O (pc' := 157) d4_156 h156 rfl ?_
      refine g_iload O (pc' := 159) d4_157 (v := v4) rfl rfl ?_
      obtain ⟨H159, h159, hf⟩ := bnd hf
      refine g_iastore O (pc' := 160) d4_159 h159 rfl ?_
      refine g_iinc O (pc' := 163) d4_160 (w := 1) (v := v5) (by decide) rfl (Ls' := [some (.ref v0), some (.int v1), some (.int v2), none, some (.int v4), some (.int (v5 + (1 : Int32)))]) rfl rfl ?_
      refine g_goto O d4_163 (by decide) (pc' := 134) (by decide) ?_
      exact ih v0 v1 v2 v4 (v5 + (1 : Int32)) H159 () _ hf
def m4_b125 (k2 : Nat → Int32 → List Obj → Option (List Obj)) (v0 : Nat) (v1 : Int32) (v2 : Int32) (v4 : Int32) (H : List Obj) : Option (List Obj) :=
  (fldA 0 3 H v0).bind fun x126 =>
  (rdI .int H x126 v4).bind fun x131 =>
  m4_b134 k2 8 v0 v1 v2 v4 x131 H
theorem m4_t125 {G : Gx} {K : Kx} (O : Ok4 G K) {k2 : Nat → Int32 → List Obj → Option (List Obj)} (hk2 : ∀ (v0 : Nat) (v1 : Int32) (H : List Obj) (_ : Unit) (Hf : List Obj), k2 v0 v1 H = some Hf → Run G K none Hf 2 [some (.ref v0), some (.int v1), none, none, none, none] [] H 0 0) (v0 : Nat) (v1 : Int32) (v2 : Int32) (v4 : Int32) (H : List Obj) (_ : Unit) (Hf : List Obj) (hf : m4_b125 k2 v0 v1 v2 v4 H = some Hf) : Run G K none Hf 125 [some (.ref v0), some (.int v1), some (.int v2), none, some (.int v4), none] [] H 0 0 := by
  unfold m4_b125 at hf
  refine g_aload_n O (pc' := 126) d4_125 (v := v0) rfl rfl ?_
  obtain ⟨x126, h126, hf⟩ := bnd hf
  refine g_getfield O (pc' := 129) d4_126 (t := 0) (kf := 3) rfl tw16 (fldA_e h126) rfl ?_
  refine g_iload O (pc' := 131) d4_129 (v := v4) rfl rfl ?_
  obtain ⟨x131, h131, hf⟩ := bnd hf
  refine g_iaload O (pc' := 132) d4_131 h131 rfl ?_
  refine g_istore O (pc' := 134) d4_132 (Ls' := [some (.ref v0), some (.int v1), some (.int v2), none, some (.int v4), some (.int x131)]) rfl rfl ?_
  exact m4_t134 O hk2 8 v0 v1 v2 v4 x131 H () _ hf
def m4_b2 : Nat → Nat → Int32 → List Obj → Option (List Obj)
  | 0, _, _, _ => none
  | n + 1, v0, v1, H =>
    (fldI 0 8 H v0).bind fun x4 =>
    if v1 < x4 then
      (fldA 0 6 H v0).bind fun x11 =>
      (rdI .int H x11 v1).bind fun x15 =>
      (fldA 0 5 H v0).bind fun x18 =>
      (rdI .int H x18 x15).bind fun x22 =>
      (fldA 0 4 H v0).bind fun x26 =>
      (rdI .int H x26 x15).bind fun x30 =>
      if x22 < x30 then
        (fldI 0 7 H v0).bind fun x36 =>
        (setF 0 7 H v0 (.int (x36 + (1 : Int32)))).bind fun H42 =>
        (fldA 0 3 H42 v0).bind fun x49 =>
        (rdI .int H42 x49 x15).bind fun x53 =>
        (fldA 0 4 H42 v0).bind fun x56 =>
        (rdI .int H42 x56 x15).bind fun x60 =>
        if (x60 - x22) < (x22 - x53) then
          (fldA 0 3 H42 v0).bind fun x98 =>
          (wr .int H42 x98 x36 (.int x22)).bind fun H104 =>
          (fldA 0 4 H104 v0).bind fun x106 =>
          (fldA 0 4 H104 v0).bind fun x112 =>
          (rdI .int H104 x112 x15).bind fun x116 =>
          (wr .int H104 x106 x36 (.int x116)).bind fun H117 =>
          (fldA 0 4 H117 v0).bind fun x119 =>
          (wr .int H117 x119 x15 (.int x22)).bind fun H124 =>
          m4_b125 (m4_b2 n) v0 v1 x15 x36 H124
        else
          (fldA 0 3 H42 v0).bind fun x67 =>
          (fldA 0 3 H42 v0).bind fun x73 =>
          (rdI .int H42 x73 x15).bind fun x77 =>
          (wr .int H42 x67 x36 (.int x77)).bind fun H78 =>
          (fldA 0 4 H78 v0).bind fun x80 =>
          (wr .int H78 x80 x36 (.int x22)).bind fun H86 =>
          (fldA 0 3 H86 v0).bind fun x88 =>
          (wr .int H86 x88 x15 (.int x22)).bind fun H93 =>
          m4_b125 (m4_b2 n) v0 v1 x15 x36 H93
      else
        m4_b180 (m4_b2 n) v0 v1 x15 H
    else
      (setF 0 8 H v0 (.int (0 : Int32))).bind fun H200 =>
      some H200
theorem m4_t2 {G : Gx} {K : Kx} (O : Ok4 G K) : ∀ (n : Nat) (v0 : Nat) (v1 : Int32) (H : List Obj) (_ : Unit) (Hf : List Obj), m4_b2 n v0 v1 H = some Hf → Run G K none Hf 2 [some (.ref v0), some (.int v1), none, none, none, none] [] H 0 0 := by
  intro n
  induction n with
  | zero => intro v0 v1 H r Hf hf; cases hf
  | succ n ih =>
    intro v0 v1 H r Hf hf
    rw [m4_b2] at hf
    refine g_iload_n O (pc' := 3) d4_2 (v := v1) rfl rfl ?_
    refine g_aload_n O (pc' := 4) d4_3 (v := v0) rfl rfl ?_
    obtain ⟨x4, h4, hf⟩ := bnd hf
    refine g_getfield O (pc' := 7) d4_4 (t := 0) (kf := 8) rfl tw38 (fldI_e h4) rfl ?_
    refine g_icmp_ge O (pc' := 10) d4_7 rfl (by decide) (pc1 := 198) (by decide) (fun h7 => ?_) (fun h7 => ?_)
    · rw [if_neg h7] at hf
      refine g_aload_n O (pc' := 199) d4_198 (v := v0) rfl rfl ?_
      refine g_iconst O (pc' := 200) d4_199 (v := 0) (by decide) rfl ?_
      obtain ⟨H200, h200, hf⟩ := bnd hf
      refine g_putfield O (pc' := 203) d4_200 (t := 0) (kf := 8) rfl tw38 (Or.inl tw39) tw1 (ty := .int) (by decide) (fun _ => rfl) (fun _ => rfl) h200 rfl ?_
      cases hf
      exact g_ret_void O d4_203 rfl (by decide)
    · rw [if_pos h7] at hf
      refine g_aload_n O (pc' := 11) d4_10 (v := v0) rfl rfl ?_
      obtain ⟨x11, h11, hf⟩ := bnd hf
      refine g_getfield O (pc' := 14) d4_11 (t := 0) (kf := 6) rfl tw22 (fldA_e h11) rfl ?_
      refine g_iload_n O (pc' := 15) d4_14 (v := v1) rfl rfl ?_
      obtain ⟨x15, h15, hf⟩ := bnd hf
      refine g_iaload O (pc' := 16) d4_15 h15 rfl ?_
      refine g_istore_n O (pc' := 17) d4_16 (Ls' := [some (.ref v0), some (.int v1), some (.int x15), none, none, none]) rfl rfl ?_
      refine g_aload_n O (pc' := 18) d4_17 (v := v0) rfl rfl ?_
      obtain ⟨x18, h18, hf⟩ := bnd hf
      refine g_getfield O (pc' := 21) d4_18 (t := 0) (kf := 5) rfl tw20 (fldA_e h18) rfl ?_
      refine g_iload_n O (pc' := 22) d4_21 (v := x15) rfl rfl ?_
      obtain ⟨x22, h22, hf⟩ := bnd hf
      refine g_iaload O (pc' := 23) d4_22 h22 rfl ?_
      refine g_istore_n O (pc' := 24) d4_23 (Ls' := [some (.ref v0), some (.int v1), some (.int x15), some (.int x22), none, none]) rfl rfl ?_
      refine g_iload_n O (pc' := 25) d4_24 (v := x22) rfl rfl ?_
      refine g_aload_n O (pc' := 26) d4_25 (v := v0) rfl rfl ?_
      obtain ⟨x26, h26, hf⟩ := bnd hf
      refine g_getfield O (pc' := 29) d4_26 (t := 0) (kf := 4) rfl tw18 (fldA_e h26) rfl ?_
      refine g_iload_n O (pc' := 30) d4_29 (v := x15) rfl rfl ?_
      obtain ⟨x30, h30, hf⟩ := bnd hf
      refine g_iaload O (pc' := 31) d4_30 h30 rfl ?_
      refine g_icmp_ge O (pc' := 34) d4_31 rfl (by decide) (pc1 := 180) (by decide) (fun h31 => ?_) (fun h31 => ?_)
      · rw [if_neg h31] at hf
        refine g_forget (Ls' := [some (.ref v0), some (.int v1), some (.int x15), none, none, none]) (And.intro rfl (And.intro rfl (And.intro rfl trivial))) ?_
        exact m4_t180 O ih v0 v1 x15 H () _ hf
      · rw [if_pos h31] at hf
        refine g_aload_n O (pc' := 35) d4_34 (v := v0) rfl rfl ?_
        refine g_dup O (pc' := 36) d4_35 rfl rfl ?_
        obtain ⟨x36, h36, hf⟩ := bnd hf
        refine g_getfield O (pc' := 39) d4_36 (t := 0) (kf := 7) rfl tw24 (fldI_e h36) rfl ?_
        refine g_dup_x1 O (pc' := 40) d4_39 rfl rfl rfl ?_
        refine g_iconst O (pc' := 41) d4_40 (v := 1) (by decide) rfl ?_
        refine g_iadd O (pc' := 42) d4_41 rfl ?_
        obtain ⟨H42, h42, hf⟩ := bnd hf
        refine g_putfield O (pc' := 45) d4_42 (t := 0) (kf := 7) rfl tw24 (Or.inl tw25) tw1 (ty := .int) (by decide) (fun _ => rfl) (fun _ => rfl) h42 rfl ?_
        refine g_istore O (pc' := 47) d4_45 (Ls' := [some (.ref v0), some (.int v1), some (.int x15), some (.int x22), some (.int x36), none]) rfl rfl ?_
        refine g_iload_n O (pc' := 48) d4_47 (v := x22) rfl rfl ?_
        refine g_aload_n O (pc' := 49) d4_48 (v := v0) rfl rfl ?_
        obtain ⟨x49, h49, hf⟩ := bnd hf
        refine g_getfield O (pc' := 52) d4_49 (t := 0) (kf := 3) rfl tw16 (fldA_e h49) rfl ?_
        refine g_iload_n O (pc' := 53) d4_52 (v := x15) rfl rfl ?_
        obtain ⟨x53, h53, hf⟩ := bnd hf
        refine g_iaload O (pc' := 54) d4_53 h53 rfl ?_
        refine g_isub O (pc' := 55) d4_54 rfl ?_
        refine g_aload_n O (pc' := 56) d4_55 (v := v0) rfl rfl ?_
        obtain ⟨x56, h56, hf⟩ := bnd hf
        refine g_getfield O (pc' := 59) d4_56 (t := 0) (kf := 4) rfl tw18 (fldA_e h56) rfl ?_
        refine g_iload_n O (pc' := 60) d4_59 (v := x15) rfl rfl ?_
        obtain ⟨x60, h60, hf⟩ := bnd hf
        refine g_iaload O (pc' := 61) d4_60 h60 rfl ?_
        refine g_iload_n O (pc' := 62) d4_61 (v := x22) rfl rfl ?_
        refine g_isub O (pc' := 63) d4_62 rfl ?_
        refine g_icmp_gt O (pc' := 66) d4_63 rfl (by decide) (pc1 := 97) (by decide) (fun h63 => ?_) (fun h63 => ?_)
        · rw [if_pos h63] at hf
          refine g_aload_n O (pc' := 98) d4_97 (v := v0) rfl rfl ?_
          obtain ⟨x98, h98, hf⟩ := bnd hf
          refine g_getfield O (pc' := 101) d4_98 (t := 0) (kf := 3) rfl tw16 (fldA_e h98) rfl ?_
          refine g_iload O (pc' := 103) d4_101 (v := x36) rfl rfl ?_
          refine g_iload_n O (pc' := 104) d4_103 (v := x22) rfl rfl ?_
          obtain ⟨H104, h104, hf⟩ := bnd hf
          refine g_iastore O (pc' := 105) d4_104 h104 rfl ?_
          refine g_aload_n O (pc' := 106) d4_105 (v := v0) rfl rfl ?_
          obtain ⟨x106, h106, hf⟩ := bnd hf
          refine g_getfield O (pc' := 109) d4_106 (t := 0) (kf := 4) rfl tw18 (fldA_e h106) rfl ?_
          refine g_iload O (pc' := 111) d4_109 (v := x36) rfl rfl ?_
          refine g_aload_n O (pc' := 112) d4_111 (v := v0) rfl rfl ?_
          obtain ⟨x112, h112, hf⟩ := bnd hf
          refine g_getfield O (pc' := 115) d4_112 (t := 0) (kf := 4) rfl tw18 (fldA_e h112) rfl ?_
          refine g_iload_n O (pc' := 116) d4_115 (v := x15) rfl rfl ?_
          obtain ⟨x116, h116, hf⟩ := bnd hf
          refine g_iaload O (pc' := 117) d4_116 h116 rfl ?_
          obtain ⟨H117, h117, hf⟩ := bnd hf
          refine g_iastore O (pc' := 118) d4_117 h117 rfl ?_
          refine g_aload_n O (pc' := 119) d4_118 (v := v0) rfl rfl ?_
          obtain ⟨x119, h119, hf⟩ := bnd hf
          refine g_getfield O (pc' := 122) d4_119 (t := 0) (kf := 4) rfl tw18 (fldA_e h119) rfl ?_
          refine g_iload_n O (pc' := 123) d4_122 (v := x15) rfl rfl ?_
          refine g_iload_n O (pc' := 124) d4_123 (v := x22) rfl rfl ?_
          obtain ⟨H124, h124, hf⟩ := bnd hf
          refine g_iastore O (pc' := 125) d4_124 h124 rfl ?_
          refine g_forget (Ls' := [some (.ref v0), some (.int v1), some (.int x15), none, some (.int x36), none]) (And.intro rfl (And.intro rfl (And.intro rfl (And.intro rfl trivial)))) ?_
          exact m4_t125 O ih v0 v1 x15 x36 H124 () _ hf
        · rw [if_neg h63] at hf
          refine g_aload_n O (pc' := 67) d4_66 (v := v0) rfl rfl ?_
          obtain ⟨x67, h67, hf⟩ := bnd hf
          refine g_getfield O (pc' := 70) d4_67 (t := 0) (kf := 3) rfl tw16 (fldA_e h67) rfl ?_
          refine g_iload O (pc' := 72) d4_70 (v := x36) rfl rfl ?_
          refine g_aload_n O (pc' := 73) d4_72 (v := v0) rfl rfl ?_
          obtain ⟨x73, h73, hf⟩ := bnd hf
          refine g_getfield O (pc' := 76) d4_73 (t := 0) (kf := 3) rfl tw16 (fldA_e h73) rfl ?_
          refine g_iload_n O (pc' := 77) d4_76 (v := x15) rfl rfl ?_
          obtain ⟨x77, h77, hf⟩ := bnd hf
          refine g_iaload O (pc' := 78) d4_77 h77 rfl ?_
          obtain ⟨H78, h78, hf⟩ := bnd hf
          refine g_iastore O (pc' := 79) d4_78 h78 rfl ?_
          refine g_aload_n O (pc' := 80) d4_79 (v := v0) rfl rfl ?_
          obtain ⟨x80, h80, hf⟩ := bnd hf
          refine g_getfield O (pc' := 83) d4_80 (t := 0) (kf := 4) rfl tw18 (fldA_e h80) rfl ?_
          refine g_iload O (pc' := 85) d4_83 (v := x36) rfl rfl ?_
          refine g_iload_n O (pc' := 86) d4_85 (v := x22) rfl rfl ?_
          obtain ⟨H86, h86, hf⟩ := bnd hf
          refine g_iastore O (pc' := 87) d4_86 h86 rfl ?_
          refine g_aload_n O (pc' := 88) d4_87 (v := v0) rfl rfl ?_
          obtain ⟨x88, h88, hf⟩ := bnd hf
          refine g_getfield O (pc' := 91) d4_88 (t := 0) (kf := 3) rfl tw16 (fldA_e h88) rfl ?_
          refine g_iload_n O (pc' := 92) d4_91 (v := x15) rfl rfl ?_
          refine g_iload_n O (pc' := 93) d4_92 (v := x22) rfl rfl ?_
          obtain ⟨H93, h93, hf⟩ := bnd hf
          refine g_iastore O (pc' := 94) d4_93 h93 rfl ?_
          refine g_goto O d4_94 (by decide) (pc' := 125) (by decide) ?_
          refine g_forget (Ls' := [some (.ref v0), some (.int v1), some (.int x15), none, some (.int x36), none]) (And.intro rfl (And.intro rfl (And.intro rfl (And.intro rfl trivial)))) ?_
          exact m4_t125 O ih v0 v1 x15 x36 H93 () _ hf
def m4_b0 (v0 : Nat) (H : List Obj) : Option (List Obj) :=
  m4_b2 8 v0 (0 : Int32) H
theorem m4_t0 {G : Gx} {K : Kx} (O : Ok4 G K) (v0 : Nat) (H : List Obj) (_ : Unit) (Hf : List Obj) (hf : m4_b0 v0 H = some Hf) : Run G K none Hf 0 [some (.ref v0), none, none, none, none, none] [] H 0 0 := by
  unfold m4_b0 at hf
  refine g_iconst O (pc' := 1) d4_0 (v := 0) (by decide) rfl ?_
  refine g_istore_n O (pc' := 2) d4_1 (Ls' := [some (.ref v0), some (.int (0 : Int32)), none, none, none, none]) rfl rfl ?_
  exact m4_t2 O 8 v0 (0 : Int32) H () _ hf
abbrev m4 (v0 : Nat) (H : List Obj) : Option (List Obj) := m4_b0 v0 H
theorem con4 {G : Gx} (hw : ∀ d ∈ tables_1, d.before G.2.2.1 G.2.1 = true) (v0 : Nat) (H : List Obj) {Hf : List Obj} (hf : m4 v0 H = some Hf) : Con G (⟨"com/example/custode/custode/service/Partition", "splitMarked", "()V"⟩ : MethodName) prog_75_method_8_code 6 (Option.none : Option FieldType) rm4 [(.ref v0)] H none Hf :=
  con_of hw pn4 rfl fun K O => m4_t0 O v0 H () Hf hf

/-! body 8 -/
theorem d8_0 : decode method_5_code 0 = .ok (.iload_n 0, 1) := by decide +kernel
theorem d8_1 : decode method_5_code 1 = .ok (.iconst 1, 1) := by decide +kernel
theorem d8_2 : decode method_5_code 2 = .ok (.iand, 1) := by decide +kernel
theorem d8_3 : decode method_5_code 3 = .ok (.iload_n 0, 1) := by decide +kernel
theorem d8_4 : decode method_5_code 4 = .ok (.iconst 1, 1) := by decide +kernel
theorem d8_5 : decode method_5_code 5 = .ok (.ishr, 1) := by decide +kernel
theorem d8_6 : decode method_5_code 6 = .ok (.iconst 1, 1) := by decide +kernel
theorem d8_7 : decode method_5_code 7 = .ok (.iand, 1) := by decide +kernel
theorem d8_8 : decode method_5_code 8 = .ok (.iadd, 1) := by decide +kernel
theorem d8_9 : decode method_5_code 9 = .ok (.iload_n 0, 1) := by decide +kernel
theorem d8_10 : decode method_5_code 10 = .ok (.iconst 2, 1) := by decide +kernel
theorem d8_11 : decode method_5_code 11 = .ok (.ishr, 1) := by decide +kernel
theorem d8_12 : decode method_5_code 12 = .ok (.iconst 1, 1) := by decide +kernel
theorem d8_13 : decode method_5_code 13 = .ok (.iand, 1) := by decide +kernel
theorem d8_14 : decode method_5_code 14 = .ok (.iadd, 1) := by decide +kernel
theorem d8_15 : decode method_5_code 15 = .ok (.iload_n 0, 1) := by decide +kernel
theorem d8_16 : decode method_5_code 16 = .ok (.iconst 3, 1) := by decide +kernel
theorem d8_17 : decode method_5_code 17 = .ok (.ishr, 1) := by decide +kernel
theorem d8_18 : decode method_5_code 18 = .ok (.iconst 1, 1) := by decide +kernel
theorem d8_19 : decode method_5_code 19 = .ok (.iand, 1) := by decide +kernel
theorem d8_20 : decode method_5_code 20 = .ok (.iadd, 1) := by decide +kernel
theorem d8_21 : decode method_5_code 21 = .ok (.ireturn, 1) := by decide +kernel
theorem pd8 : parseMethodDescriptor "(I)I" = some ⟨[.int], some .int⟩ := by decide +kernel
theorem pn8 : plainFor (⟨"com/example/custode/custode/service/PartitionSplitMarkedPinLaw", "pc", "(I)I"⟩ : MethodName) = true := by first | exact plainFor_of_name (by first | (simp [plainName, overriddenIn]; done) | decide +kernel) | decide +kernel
abbrev rm8 : Room := { frames := 0, cells := 0, slots := 0, locals := 0 }
abbrev Ok8 (G : Gx) (K : Kx) : Prop := Ok G K "com/example/custode/custode/service/PartitionSplitMarkedPinLaw" method_5_code 1 (Option.some FieldType.int) rm8 "pc" 0 0
def m8_b0 (v0 : Int32) : Int32 :=
  ((((v0 &&& (1 : Int32)) + ((v0 >>> ((1 : Int32) &&& 31)) &&& (1 : Int32))) + ((v0 >>> ((2 : Int32) &&& 31)) &&& (1 : Int32))) + ((v0 >>> ((3 : Int32) &&& 31)) &&& (1 : Int32)))
theorem m8_t0 {G : Gx} {K : Kx} (O : Ok8 G K) (v0 : Int32) (H : List Obj) : Run G K (some (.int (m8_b0 v0))) H 0 [some (.int v0)] [] H 0 0 := by
  unfold m8_b0
  refine g_iload_n O (pc' := 1) d8_0 (v := v0) rfl rfl ?_
  refine g_iconst O (pc' := 2) d8_1 (v := 1) (by decide) rfl ?_
  refine g_iand O (pc' := 3) d8_2 rfl ?_
  refine g_iload_n O (pc' := 4) d8_3 (v := v0) rfl rfl ?_
  refine g_iconst O (pc' := 5) d8_4 (v := 1) (by decide) rfl ?_
  refine g_ishr O (pc' := 6) d8_5 rfl ?_
  refine g_iconst O (pc' := 7) d8_6 (v := 1) (by decide) rfl ?_
  refine g_iand O (pc' := 8) d8_7 rfl ?_
  refine g_iadd O (pc' := 9) d8_8 rfl ?_
  refine g_iload_n O (pc' := 10) d8_9 (v := v0) rfl rfl ?_
  refine g_iconst O (pc' := 11) d8_10 (v := 2) (by decide) rfl ?_
  refine g_ishr O (pc' := 12) d8_11 rfl ?_
  refine g_iconst O (pc' := 13) d8_12 (v := 1) (by decide) rfl ?_
  refine g_iand O (pc' := 14) d8_13 rfl ?_
  refine g_iadd O (pc' := 15) d8_14 rfl ?_
  refine g_iload_n O (pc' := 16) d8_15 (v := v0) rfl rfl ?_
  refine g_iconst O (pc' := 17) d8_16 (v := 3) (by decide) rfl ?_
  refine g_ishr O (pc' := 18) d8_17 rfl ?_
  refine g_iconst O (pc' := 19) d8_18 (v := 1) (by decide) rfl ?_
  refine g_iand O (pc' := 20) d8_19 rfl ?_
  refine g_iadd O (pc' := 21) d8_20 rfl ?_
  exact g_ret_int O d8_21 rfl (by decide)
abbrev m8 (v0 : Int32) : Int32 := m8_b0 v0
theorem con8 {G : Gx} (hw : ∀ d ∈ tables_1, d.before G.2.2.1 G.2.1 = true) (v0 : Int32) (H : List Obj) : Con G (⟨"com/example/custode/custode/service/PartitionSplitMarkedPinLaw", "pc", "(I)I"⟩ : MethodName) method_5_code 1 (Option.some FieldType.int) rm8 [(.int v0)] H (some (.int (m8 v0))) H :=
  con_of hw pn8 rfl fun K O => m8_t0 O v0 H

/-! body 6 -/
theorem d6_0 : decode method_6_code 0 = .ok (.aload_n 0, 1) := by decide +kernel
theorem d6_1 : decode method_6_code 1 = .ok (.iload_n 2, 1) := by decide +kernel
theorem d6_2 : decode method_6_code 2 = .ok (.iaload, 1) := by decide +kernel
theorem d6_3 : decode method_6_code 3 = .ok (.iload_n 3, 1) := by decide +kernel
theorem d6_4 : decode method_6_code 4 = .ok (.iand, 1) := by decide +kernel
theorem d6_5 : decode method_6_code 5 = .ok (.istore 4, 2) := by decide +kernel
theorem d6_7 : decode method_6_code 7 = .ok (.aload_n 0, 1) := by decide +kernel
theorem d6_8 : decode method_6_code 8 = .ok (.iload_n 2, 1) := by decide +kernel
theorem d6_9 : decode method_6_code 9 = .ok (.iaload, 1) := by decide +kernel
theorem d6_10 : decode method_6_code 10 = .ok (.iload_n 3, 1) := by decide +kernel
theorem d6_11 : decode method_6_code 11 = .ok (.iconst (-1), 1) := by decide +kernel
theorem d6_12 : decode method_6_code 12 = .ok (.ixor, 1) := by decide +kernel
theorem d6_13 : decode method_6_code 13 = .ok (.iand, 1) := by decide +kernel
theorem d6_14 : decode method_6_code 14 = .ok (.istore 5, 2) := by decide +kernel
theorem d6_16 : decode method_6_code 16 = .ok (.iload 4, 2) := by decide +kernel
theorem d6_18 : decode method_6_code 18 = .ok (.ifCond .eq 8, 3) := by decide +kernel
theorem d6_21 : decode method_6_code 21 = .ok (.iload 5, 2) := by decide +kernel
theorem d6_23 : decode method_6_code 23 = .ok (.ifCond .ne 5, 3) := by decide +kernel
theorem d6_26 : decode method_6_code 26 = .ok (.iload_n 1, 1) := by decide +kernel
theorem d6_27 : decode method_6_code 27 = .ok (.ireturn, 1) := by decide +kernel
theorem d6_28 : decode method_6_code 28 = .ok (.iload 4, 2) := by decide +kernel
theorem d6_30 : decode method_6_code 30 = .ok (.invokestatic 52, 3) := by decide +kernel
theorem d6_33 : decode method_6_code 33 = .ok (.iload 5, 2) := by decide +kernel
theorem d6_35 : decode method_6_code 35 = .ok (.invokestatic 52, 3) := by decide +kernel
theorem d6_38 : decode method_6_code 38 = .ok (.if_icmp .gt 8, 3) := by decide +kernel
theorem d6_41 : decode method_6_code 41 = .ok (.iload 4, 2) := by decide +kernel
theorem d6_43 : decode method_6_code 43 = .ok (.goto 5, 3) := by decide +kernel
theorem d6_46 : decode method_6_code 46 = .ok (.iload 5, 2) := by decide +kernel
theorem d6_48 : decode method_6_code 48 = .ok (.istore 6, 2) := by decide +kernel
theorem d6_50 : decode method_6_code 50 = .ok (.aload_n 0, 1) := by decide +kernel
theorem d6_51 : decode method_6_code 51 = .ok (.iload_n 1, 1) := by decide +kernel
theorem d6_52 : decode method_6_code 52 = .ok (.iload 6, 2) := by decide +kernel
theorem d6_54 : decode method_6_code 54 = .ok (.iastore, 1) := by decide +kernel
theorem d6_55 : decode method_6_code 55 = .ok (.aload_n 0, 1) := by decide +kernel
theorem d6_56 : decode method_6_code 56 = .ok (.iload_n 2, 1) := by decide +kernel
theorem d6_57 : decode method_6_code 57 = .ok (.aload_n 0, 1) := by decide +kernel
theorem d6_58 : decode method_6_code 58 = .ok (.iload_n 2, 1) := by decide +kernel
theorem d6_59 : decode method_6_code 59 = .ok (.iaload, 1) := by decide +kernel
theorem d6_60 : decode method_6_code 60 = .ok (.iload 6, 2) := by decide +kernel
theorem d6_62 : decode method_6_code 62 = .ok (.ixor, 1) := by decide +kernel
theorem d6_63 : decode method_6_code 63 = .ok (.iastore, 1) := by decide +kernel
theorem d6_64 : decode method_6_code 64 = .ok (.iload_n 1, 1) := by decide +kernel
theorem d6_65 : decode method_6_code 65 = .ok (.iconst 1, 1) := by decide +kernel
theorem d6_66 : decode method_6_code 66 = .ok (.iadd, 1) := by decide +kernel
theorem d6_67 : decode method_6_code 67 = .ok (.ireturn, 1) := by decide +kernel
theorem pd6 : parseMethodDescriptor "([IIII)I" = some ⟨[.array .int, .int, .int, .int], some .int⟩ := by decide +kernel
theorem pn6 : plainFor (⟨"com/example/custode/custode/service/PartitionSplitMarkedPinLaw", "split", "([IIII)I"⟩ : MethodName) = true := by first | exact plainFor_of_name (by first | (simp [plainName, overriddenIn]; done) | decide +kernel) | decide +kernel
abbrev rm6 : Room := { frames := 1, cells := 0, slots := 0, locals := 13 }
abbrev Ok6 (G : Gx) (K : Kx) : Prop := Ok G K "com/example/custode/custode/service/PartitionSplitMarkedPinLaw" method_6_code 7 (Option.some FieldType.int) rm6 "split" 0 0
def m6_b26 (v1 : Int32) (H : List Obj) : Option (Int32 × List Obj) :=
  some (v1, H)
theorem m6_t26 {G : Gx} {K : Kx} (O : Ok6 G K) (v1 : Int32) (H : List Obj) (r : Int32) (Hf : List Obj) (hf : m6_b26 v1 H = some (r, Hf)) : Run G K (some (.int r)) Hf 26 [none, some (.int v1), none, none, none, none, none] [] H 0 0 := by
  unfold m6_b26 at hf
  refine g_iload_n O (pc' := 27) d6_26 (v := v1) rfl rfl ?_
  cases hf
  exact g_ret_int O d6_27 rfl (by decide)
def m6_b48 (v0 : Nat) (v1 : Int32) (v2 : Int32) (t0 : Int32) (H : List Obj) : Option (Int32 × List Obj) :=
  (wr .int H v0 v1 (.int t0)).bind fun H54 =>
  (rdI .int H54 v0 v2).bind fun x59 =>
  (wr .int H54 v0 v2 (.int (x59 ^^^ t0))).bind fun H63 =>
  some ((v1 + (1 : Int32)), H63)
theorem m6_t48 {G : Gx} {K : Kx} (O : Ok6 G K) (v0 : Nat) (v1 : Int32) (v2 : Int32) (t0 : Int32) (H : List Obj) (r : Int32) (Hf : List Obj) (hf : m6_b48 v0 v1 v2 t0 H = some (r, Hf)) : Run G K (some (.int r)) Hf 48 [some (.ref v0), some (.int v1), some (.int v2), none, none, none, none] [(.int t0)] H 0 0 := by
  unfold m6_b48 at hf
  refine g_istore O (pc' := 50) d6_48 (Ls' := [some (.ref v0), some (.int v1), some (.int v2), none, none, none, some (.int t0)]) rfl rfl ?_
  refine g_aload_n O (pc' := 51) d6_50 (v := v0) rfl rfl ?_
  refine g_iload_n O (pc' := 52) d6_51 (v := v1) rfl rfl ?_
  refine g_iload O (pc' := 54) d6_52 (v := t0) rfl rfl ?_
  obtain ⟨H54, h54, hf⟩ := bnd hf
  refine g_iastore O (pc' := 55) d6_54 h54 rfl ?_
  refine g_aload_n O (pc' := 56) d6_55 (v := v0) rfl rfl ?_
  refine g_iload_n O (pc' := 57) d6_56 (v := v2) rfl rfl ?_
  refine g_aload_n O (pc' := 58) d6_57 (v := v0) rfl rfl ?_
  refine g_iload_n O (pc' := 59) d6_58 (v := v2) rfl rfl ?_
  obtain ⟨x59, h59, hf⟩ := bnd hf
  refine g_iaload O (pc' := 60) d6_59 h59 rfl ?_
  refine g_iload O (pc' := 62) d6_60 (v := t0) rfl rfl ?_
  refine g_ixor O (pc' := 63) d6_62 rfl ?_
  obtain ⟨H63, h63, hf⟩ := bnd hf
  refine g_iastore O (pc' := 64) d6_63 h63 rfl ?_
  refine g_iload_n O (pc' := 65) d6_64 (v := v1) rfl rfl ?_
  refine g_iconst O (pc' := 66) d6_65 (v := 1) (by decide) rfl ?_
  refine g_iadd O (pc' := 67) d6_66 rfl ?_
  cases hf
  exact g_ret_int O d6_67 rfl (by decide)
def m6_b0 (v0 : Nat) (v1 : Int32) (v2 : Int32) (v3 : Int32) (H : List Obj) : Option (Int32 × List Obj) :=
  (rdI .int H v0 v2).bind fun x2 =>
  (rdI .int H v0 v2).bind fun x9 =>
  if (x2 &&& v3) = 0 then
    m6_b26 v1 H
  else
    if (x9 &&& (v3 ^^^ (-1 : Int32))) = 0 then
      m6_b26 v1 H
    else
      if (m8 (x9 &&& (v3 ^^^ (-1 : Int32)))) < (m8 (x2 &&& v3)) then
        m6_b48 v0 v1 v2 (x9 &&& (v3 ^^^ (-1 : Int32))) H
      else
        m6_b48 v0 v1 v2 (x2 &&& v3) H
theorem m6_t0 {G : Gx} {K : Kx} (O : Ok6 G K) (v0 : Nat) (v1 : Int32) (v2 : Int32) (v3 : Int32) (H : List Obj) (r : Int32) (Hf : List Obj) (hf : m6_b0 v0 v1 v2 v3 H = some (r, Hf)) : Run G K (some (.int r)) Hf 0 [some (.ref v0), some (.int v1), some (.int v2), some (.int v3), none, none, none] [] H 0 0 := by
  unfold m6_b0 at hf
  refine g_aload_n O (pc' := 1) d6_0 (v := v0) rfl rfl ?_
  refine g_iload_n O (pc' := 2) d6_1 (v := v2) rfl rfl ?_
  obtain ⟨x2, h2, hf⟩ := bnd hf
  refine g_iaload O (pc' := 3) d6_2 h2 rfl ?_
  refine g_iload_n O (pc' := 4) d6_3 (v := v3) rfl rfl ?_
  refine g_iand O (pc' := 5) d6_4 rfl ?_
  refine g_istore O (pc' := 7) d6_5 (Ls' := [some (.ref v0), some (.int v1), some (.int v2), some (.int v3), some (.int (x2 &&& v3)), none, none]) rfl rfl ?_
  refine g_aload_n O (pc' := 8) d6_7 (v := v0) rfl rfl ?_
  refine g_iload_n O (pc' := 9) d6_8 (v := v2) rfl rfl ?_
  obtain ⟨x9, h9, hf⟩ := bnd hf
  refine g_iaload O (pc' := 10) d6_9 h9 rfl ?_
  refine g_iload_n O (pc' := 11) d6_10 (v := v3) rfl rfl ?_
  refine g_iconst O (pc' := 12) d6_11 (v := -1) (by decide) rfl ?_
  refine g_ixor O (pc' := 13) d6_12 rfl ?_
  refine g_iand O (pc' := 14) d6_13 rfl ?_
  refine g_istore O (pc' := 16) d6_14 (Ls' := [some (.ref v0), some (.int v1), some (.int v2), some (.int v3), some (.int (x2 &&& v3)), some (.int (x9 &&& (v3 ^^^ (-1 : Int32)))), none]) rfl rfl ?_
  refine g_iload O (pc' := 18) d6_16 (v := (x2 &&& v3)) rfl rfl ?_
  refine g_if_eq O (pc' := 21) d6_18 rfl (by decide) (pc1 := 26) (by decide) (fun h18 => ?_) (fun h18 => ?_)
  · rw [if_pos h18] at hf
    refine g_forget (Ls' := [none, some (.int v1), none, none, none, none, none]) (And.intro rfl trivial) ?_
    exact m6_t26 O v1 H _ _ hf
  · rw [if_neg h18] at hf
    refine g_iload O (pc' := 23) d6_21 (v := (x9 &&& (v3 ^^^ (-1 : Int32)))) rfl rfl ?_
    refine g_if_ne O (pc' := 26) d6_23 rfl (by decide) (pc1 := 28) (by decide) (fun h23 => ?_) (fun h23 => ?_)
    · rw [if_neg h23] at hf
      refine g_iload O (pc' := 30) d6_28 (v := (x2 &&& v3)) rfl rfl ?_
      refine g_static1 O (pc' := 33) d6_30 tw51 tw52 tw28 tw53 (by decide) pd8 (as := [(.int (x2 &&& v3))]) rfl (st := []) rfl rfl (W := 0) rfl (rm := rm8) (by decide) (by decide) (c2 := 0) (s2 := 0) rfl rfl (by decide) (by decide) (con8 (Ok.w O) (x2 &&& v3) H) rfl ?_
      refine g_iload O (pc' := 35) d6_33 (v := (x9 &&& (v3 ^^^ (-1 : Int32)))) rfl rfl ?_
      refine g_static1 O (pc' := 38) d6_35 tw51 tw52 tw28 tw53 (by decide) pd8 (as := [(.int (x9 &&& (v3 ^^^ (-1 : Int32))))]) rfl (st := [(.int (m8 (x2 &&& v3)))]) rfl rfl (W := 1) rfl (rm := rm8) (by decide) (by decide) (c2 := 0) (s2 := 0) rfl rfl (by decide) (by decide) (con8 (Ok.w O) (x9 &&& (v3 ^^^ (-1 : Int32))) H) rfl ?_
      refine g_icmp_gt O (pc' := 41) d6_38 rfl (by decide) (pc1 := 46) (by decide) (fun h38 => ?_) (fun h38 => ?_)
      · rw [if_pos h38] at hf
        refine g_iload O (pc' := 48) d6_46 (v := (x9 &&& (v3 ^^^ (-1 : Int32)))) rfl rfl ?_
        refine g_forget (Ls' := [some (.ref v0), some (.int v1), some (.int v2), none, none, none, none]) (And.intro rfl (And.intro rfl (And.intro rfl trivial))) ?_
        exact m6_t48 O v0 v1 v2 (x9 &&& (v3 ^^^ (-1 : Int32))) H _ _ hf
      · rw [if_neg h38] at hf
        refine g_iload O (pc' := 43) d6_41 (v := (x2 &&& v3)) rfl rfl ?_
        refine g_goto O d6_43 (by decide) (pc' := 48) (by decide) ?_
        refine g_forget (Ls' := [some (.ref v0), some (.int v1), some (.int v2), none, none, none, none]) (And.intro rfl (And.intro rfl (And.intro rfl trivial))) ?_
        exact m6_t48 O v0 v1 v2 (x2 &&& v3) H _ _ hf
    · rw [if_pos h23] at hf
      refine g_forget (Ls' := [none, some (.int v1), none, none, none, none, none]) (And.intro rfl trivial) ?_
      exact m6_t26 O v1 H _ _ hf
abbrev m6 (v0 : Nat) (v1 : Int32) (v2 : Int32) (v3 : Int32) (H : List Obj) : Option (Int32 × List Obj) := m6_b0 v0 v1 v2 v3 H
theorem con6 {G : Gx} (hw : ∀ d ∈ tables_1, d.before G.2.2.1 G.2.1 = true) (v0 : Nat) (v1 : Int32) (v2 : Int32) (v3 : Int32) (H : List Obj) {r : Int32} {Hf : List Obj} (hf : m6 v0 v1 v2 v3 H = some (r, Hf)) : Con G (⟨"com/example/custode/custode/service/PartitionSplitMarkedPinLaw", "split", "([IIII)I"⟩ : MethodName) method_6_code 7 (Option.some FieldType.int) rm6 [(.ref v0), (.int v1), (.int v2), (.int v3)] H (some (.int r)) Hf :=
  con_of hw pn6 rfl fun K O => m6_t0 O v0 v1 v2 v3 H r Hf hf

/-! body 7 -/
theorem d7_0 : decode method_7_code 0 = .ok (.iload_n 0, 1) := by decide +kernel
theorem d7_1 : decode method_7_code 1 = .ok (.iload_n 1, 1) := by decide +kernel
theorem d7_2 : decode method_7_code 2 = .ok (.ishr, 1) := by decide +kernel
theorem d7_3 : decode method_7_code 3 = .ok (.iconst 1, 1) := by decide +kernel
theorem d7_4 : decode method_7_code 4 = .ok (.iand, 1) := by decide +kernel
theorem d7_5 : decode method_7_code 5 = .ok (.ifCond .eq 5, 3) := by decide +kernel
theorem d7_8 : decode method_7_code 8 = .ok (.iload_n 1, 1) := by decide +kernel
theorem d7_9 : decode method_7_code 9 = .ok (.ireturn, 1) := by decide +kernel
theorem d7_10 : decode method_7_code 10 = .ok (.iload_n 1, 1) := by decide +kernel
theorem d7_11 : decode method_7_code 11 = .ok (.iconst 1, 1) := by decide +kernel
theorem d7_12 : decode method_7_code 12 = .ok (.iadd, 1) := by decide +kernel
theorem d7_13 : decode method_7_code 13 = .ok (.iconst 3, 1) := by decide +kernel
theorem d7_14 : decode method_7_code 14 = .ok (.iand, 1) := by decide +kernel
theorem d7_15 : decode method_7_code 15 = .ok (.istore_n 2, 1) := by decide +kernel
theorem d7_16 : decode method_7_code 16 = .ok (.iload_n 0, 1) := by decide +kernel
theorem d7_17 : decode method_7_code 17 = .ok (.iload_n 2, 1) := by decide +kernel
theorem d7_18 : decode method_7_code 18 = .ok (.ishr, 1) := by decide +kernel
theorem d7_19 : decode method_7_code 19 = .ok (.iconst 1, 1) := by decide +kernel
theorem d7_20 : decode method_7_code 20 = .ok (.iand, 1) := by decide +kernel
theorem d7_21 : decode method_7_code 21 = .ok (.ifCond .eq 5, 3) := by decide +kernel
theorem d7_24 : decode method_7_code 24 = .ok (.iload_n 2, 1) := by decide +kernel
theorem d7_25 : decode method_7_code 25 = .ok (.ireturn, 1) := by decide +kernel
theorem d7_26 : decode method_7_code 26 = .ok (.iload_n 1, 1) := by decide +kernel
theorem d7_27 : decode method_7_code 27 = .ok (.iconst 2, 1) := by decide +kernel
theorem d7_28 : decode method_7_code 28 = .ok (.iadd, 1) := by decide +kernel
theorem d7_29 : decode method_7_code 29 = .ok (.iconst 3, 1) := by decide +kernel
theorem d7_30 : decode method_7_code 30 = .ok (.iand, 1) := by decide +kernel
theorem d7_31 : decode method_7_code 31 = .ok (.istore_n 2, 1) := by decide +kernel
theorem d7_32 : decode method_7_code 32 = .ok (.iload_n 0, 1) := by decide +kernel
theorem d7_33 : decode method_7_code 33 = .ok (.iload_n 2, 1) := by decide +kernel
theorem d7_34 : decode method_7_code 34 = .ok (.ishr, 1) := by decide +kernel
theorem d7_35 : decode method_7_code 35 = .ok (.iconst 1, 1) := by decide +kernel
theorem d7_36 : decode method_7_code 36 = .ok (.iand, 1) := by decide +kernel
theorem d7_37 : decode method_7_code 37 = .ok (.ifCond .eq 5, 3) := by decide +kernel
theorem d7_40 : decode method_7_code 40 = .ok (.iload_n 2, 1) := by decide +kernel
theorem d7_41 : decode method_7_code 41 = .ok (.ireturn, 1) := by decide +kernel
theorem d7_42 : decode method_7_code 42 = .ok (.iload_n 1, 1) := by decide +kernel
theorem d7_43 : decode method_7_code 43 = .ok (.iconst 3, 1) := by decide +kernel
theorem d7_44 : decode method_7_code 44 = .ok (.iadd, 1) := by decide +kernel
theorem d7_45 : decode method_7_code 45 = .ok (.iconst 3, 1) := by decide +kernel
theorem d7_46 : decode method_7_code 46 = .ok (.iand, 1) := by decide +kernel
theorem d7_47 : decode method_7_code 47 = .ok (.istore_n 2, 1) := by decide +kernel
theorem d7_48 : decode method_7_code 48 = .ok (.iload_n 0, 1) := by decide +kernel
theorem d7_49 : decode method_7_code 49 = .ok (.iload_n 2, 1) := by decide +kernel
theorem d7_50 : decode method_7_code 50 = .ok (.ishr, 1) := by decide +kernel
theorem d7_51 : decode method_7_code 51 = .ok (.iconst 1, 1) := by decide +kernel
theorem d7_52 : decode method_7_code 52 = .ok (.iand, 1) := by decide +kernel
theorem d7_53 : decode method_7_code 53 = .ok (.ifCond .eq 5, 3) := by decide +kernel
theorem d7_56 : decode method_7_code 56 = .ok (.iload_n 2, 1) := by decide +kernel
theorem d7_57 : decode method_7_code 57 = .ok (.ireturn, 1) := by decide +kernel
theorem d7_58 : decode method_7_code 58 = .ok (.iconst (-1), 1) := by decide +kernel
theorem d7_59 : decode method_7_code 59 = .ok (.ireturn, 1) := by decide +kernel
theorem pd7 : parseMethodDescriptor "(II)I" = some ⟨[.int, .int], some .int⟩ := by decide +kernel
theorem pn7 : plainFor (⟨"com/example/custode/custode/service/PartitionSplitMarkedPinLaw", "firstIn", "(II)I"⟩ : MethodName) = true := by first | exact plainFor_of_name (by first | (simp [plainName, overriddenIn]; done) | decide +kernel) | decide +kernel
abbrev rm7 : Room := { frames := 0, cells := 0, slots := 0, locals := 0 }
abbrev Ok7 (G : Gx) (K : Kx) : Prop := Ok G K "com/example/custode/custode/service/PartitionSplitMarkedPinLaw" method_7_code 3 (Option.some FieldType.int) rm7 "firstIn" 0 0
def m7_b0 (v0 : Int32) (v1 : Int32) : Int32 :=
  if ((v0 >>> (v1 &&& 31)) &&& (1 : Int32)) = 0 then
    if ((v0 >>> (((v1 + (1 : Int32)) &&& (3 : Int32)) &&& 31)) &&& (1 : Int32)) = 0 then
      if ((v0 >>> (((v1 + (2 : Int32)) &&& (3 : Int32)) &&& 31)) &&& (1 : Int32)) = 0 then
        if ((v0 >>> (((v1 + (3 : Int32)) &&& (3 : Int32)) &&& 31)) &&& (1 : Int32)) = 0 then
          (-1 : Int32)
        else
          ((v1 + (3 : Int32)) &&& (3 : Int32))
      else
        ((v1 + (2 : Int32)) &&& (3 : Int32))
    else
      ((v1 + (1 : Int32)) &&& (3 : Int32))
  else
    v1
theorem m7_t0 {G : Gx} {K : Kx} (O : Ok7 G K) (v0 : Int32) (v1 : Int32) (H : List Obj) : Run G K (some (.int (m7_b0 v0 v1))) H 0 [some (.int v0), some (.int v1), none] [] H 0 0 := by
  unfold m7_b0
  refine g_iload_n O (pc' := 1) d7_0 (v := v0) rfl rfl ?_
  refine g_iload_n O (pc' := 2) d7_1 (v := v1) rfl rfl ?_
  refine g_ishr O (pc' := 3) d7_2 rfl ?_
  refine g_iconst O (pc' := 4) d7_3 (v := 1) (by decide) rfl ?_
  refine g_iand O (pc' := 5) d7_4 rfl ?_
  refine g_if_eq O (pc' := 8) d7_5 rfl (by decide) (pc1 := 10) (by decide) (fun h5 => ?_) (fun h5 => ?_)
  · rw [if_pos h5]
    refine g_iload_n O (pc' := 11) d7_10 (v := v1) rfl rfl ?_
    refine g_iconst O (pc' := 12) d7_11 (v := 1) (by decide) rfl ?_
    refine g_iadd O (pc' := 13) d7_12 rfl ?_
    refine g_iconst O (pc' := 14) d7_13 (v := 3) (by decide) rfl ?_
    refine g_iand O (pc' := 15) d7_14 rfl ?_
    refine g_istore_n O (pc' := 16) d7_15 (Ls' := [some (.int v0), some (.int v1), some (.int ((v1 + (1 : Int32)) &&& (3 : Int32)))]) rfl rfl ?_
    refine g_iload_n O (pc' := 17) d7_16 (v := v0) rfl rfl ?_
    refine g_iload_n O (pc' := 18) d7_17 (v := ((v1 + (1 : Int32)) &&& (3 : Int32))) rfl rfl ?_
    refine g_ishr O (pc' := 19) d7_18 rfl ?_
    refine g_iconst O (pc' := 20) d7_19 (v := 1) (by decide) rfl ?_
    refine g_iand O (pc' := 21) d7_20 rfl ?_
    refine g_if_eq O (pc' := 24) d7_21 rfl (by decide) (pc1 := 26) (by decide) (fun h21 => ?_) (fun h21 => ?_)
    · rw [if_pos h21]
      refine g_iload_n O (pc' := 27) d7_26 (v := v1) rfl rfl ?_
      refine g_iconst O (pc' := 28) d7_27 (v := 2) (by decide) rfl ?_
      refine g_iadd O (pc' := 29) d7_28 rfl ?_
      refine g_iconst O (pc' := 30) d7_29 (v := 3) (by decide) rfl ?_
      refine g_iand O (pc' := 31) d7_30 rfl ?_
      refine g_istore_n O (pc' := 32) d7_31 (Ls' := [some (.int v0), some (.int v1), some (.int ((v1 + (2 : Int32)) &&& (3 : Int32)))]) rfl rfl ?_
      refine g_iload_n O (pc' := 33) d7_32 (v := v0) rfl rfl ?_
      refine g_iload_n O (pc' := 34) d7_33 (v := ((v1 + (2 : Int32)) &&& (3 : Int32))) rfl rfl ?_
      refine g_ishr O (pc' := 35) d7_34 rfl ?_
      refine g_iconst O (pc' := 36) d7_35 (v := 1) (by decide) rfl ?_
      refine g_iand O (pc' := 37) d7_36 rfl ?_
      refine g_if_eq O (pc' := 40) d7_37 rfl (by decide) (pc1 := 42) (by decide) (fun h37 => ?_) (fun h37 => ?_)
      · rw [if_pos h37]
        refine g_iload_n O (pc' := 43) d7_42 (v := v1) rfl rfl ?_
        refine g_iconst O (pc' := 44) d7_43 (v := 3) (by decide) rfl ?_
        refine g_iadd O (pc' := 45) d7_44 rfl ?_
        refine g_iconst O (pc' := 46) d7_45 (v := 3) (by decide) rfl ?_
        refine g_iand O (pc' := 47) d7_46 rfl ?_
        refine g_istore_n O (pc' := 48) d7_47 (Ls' := [some (.int v0), some (.int v1), some (.int ((v1 + (3 : Int32)) &&& (3 : Int32)))]) rfl rfl ?_
        refine g_iload_n O (pc' := 49) d7_48 (v := v0) rfl rfl ?_
        refine g_iload_n O (pc' := 50) d7_49 (v := ((v1 + (3 : Int32)) &&& (3 : Int32))) rfl rfl ?_
        refine g_ishr O (pc' := 51) d7_50 rfl ?_
        refine g_iconst O (pc' := 52) d7_51 (v := 1) (by decide) rfl ?_
        refine g_iand O (pc' := 53) d7_52 rfl ?_
        refine g_if_eq O (pc' := 56) d7_53 rfl (by decide) (pc1 := 58) (by decide) (fun h53 => ?_) (fun h53 => ?_)
        · rw [if_pos h53]
          refine g_iconst O (pc' := 59) d7_58 (v := -1) (by decide) rfl ?_
          exact g_ret_int O d7_59 rfl (by decide)
        · rw [if_neg h53]
          refine g_iload_n O (pc' := 57) d7_56 (v := ((v1 + (3 : Int32)) &&& (3 : Int32))) rfl rfl ?_
          exact g_ret_int O d7_57 rfl (by decide)
      · rw [if_neg h37]
        refine g_iload_n O (pc' := 41) d7_40 (v := ((v1 + (2 : Int32)) &&& (3 : Int32))) rfl rfl ?_
        exact g_ret_int O d7_41 rfl (by decide)
    · rw [if_neg h21]
      refine g_iload_n O (pc' := 25) d7_24 (v := ((v1 + (1 : Int32)) &&& (3 : Int32))) rfl rfl ?_
      exact g_ret_int O d7_25 rfl (by decide)
  · rw [if_neg h5]
    refine g_iload_n O (pc' := 9) d7_8 (v := v1) rfl rfl ?_
    exact g_ret_int O d7_9 rfl (by decide)
abbrev m7 (v0 : Int32) (v1 : Int32) : Int32 := m7_b0 v0 v1
theorem con7 {G : Gx} (hw : ∀ d ∈ tables_1, d.before G.2.2.1 G.2.1 = true) (v0 : Int32) (v1 : Int32) (H : List Obj) : Con G (⟨"com/example/custode/custode/service/PartitionSplitMarkedPinLaw", "firstIn", "(II)I"⟩ : MethodName) method_7_code 3 (Option.some FieldType.int) rm7 [(.int v0), (.int v1)] H (some (.int (m7 v0 v1))) H :=
  con_of hw pn7 rfl fun K O => m7_t0 O v0 v1 H

/-! body 9 -/
theorem d9_0 : decode prog_75_method_2_code 0 = .ok (.aload_n 0, 1) := by decide +kernel
theorem d9_1 : decode prog_75_method_2_code 1 = .ok (.getfield 31, 3) := by decide +kernel
theorem d9_4 : decode prog_75_method_2_code 4 = .ok (.ireturn, 1) := by decide +kernel
theorem pd9 : parseMethodDescriptor "()I" = some ⟨[], some .int⟩ := by decide +kernel
theorem pn9 : plainFor (⟨"com/example/custode/custode/service/Partition", "count", "()I"⟩ : MethodName) = true := by first | exact plainFor_of_name (by first | (simp [plainName, overriddenIn]; done) | decide +kernel) | decide +kernel
abbrev rm9 : Room := { frames := 0, cells := 0, slots := 0, locals := 0 }
abbrev Ok9 (G : Gx) (K : Kx) : Prop := Ok G K "com/example/custode/custode/service/Partition" prog_75_method_2_code 1 (Option.some FieldType.int) rm9 "count" 0 0
def m9_b0 (v0 : Nat) (H : List Obj) : Option (Int32 × List Obj) :=
  (fldI 0 7 H v0).bind fun x1 =>
  some (x1, H)
theorem m9_t0 {G : Gx} {K : Kx} (O : Ok9 G K) (v0 : Nat) (H : List Obj) (r : Int32) (Hf : List Obj) (hf : m9_b0 v0 H = some (r, Hf)) : Run G K (some (.int r)) Hf 0 [some (.ref v0)] [] H 0 0 := by
  unfold m9_b0 at hf
  refine g_aload_n O (pc' := 1) d9_0 (v := v0) rfl rfl ?_
  obtain ⟨x1, h1, hf⟩ := bnd hf
  refine g_getfield O (pc' := 4) d9_1 (t := 0) (kf := 7) rfl tw24 (fldI_e h1) rfl ?_
  cases hf
  exact g_ret_int O d9_4 rfl (by decide)
abbrev m9 (v0 : Nat) (H : List Obj) : Option (Int32 × List Obj) := m9_b0 v0 H
theorem con9 {G : Gx} (hw : ∀ d ∈ tables_1, d.before G.2.2.1 G.2.1 = true) (v0 : Nat) (H : List Obj) {r : Int32} {Hf : List Obj} (hf : m9 v0 H = some (r, Hf)) : Con G (⟨"com/example/custode/custode/service/Partition", "count", "()I"⟩ : MethodName) prog_75_method_2_code 1 (Option.some FieldType.int) rm9 [(.ref v0)] H (some (.int r)) Hf :=
  con_of hw pn9 rfl fun K O => m9_t0 O v0 H r Hf hf

/-! body 10 -/
theorem d10_0 : decode prog_75_method_3_code 0 = .ok (.aload_n 0, 1) := by decide +kernel
theorem d10_1 : decode prog_75_method_3_code 1 = .ok (.getfield 16, 3) := by decide +kernel
theorem d10_4 : decode prog_75_method_3_code 4 = .ok (.invokevirtual 35, 3) := by decide +kernel
theorem d10_7 : decode prog_75_method_3_code 7 = .ok (.checkcast 36, 3) := by decide +kernel
theorem d10_10 : decode prog_75_method_3_code 10 = .ok (.areturn, 1) := by decide +kernel
theorem pd10 : parseMethodDescriptor "()[I" = some ⟨[], some (.array .int)⟩ := by decide +kernel
theorem pn10 : plainFor (⟨"com/example/custode/custode/service/Partition", "blocks", "()[I"⟩ : MethodName) = true := by first | exact plainFor_of_name (by first | (simp [plainName, overriddenIn]; done) | decide +kernel) | decide +kernel
abbrev rm10 : Room := { frames := 1, cells := 1, slots := 4, locals := 14 }
abbrev Ok10 (G : Gx) (K : Kx) : Prop := Ok G K "com/example/custode/custode/service/Partition" prog_75_method_3_code 1 (Option.some (FieldType.array FieldType.int)) rm10 "blocks" 1 4
def m10_b0 (v0 : Nat) (H : List Obj) : Option (Nat × List Obj) :=
  (fldA 0 2 H v0).bind fun x1 =>
  (cloneI 4 H x1).bind fun H4 =>
  (arr .int H4 (H.length)).bind fun _ =>
  some ((H.length), H4)
theorem m10_t0 {G : Gx} {K : Kx} (O : Ok10 G K) (v0 : Nat) (H : List Obj) (r : Nat) (Hf : List Obj) (hf : m10_b0 v0 H = some (r, Hf)) : Run G K (some (.ref r)) Hf 0 [some (.ref v0)] [] H 0 0 := by
  unfold m10_b0 at hf
  refine g_aload_n O (pc' := 1) d10_0 (v := v0) rfl rfl ?_
  obtain ⟨x1, h1, hf⟩ := bnd hf
  refine g_getfield O (pc' := 4) d10_1 (t := 0) (kf := 2) rfl tw14 (fldA_e h1) rfl ?_
  obtain ⟨H4, h4, hf⟩ := bnd hf
  refine g_cloneI O (pc' := 7) d10_4 tw64 tw65 tw69 tw67 tw68 tw70 h4 rfl (W := 0) rfl (by decide) (by decide) (c2 := 1) (s2 := 4) rfl rfl (by decide) (by decide) rfl ?_
  obtain ⟨_, h7, hf⟩ := bnd hf
  refine g_checkcastI O (pc' := 10) d10_7 tw71 h7 rfl ?_
  cases hf
  exact g_ret_ref O d10_10 rfl (fun _ => rfl) rfl (by decide)
abbrev m10 (v0 : Nat) (H : List Obj) : Option (Nat × List Obj) := m10_b0 v0 H
theorem con10 {G : Gx} (hw : ∀ d ∈ tables_1, d.before G.2.2.1 G.2.1 = true) (v0 : Nat) (H : List Obj) {r : Nat} {Hf : List Obj} (hf : m10 v0 H = some (r, Hf)) : Con G (⟨"com/example/custode/custode/service/Partition", "blocks", "()[I"⟩ : MethodName) prog_75_method_3_code 1 (Option.some (FieldType.array FieldType.int)) rm10 [(.ref v0)] H (some (.ref r)) Hf :=
  con_of hw pn10 rfl fun K O => m10_t0 O v0 H r Hf hf

/-! body 11 -/
theorem d11_0 : decode method_8_code 0 = .ok (.aload_n 0, 1) := by decide +kernel
theorem d11_1 : decode method_8_code 1 = .ok (.iload_n 3, 1) := by decide +kernel
theorem d11_2 : decode method_8_code 2 = .ok (.iaload, 1) := by decide +kernel
theorem d11_3 : decode method_8_code 3 = .ok (.istore 4, 2) := by decide +kernel
theorem d11_5 : decode method_8_code 5 = .ok (.iload 4, 2) := by decide +kernel
theorem d11_7 : decode method_8_code 7 = .ok (.ifCond .lt 9, 3) := by decide +kernel
theorem d11_10 : decode method_8_code 10 = .ok (.iload 4, 2) := by decide +kernel
theorem d11_12 : decode method_8_code 12 = .ok (.iload_n 2, 1) := by decide +kernel
theorem d11_13 : decode method_8_code 13 = .ok (.if_icmp .lt 5, 3) := by decide +kernel
theorem d11_16 : decode method_8_code 16 = .ok (.iconst 0, 1) := by decide +kernel
theorem d11_17 : decode method_8_code 17 = .ok (.ireturn, 1) := by decide +kernel
theorem d11_18 : decode method_8_code 18 = .ok (.aload_n 1, 1) := by decide +kernel
theorem d11_19 : decode method_8_code 19 = .ok (.iload 4, 2) := by decide +kernel
theorem d11_21 : decode method_8_code 21 = .ok (.iaload, 1) := by decide +kernel
theorem d11_22 : decode method_8_code 22 = .ok (.iload_n 3, 1) := by decide +kernel
theorem d11_23 : decode method_8_code 23 = .ok (.ishr, 1) := by decide +kernel
theorem d11_24 : decode method_8_code 24 = .ok (.iconst 1, 1) := by decide +kernel
theorem d11_25 : decode method_8_code 25 = .ok (.iand, 1) := by decide +kernel
theorem d11_26 : decode method_8_code 26 = .ok (.ifCond .eq 7, 3) := by decide +kernel
theorem d11_29 : decode method_8_code 29 = .ok (.iconst 1, 1) := by decide +kernel
theorem d11_30 : decode method_8_code 30 = .ok (.goto 4, 3) := by decide +kernel
theorem d11_33 : decode method_8_code 33 = .ok (.iconst 0, 1) := by decide +kernel
theorem d11_34 : decode method_8_code 34 = .ok (.ireturn, 1) := by decide +kernel
theorem pd11 : parseMethodDescriptor "([I[III)Z" = some ⟨[.array .int, .array .int, .int, .int], some .boolean⟩ := by decide +kernel
theorem pn11 : plainFor (⟨"com/example/custode/custode/service/PartitionSplitMarkedPinLaw", "inBlock", "([I[III)Z"⟩ : MethodName) = true := by first | exact plainFor_of_name (by first | (simp [plainName, overriddenIn]; done) | decide +kernel) | decide +kernel
abbrev rm11 : Room := { frames := 0, cells := 0, slots := 0, locals := 0 }
abbrev Ok11 (G : Gx) (K : Kx) : Prop := Ok G K "com/example/custode/custode/service/PartitionSplitMarkedPinLaw" method_8_code 5 (Option.some FieldType.boolean) rm11 "inBlock" 0 0
def m11_b16 (H : List Obj) : Option (Int32 × List Obj) :=
  some ((0 : Int32), H)
theorem m11_t16 {G : Gx} {K : Kx} (O : Ok11 G K) (H : List Obj) (r : Int32) (Hf : List Obj) (hf : m11_b16 H = some (r, Hf)) : Run G K (some (.int r)) Hf 16 [none, none, none, none, none] [] H 0 0 := by
  unfold m11_b16 at hf
  refine g_iconst O (pc' := 17) d11_16 (v := 0) (by decide) rfl ?_
  cases hf
  exact g_ret_nar O d11_17 (by simp) (by decide) rfl (by decide)
def m11_b34 (t0 : Int32) (H : List Obj) : Option (Int32 × List Obj) :=
  some ((nar .boolean t0), H)
theorem m11_t34 {G : Gx} {K : Kx} (O : Ok11 G K) (t0 : Int32) (H : List Obj) (r : Int32) (Hf : List Obj) (hf : m11_b34 t0 H = some (r, Hf)) : Run G K (some (.int r)) Hf 34 [none, none, none, none, none] [(.int t0)] H 0 0 := by
  unfold m11_b34 at hf
  cases hf
  exact g_ret_nar O d11_34 (by simp) rfl rfl (by decide)
def m11_b0 (v0 : Nat) (v1 : Nat) (v2 : Int32) (v3 : Int32) (H : List Obj) : Option (Int32 × List Obj) :=
  (rdI .int H v0 v3).bind fun x2 =>
  if x2 < 0 then
    m11_b16 H
  else
    if x2 < v2 then
      (rdI .int H v1 x2).bind fun x21 =>
      if ((x21 >>> (v3 &&& 31)) &&& (1 : Int32)) = 0 then
        m11_b34 (0 : Int32) H
      else
        m11_b34 (1 : Int32) H
    else
      m11_b16 H
theorem m11_t0 {G : Gx} {K : Kx} (O : Ok11 G K) (v0 : Nat) (v1 : Nat) (v2 : Int32) (v3 : Int32) (H : List Obj) (r : Int32) (Hf : List Obj) (hf : m11_b0 v0 v1 v2 v3 H = some (r, Hf)) : Run G K (some (.int r)) Hf 0 [some (.ref v0), some (.ref v1), some (.int v2), some (.int v3), none] [] H 0 0 := by
  unfold m11_b0 at hf
  refine g_aload_n O (pc' := 1) d11_0 (v := v0) rfl rfl ?_
  refine g_iload_n O (pc' := 2) d11_1 (v := v3) rfl rfl ?_
  obtain ⟨x2, h2, hf⟩ := bnd hf
  refine g_iaload O (pc' := 3) d11_2 h2 rfl ?_
  refine g_istore O (pc' := 5) d11_3 (Ls' := [some (.ref v0), some (.ref v1), some (.int v2), some (.int v3), some (.int x2)]) rfl rfl ?_
  refine g_iload O (pc' := 7) d11_5 (v := x2) rfl rfl ?_
  refine g_if_lt O (pc' := 10) d11_7 rfl (by decide) (pc1 := 16) (by decide) (fun h7 => ?_) (fun h7 => ?_)
  · rw [if_pos h7] at hf
    refine g_forget (Ls' := [none, none, none, none, none]) trivial ?_
    exact m11_t16 O H _ _ hf
  · rw [if_neg h7] at hf
    refine g_iload O (pc' := 12) d11_10 (v := x2) rfl rfl ?_
    refine g_iload_n O (pc' := 13) d11_12 (v := v2) rfl rfl ?_
    refine g_icmp_lt O (pc' := 16) d11_13 rfl (by decide) (pc1 := 18) (by decide) (fun h13 => ?_) (fun h13 => ?_)
    · rw [if_pos h13] at hf
      refine g_aload_n O (pc' := 19) d11_18 (v := v1) rfl rfl ?_
      refine g_iload O (pc' := 21) d11_19 (v := x2) rfl rfl ?_
      obtain ⟨x21, h21, hf⟩ := bnd hf
      refine g_iaload O (pc' := 22) d11_21 h21 rfl ?_
      refine g_iload_n O (pc' := 23) d11_22 (v := v3) rfl rfl ?_
      refine g_ishr O (pc' := 24) d11_23 rfl ?_
      refine g_iconst O (pc' := 25) d11_24 (v := 1) (by decide) rfl ?_
      refine g_iand O (pc' := 26) d11_25 rfl ?_
      refine g_if_eq O (pc' := 29) d11_26 rfl (by decide) (pc1 := 33) (by decide) (fun h26 => ?_) (fun h26 => ?_)
      · rw [if_pos h26] at hf
        refine g_iconst O (pc' := 34) d11_33 (v := 0) (by decide) rfl ?_
        refine g_forget (Ls' := [none, none, none, none, none]) trivial ?_
        exact m11_t34 O (0 : Int32) H _ _ hf
      · rw [if_neg h26] at hf
        refine g_iconst O (pc' := 30) d11_29 (v := 1) (by decide) rfl ?_
        refine g_goto O d11_30 (by decide) (pc' := 34) (by decide) ?_
        refine g_forget (Ls' := [none, none, none, none, none]) trivial ?_
        exact m11_t34 O (1 : Int32) H _ _ hf
    · rw [if_neg h13] at hf
      refine g_forget (Ls' := [none, none, none, none, none]) trivial ?_
      exact m11_t16 O H _ _ hf
abbrev m11 (v0 : Nat) (v1 : Nat) (v2 : Int32) (v3 : Int32) (H : List Obj) : Option (Int32 × List Obj) := m11_b0 v0 v1 v2 v3 H
theorem con11 {G : Gx} (hw : ∀ d ∈ tables_1, d.before G.2.2.1 G.2.1 = true) (v0 : Nat) (v1 : Nat) (v2 : Int32) (v3 : Int32) (H : List Obj) {r : Int32} {Hf : List Obj} (hf : m11 v0 v1 v2 v3 H = some (r, Hf)) : Con G (⟨"com/example/custode/custode/service/PartitionSplitMarkedPinLaw", "inBlock", "([I[III)Z"⟩ : MethodName) method_8_code 5 (Option.some FieldType.boolean) rm11 [(.ref v0), (.ref v1), (.int v2), (.int v3)] H (some (.int r)) Hf :=
  con_of hw pn11 rfl fun K O => m11_t0 O v0 v1 v2 v3 H r Hf hf

/-! body 13 -/
theorem d13_0 : decode prog_75_method_4_code 0 = .ok (.aload_n 0, 1) := by decide +kernel
theorem d13_1 : decode prog_75_method_4_code 1 = .ok (.getfield 19, 3) := by decide +kernel
theorem d13_4 : decode prog_75_method_4_code 4 = .ok (.iload_n 1, 1) := by decide +kernel
theorem d13_5 : decode prog_75_method_4_code 5 = .ok (.iaload, 1) := by decide +kernel
theorem d13_6 : decode prog_75_method_4_code 6 = .ok (.ireturn, 1) := by decide +kernel
theorem pd13 : parseMethodDescriptor "(I)I" = some ⟨[.int], some .int⟩ := by decide +kernel
theorem pn13 : plainFor (⟨"com/example/custode/custode/service/Partition", "first", "(I)I"⟩ : MethodName) = true := by first | exact plainFor_of_name (by first | (simp [plainName, overriddenIn]; done) | decide +kernel) | decide +kernel
abbrev rm13 : Room := { frames := 0, cells := 0, slots := 0, locals := 0 }
abbrev Ok13 (G : Gx) (K : Kx) : Prop := Ok G K "com/example/custode/custode/service/Partition" prog_75_method_4_code 2 (Option.some FieldType.int) rm13 "first" 0 0
def m13_b0 (v0 : Nat) (v1 : Int32) (H : List Obj) : Option (Int32 × List Obj) :=
  (fldA 0 3 H v0).bind fun x1 =>
  (rdI .int H x1 v1).bind fun x5 =>
  some (x5, H)
theorem m13_t0 {G : Gx} {K : Kx} (O : Ok13 G K) (v0 : Nat) (v1 : Int32) (H : List Obj) (r : Int32) (Hf : List Obj) (hf : m13_b0 v0 v1 H = some (r, Hf)) : Run G K (some (.int r)) Hf 0 [some (.ref v0), some (.int v1)] [] H 0 0 := by
  unfold m13_b0 at hf
  refine g_aload_n O (pc' := 1) d13_0 (v := v0) rfl rfl ?_
  obtain ⟨x1, h1, hf⟩ := bnd hf
  refine g_getfield O (pc' := 4) d13_1 (t := 0) (kf := 3) rfl tw16 (fldA_e h1) rfl ?_
  refine g_iload_n O (pc' := 5) d13_4 (v := v1) rfl rfl ?_
  obtain ⟨x5, h5, hf⟩ := bnd hf
  refine g_iaload O (pc' := 6) d13_5 h5 rfl ?_
  cases hf
  exact g_ret_int O d13_6 rfl (by decide)
abbrev m13 (v0 : Nat) (v1 : Int32) (H : List Obj) : Option (Int32 × List Obj) := m13_b0 v0 v1 H
theorem con13 {G : Gx} (hw : ∀ d ∈ tables_1, d.before G.2.2.1 G.2.1 = true) (v0 : Nat) (v1 : Int32) (H : List Obj) {r : Int32} {Hf : List Obj} (hf : m13 v0 v1 H = some (r, Hf)) : Con G (⟨"com/example/custode/custode/service/Partition", "first", "(I)I"⟩ : MethodName) prog_75_method_4_code 2 (Option.some FieldType.int) rm13 [(.ref v0), (.int v1)] H (some (.int r)) Hf :=
  con_of hw pn13 rfl fun K O => m13_t0 O v0 v1 H r Hf hf

/-! body 14 -/
theorem d14_0 : decode prog_75_method_5_code 0 = .ok (.aload_n 0, 1) := by decide +kernel
theorem d14_1 : decode prog_75_method_5_code 1 = .ok (.getfield 22, 3) := by decide +kernel
theorem d14_4 : decode prog_75_method_5_code 4 = .ok (.iload_n 1, 1) := by decide +kernel
theorem d14_5 : decode prog_75_method_5_code 5 = .ok (.iaload, 1) := by decide +kernel
theorem d14_6 : decode prog_75_method_5_code 6 = .ok (.ireturn, 1) := by decide +kernel
theorem pd14 : parseMethodDescriptor "(I)I" = some ⟨[.int], some .int⟩ := by decide +kernel
theorem pn14 : plainFor (⟨"com/example/custode/custode/service/Partition", "end", "(I)I"⟩ : MethodName) = true := by first | exact plainFor_of_name (by first | (simp [plainName, overriddenIn]; done) | decide +kernel) | decide +kernel
abbrev rm14 : Room := { frames := 0, cells := 0, slots := 0, locals := 0 }
abbrev Ok14 (G : Gx) (K : Kx) : Prop := Ok G K "com/example/custode/custode/service/Partition" prog_75_method_5_code 2 (Option.some FieldType.int) rm14 "end" 0 0
def m14_b0 (v0 : Nat) (v1 : Int32) (H : List Obj) : Option (Int32 × List Obj) :=
  (fldA 0 4 H v0).bind fun x1 =>
  (rdI .int H x1 v1).bind fun x5 =>
  some (x5, H)
theorem m14_t0 {G : Gx} {K : Kx} (O : Ok14 G K) (v0 : Nat) (v1 : Int32) (H : List Obj) (r : Int32) (Hf : List Obj) (hf : m14_b0 v0 v1 H = some (r, Hf)) : Run G K (some (.int r)) Hf 0 [some (.ref v0), some (.int v1)] [] H 0 0 := by
  unfold m14_b0 at hf
  refine g_aload_n O (pc' := 1) d14_0 (v := v0) rfl rfl ?_
  obtain ⟨x1, h1, hf⟩ := bnd hf
  refine g_getfield O (pc' := 4) d14_1 (t := 0) (kf := 4) rfl tw18 (fldA_e h1) rfl ?_
  refine g_iload_n O (pc' := 5) d14_4 (v := v1) rfl rfl ?_
  obtain ⟨x5, h5, hf⟩ := bnd hf
  refine g_iaload O (pc' := 6) d14_5 h5 rfl ?_
  cases hf
  exact g_ret_int O d14_6 rfl (by decide)
abbrev m14 (v0 : Nat) (v1 : Int32) (H : List Obj) : Option (Int32 × List Obj) := m14_b0 v0 v1 H
theorem con14 {G : Gx} (hw : ∀ d ∈ tables_1, d.before G.2.2.1 G.2.1 = true) (v0 : Nat) (v1 : Int32) (H : List Obj) {r : Int32} {Hf : List Obj} (hf : m14 v0 v1 H = some (r, Hf)) : Con G (⟨"com/example/custode/custode/service/Partition", "end", "(I)I"⟩ : MethodName) prog_75_method_5_code 2 (Option.some FieldType.int) rm14 [(.ref v0), (.int v1)] H (some (.int r)) Hf :=
  con_of hw pn14 rfl fun K O => m14_t0 O v0 v1 H r Hf hf

/-! body 15 -/
theorem d15_0 : decode prog_75_method_6_code 0 = .ok (.aload_n 0, 1) := by decide +kernel
theorem d15_1 : decode prog_75_method_6_code 1 = .ok (.getfield 7, 3) := by decide +kernel
theorem d15_4 : decode prog_75_method_6_code 4 = .ok (.iload_n 1, 1) := by decide +kernel
theorem d15_5 : decode prog_75_method_6_code 5 = .ok (.iaload, 1) := by decide +kernel
theorem d15_6 : decode prog_75_method_6_code 6 = .ok (.ireturn, 1) := by decide +kernel
theorem pd15 : parseMethodDescriptor "(I)I" = some ⟨[.int], some .int⟩ := by decide +kernel
theorem pn15 : plainFor (⟨"com/example/custode/custode/service/Partition", "stateAt", "(I)I"⟩ : MethodName) = true := by first | exact plainFor_of_name (by first | (simp [plainName, overriddenIn]; done) | decide +kernel) | decide +kernel
abbrev rm15 : Room := { frames := 0, cells := 0, slots := 0, locals := 0 }
abbrev Ok15 (G : Gx) (K : Kx) : Prop := Ok G K "com/example/custode/custode/service/Partition" prog_75_method_6_code 2 (Option.some FieldType.int) rm15 "stateAt" 0 0
def m15_b0 (v0 : Nat) (v1 : Int32) (H : List Obj) : Option (Int32 × List Obj) :=
  (fldA 0 0 H v0).bind fun x1 =>
  (rdI .int H x1 v1).bind fun x5 =>
  some (x5, H)
theorem m15_t0 {G : Gx} {K : Kx} (O : Ok15 G K) (v0 : Nat) (v1 : Int32) (H : List Obj) (r : Int32) (Hf : List Obj) (hf : m15_b0 v0 v1 H = some (r, Hf)) : Run G K (some (.int r)) Hf 0 [some (.ref v0), some (.int v1)] [] H 0 0 := by
  unfold m15_b0 at hf
  refine g_aload_n O (pc' := 1) d15_0 (v := v0) rfl rfl ?_
  obtain ⟨x1, h1, hf⟩ := bnd hf
  refine g_getfield O (pc' := 4) d15_1 (t := 0) (kf := 0) rfl tw10 (fldA_e h1) rfl ?_
  refine g_iload_n O (pc' := 5) d15_4 (v := v1) rfl rfl ?_
  obtain ⟨x5, h5, hf⟩ := bnd hf
  refine g_iaload O (pc' := 6) d15_5 h5 rfl ?_
  cases hf
  exact g_ret_int O d15_6 rfl (by decide)
abbrev m15 (v0 : Nat) (v1 : Int32) (H : List Obj) : Option (Int32 × List Obj) := m15_b0 v0 v1 H
theorem con15 {G : Gx} (hw : ∀ d ∈ tables_1, d.before G.2.2.1 G.2.1 = true) (v0 : Nat) (v1 : Int32) (H : List Obj) {r : Int32} {Hf : List Obj} (hf : m15 v0 v1 H = some (r, Hf)) : Con G (⟨"com/example/custode/custode/service/Partition", "stateAt", "(I)I"⟩ : MethodName) prog_75_method_6_code 2 (Option.some FieldType.int) rm15 [(.ref v0), (.int v1)] H (some (.int r)) Hf :=
  con_of hw pn15 rfl fun K O => m15_t0 O v0 v1 H r Hf hf

/-! body 12 -/
theorem d12_0 : decode method_9_code 0 = .ok (.iload_n 3, 1) := by decide +kernel
theorem d12_1 : decode method_9_code 1 = .ok (.iload_n 2, 1) := by decide +kernel
theorem d12_2 : decode method_9_code 2 = .ok (.if_icmp .lt 5, 3) := by decide +kernel
theorem d12_5 : decode method_9_code 5 = .ok (.iconst 1, 1) := by decide +kernel
theorem d12_6 : decode method_9_code 6 = .ok (.ireturn, 1) := by decide +kernel
theorem d12_7 : decode method_9_code 7 = .ok (.aload_n 0, 1) := by decide +kernel
theorem d12_8 : decode method_9_code 8 = .ok (.iload_n 3, 1) := by decide +kernel
theorem d12_9 : decode method_9_code 9 = .ok (.invokevirtual 56, 3) := by decide +kernel
theorem d12_12 : decode method_9_code 12 = .ok (.istore 4, 2) := by decide +kernel
theorem d12_14 : decode method_9_code 14 = .ok (.aload_n 0, 1) := by decide +kernel
theorem d12_15 : decode method_9_code 15 = .ok (.iload_n 3, 1) := by decide +kernel
theorem d12_16 : decode method_9_code 16 = .ok (.invokevirtual 59, 3) := by decide +kernel
theorem d12_19 : decode method_9_code 19 = .ok (.istore 5, 2) := by decide +kernel
theorem d12_21 : decode method_9_code 21 = .ok (.iload 4, 2) := by decide +kernel
theorem d12_23 : decode method_9_code 23 = .ok (.ifCond .lt 23, 3) := by decide +kernel
theorem d12_26 : decode method_9_code 26 = .ok (.iload 5, 2) := by decide +kernel
theorem d12_28 : decode method_9_code 28 = .ok (.iconst 4, 1) := by decide +kernel
theorem d12_29 : decode method_9_code 29 = .ok (.if_icmp .gt 17, 3) := by decide +kernel
theorem d12_32 : decode method_9_code 32 = .ok (.iload 5, 2) := by decide +kernel
theorem d12_34 : decode method_9_code 34 = .ok (.iload 4, 2) := by decide +kernel
theorem d12_36 : decode method_9_code 36 = .ok (.isub, 1) := by decide +kernel
theorem d12_37 : decode method_9_code 37 = .ok (.aload_n 1, 1) := by decide +kernel
theorem d12_38 : decode method_9_code 38 = .ok (.iload_n 3, 1) := by decide +kernel
theorem d12_39 : decode method_9_code 39 = .ok (.iaload, 1) := by decide +kernel
theorem d12_40 : decode method_9_code 40 = .ok (.invokestatic 52, 3) := by decide +kernel
theorem d12_43 : decode method_9_code 43 = .ok (.if_icmp .eq 5, 3) := by decide +kernel
theorem d12_46 : decode method_9_code 46 = .ok (.iconst 0, 1) := by decide +kernel
theorem d12_47 : decode method_9_code 47 = .ok (.ireturn, 1) := by decide +kernel
theorem d12_48 : decode method_9_code 48 = .ok (.iload 4, 2) := by decide +kernel
theorem d12_50 : decode method_9_code 50 = .ok (.iconst 4, 1) := by decide +kernel
theorem d12_51 : decode method_9_code 51 = .ok (.if_icmp .lt 5, 3) := by decide +kernel
theorem d12_54 : decode method_9_code 54 = .ok (.iconst 0, 1) := by decide +kernel
theorem d12_55 : decode method_9_code 55 = .ok (.ireturn, 1) := by decide +kernel
theorem d12_56 : decode method_9_code 56 = .ok (.aload_n 0, 1) := by decide +kernel
theorem d12_57 : decode method_9_code 57 = .ok (.iload 4, 2) := by decide +kernel
theorem d12_59 : decode method_9_code 59 = .ok (.invokevirtual 62, 3) := by decide +kernel
theorem d12_62 : decode method_9_code 62 = .ok (.istore 6, 2) := by decide +kernel
theorem d12_64 : decode method_9_code 64 = .ok (.aload_n 1, 1) := by decide +kernel
theorem d12_65 : decode method_9_code 65 = .ok (.iload_n 3, 1) := by decide +kernel
theorem d12_66 : decode method_9_code 66 = .ok (.iaload, 1) := by decide +kernel
theorem d12_67 : decode method_9_code 67 = .ok (.iload 6, 2) := by decide +kernel
theorem d12_69 : decode method_9_code 69 = .ok (.ishr, 1) := by decide +kernel
theorem d12_70 : decode method_9_code 70 = .ok (.iconst 1, 1) := by decide +kernel
theorem d12_71 : decode method_9_code 71 = .ok (.iand, 1) := by decide +kernel
theorem d12_72 : decode method_9_code 72 = .ok (.ifCond .eq 7, 3) := by decide +kernel
theorem d12_75 : decode method_9_code 75 = .ok (.iconst 1, 1) := by decide +kernel
theorem d12_76 : decode method_9_code 76 = .ok (.goto 4, 3) := by decide +kernel
theorem d12_79 : decode method_9_code 79 = .ok (.iconst 0, 1) := by decide +kernel
theorem d12_80 : decode method_9_code 80 = .ok (.ireturn, 1) := by decide +kernel
theorem pd12 : parseMethodDescriptor "(Lcom/example/custode/custode/service/Partition;[III)Z" = some ⟨[.object "com/example/custode/custode/service/Partition", .array .int, .int, .int], some .boolean⟩ := by decide +kernel
theorem pn12 : plainFor (⟨"com/example/custode/custode/service/PartitionSplitMarkedPinLaw", "rangeOk", "(Lcom/example/custode/custode/service/Partition;[III)Z"⟩ : MethodName) = true := by first | exact plainFor_of_name (by first | (simp [plainName, overriddenIn]; done) | decide +kernel) | decide +kernel
abbrev rm12 : Room := { frames := 1, cells := 0, slots := 0, locals := 13 }
abbrev Ok12 (G : Gx) (K : Kx) : Prop := Ok G K "com/example/custode/custode/service/PartitionSplitMarkedPinLaw" method_9_code 7 (Option.some FieldType.boolean) rm12 "rangeOk" 0 0
def m12_b46 (H : List Obj) : Option (Int32 × List Obj) :=
  some ((0 : Int32), H)
theorem m12_t46 {G : Gx} {K : Kx} (O : Ok12 G K) (H : List Obj) (r : Int32) (Hf : List Obj) (hf : m12_b46 H = some (r, Hf)) : Run G K (some (.int r)) Hf 46 [none, none, none, none, none, none, none] [] H 0 0 := by
  unfold m12_b46 at hf
  refine g_iconst O (pc' := 47) d12_46 (v := 0) (by decide) rfl ?_
  cases hf
  exact g_ret_nar O d12_47 (by simp) (by decide) rfl (by decide)
def m12_b80 (t0 : Int32) (H : List Obj) : Option (Int32 × List Obj) :=
  some ((nar .boolean t0), H)
theorem m12_t80 {G : Gx} {K : Kx} (O : Ok12 G K) (t0 : Int32) (H : List Obj) (r : Int32) (Hf : List Obj) (hf : m12_b80 t0 H = some (r, Hf)) : Run G K (some (.int r)) Hf 80 [none, none, none, none, none, none, none] [(.int t0)] H 0 0 := by
  unfold m12_b80 at hf
  cases hf
  exact g_ret_nar O d12_80 (by simp) rfl rfl (by decide)
def m12_b0 (v0 : Nat) (v1 : Nat) (v2 : Int32) (v3 : Int32) (H : List Obj) : Option (Int32 × List Obj) :=
  if v3 < v2 then
    (obj 0 H v0).bind fun _ =>
    (m13 v0 v3 H).bind fun q9 =>
    (obj 0 q9.2 v0).bind fun _ =>
    (m14 v0 v3 q9.2).bind fun q16 =>
    if q9.1 < 0 then
      m12_b46 q16.2
    else
      if (4 : Int32) < q16.1 then
        m12_b46 q16.2
      else
        (rdI .int q16.2 v1 v3).bind fun x39 =>
        if (q16.1 - q9.1) = (m8 x39) then
          if q9.1 < (4 : Int32) then
            (obj 0 q16.2 v0).bind fun _ =>
            (m15 v0 q9.1 q16.2).bind fun q59 =>
            (rdI .int q59.2 v1 v3).bind fun x66 =>
            if ((x66 >>> (q59.1 &&& 31)) &&& (1 : Int32)) = 0 then
              m12_b80 (0 : Int32) q59.2
            else
              m12_b80 (1 : Int32) q59.2
          else
            some ((0 : Int32), q16.2)
        else
          m12_b46 q16.2
  else
    some ((1 : Int32), H)
theorem m12_t0 {G : Gx} {K : Kx} (O : Ok12 G K) (v0 : Nat) (v1 : Nat) (v2 : Int32) (v3 : Int32) (H : List Obj) (r : Int32) (Hf : List Obj) (hf : m12_b0 v0 v1 v2 v3 H = some (r, Hf)) : Run G K (some (.int r)) Hf 0 [some (.ref v0), some (.ref v1), some (.int v2), some (.int v3), none, none, none] [] H 0 0 := by
  unfold m12_b0 at hf
  refine g_iload_n O (pc' := 1) d12_0 (v := v3) rfl rfl ?_
  refine g_iload_n O (pc' := 2) d12_1 (v := v2) rfl rfl ?_
  refine g_icmp_lt O (pc' := 5) d12_2 rfl (by decide) (pc1 := 7) (by decide) (fun h2 => ?_) (fun h2 => ?_)
  · rw [if_pos h2] at hf
    refine g_aload_n O (pc' := 8) d12_7 (v := v0) rfl rfl ?_
    refine g_iload_n O (pc' := 9) d12_8 (v := v3) rfl rfl ?_
    obtain ⟨_, ho9, hf⟩ := bnd hf
    obtain ⟨⟨x9, H9⟩, h9, hf⟩ := bnd hf
    dsimp only at hf
    refine g_virtual1 O (pc' := 12) d12_9 (t := 0) tw79 tw80 tw82 tw81 tw2 tw83 (by decide) (ho9) pd13 (as := [(.int v3)]) rfl (st := []) rfl rfl (W := 0) rfl (rm := rm13) (by decide) (by decide) (c2 := 0) (s2 := 0) rfl rfl (by decide) (by decide) (con13 (Ok.w O) v0 v3 H h9) rfl ?_
    refine g_istore O (pc' := 14) d12_12 (Ls' := [some (.ref v0), some (.ref v1), some (.int v2), some (.int v3), some (.int x9), none, none]) rfl rfl ?_
    refine g_aload_n O (pc' := 15) d12_14 (v := v0) rfl rfl ?_
    refine g_iload_n O (pc' := 16) d12_15 (v := v3) rfl rfl ?_
    obtain ⟨_, ho16, hf⟩ := bnd hf
    obtain ⟨⟨x16, H16⟩, h16, hf⟩ := bnd hf
    dsimp only at hf
    refine g_virtual1 O (pc' := 19) d12_16 (t := 0) tw84 tw85 tw87 tw86 tw2 tw88 (by decide) (ho16) pd14 (as := [(.int v3)]) rfl (st := []) rfl rfl (W := 0) rfl (rm := rm14) (by decide) (by decide) (c2 := 0) (s2 := 0) rfl rfl (by decide) (by decide) (con14 (Ok.w O) v0 v3 H9 h16) rfl ?_
    refine g_istore O (pc' := 21) d12_19 (Ls' := [some (.ref v0), some (.ref v1), some (.int v2), some (.int v3), some (.int x9), some (.int x16), none]) rfl rfl ?_
    refine g_iload O (pc' := 23) d12_21 (v := x9) rfl rfl ?_
    refine g_if_lt O (pc' := 26) d12_23 rfl (by decide) (pc1 := 46) (by decide) (fun h23 => ?_) (fun h23 => ?_)
    · rw [if_pos h23] at hf
      refine g_forget (Ls' := [none, none, none, none, none, none, none]) trivial ?_
      exact m12_t46 O H16 _ _ hf
    · rw [if_neg h23] at hf
      refine g_iload O (pc' := 28) d12_26 (v := x16) rfl rfl ?_
      refine g_iconst O (pc' := 29) d12_28 (v := 4) (by decide) rfl ?_
      refine g_icmp_gt O (pc' := 32) d12_29 rfl (by decide) (pc1 := 46) (by decide) (fun h29 => ?_) (fun h29 => ?_)
      · rw [if_pos h29] at hf
        refine g_forget (Ls' := [none, none, none, none, none, none, none]) trivial ?_
        exact m12_t46 O H16 _ _ hf
      · rw [if_neg h29] at hf
        refine g_iload O (pc' := 34) d12_32 (v := x16) rfl rfl ?_
        refine g_iload O (pc' := 36) d12_34 (v := x9) rfl rfl ?_
        refine g_isub O (pc' := 37) d12_36 rfl ?_
        refine g_aload_n O (pc' := 38) d12_37 (v := v1) rfl rfl ?_
        refine g_iload_n O (pc' := 39) d12_38 (v := v3) rfl rfl ?_
        obtain ⟨x39, h39, hf⟩ := bnd hf
        refine g_iaload O (pc' := 40) d12_39 h39 rfl ?_
        refine g_static1 O (pc' := 43) d12_40 tw51 tw52 tw28 tw53 (by decide) pd8 (as := [(.int x39)]) rfl (st := [(.int (x16 - x9))]) rfl rfl (W := 1) rfl (rm := rm8) (by decide) (by decide) (c2 := 0) (s2 := 0) rfl rfl (by decide) (by decide) (con8 (Ok.w O) x39 H16) rfl ?_
        refine g_icmp_eq O (pc' := 46) d12_43 rfl (by decide) (pc1 := 48) (by decide) (fun h43 => ?_) (fun h43 => ?_)
        · rw [if_pos h43] at hf
          refine g_iload O (pc' := 50) d12_48 (v := x9) rfl rfl ?_
          refine g_iconst O (pc' := 51) d12_50 (v := 4) (by decide) rfl ?_
          refine g_icmp_lt O (pc' := 54) d12_51 rfl (by decide) (pc1 := 56) (by decide) (fun h51 => ?_) (fun h51 => ?_)
          · rw [if_pos h51] at hf
            refine g_aload_n O (pc' := 57) d12_56 (v := v0) rfl rfl ?_
            refine g_iload O (pc' := 59) d12_57 (v := x9) rfl rfl ?_
            obtain ⟨_, ho59, hf⟩ := bnd hf
            obtain ⟨⟨x59, H59⟩, h59, hf⟩ := bnd hf
            dsimp only at hf
            refine g_virtual1 O (pc' := 62) d12_59 (t := 0) tw89 tw90 tw92 tw91 tw2 tw93 (by decide) (ho59) pd15 (as := [(.int x9)]) rfl (st := []) rfl rfl (W := 0) rfl (rm := rm15) (by decide) (by decide) (c2 := 0) (s2 := 0) rfl rfl (by decide) (by decide) (con15 (Ok.w O) v0 x9 H16 h59) rfl ?_
            refine g_istore O (pc' := 64) d12_62 (Ls' := [some (.ref v0), some (.ref v1), some (.int v2), some (.int v3), some (.int x9), some (.int x16), some (.int x59)]) rfl rfl ?_
            refine g_aload_n O (pc' := 65) d12_64 (v := v1) rfl rfl ?_
            refine g_iload_n O (pc' := 66) d12_65 (v := v3) rfl rfl ?_
            obtain ⟨x66, h66, hf⟩ := bnd hf
            refine g_iaload O (pc' := 67) d12_66 h66 rfl ?_
            refine g_iload O (pc' := 69) d12_67 (v := x59) rfl rfl ?_
            refine g_ishr O (pc' := 70) d12_69 rfl ?_
            refine g_iconst O (pc' := 71) d12_70 (v := 1) (by decide) rfl ?_
            refine g_iand O (pc' := 72) d12_71 rfl ?_
            refine g_if_eq O (pc' := 75) d12_72 rfl (by decide) (pc1 := 79) (by decide) (fun h72 => ?_) (fun h72 => ?_)
            · rw [if_pos h72] at hf
              refine g_iconst O (pc' := 80) d12_79 (v := 0) (by decide) rfl ?_
              refine g_forget (Ls' := [none, none, none, none, none, none, none]) trivial ?_
              exact m12_t80 O (0 : Int32) H59 _ _ hf
            · rw [if_neg h72] at hf
              refine g_iconst O (pc' := 76) d12_75 (v := 1) (by decide) rfl ?_
              refine g_goto O d12_76 (by decide) (pc' := 80) (by decide) ?_
              refine g_forget (Ls' := [none, none, none, none, none, none, none]) trivial ?_
              exact m12_t80 O (1 : Int32) H59 _ _ hf
          · rw [if_neg h51] at hf
            refine g_iconst O (pc' := 55) d12_54 (v := 0) (by decide) rfl ?_
            cases hf
            exact g_ret_nar O d12_55 (by simp) (by decide) rfl (by decide)
        · rw [if_neg h43] at hf
          refine g_forget (Ls' := [none, none, none, none, none, none, none]) trivial ?_
          exact m12_t46 O H16 _ _ hf
  · rw [if_neg h2] at hf
    refine g_iconst O (pc' := 6) d12_5 (v := 1) (by decide) rfl ?_
    cases hf
    exact g_ret_nar O d12_6 (by simp) (by decide) rfl (by decide)
abbrev m12 (v0 : Nat) (v1 : Nat) (v2 : Int32) (v3 : Int32) (H : List Obj) : Option (Int32 × List Obj) := m12_b0 v0 v1 v2 v3 H
theorem con12 {G : Gx} (hw : ∀ d ∈ tables_1, d.before G.2.2.1 G.2.1 = true) (v0 : Nat) (v1 : Nat) (v2 : Int32) (v3 : Int32) (H : List Obj) {r : Int32} {Hf : List Obj} (hf : m12 v0 v1 v2 v3 H = some (r, Hf)) : Con G (⟨"com/example/custode/custode/service/PartitionSplitMarkedPinLaw", "rangeOk", "(Lcom/example/custode/custode/service/Partition;[III)Z"⟩ : MethodName) method_9_code 7 (Option.some FieldType.boolean) rm12 [(.ref v0), (.ref v1), (.int v2), (.int v3)] H (some (.int r)) Hf :=
  con_of hw pn12 rfl fun K O => m12_t0 O v0 v1 v2 v3 H r Hf hf

/-! body 0 -/
theorem pn0 : plainFor x = true := by first | exact plainFor_of_name (by first | (simp [plainName, overriddenIn]; done) | decide +kernel) | decide +kernel
abbrev Ok0 (G : Gx) (K : Kx) : Prop := Ok G K x.cls code maxLocals ret room_1 x.name 10 45
def m0_b304 (t0 : Int32) (H : List Obj) : Option (Int32 × List Obj) :=
  some ((nar .boolean t0), H)
theorem m0_t304 {G : Gx} {K : Kx} (O : Ok0 G K) (t0 : Int32) (H : List Obj) (r : Int32) (Hf : List Obj) (hf : m0_b304 t0 H = some (r, Hf)) : Run G K (some (.int r)) Hf 304 [none, none, none, none, none, none, none, none, none, none, none, none, none, none, none] [(.int t0)] H 10 45 := by
  unfold m0_b304 at hf
  cases hf
  exact g_ret_nar O at_304 (by simp) rfl rfl (by decide)
def m0_b303 (H : List Obj) : Option (Int32 × List Obj) :=
  m0_b304 (0 : Int32) H
theorem m0_t303 {G : Gx} {K : Kx} (O : Ok0 G K) (H : List Obj) (r : Int32) (Hf : List Obj) (hf : m0_b303 H = some (r, Hf)) : Run G K (some (.int r)) Hf 303 [none, none, none, none, none, none, none, none, none, none, none, none, none, none, none] [] H 10 45 := by
  unfold m0_b303 at hf
  refine g_iconst O (pc' := 304) at_303 (v := 0) (by decide) rfl ?_
  exact m0_t304 O (0 : Int32) H _ _ hf
def m0_b167 (v9 : Nat) (v10 : Nat) (v11 : Int32) (H : List Obj) : Option (Int32 × List Obj) :=
  (obj 0 H v9).bind fun _ =>
  (m9 v9 H).bind fun q169 =>
  if q169.1 = v11 then
    (obj 0 q169.2 v9).bind fun _ =>
    (m10 v9 q169.2).bind fun q181 =>
    (alen q181.2 q181.1).bind fun x188 =>
    if x188 = (4 : Int32) then
      (m11 q181.1 v10 v11 (0 : Int32) q181.2).bind fun q202 =>
      if q202.1 = 0 then
        m0_b303 q202.2
      else
        (m11 q181.1 v10 v11 (1 : Int32) q202.2).bind fun q215 =>
        if q215.1 = 0 then
          m0_b303 q215.2
        else
          (m11 q181.1 v10 v11 (2 : Int32) q215.2).bind fun q228 =>
          if q228.1 = 0 then
            m0_b303 q228.2
          else
            (m11 q181.1 v10 v11 (3 : Int32) q228.2).bind fun q241 =>
            if q241.1 = 0 then
              m0_b303 q241.2
            else
              (m12 v9 v10 v11 (0 : Int32) q241.2).bind fun q254 =>
              if q254.1 = 0 then
                m0_b303 q254.2
              else
                (m12 v9 v10 v11 (1 : Int32) q254.2).bind fun q267 =>
                if q267.1 = 0 then
                  m0_b303 q267.2
                else
                  (m12 v9 v10 v11 (2 : Int32) q267.2).bind fun q280 =>
                  if q280.1 = 0 then
                    m0_b303 q280.2
                  else
                    (m12 v9 v10 v11 (3 : Int32) q280.2).bind fun q293 =>
                    if q293.1 = 0 then
                      m0_b303 q293.2
                    else
                      m0_b304 (1 : Int32) q293.2
    else
      some ((0 : Int32), q181.2)
  else
    none
theorem m0_t167 {G : Gx} {K : Kx} (O : Ok0 G K) (v9 : Nat) (v10 : Nat) (v11 : Int32) (H : List Obj) (r : Int32) (Hf : List Obj) (hf : m0_b167 v9 v10 v11 H = some (r, Hf)) : Run G K (some (.int r)) Hf 167 [none, none, none, none, none, none, none, none, none, some (.ref v9), some (.ref v10), some (.int v11), none, none, none] [] H 9 41 := by
  unfold m0_b167 at hf
  refine g_aload O (pc' := 169) at_167 (v := v9) rfl rfl ?_
  obtain ⟨_, ho169, hf⟩ := bnd hf
  obtain ⟨⟨x169, H169⟩, h169, hf⟩ := bnd hf
  dsimp only at hf
  refine g_virtual1 O (pc' := 172) at_169 (t := 0) tw54 tw55 tw57 tw56 tw2 tw58 (by decide) (ho169) pd9 (as := []) rfl (st := []) rfl rfl (W := 0) rfl (rm := rm9) (by decide) (by decide) (c2 := 9) (s2 := 41) rfl rfl (by decide) (by decide) (con9 (Ok.w O) v9 H h169) rfl ?_
  refine g_iload O (pc' := 174) at_172 (v := v11) rfl rfl ?_
  refine g_icmp_eq O (pc' := 177) at_174 rfl (by decide) (pc1 := 179) (by decide) (fun h174 => ?_) (fun h174 => ?_)
  · rw [if_pos h174] at hf
    refine g_aload O (pc' := 181) at_179 (v := v9) rfl rfl ?_
    obtain ⟨_, ho181, hf⟩ := bnd hf
    obtain ⟨⟨x181, H181⟩, h181, hf⟩ := bnd hf
    dsimp only at hf
    refine g_virtual1 O (pc' := 184) at_181 (t := 0) tw59 tw60 tw62 tw61 tw2 tw63 (by decide) (ho181) pd10 (as := []) rfl (st := []) rfl rfl (W := 0) rfl (rm := rm10) (by decide) (by decide) (c2 := 10) (s2 := 45) rfl rfl (by decide) (by decide) (con10 (Ok.w O) v9 H169 h181) rfl ?_
    refine g_astore O (pc' := 186) at_184 (Ls' := [none, none, none, none, none, none, none, none, none, some (.ref v9), some (.ref v10), some (.int v11), none, some (.ref x181), none]) rfl rfl ?_
    refine g_aload O (pc' := 188) at_186 (v := x181) rfl rfl ?_
    obtain ⟨x188, h188, hf⟩ := bnd hf
    refine g_arraylength O (pc' := 189) at_188 h188 rfl ?_
    refine g_iconst O (pc' := 190) at_189 (v := 4) (by decide) rfl ?_
    refine g_icmp_eq O (pc' := 193) at_190 rfl (by decide) (pc1 := 195) (by decide) (fun h190 => ?_) (fun h190 => ?_)
    · rw [if_pos h190] at hf
      refine g_aload O (pc' := 197) at_195 (v := x181) rfl rfl ?_
      refine g_aload O (pc' := 199) at_197 (v := v10) rfl rfl ?_
      refine g_iload O (pc' := 201) at_199 (v := v11) rfl rfl ?_
      refine g_iconst O (pc' := 202) at_201 (v := 0) (by decide) rfl ?_
      obtain ⟨⟨x202, H202⟩, h202, hf⟩ := bnd hf
      dsimp only at hf
      refine g_static1 O (pc' := 205) at_202 tw73 tw74 tw28 tw75 (by decide) pd11 (as := [(.ref x181), (.ref v10), (.int v11), (.int (0 : Int32))]) rfl (st := []) rfl rfl (W := 0) rfl (rm := rm11) (by decide) (by decide) (c2 := 10) (s2 := 45) rfl rfl (by decide) (by decide) (con11 (Ok.w O) x181 v10 v11 (0 : Int32) H181 h202) rfl ?_
      refine g_if_eq O (pc' := 208) at_205 rfl (by decide) (pc1 := 303) (by decide) (fun h205 => ?_) (fun h205 => ?_)
      · rw [if_pos h205] at hf
        refine g_forget (Ls' := [none, none, none, none, none, none, none, none, none, none, none, none, none, none, none]) trivial ?_
        exact m0_t303 O H202 _ _ hf
      · rw [if_neg h205] at hf
        refine g_aload O (pc' := 210) at_208 (v := x181) rfl rfl ?_
        refine g_aload O (pc' := 212) at_210 (v := v10) rfl rfl ?_
        refine g_iload O (pc' := 214) at_212 (v := v11) rfl rfl ?_
        refine g_iconst O (pc' := 215) at_214 (v := 1) (by decide) rfl ?_
        obtain ⟨⟨x215, H215⟩, h215, hf⟩ := bnd hf
        dsimp only at hf
        refine g_static1 O (pc' := 218) at_215 tw73 tw74 tw28 tw75 (by decide) pd11 (as := [(.ref x181), (.ref v10), (.int v11), (.int (1 : Int32))]) rfl (st := []) rfl rfl (W := 0) rfl (rm := rm11) (by decide) (by decide) (c2 := 10) (s2 := 45) rfl rfl (by decide) (by decide) (con11 (Ok.w O) x181 v10 v11 (1 : Int32) H202 h215) rfl ?_
        refine g_if_eq O (pc' := 221) at_218 rfl (by decide) (pc1 := 303) (by decide) (fun h218 => ?_) (fun h218 => ?_)
        · rw [if_pos h218] at hf
          refine g_forget (Ls' := [none, none, none, none, none, none, none, none, none, none, none, none, none, none, none]) trivial ?_
          exact m0_t303 O H215 _ _ hf
        · rw [if_neg h218] at hf
          refine g_aload O (pc' := 223) at_221 (v := x181) rfl rfl ?_
          refine g_aload O (pc' := 225) at_223 (v := v10) rfl rfl ?_
          refine g_iload O (pc' := 227) at_225 (v := v11) rfl rfl ?_
          refine g_iconst O (pc' := 228) at_227 (v := 2) (by decide) rfl ?_
          obtain ⟨⟨x228, H228⟩, h228, hf⟩ := bnd hf
          dsimp only at hf
          refine g_static1 O (pc' := 231) at_228 tw73 tw74 tw28 tw75 (by decide) pd11 (as := [(.ref x181), (.ref v10), (.int v11), (.int (2 : Int32))]) rfl (st := []) rfl rfl (W := 0) rfl (rm := rm11) (by decide) (by decide) (c2 := 10) (s2 := 45) rfl rfl (by decide) (by decide) (con11 (Ok.w O) x181 v10 v11 (2 : Int32) H215 h228) rfl ?_
          refine g_if_eq O (pc' := 234) at_231 rfl (by decide) (pc1 := 303) (by decide) (fun h231 => ?_) (fun h231 => ?_)
          · rw [if_pos h231] at hf
            refine g_forget (Ls' := [none, none, none, none, none, none, none, none, none, none, none, none, none, none, none]) trivial ?_
            exact m0_t303 O H228 _ _ hf
          · rw [if_neg h231] at hf
            refine g_aload O (pc' := 236) at_234 (v := x181) rfl rfl ?_
            refine g_aload O (pc' := 238) at_236 (v := v10) rfl rfl ?_
            refine g_iload O (pc' := 240) at_238 (v := v11) rfl rfl ?_
            refine g_iconst O (pc' := 241) at_240 (v := 3) (by decide) rfl ?_
            obtain ⟨⟨x241, H241⟩, h241, hf⟩ := bnd hf
            dsimp only at hf
            refine g_static1 O (pc' := 244) at_241 tw73 tw74 tw28 tw75 (by decide) pd11 (as := [(.ref x181), (.ref v10), (.int v11), (.int (3 : Int32))]) rfl (st := []) rfl rfl (W := 0) rfl (rm := rm11) (by decide) (by decide) (c2 := 10) (s2 := 45) rfl rfl (by decide) (by decide) (con11 (Ok.w O) x181 v10 v11 (3 : Int32) H228 h241) rfl ?_
            refine g_if_eq O (pc' := 247) at_244 rfl (by decide) (pc1 := 303) (by decide) (fun h244 => ?_) (fun h244 => ?_)
            · rw [if_pos h244] at hf
              refine g_forget (Ls' := [none, none, none, none, none, none, none, none, none, none, none, none, none, none, none]) trivial ?_
              exact m0_t303 O H241 _ _ hf
            · rw [if_neg h244] at hf
              refine g_aload O (pc' := 249) at_247 (v := v9) rfl rfl ?_
              refine g_aload O (pc' := 251) at_249 (v := v10) rfl rfl ?_
              refine g_iload O (pc' := 253) at_251 (v := v11) rfl rfl ?_
              refine g_iconst O (pc' := 254) at_253 (v := 0) (by decide) rfl ?_
              obtain ⟨⟨x254, H254⟩, h254, hf⟩ := bnd hf
              dsimp only at hf
              refine g_static1 O (pc' := 257) at_254 tw76 tw77 tw28 tw78 (by decide) pd12 (as := [(.ref v9), (.ref v10), (.int v11), (.int (0 : Int32))]) rfl (st := []) rfl rfl (W := 0) rfl (rm := rm12) (by decide) (by decide) (c2 := 10) (s2 := 45) rfl rfl (by decide) (by decide) (con12 (Ok.w O) v9 v10 v11 (0 : Int32) H241 h254) rfl ?_
              refine g_if_eq O (pc' := 260) at_257 rfl (by decide) (pc1 := 303) (by decide) (fun h257 => ?_) (fun h257 => ?_)
              · rw [if_pos h257] at hf
                refine g_forget (Ls' := [none, none, none, none, none, none, none, none, none, none, none, none, none, none, none]) trivial ?_
                exact m0_t303 O H254 _ _ hf
              · rw [if_neg h257] at hf
                refine g_aload O (pc' := 262) at_260 (v := v9) rfl rfl ?_
                refine g_aload O (pc' := 264) at_262 (v := v10) rfl rfl ?_
                refine g_iload O (pc' := 266) at_264 (v := v11) rfl rfl ?_
                refine g_iconst O (pc' := 267) at_266 (v := 1) (by decide) rfl ?_
                obtain ⟨⟨x267, H267⟩, h267, hf⟩ := bnd hf
                dsimp only at hf
                refine g_static1 O (pc' := 270) at_267 tw76 tw77 tw28 tw78 (by decide) pd12 (as := [(.ref v9), (.ref v10), (.int v11), (.int (1 : Int32))]) rfl (st := []) rfl rfl (W := 0) rfl (rm := rm12) (by decide) (by decide) (c2 := 10) (s2 := 45) rfl rfl (by decide) (by decide) (con12 (Ok.w O) v9 v10 v11 (1 : Int32) H254 h267) rfl ?_
                refine g_if_eq O (pc' := 273) at_270 rfl (by decide) (pc1 := 303) (by decide) (fun h270 => ?_) (fun h270 => ?_)
                · rw [if_pos h270] at hf
                  refine g_forget (Ls' := [none, none, none, none, none, none, none, none, none, none, none, none, none, none, none]) trivial ?_
                  exact m0_t303 O H267 _ _ hf
                · rw [if_neg h270] at hf
                  refine g_aload O (pc' := 275) at_273 (v := v9) rfl rfl ?_
                  refine g_aload O (pc' := 277) at_275 (v := v10) rfl rfl ?_
                  refine g_iload O (pc' := 279) at_277 (v := v11) rfl rfl ?_
                  refine g_iconst O (pc' := 280) at_279 (v := 2) (by decide) rfl ?_
                  obtain ⟨⟨x280, H280⟩, h280, hf⟩ := bnd hf
                  dsimp only at hf
                  refine g_static1 O (pc' := 283) at_280 tw76 tw77 tw28 tw78 (by decide) pd12 (as := [(.ref v9), (.ref v10), (.int v11), (.int (2 : Int32))]) rfl (st := []) rfl rfl (W := 0) rfl (rm := rm12) (by decide) (by decide) (c2 := 10) (s2 := 45) rfl rfl (by decide) (by decide) (con12 (Ok.w O) v9 v10 v11 (2 : Int32) H267 h280) rfl ?_
                  refine g_if_eq O (pc' := 286) at_283 rfl (by decide) (pc1 := 303) (by decide) (fun h283 => ?_) (fun h283 => ?_)
                  · rw [if_pos h283] at hf
                    refine g_forget (Ls' := [none, none, none, none, none, none, none, none, none, none, none, none, none, none, none]) trivial ?_
                    exact m0_t303 O H280 _ _ hf
                  · rw [if_neg h283] at hf
                    refine g_aload O (pc' := 288) at_286 (v := v9) rfl rfl ?_
                    refine g_aload O (pc' := 290) at_288 (v := v10) rfl rfl ?_
                    refine g_iload O (pc' := 292) at_290 (v := v11) rfl rfl ?_
                    refine g_iconst O (pc' := 293) at_292 (v := 3) (by decide) rfl ?_
                    obtain ⟨⟨x293, H293⟩, h293, hf⟩ := bnd hf
                    dsimp only at hf
                    refine g_static1 O (pc' := 296) at_293 tw76 tw77 tw28 tw78 (by decide) pd12 (as := [(.ref v9), (.ref v10), (.int v11), (.int (3 : Int32))]) rfl (st := []) rfl rfl (W := 0) rfl (rm := rm12) (by decide) (by decide) (c2 := 10) (s2 := 45) rfl rfl (by decide) (by decide) (con12 (Ok.w O) v9 v10 v11 (3 : Int32) H280 h293) rfl ?_
                    refine g_if_eq O (pc' := 299) at_296 rfl (by decide) (pc1 := 303) (by decide) (fun h296 => ?_) (fun h296 => ?_)
                    · rw [if_pos h296] at hf
                      refine g_forget (Ls' := [none, none, none, none, none, none, none, none, none, none, none, none, none, none, none]) trivial ?_
                      exact m0_t303 O H293 _ _ hf
                    · rw [if_neg h296] at hf
                      refine g_iconst O (pc' := 300) at_299 (v := 1) (by decide) rfl ?_
                      refine g_goto O at_300 (by decide) (pc' := 304) (by decide) ?_
                      refine g_forget (Ls' := [none, none, none, none, none, none, none, none, none, none, none, none, none, none, none]) trivial ?_
                      exact m0_t304 O (1 : Int32) H293 _ _ hf
    · rw [if_neg h190] at hf
      refine g_iconst O (pc' := 194) at_193 (v := 0) (by decide) rfl ?_
      cases hf
      exact g_ret_nar O at_194 (by simp) (by decide) rfl (by decide)
  · rw [if_neg h174] at hf
    cases hf
def m0_b127 (v6 : Int32) (v9 : Nat) (v10 : Nat) (v11 : Int32) (t0 : Int32) (H : List Obj) : Option (Int32 × List Obj) :=
  (m6 v10 v11 t0 v6 H).bind fun q141 =>
  if v11 = (2 : Int32) then
    (m6 v10 q141.1 ((1 : Int32) - t0) v6 q141.2).bind fun q162 =>
    m0_b167 v9 v10 q162.1 q162.2
  else
    m0_b167 v9 v10 q141.1 q141.2
theorem m0_t127 {G : Gx} {K : Kx} (O : Ok0 G K) (v6 : Int32) (v9 : Nat) (v10 : Nat) (v11 : Int32) (t0 : Int32) (H : List Obj) (r : Int32) (Hf : List Obj) (hf : m0_b127 v6 v9 v10 v11 t0 H = some (r, Hf)) : Run G K (some (.int r)) Hf 127 [none, none, none, none, none, none, some (.int v6), none, none, some (.ref v9), some (.ref v10), some (.int v11), none, none, none] [(.int t0)] H 9 41 := by
  unfold m0_b127 at hf
  refine g_istore O (pc' := 129) at_127 (Ls' := [none, none, none, none, none, none, some (.int v6), none, none, some (.ref v9), some (.ref v10), some (.int v11), none, some (.int t0), none]) rfl rfl ?_
  refine g_iload O (pc' := 131) at_129 (v := v11) rfl rfl ?_
  refine g_istore O (pc' := 133) at_131 (Ls' := [none, none, none, none, none, none, some (.int v6), none, none, some (.ref v9), some (.ref v10), some (.int v11), none, some (.int t0), some (.int v11)]) rfl rfl ?_
  refine g_aload O (pc' := 135) at_133 (v := v10) rfl rfl ?_
  refine g_iload O (pc' := 137) at_135 (v := v11) rfl rfl ?_
  refine g_iload O (pc' := 139) at_137 (v := t0) rfl rfl ?_
  refine g_iload O (pc' := 141) at_139 (v := v6) rfl rfl ?_
  obtain ⟨⟨x141, H141⟩, h141, hf⟩ := bnd hf
  dsimp only at hf
  refine g_static1 O (pc' := 144) at_141 tw45 tw46 tw28 tw47 (by decide) pd6 (as := [(.ref v10), (.int v11), (.int t0), (.int v6)]) rfl (st := []) rfl rfl (W := 0) rfl (rm := rm6) (by decide) (by decide) (c2 := 9) (s2 := 41) rfl rfl (by decide) (by decide) (con6 (Ok.w O) v10 v11 t0 v6 H h141) rfl ?_
  refine g_istore O (pc' := 146) at_144 (Ls' := [none, none, none, none, none, none, some (.int v6), none, none, some (.ref v9), some (.ref v10), some (.int x141), none, some (.int t0), some (.int v11)]) rfl rfl ?_
  refine g_iload O (pc' := 148) at_146 (v := v11) rfl rfl ?_
  refine g_iconst O (pc' := 149) at_148 (v := 2) (by decide) rfl ?_
  refine g_icmp_ne O (pc' := 152) at_149 rfl (by decide) (pc1 := 167) (by decide) (fun h149 => ?_) (fun h149 => ?_)
  · rw [if_neg h149] at hf
    refine g_forget (Ls' := [none, none, none, none, none, none, none, none, none, some (.ref v9), some (.ref v10), some (.int x141), none, none, none]) (And.intro rfl (And.intro rfl (And.intro rfl trivial))) ?_
    exact m0_t167 O v9 v10 x141 H141 _ _ hf
  · rw [if_pos h149] at hf
    refine g_aload O (pc' := 154) at_152 (v := v10) rfl rfl ?_
    refine g_iload O (pc' := 156) at_154 (v := x141) rfl rfl ?_
    refine g_iconst O (pc' := 157) at_156 (v := 1) (by decide) rfl ?_
    refine g_iload O (pc' := 159) at_157 (v := t0) rfl rfl ?_
    refine g_isub O (pc' := 160) at_159 rfl ?_
    refine g_iload O (pc' := 162) at_160 (v := v6) rfl rfl ?_
    obtain ⟨⟨x162, H162⟩, h162, hf⟩ := bnd hf
    dsimp only at hf
    refine g_static1 O (pc' := 165) at_162 tw45 tw46 tw28 tw47 (by decide) pd6 (as := [(.ref v10), (.int x141), (.int ((1 : Int32) - t0)), (.int v6)]) rfl (st := []) rfl rfl (W := 0) rfl (rm := rm6) (by decide) (by decide) (c2 := 9) (s2 := 41) rfl rfl (by decide) (by decide) (con6 (Ok.w O) v10 x141 ((1 : Int32) - t0) v6 H141 h162) rfl ?_
    refine g_istore O (pc' := 167) at_165 (Ls' := [none, none, none, none, none, none, some (.int v6), none, none, some (.ref v9), some (.ref v10), some (.int x162), none, some (.int t0), some (.int v11)]) rfl rfl ?_
    refine g_forget (Ls' := [none, none, none, none, none, none, none, none, none, some (.ref v9), some (.ref v10), some (.int x162), none, none, none]) (And.intro rfl (And.intro rfl (And.intro rfl trivial))) ?_
    exact m0_t167 O v9 v10 x162 H162 _ _ hf
def m0_b62 (v5 : Int32) (v6 : Int32) (v8 : Int32) (v9 : Nat) (t0 : Int32) (t1 : Int32) (t2 : Int32) (t3 : Nat) (H : List Obj) : Option (Int32 × List Obj) :=
  (m2 t3 t2 t1 t0 H).bind fun H62 =>
  (obj 0 H62 v9).bind fun _ =>
  (m4 v9 H62).bind fun H67 =>
  (mkArr .int 4 H67 (4 : Int32)).bind fun H71 =>
  (wr .int H71 (H67.length) (0 : Int32) (.int (15 : Int32))).bind fun H80 =>
  (m6 (H67.length) (1 : Int32) (0 : Int32) v5 H80).bind fun q91 =>
  if (m7 v6 v8) < 0 then
    m0_b167 v9 (H67.length) q91.1 q91.2
  else
    (rdI .int q91.2 (H67.length) (0 : Int32)).bind fun x113 =>
    if ((x113 >>> ((m7 v6 v8) &&& 31)) &&& (1 : Int32)) = 0 then
      m0_b127 v6 v9 (H67.length) q91.1 (1 : Int32) q91.2
    else
      m0_b127 v6 v9 (H67.length) q91.1 (0 : Int32) q91.2
theorem m0_t62 {G : Gx} {K : Kx} (O : Ok0 G K) (v5 : Int32) (v6 : Int32) (v8 : Int32) (v9 : Nat) (t0 : Int32) (t1 : Int32) (t2 : Int32) (t3 : Nat) (H : List Obj) (r : Int32) (Hf : List Obj) (hf : m0_b62 v5 v6 v8 v9 t0 t1 t2 t3 H = some (r, Hf)) : Run G K (some (.int r)) Hf 62 [none, none, none, none, none, some (.int v5), some (.int v6), none, some (.int v8), some (.ref v9), none, none, none, none, none] [(.int t0), (.int t1), (.int t2), (.ref t3)] H 8 37 := by
  unfold m0_b62 at hf
  obtain ⟨H62, h62, hf⟩ := bnd hf
  refine g_static0 O (pc' := 65) at_62 tw26 tw27 tw28 tw29 (by decide) pd2 (as := [(.ref t3), (.int t2), (.int t1), (.int t0)]) rfl (st := []) rfl rfl (W := 0) rfl (rm := rm2) (by decide) (by decide) (c2 := 8) (s2 := 37) rfl rfl (by decide) (by decide) (con2 (Ok.w O) t3 t2 t1 t0 H h62) rfl ?_
  refine g_aload O (pc' := 67) at_65 (v := v9) rfl rfl ?_
  obtain ⟨_, ho67, hf⟩ := bnd hf
  obtain ⟨H67, h67, hf⟩ := bnd hf
  refine g_virtual0 O (pc' := 70) at_67 (t := 0) tw33 tw34 tw36 tw35 tw2 tw37 (by decide) (ho67) pd4 (as := []) rfl (st := []) rfl rfl (W := 0) rfl (rm := rm4) (by decide) (by decide) (c2 := 8) (s2 := 37) rfl rfl (by decide) (by decide) (con4 (Ok.w O) v9 H62 h67) rfl ?_
  refine g_iconst O (pc' := 71) at_70 (v := 4) (by decide) rfl ?_
  obtain ⟨H71, h71, hf⟩ := bnd hf
  refine g_newarray O (pc' := 73) at_71 (cap := 4) tw9 h71 (by decide) (c2 := 9) (s2 := 41) rfl rfl (by decide) (by decide) rfl ?_
  refine g_astore O (pc' := 75) at_73 (Ls' := [none, none, none, none, none, some (.int v5), some (.int v6), none, some (.int v8), some (.ref v9), some (.ref (H67.length)), none, none, none, none]) rfl rfl ?_
  refine g_aload O (pc' := 77) at_75 (v := (H67.length)) rfl rfl ?_
  refine g_iconst O (pc' := 78) at_77 (v := 0) (by decide) rfl ?_
  refine g_bipush O (pc' := 80) at_78 (v := 15) (by decide) rfl ?_
  obtain ⟨H80, h80, hf⟩ := bnd hf
  refine g_iastore O (pc' := 81) at_80 h80 rfl ?_
  refine g_iconst O (pc' := 82) at_81 (v := 1) (by decide) rfl ?_
  refine g_istore O (pc' := 84) at_82 (Ls' := [none, none, none, none, none, some (.int v5), some (.int v6), none, some (.int v8), some (.ref v9), some (.ref (H67.length)), some (.int (1 : Int32)), none, none, none]) rfl rfl ?_
  refine g_aload O (pc' := 86) at_84 (v := (H67.length)) rfl rfl ?_
  refine g_iload O (pc' := 88) at_86 (v := (1 : Int32)) rfl rfl ?_
  refine g_iconst O (pc' := 89) at_88 (v := 0) (by decide) rfl ?_
  refine g_iload O (pc' := 91) at_89 (v := v5) rfl rfl ?_
  obtain ⟨⟨x91, H91⟩, h91, hf⟩ := bnd hf
  dsimp only at hf
  refine g_static1 O (pc' := 94) at_91 tw45 tw46 tw28 tw47 (by decide) pd6 (as := [(.ref (H67.length)), (.int (1 : Int32)), (.int (0 : Int32)), (.int v5)]) rfl (st := []) rfl rfl (W := 0) rfl (rm := rm6) (by decide) (by decide) (c2 := 9) (s2 := 41) rfl rfl (by decide) (by decide) (con6 (Ok.w O) (H67.length) (1 : Int32) (0 : Int32) v5 H80 h91) rfl ?_
  refine g_istore O (pc' := 96) at_94 (Ls' := [none, none, none, none, none, some (.int v5), some (.int v6), none, some (.int v8), some (.ref v9), some (.ref (H67.length)), some (.int x91), none, none, none]) rfl rfl ?_
  refine g_iload O (pc' := 98) at_96 (v := v6) rfl rfl ?_
  refine g_iload O (pc' := 100) at_98 (v := v8) rfl rfl ?_
  refine g_static1 O (pc' := 103) at_100 tw48 tw49 tw28 tw50 (by decide) pd7 (as := [(.int v6), (.int v8)]) rfl (st := []) rfl rfl (W := 0) rfl (rm := rm7) (by decide) (by decide) (c2 := 9) (s2 := 41) rfl rfl (by decide) (by decide) (con7 (Ok.w O) v6 v8 H91) rfl ?_
  refine g_istore O (pc' := 105) at_103 (Ls' := [none, none, none, none, none, some (.int v5), some (.int v6), none, some (.int v8), some (.ref v9), some (.ref (H67.length)), some (.int x91), some (.int (m7 v6 v8)), none, none]) rfl rfl ?_
  refine g_iload O (pc' := 107) at_105 (v := (m7 v6 v8)) rfl rfl ?_
  refine g_if_lt O (pc' := 110) at_107 rfl (by decide) (pc1 := 167) (by decide) (fun h107 => ?_) (fun h107 => ?_)
  · rw [if_pos h107] at hf
    refine g_forget (Ls' := [none, none, none, none, none, none, none, none, none, some (.ref v9), some (.ref (H67.length)), some (.int x91), none, none, none]) (And.intro rfl (And.intro rfl (And.intro rfl trivial))) ?_
    exact m0_t167 O v9 (H67.length) x91 H91 _ _ hf
  · rw [if_neg h107] at hf
    refine g_aload O (pc' := 112) at_110 (v := (H67.length)) rfl rfl ?_
    refine g_iconst O (pc' := 113) at_112 (v := 0) (by decide) rfl ?_
    obtain ⟨x113, h113, hf⟩ := bnd hf
    refine g_iaload O (pc' := 114) at_113 h113 rfl ?_
    refine g_iload O (pc' := 116) at_114 (v := (m7 v6 v8)) rfl rfl ?_
    refine g_ishr O (pc' := 117) at_116 rfl ?_
    refine g_iconst O (pc' := 118) at_117 (v := 1) (by decide) rfl ?_
    refine g_iand O (pc' := 119) at_118 rfl ?_
    refine g_if_eq O (pc' := 122) at_119 rfl (by decide) (pc1 := 126) (by decide) (fun h119 => ?_) (fun h119 => ?_)
    · rw [if_pos h119] at hf
      refine g_iconst O (pc' := 127) at_126 (v := 1) (by decide) rfl ?_
      refine g_forget (Ls' := [none, none, none, none, none, none, some (.int v6), none, none, some (.ref v9), some (.ref (H67.length)), some (.int x91), none, none, none]) (And.intro rfl (And.intro rfl (And.intro rfl (And.intro rfl trivial)))) ?_
      exact m0_t127 O v6 v9 (H67.length) x91 (1 : Int32) H91 _ _ hf
    · rw [if_neg h119] at hf
      refine g_iconst O (pc' := 123) at_122 (v := 0) (by decide) rfl ?_
      refine g_goto O at_123 (by decide) (pc' := 127) (by decide) ?_
      refine g_forget (Ls' := [none, none, none, none, none, none, some (.int v6), none, none, some (.ref v9), some (.ref (H67.length)), some (.int x91), none, none, none]) (And.intro rfl (And.intro rfl (And.intro rfl (And.intro rfl trivial)))) ?_
      exact m0_t127 O v6 v9 (H67.length) x91 (0 : Int32) H91 _ _ hf
def m0_b0 (v0 : Int32) (v1 : Int32) (v2 : Int32) (v3 : Int32) (v4 : Int32) (H : List Obj) : Option (Int32 × List Obj) :=
  (m1 (H.length) (4 : Int32) (H ++ [(.inr (0, [.null, .null, .null, .null, .null, .null, .null, .int 0, .int 0]) : Obj)])).bind fun H27 =>
  (m2 (H.length) (v0 &&& (15 : Int32)) (v2 &&& (3 : Int32)) (v4 &&& (3 : Int32)) H27).bind fun H42 =>
  (obj 0 H42 (H.length)).bind fun _ =>
  (m4 (H.length) H42).bind fun H47 =>
  m0_b62 (v0 &&& (15 : Int32)) (v1 &&& (15 : Int32)) (v3 &&& (3 : Int32)) (H.length) ((v4 >>> ((2 : Int32) &&& 31)) &&& (3 : Int32)) (v3 &&& (3 : Int32)) (v1 &&& (15 : Int32)) (H.length) H47
theorem m0_t0 {G : Gx} {K : Kx} (O : Ok0 G K) (v0 : Int32) (v1 : Int32) (v2 : Int32) (v3 : Int32) (v4 : Int32) (H : List Obj) (r : Int32) (Hf : List Obj) (hf : m0_b0 v0 v1 v2 v3 v4 H = some (r, Hf)) : Run G K (some (.int r)) Hf 0 [some (.int v0), some (.int v1), some (.int v2), some (.int v3), some (.int v4), none, none, none, none, none, none, none, none, none, none] [] H 0 0 := by
  unfold m0_b0 at hf
  refine g_iload_n O (pc' := 1) at_0 (v := v0) rfl rfl ?_
  refine g_bipush O (pc' := 3) at_1 (v := 15) (by decide) rfl ?_
  refine g_iand O (pc' := 4) at_3 rfl ?_
  refine g_istore O (pc' := 6) at_4 (Ls' := [some (.int v0), some (.int v1), some (.int v2), some (.int v3), some (.int v4), some (.int (v0 &&& (15 : Int32))), none, none, none, none, none, none, none, none, none]) rfl rfl ?_
  refine g_iload_n O (pc' := 7) at_6 (v := v1) rfl rfl ?_
  refine g_bipush O (pc' := 9) at_7 (v := 15) (by decide) rfl ?_
  refine g_iand O (pc' := 10) at_9 rfl ?_
  refine g_istore O (pc' := 12) at_10 (Ls' := [some (.int v0), some (.int v1), some (.int v2), some (.int v3), some (.int v4), some (.int (v0 &&& (15 : Int32))), some (.int (v1 &&& (15 : Int32))), none, none, none, none, none, none, none, none]) rfl rfl ?_
  refine g_iload_n O (pc' := 13) at_12 (v := v2) rfl rfl ?_
  refine g_iconst O (pc' := 14) at_13 (v := 3) (by decide) rfl ?_
  refine g_iand O (pc' := 15) at_14 rfl ?_
  refine g_istore O (pc' := 17) at_15 (Ls' := [some (.int v0), some (.int v1), some (.int v2), some (.int v3), some (.int v4), some (.int (v0 &&& (15 : Int32))), some (.int (v1 &&& (15 : Int32))), some (.int (v2 &&& (3 : Int32))), none, none, none, none, none, none, none]) rfl rfl ?_
  refine g_iload_n O (pc' := 18) at_17 (v := v3) rfl rfl ?_
  refine g_iconst O (pc' := 19) at_18 (v := 3) (by decide) rfl ?_
  refine g_iand O (pc' := 20) at_19 rfl ?_
  refine g_istore O (pc' := 22) at_20 (Ls' := [some (.int v0), some (.int v1), some (.int v2), some (.int v3), some (.int v4), some (.int (v0 &&& (15 : Int32))), some (.int (v1 &&& (15 : Int32))), some (.int (v2 &&& (3 : Int32))), some (.int (v3 &&& (3 : Int32))), none, none, none, none, none, none]) rfl rfl ?_
  refine g_new O (pc' := 25) at_22 (t := 0) tw0 tw1 tw2 (vs := [.null, .null, .null, .null, .null, .null, .null, .int 0, .int 0]) rfl rfl (c2 := 1) (s2 := 9) rfl rfl (by decide) (by decide) rfl ?_
  refine g_dup O (pc' := 26) at_25 rfl rfl ?_
  refine g_iconst O (pc' := 27) at_26 (v := 4) (by decide) rfl ?_
  obtain ⟨H27, h27, hf⟩ := bnd hf
  refine g_special O (pc' := 30) at_27 rfl tw3 tw4 tw2 tw5 (by decide) pd1 (as := [(.int (4 : Int32))]) rfl (st := [(.ref (H.length))]) rfl rfl (W := 1) rfl (rm := rm1) (by decide) (by decide) (c2 := 8) (s2 := 37) rfl rfl (by decide) (by decide) (con1 (Ok.w O) (H.length) (4 : Int32) (H ++ [(.inr (0, [.null, .null, .null, .null, .null, .null, .null, .int 0, .int 0]) : Obj)]) h27) rfl ?_
  refine g_astore O (pc' := 32) at_30 (Ls' := [some (.int v0), some (.int v1), some (.int v2), some (.int v3), some (.int v4), some (.int (v0 &&& (15 : Int32))), some (.int (v1 &&& (15 : Int32))), some (.int (v2 &&& (3 : Int32))), some (.int (v3 &&& (3 : Int32))), some (.ref (H.length)), none, none, none, none, none]) rfl rfl ?_
  refine g_aload O (pc' := 34) at_32 (v := (H.length)) rfl rfl ?_
  refine g_iload O (pc' := 36) at_34 (v := (v0 &&& (15 : Int32))) rfl rfl ?_
  refine g_iload O (pc' := 38) at_36 (v := (v2 &&& (3 : Int32))) rfl rfl ?_
  refine g_iload O (pc' := 40) at_38 (v := v4) rfl rfl ?_
  refine g_iconst O (pc' := 41) at_40 (v := 3) (by decide) rfl ?_
  refine g_iand O (pc' := 42) at_41 rfl ?_
  obtain ⟨H42, h42, hf⟩ := bnd hf
  refine g_static0 O (pc' := 45) at_42 tw26 tw27 tw28 tw29 (by decide) pd2 (as := [(.ref (H.length)), (.int (v0 &&& (15 : Int32))), (.int (v2 &&& (3 : Int32))), (.int (v4 &&& (3 : Int32)))]) rfl (st := []) rfl rfl (W := 0) rfl (rm := rm2) (by decide) (by decide) (c2 := 8) (s2 := 37) rfl rfl (by decide) (by decide) (con2 (Ok.w O) (H.length) (v0 &&& (15 : Int32)) (v2 &&& (3 : Int32)) (v4 &&& (3 : Int32)) H27 h42) rfl ?_
  refine g_aload O (pc' := 47) at_45 (v := (H.length)) rfl rfl ?_
  obtain ⟨_, ho47, hf⟩ := bnd hf
  obtain ⟨H47, h47, hf⟩ := bnd hf
  refine g_virtual0 O (pc' := 50) at_47 (t := 0) tw33 tw34 tw36 tw35 tw2 tw37 (by decide) (ho47) pd4 (as := []) rfl (st := []) rfl rfl (W := 0) rfl (rm := rm4) (by decide) (by decide) (c2 := 8) (s2 := 37) rfl rfl (by decide) (by decide) (con4 (Ok.w O) (H.length) H42 h47) rfl ?_
  refine g_aload O (pc' := 52) at_50 (v := (H.length)) rfl rfl ?_
  refine g_iload O (pc' := 54) at_52 (v := (v1 &&& (15 : Int32))) rfl rfl ?_
  refine g_iload O (pc' := 56) at_54 (v := (v3 &&& (3 : Int32))) rfl rfl ?_
  refine g_iload O (pc' := 58) at_56 (v := v4) rfl rfl ?_
  refine g_iconst O (pc' := 59) at_58 (v := 2) (by decide) rfl ?_
  refine g_ishr O (pc' := 60) at_59 rfl ?_
  refine g_iconst O (pc' := 61) at_60 (v := 3) (by decide) rfl ?_
  refine g_iand O (pc' := 62) at_61 rfl ?_
  refine g_forget (Ls' := [none, none, none, none, none, some (.int (v0 &&& (15 : Int32))), some (.int (v1 &&& (15 : Int32))), none, some (.int (v3 &&& (3 : Int32))), some (.ref (H.length)), none, none, none, none, none]) (And.intro rfl (And.intro rfl (And.intro rfl (And.intro rfl trivial)))) ?_
  exact m0_t62 O (v0 &&& (15 : Int32)) (v1 &&& (15 : Int32)) (v3 &&& (3 : Int32)) (H.length) ((v4 >>> ((2 : Int32) &&& 31)) &&& (3 : Int32)) (v3 &&& (3 : Int32)) (v1 &&& (15 : Int32)) (H.length) H47 _ _ hf
abbrev m0 (v0 : Int32) (v1 : Int32) (v2 : Int32) (v3 : Int32) (v4 : Int32) (H : List Obj) : Option (Int32 × List Obj) := m0_b0 v0 v1 v2 v3 v4 H

abbrev I4 (a b c d : Int32) : Obj := .inl (.int, [.int a, .int b, .int c, .int d])
def S : Nat → Int32 × List Obj
  | 0 => (0, [.inr (0, [.ref 1, .ref 2, .ref 3, .ref 4, .ref 5, .ref 6, .ref 7, .int 1, .int 0]), I4 0 1 2 3, I4 0 1 2 3, I4 0 0 0 0, I4 0 0 0 0, I4 4 0 0 0, I4 0 0 0 0, I4 0 0 0 0])
  | 1 => (1, [.inr (0, [.ref 1, .ref 2, .ref 3, .ref 4, .ref 5, .ref 6, .ref 7, .int 2, .int 0]), I4 0 1 2 3, I4 0 1 2 3, I4 1 0 0 0, I4 1 0 0 0, I4 4 1 0 0, I4 1 0 0 0, I4 0 0 0 0])
  | 2 => (2, [.inr (0, [.ref 1, .ref 2, .ref 3, .ref 4, .ref 5, .ref 6, .ref 7, .int 2, .int 0]), I4 1 0 2 3, I4 1 0 2 3, I4 0 1 0 0, I4 1 0 0 0, I4 4 1 0 0, I4 1 0 0 0, I4 0 0 0 0])
  | 3 => (3, [.inr (0, [.ref 1, .ref 2, .ref 3, .ref 4, .ref 5, .ref 6, .ref 7, .int 2, .int 0]), I4 0 1 2 3, I4 0 1 2 3, I4 1 1 0 0, I4 2 0 0 0, I4 4 2 0 0, I4 2 0 0 0, I4 0 0 0 0])
  | 4 => (3, [.inr (0, [.ref 1, .ref 2, .ref 3, .ref 4, .ref 5, .ref 6, .ref 7, .int 2, .int 0]), I4 1 0 2 3, I4 1 0 2 3, I4 1 1 0 0, I4 2 0 0 0, I4 4 2 0 0, I4 2 0 0 0, I4 0 0 0 0])
  | 5 => (4, [.inr (0, [.ref 1, .ref 2, .ref 3, .ref 4, .ref 5, .ref 6, .ref 7, .int 2, .int 0]), I4 2 1 0 3, I4 2 1 0 3, I4 0 0 1 0, I4 1 0 0 0, I4 4 1 0 0, I4 1 0 0 0, I4 0 0 0 0])
  | 6 => (5, [.inr (0, [.ref 1, .ref 2, .ref 3, .ref 4, .ref 5, .ref 6, .ref 7, .int 2, .int 0]), I4 0 2 1 3, I4 0 2 1 3, I4 1 0 1 0, I4 2 0 0 0, I4 4 2 0 0, I4 2 0 0 0, I4 0 0 0 0])
  | 7 => (5, [.inr (0, [.ref 1, .ref 2, .ref 3, .ref 4, .ref 5, .ref 6, .ref 7, .int 2, .int 0]), I4 2 0 1 3, I4 1 2 0 3, I4 1 0 1 0, I4 2 0 0 0, I4 4 2 0 0, I4 2 0 0 0, I4 0 0 0 0])
  | 8 => (6, [.inr (0, [.ref 1, .ref 2, .ref 3, .ref 4, .ref 5, .ref 6, .ref 7, .int 2, .int 0]), I4 1 2 0 3, I4 2 0 1 3, I4 0 1 1 0, I4 2 0 0 0, I4 4 2 0 0, I4 2 0 0 0, I4 0 0 0 0])
  | 9 => (6, [.inr (0, [.ref 1, .ref 2, .ref 3, .ref 4, .ref 5, .ref 6, .ref 7, .int 2, .int 0]), I4 2 1 0 3, I4 2 1 0 3, I4 0 1 1 0, I4 2 0 0 0, I4 4 2 0 0, I4 2 0 0 0, I4 0 0 0 0])
  | 10 => (7, [.inr (0, [.ref 1, .ref 2, .ref 3, .ref 4, .ref 5, .ref 6, .ref 7, .int 2, .int 0]), I4 0 1 2 3, I4 0 1 2 3, I4 0 0 0 1, I4 0 3 0 0, I4 3 4 0 0, I4 0 3 0 0, I4 0 0 0 0])
  | 11 => (7, [.inr (0, [.ref 1, .ref 2, .ref 3, .ref 4, .ref 5, .ref 6, .ref 7, .int 2, .int 0]), I4 1 2 0 3, I4 2 0 1 3, I4 0 0 0 1, I4 0 3 0 0, I4 3 4 0 0, I4 0 3 0 0, I4 0 0 0 0])
  | 12 => (7, [.inr (0, [.ref 1, .ref 2, .ref 3, .ref 4, .ref 5, .ref 6, .ref 7, .int 2, .int 0]), I4 2 0 1 3, I4 1 2 0 3, I4 0 0 0 1, I4 0 3 0 0, I4 3 4 0 0, I4 0 3 0 0, I4 0 0 0 0])
  | 13 => (8, [.inr (0, [.ref 1, .ref 2, .ref 3, .ref 4, .ref 5, .ref 6, .ref 7, .int 2, .int 0]), I4 3 1 2 0, I4 3 1 2 0, I4 0 0 0 1, I4 1 0 0 0, I4 4 1 0 0, I4 1 0 0 0, I4 0 0 0 0])
  | 14 => (9, [.inr (0, [.ref 1, .ref 2, .ref 3, .ref 4, .ref 5, .ref 6, .ref 7, .int 2, .int 0]), I4 0 3 2 1, I4 0 3 2 1, I4 1 0 0 1, I4 2 0 0 0, I4 4 2 0 0, I4 2 0 0 0, I4 0 0 0 0])
  | 15 => (9, [.inr (0, [.ref 1, .ref 2, .ref 3, .ref 4, .ref 5, .ref 6, .ref 7, .int 2, .int 0]), I4 3 0 2 1, I4 1 3 2 0, I4 1 0 0 1, I4 2 0 0 0, I4 4 2 0 0, I4 2 0 0 0, I4 0 0 0 0])
  | 16 => (10, [.inr (0, [.ref 1, .ref 2, .ref 3, .ref 4, .ref 5, .ref 6, .ref 7, .int 2, .int 0]), I4 1 3 2 0, I4 3 0 2 1, I4 0 1 0 1, I4 2 0 0 0, I4 4 2 0 0, I4 2 0 0 0, I4 0 0 0 0])
  | 17 => (10, [.inr (0, [.ref 1, .ref 2, .ref 3, .ref 4, .ref 5, .ref 6, .ref 7, .int 2, .int 0]), I4 3 1 2 0, I4 3 1 2 0, I4 0 1 0 1, I4 2 0 0 0, I4 4 2 0 0, I4 2 0 0 0, I4 0 0 0 0])
  | 18 => (11, [.inr (0, [.ref 1, .ref 2, .ref 3, .ref 4, .ref 5, .ref 6, .ref 7, .int 2, .int 0]), I4 0 1 3 2, I4 0 1 3 2, I4 0 0 1 0, I4 0 3 0 0, I4 3 4 0 0, I4 0 3 0 0, I4 0 0 0 0])
  | 19 => (11, [.inr (0, [.ref 1, .ref 2, .ref 3, .ref 4, .ref 5, .ref 6, .ref 7, .int 2, .int 0]), I4 1 3 0 2, I4 2 0 3 1, I4 0 0 1 0, I4 0 3 0 0, I4 3 4 0 0, I4 0 3 0 0, I4 0 0 0 0])
  | 20 => (11, [.inr (0, [.ref 1, .ref 2, .ref 3, .ref 4, .ref 5, .ref 6, .ref 7, .int 2, .int 0]), I4 3 0 1 2, I4 1 2 3 0, I4 0 0 1 0, I4 0 3 0 0, I4 3 4 0 0, I4 0 3 0 0, I4 0 0 0 0])
  | 21 => (12, [.inr (0, [.ref 1, .ref 2, .ref 3, .ref 4, .ref 5, .ref 6, .ref 7, .int 2, .int 0]), I4 2 3 0 1, I4 2 3 0 1, I4 0 0 1 1, I4 2 0 0 0, I4 4 2 0 0, I4 2 0 0 0, I4 0 0 0 0])
  | 22 => (12, [.inr (0, [.ref 1, .ref 2, .ref 3, .ref 4, .ref 5, .ref 6, .ref 7, .int 2, .int 0]), I4 3 2 1 0, I4 3 2 1 0, I4 0 0 1 1, I4 2 0 0 0, I4 4 2 0 0, I4 2 0 0 0, I4 0 0 0 0])
  | 23 => (13, [.inr (0, [.ref 1, .ref 2, .ref 3, .ref 4, .ref 5, .ref 6, .ref 7, .int 2, .int 0]), I4 0 2 3 1, I4 0 3 1 2, I4 0 1 0 0, I4 0 3 0 0, I4 3 4 0 0, I4 0 3 0 0, I4 0 0 0 0])
  | 24 => (13, [.inr (0, [.ref 1, .ref 2, .ref 3, .ref 4, .ref 5, .ref 6, .ref 7, .int 2, .int 0]), I4 2 3 0 1, I4 2 3 0 1, I4 0 1 0 0, I4 0 3 0 0, I4 3 4 0 0, I4 0 3 0 0, I4 0 0 0 0])
  | 25 => (13, [.inr (0, [.ref 1, .ref 2, .ref 3, .ref 4, .ref 5, .ref 6, .ref 7, .int 2, .int 0]), I4 3 0 2 1, I4 1 3 2 0, I4 0 1 0 0, I4 0 3 0 0, I4 3 4 0 0, I4 0 3 0 0, I4 0 0 0 0])
  | 26 => (14, [.inr (0, [.ref 1, .ref 2, .ref 3, .ref 4, .ref 5, .ref 6, .ref 7, .int 2, .int 0]), I4 1 2 3 0, I4 3 0 1 2, I4 1 0 0 0, I4 0 3 0 0, I4 3 4 0 0, I4 0 3 0 0, I4 0 0 0 0])
  | 27 => (14, [.inr (0, [.ref 1, .ref 2, .ref 3, .ref 4, .ref 5, .ref 6, .ref 7, .int 2, .int 0]), I4 2 3 1 0, I4 3 2 0 1, I4 1 0 0 0, I4 0 3 0 0, I4 3 4 0 0, I4 0 3 0 0, I4 0 0 0 0])
  | 28 => (14, [.inr (0, [.ref 1, .ref 2, .ref 3, .ref 4, .ref 5, .ref 6, .ref 7, .int 2, .int 0]), I4 3 1 2 0, I4 3 1 2 0, I4 1 0 0 0, I4 0 3 0 0, I4 3 4 0 0, I4 0 3 0 0, I4 0 0 0 0])
  | 29 => (15, [.inr (0, [.ref 1, .ref 2, .ref 3, .ref 4, .ref 5, .ref 6, .ref 7, .int 1, .int 0]), I4 0 1 2 3, I4 0 1 2 3, I4 0 0 0 0, I4 0 0 0 0, I4 4 0 0 0, I4 0 0 0 0, I4 0 0 0 0])
  | 30 => (15, [.inr (0, [.ref 1, .ref 2, .ref 3, .ref 4, .ref 5, .ref 6, .ref 7, .int 1, .int 0]), I4 1 2 3 0, I4 3 0 1 2, I4 0 0 0 0, I4 0 0 0 0, I4 4 0 0 0, I4 0 0 0 0, I4 0 0 0 0])
  | 31 => (15, [.inr (0, [.ref 1, .ref 2, .ref 3, .ref 4, .ref 5, .ref 6, .ref 7, .int 1, .int 0]), I4 2 3 0 1, I4 2 3 0 1, I4 0 0 0 0, I4 0 0 0 0, I4 4 0 0 0, I4 0 0 0 0, I4 0 0 0 0])
  | 32 => (15, [.inr (0, [.ref 1, .ref 2, .ref 3, .ref 4, .ref 5, .ref 6, .ref 7, .int 1, .int 0]), I4 3 0 1 2, I4 1 2 3 0, I4 0 0 0 0, I4 0 0 0 0, I4 4 0 0 0, I4 0 0 0 0, I4 0 0 0 0])
  | _ => (0, [])
def tab : List Nat := [0, 0, 0, 0, 0, 0, 0, 0, 0, 0, 0, 0, 0, 0, 0, 0, 1, 1, 1, 1, 1, 1, 1, 1, 1, 1, 1, 1, 1, 1, 1, 1, 2, 2, 2, 2, 2, 2, 2, 2, 2, 2, 2, 2, 2, 2, 2, 2, 3, 3, 3, 3, 4, 4, 4, 4, 3, 3, 3, 3, 3, 3, 3, 3, 5, 5, 5, 5, 5, 5, 5, 5, 5, 5, 5, 5, 5, 5, 5, 5, 6, 6, 6, 6, 7, 7, 7, 7, 7, 7, 7, 7, 6, 6, 6, 6, 8, 8, 8, 8, 8, 8, 8, 8, 9, 9, 9, 9, 8, 8, 8, 8, 10, 10, 10, 10, 11, 11, 11, 11, 12, 12, 12, 12, 10, 10, 10, 10, 13, 13, 13, 13, 13, 13, 13, 13, 13, 13, 13, 13, 13, 13, 13, 13, 14, 14, 14, 14, 15, 15, 15, 15, 15, 15, 15, 15, 15, 15, 15, 15, 16, 16, 16, 16, 16, 16, 16, 16, 17, 17, 17, 17, 17, 17, 17, 17, 18, 18, 18, 18, 19, 19, 19, 19, 20, 20, 20, 20, 20, 20, 20, 20, 21, 21, 21, 21, 21, 21, 21, 21, 21, 21, 21, 21, 22, 22, 22, 22, 23, 23, 23, 23, 24, 24, 24, 24, 24, 24, 24, 24, 25, 25, 25, 25, 26, 26, 26, 26, 26, 26, 26, 26, 27, 27, 27, 27, 28, 28, 28, 28, 29, 29, 29, 29, 30, 30, 30, 30, 31, 31, 31, 31, 32, 32, 32, 32]
abbrev P0 : List Obj := [.inr (0, [.null, .null, .null, .null, .null, .null, .null, .int 0, .int 0])]
def ph1 (a r e : Int32) : Option (List Obj) := (m1 0 4 P0).bind fun H27 => (m2 0 a r e H27).bind fun H42 => (obj 0 H42 0).bind fun _ => m4 0 H42
def eqR (a b : Option (List Obj)) : Bool := decide (a = b)
theorem eqR_ok {a b : Option (List Obj)} (h : eqR a b = true) : a = b := of_decide_eq_true h
set_option maxRecDepth 100000 in
theorem own_ph1 : ∀ (a : Fin 16) (r e : Fin 4), eqR (ph1 (a.1).toInt32 (r.1).toInt32 (e.1).toInt32) (some (S (tab.getD (a.1 * 16 + r.1 * 4 + e.1) 99)).2) = true ∧ (S (tab.getD (a.1 * 16 + r.1 * 4 + e.1) 99)).1 = (a.1).toInt32 ∧ tab.getD (a.1 * 16 + r.1 * 4 + e.1) 99 < 33 := by decide +kernel
/-- the four first marks -/
def four (v1 v2 : Int32) (H : List Obj) : Option (List Obj) := (m3 0 v1 v2 H).bind fun H3 => (m3 0 v1 ((v2 + (1 : Int32)) &&& (3 : Int32)) H3).bind fun H13 => (m3 0 v1 ((v2 + (2 : Int32)) &&& (3 : Int32)) H13).bind fun H23 => m3 0 v1 ((v2 + (3 : Int32)) &&& (3 : Int32)) H23
def same (c : Int32) : Option (List Obj) → Bool
  | some H => eqR (m3 0 c 0 H) (some H) && eqR (m3 0 c 1 H) (some H) && eqR (m3 0 c 2 H) (some H) && eqR (m3 0 c 3 H) (some H)
  | none => false
theorem own_m2 (c r e : Int32) (H : List Obj) : m2 0 c r e H = (four c r H).bind fun K => m3 0 c e K := by
  show m2_b0 0 c r e H = _
  unfold m2_b0 four
  cases m3 0 c r H with
  | none => exact (rfl : (none : Option (List Obj)) = none)
  | some H3 =>
    rw [Option.bind_some, Option.bind_some]
    cases m3 0 c ((r + (1 : Int32)) &&& (3 : Int32)) H3 with
    | none => exact (rfl : (none : Option (List Obj)) = none)
    | some H13 =>
      rw [Option.bind_some, Option.bind_some]
      cases m3 0 c ((r + (2 : Int32)) &&& (3 : Int32)) H13 with
      | none => exact (rfl : (none : Option (List Obj)) = none)
      | some H23 =>
        rw [Option.bind_some, Option.bind_some]
        cases m3 0 c ((r + (3 : Int32)) &&& (3 : Int32)) H23 with
        | none => exact (rfl : (none : Option (List Obj)) = none)
        | some H33 =>
          rw [Option.bind_some, Option.bind_some]
          cases m3 0 c e H33 with
          | none => exact (rfl : (none : Option (List Obj)) = none)
          | some H39 => rfl
theorem own_same4 {c : Int32} {H : List Obj} (h : same c (some H) = true) (e : Fin 4) : m3 0 c (e.1).toInt32 H = some H := by
  unfold same at h
  rw [Bool.and_eq_true, Bool.and_eq_true, Bool.and_eq_true] at h
  match e with
  | 0 => exact eqR_ok h.1.1.1
  | 1 => exact eqR_ok h.1.1.2
  | 2 => exact eqR_ok h.1.2
  | 3 => exact eqR_ok h.2
theorem own_r0 : ∀ (c : Fin 16) (r : Fin 4), same (c.1).toInt32 (four (c.1).toInt32 (r.1).toInt32 (S 0).2) = true := by decide +kernel
theorem own_p0 : ∀ (c : Fin 16) (r : Fin 4), (m0_b62 (S 0).1 (c.1).toInt32 (r.1).toInt32 0 (r.1).toInt32 (r.1).toInt32 (c.1).toInt32 0 (S 0).2).map (·.1) = some 1 := by decide +kernel
theorem own_r1 : ∀ (c : Fin 16) (r : Fin 4), same (c.1).toInt32 (four (c.1).toInt32 (r.1).toInt32 (S 1).2) = true := by decide +kernel
theorem own_p1 : ∀ (c : Fin 16) (r : Fin 4), (m0_b62 (S 1).1 (c.1).toInt32 (r.1).toInt32 0 (r.1).toInt32 (r.1).toInt32 (c.1).toInt32 0 (S 1).2).map (·.1) = some 1 := by decide +kernel
theorem own_r2 : ∀ (c : Fin 16) (r : Fin 4), same (c.1).toInt32 (four (c.1).toInt32 (r.1).toInt32 (S 2).2) = true := by decide +kernel
theorem own_p2 : ∀ (c : Fin 16) (r : Fin 4), (m0_b62 (S 2).1 (c.1).toInt32 (r.1).toInt32 0 (r.1).toInt32 (r.1).toInt32 (c.1).toInt32 0 (S 2).2).map (·.1) = some 1 := by decide +kernel
theorem own_r3 : ∀ (c : Fin 16) (r : Fin 4), same (c.1).toInt32 (four (c.1).toInt32 (r.1).toInt32 (S 3).2) = true := by decide +kernel
theorem own_p3 : ∀ (c : Fin 16) (r : Fin 4), (m0_b62 (S 3).1 (c.1).toInt32 (r.1).toInt32 0 (r.1).toInt32 (r.1).toInt32 (c.1).toInt32 0 (S 3).2).map (·.1) = some 1 := by decide +kernel
theorem own_r4 : ∀ (c : Fin 16) (r : Fin 4), same (c.1).toInt32 (four (c.1).toInt32 (r.1).toInt32 (S 4).2) = true := by decide +kernel
theorem own_p4 : ∀ (c : Fin 16) (r : Fin 4), (m0_b62 (S 4).1 (c.1).toInt32 (r.1).toInt32 0 (r.1).toInt32 (r.1).toInt32 (c.1).toInt32 0 (S 4).2).map (·.1) = some 1 := by decide +kernel
theorem own_r5 : ∀ (c : Fin 16) (r : Fin 4), same (c.1).toInt32 (four (c.1).toInt32 (r.1).toInt32 (S 5).2) = true := by decide +kernel
theorem own_p5 : ∀ (c : Fin 16) (r : Fin 4), (m0_b62 (S 5).1 (c.1).toInt32 (r.1).toInt32 0 (r.1).toInt32 (r.1).toInt32 (c.1).toInt32 0 (S 5).2).map (·.1) = some 1 := by decide +kernel
theorem own_r6 : ∀ (c : Fin 16) (r : Fin 4), same (c.1).toInt32 (four (c.1).toInt32 (r.1).toInt32 (S 6).2) = true := by decide +kernel
theorem own_p6 : ∀ (c : Fin 16) (r : Fin 4), (m0_b62 (S 6).1 (c.1).toInt32 (r.1).toInt32 0 (r.1).toInt32 (r.1).toInt32 (c.1).toInt32 0 (S 6).2).map (·.1) = some 1 := by decide +kernel
theorem own_r7 : ∀ (c : Fin 16) (r : Fin 4), same (c.1).toInt32 (four (c.1).toInt32 (r.1).toInt32 (S 7).2) = true := by decide +kernel
theorem own_p7 : ∀ (c : Fin 16) (r : Fin 4), (m0_b62 (S 7).1 (c.1).toInt32 (r.1).toInt32 0 (r.1).toInt32 (r.1).toInt32 (c.1).toInt32 0 (S 7).2).map (·.1) = some 1 := by decide +kernel
theorem own_r8 : ∀ (c : Fin 16) (r : Fin 4), same (c.1).toInt32 (four (c.1).toInt32 (r.1).toInt32 (S 8).2) = true := by decide +kernel
theorem own_p8 : ∀ (c : Fin 16) (r : Fin 4), (m0_b62 (S 8).1 (c.1).toInt32 (r.1).toInt32 0 (r.1).toInt32 (r.1).toInt32 (c.1).toInt32 0 (S 8).2).map (·.1) = some 1 := by decide +kernel
theorem own_r9 : ∀ (c : Fin 16) (r : Fin 4), same (c.1).toInt32 (four (c.1).toInt32 (r.1).toInt32 (S 9).2) = true := by decide +kernel
theorem own_p9 : ∀ (c : Fin 16) (r : Fin 4), (m0_b62 (S 9).1 (c.1).toInt32 (r.1).toInt32 0 (r.1).toInt32 (r.1).toInt32 (c.1).toInt32 0 (S 9).2).map (·.1) = some 1 := by decide +kernel
theorem own_r10 : ∀ (c : Fin 16) (r : Fin 4), same (c.1).toInt32 (four (c.1).toInt32 (r.1).toInt32 (S 10).2) = true := by decide +kernel
theorem own_p10 : ∀ (c : Fin 16) (r : Fin 4), (m0_b62 (S 10).1 (c.1).toInt32 (r.1).toInt32 0 (r.1).toInt32 (r.1).toInt32 (c.1).toInt32 0 (S 10).2).map (·.1) = some 1 := by decide +kernel
theorem own_r11 : ∀ (c : Fin 16) (r : Fin 4), same (c.1).toInt32 (four (c.1).toInt32 (r.1).toInt32 (S 11).2) = true := by decide +kernel
theorem own_p11 : ∀ (c : Fin 16) (r : Fin 4), (m0_b62 (S 11).1 (c.1).toInt32 (r.1).toInt32 0 (r.1).toInt32 (r.1).toInt32 (c.1).toInt32 0 (S 11).2).map (·.1) = some 1 := by decide +kernel
theorem own_r12 : ∀ (c : Fin 16) (r : Fin 4), same (c.1).toInt32 (four (c.1).toInt32 (r.1).toInt32 (S 12).2) = true := by decide +kernel
theorem own_p12 : ∀ (c : Fin 16) (r : Fin 4), (m0_b62 (S 12).1 (c.1).toInt32 (r.1).toInt32 0 (r.1).toInt32 (r.1).toInt32 (c.1).toInt32 0 (S 12).2).map (·.1) = some 1 := by decide +kernel
theorem own_r13 : ∀ (c : Fin 16) (r : Fin 4), same (c.1).toInt32 (four (c.1).toInt32 (r.1).toInt32 (S 13).2) = true := by decide +kernel
theorem own_p13 : ∀ (c : Fin 16) (r : Fin 4), (m0_b62 (S 13).1 (c.1).toInt32 (r.1).toInt32 0 (r.1).toInt32 (r.1).toInt32 (c.1).toInt32 0 (S 13).2).map (·.1) = some 1 := by decide +kernel
theorem own_r14 : ∀ (c : Fin 16) (r : Fin 4), same (c.1).toInt32 (four (c.1).toInt32 (r.1).toInt32 (S 14).2) = true := by decide +kernel
theorem own_p14 : ∀ (c : Fin 16) (r : Fin 4), (m0_b62 (S 14).1 (c.1).toInt32 (r.1).toInt32 0 (r.1).toInt32 (r.1).toInt32 (c.1).toInt32 0 (S 14).2).map (·.1) = some 1 := by decide +kernel
theorem own_r15 : ∀ (c : Fin 16) (r : Fin 4), same (c.1).toInt32 (four (c.1).toInt32 (r.1).toInt32 (S 15).2) = true := by decide +kernel
theorem own_p15 : ∀ (c : Fin 16) (r : Fin 4), (m0_b62 (S 15).1 (c.1).toInt32 (r.1).toInt32 0 (r.1).toInt32 (r.1).toInt32 (c.1).toInt32 0 (S 15).2).map (·.1) = some 1 := by decide +kernel
theorem own_r16 : ∀ (c : Fin 16) (r : Fin 4), same (c.1).toInt32 (four (c.1).toInt32 (r.1).toInt32 (S 16).2) = true := by decide +kernel
theorem own_p16 : ∀ (c : Fin 16) (r : Fin 4), (m0_b62 (S 16).1 (c.1).toInt32 (r.1).toInt32 0 (r.1).toInt32 (r.1).toInt32 (c.1).toInt32 0 (S 16).2).map (·.1) = some 1 := by decide +kernel
theorem own_r17 : ∀ (c : Fin 16) (r : Fin 4), same (c.1).toInt32 (four (c.1).toInt32 (r.1).toInt32 (S 17).2) = true := by decide +kernel
theorem own_p17 : ∀ (c : Fin 16) (r : Fin 4), (m0_b62 (S 17).1 (c.1).toInt32 (r.1).toInt32 0 (r.1).toInt32 (r.1).toInt32 (c.1).toInt32 0 (S 17).2).map (·.1) = some 1 := by decide +kernel
theorem own_r18 : ∀ (c : Fin 16) (r : Fin 4), same (c.1).toInt32 (four (c.1).toInt32 (r.1).toInt32 (S 18).2) = true := by decide +kernel
theorem own_p18 : ∀ (c : Fin 16) (r : Fin 4), (m0_b62 (S 18).1 (c.1).toInt32 (r.1).toInt32 0 (r.1).toInt32 (r.1).toInt32 (c.1).toInt32 0 (S 18).2).map (·.1) = some 1 := by decide +kernel
theorem own_r19 : ∀ (c : Fin 16) (r : Fin 4), same (c.1).toInt32 (four (c.1).toInt32 (r.1).toInt32 (S 19).2) = true := by decide +kernel
theorem own_p19 : ∀ (c : Fin 16) (r : Fin 4), (m0_b62 (S 19).1 (c.1).toInt32 (r.1).toInt32 0 (r.1).toInt32 (r.1).toInt32 (c.1).toInt32 0 (S 19).2).map (·.1) = some 1 := by decide +kernel
theorem own_r20 : ∀ (c : Fin 16) (r : Fin 4), same (c.1).toInt32 (four (c.1).toInt32 (r.1).toInt32 (S 20).2) = true := by decide +kernel
theorem own_p20 : ∀ (c : Fin 16) (r : Fin 4), (m0_b62 (S 20).1 (c.1).toInt32 (r.1).toInt32 0 (r.1).toInt32 (r.1).toInt32 (c.1).toInt32 0 (S 20).2).map (·.1) = some 1 := by decide +kernel
theorem own_r21 : ∀ (c : Fin 16) (r : Fin 4), same (c.1).toInt32 (four (c.1).toInt32 (r.1).toInt32 (S 21).2) = true := by decide +kernel
theorem own_p21 : ∀ (c : Fin 16) (r : Fin 4), (m0_b62 (S 21).1 (c.1).toInt32 (r.1).toInt32 0 (r.1).toInt32 (r.1).toInt32 (c.1).toInt32 0 (S 21).2).map (·.1) = some 1 := by decide +kernel
theorem own_r22 : ∀ (c : Fin 16) (r : Fin 4), same (c.1).toInt32 (four (c.1).toInt32 (r.1).toInt32 (S 22).2) = true := by decide +kernel
theorem own_p22 : ∀ (c : Fin 16) (r : Fin 4), (m0_b62 (S 22).1 (c.1).toInt32 (r.1).toInt32 0 (r.1).toInt32 (r.1).toInt32 (c.1).toInt32 0 (S 22).2).map (·.1) = some 1 := by decide +kernel
theorem own_r23 : ∀ (c : Fin 16) (r : Fin 4), same (c.1).toInt32 (four (c.1).toInt32 (r.1).toInt32 (S 23).2) = true := by decide +kernel
theorem own_p23 : ∀ (c : Fin 16) (r : Fin 4), (m0_b62 (S 23).1 (c.1).toInt32 (r.1).toInt32 0 (r.1).toInt32 (r.1).toInt32 (c.1).toInt32 0 (S 23).2).map (·.1) = some 1 := by decide +kernel
theorem own_r24 : ∀ (c : Fin 16) (r : Fin 4), same (c.1).toInt32 (four (c.1).toInt32 (r.1).toInt32 (S 24).2) = true := by decide +kernel
theorem own_p24 : ∀ (c : Fin 16) (r : Fin 4), (m0_b62 (S 24).1 (c.1).toInt32 (r.1).toInt32 0 (r.1).toInt32 (r.1).toInt32 (c.1).toInt32 0 (S 24).2).map (·.1) = some 1 := by decide +kernel
theorem own_r25 : ∀ (c : Fin 16) (r : Fin 4), same (c.1).toInt32 (four (c.1).toInt32 (r.1).toInt32 (S 25).2) = true := by decide +kernel
theorem own_p25 : ∀ (c : Fin 16) (r : Fin 4), (m0_b62 (S 25).1 (c.1).toInt32 (r.1).toInt32 0 (r.1).toInt32 (r.1).toInt32 (c.1).toInt32 0 (S 25).2).map (·.1) = some 1 := by decide +kernel
theorem own_r26 : ∀ (c : Fin 16) (r : Fin 4), same (c.1).toInt32 (four (c.1).toInt32 (r.1).toInt32 (S 26).2) = true := by decide +kernel
theorem own_p26 : ∀ (c : Fin 16) (r : Fin 4), (m0_b62 (S 26).1 (c.1).toInt32 (r.1).toInt32 0 (r.1).toInt32 (r.1).toInt32 (c.1).toInt32 0 (S 26).2).map (·.1) = some 1 := by decide +kernel
theorem own_r27 : ∀ (c : Fin 16) (r : Fin 4), same (c.1).toInt32 (four (c.1).toInt32 (r.1).toInt32 (S 27).2) = true := by decide +kernel
theorem own_p27 : ∀ (c : Fin 16) (r : Fin 4), (m0_b62 (S 27).1 (c.1).toInt32 (r.1).toInt32 0 (r.1).toInt32 (r.1).toInt32 (c.1).toInt32 0 (S 27).2).map (·.1) = some 1 := by decide +kernel
theorem own_r28 : ∀ (c : Fin 16) (r : Fin 4), same (c.1).toInt32 (four (c.1).toInt32 (r.1).toInt32 (S 28).2) = true := by decide +kernel
theorem own_p28 : ∀ (c : Fin 16) (r : Fin 4), (m0_b62 (S 28).1 (c.1).toInt32 (r.1).toInt32 0 (r.1).toInt32 (r.1).toInt32 (c.1).toInt32 0 (S 28).2).map (·.1) = some 1 := by decide +kernel
theorem own_r29 : ∀ (c : Fin 16) (r : Fin 4), same (c.1).toInt32 (four (c.1).toInt32 (r.1).toInt32 (S 29).2) = true := by decide +kernel
theorem own_p29 : ∀ (c : Fin 16) (r : Fin 4), (m0_b62 (S 29).1 (c.1).toInt32 (r.1).toInt32 0 (r.1).toInt32 (r.1).toInt32 (c.1).toInt32 0 (S 29).2).map (·.1) = some 1 := by decide +kernel
theorem own_r30 : ∀ (c : Fin 16) (r : Fin 4), same (c.1).toInt32 (four (c.1).toInt32 (r.1).toInt32 (S 30).2) = true := by decide +kernel
theorem own_p30 : ∀ (c : Fin 16) (r : Fin 4), (m0_b62 (S 30).1 (c.1).toInt32 (r.1).toInt32 0 (r.1).toInt32 (r.1).toInt32 (c.1).toInt32 0 (S 30).2).map (·.1) = some 1 := by decide +kernel
theorem own_r31 : ∀ (c : Fin 16) (r : Fin 4), same (c.1).toInt32 (four (c.1).toInt32 (r.1).toInt32 (S 31).2) = true := by decide +kernel
theorem own_p31 : ∀ (c : Fin 16) (r : Fin 4), (m0_b62 (S 31).1 (c.1).toInt32 (r.1).toInt32 0 (r.1).toInt32 (r.1).toInt32 (c.1).toInt32 0 (S 31).2).map (·.1) = some 1 := by decide +kernel
theorem own_r32 : ∀ (c : Fin 16) (r : Fin 4), same (c.1).toInt32 (four (c.1).toInt32 (r.1).toInt32 (S 32).2) = true := by decide +kernel
theorem own_p32 : ∀ (c : Fin 16) (r : Fin 4), (m0_b62 (S 32).1 (c.1).toInt32 (r.1).toInt32 0 (r.1).toInt32 (r.1).toInt32 (c.1).toInt32 0 (S 32).2).map (·.1) = some 1 := by decide +kernel
theorem own_rr : ∀ (i : Nat), i < 33 → ∀ (c : Fin 16) (r : Fin 4), same (c.1).toInt32 (four (c.1).toInt32 (r.1).toInt32 (S i).2) = true
  | 0, _ => own_r0
  | 1, _ => own_r1
  | 2, _ => own_r2
  | 3, _ => own_r3
  | 4, _ => own_r4
  | 5, _ => own_r5
  | 6, _ => own_r6
  | 7, _ => own_r7
  | 8, _ => own_r8
  | 9, _ => own_r9
  | 10, _ => own_r10
  | 11, _ => own_r11
  | 12, _ => own_r12
  | 13, _ => own_r13
  | 14, _ => own_r14
  | 15, _ => own_r15
  | 16, _ => own_r16
  | 17, _ => own_r17
  | 18, _ => own_r18
  | 19, _ => own_r19
  | 20, _ => own_r20
  | 21, _ => own_r21
  | 22, _ => own_r22
  | 23, _ => own_r23
  | 24, _ => own_r24
  | 25, _ => own_r25
  | 26, _ => own_r26
  | 27, _ => own_r27
  | 28, _ => own_r28
  | 29, _ => own_r29
  | 30, _ => own_r30
  | 31, _ => own_r31
  | 32, _ => own_r32
  | n + 33, h => absurd h (by omega)
theorem own_pp : ∀ (i : Nat), i < 33 → ∀ (c : Fin 16) (r : Fin 4), (m0_b62 (S i).1 (c.1).toInt32 (r.1).toInt32 0 (r.1).toInt32 (r.1).toInt32 (c.1).toInt32 0 (S i).2).map (·.1) = some 1
  | 0, _ => own_p0
  | 1, _ => own_p1
  | 2, _ => own_p2
  | 3, _ => own_p3
  | 4, _ => own_p4
  | 5, _ => own_p5
  | 6, _ => own_p6
  | 7, _ => own_p7
  | 8, _ => own_p8
  | 9, _ => own_p9
  | 10, _ => own_p10
  | 11, _ => own_p11
  | 12, _ => own_p12
  | 13, _ => own_p13
  | 14, _ => own_p14
  | 15, _ => own_p15
  | 16, _ => own_p16
  | 17, _ => own_p17
  | 18, _ => own_p18
  | 19, _ => own_p19
  | 20, _ => own_p20
  | 21, _ => own_p21
  | 22, _ => own_p22
  | 23, _ => own_p23
  | 24, _ => own_p24
  | 25, _ => own_p25
  | 26, _ => own_p26
  | 27, _ => own_p27
  | 28, _ => own_p28
  | 29, _ => own_p29
  | 30, _ => own_p30
  | 31, _ => own_p31
  | 32, _ => own_p32
  | n + 33, h => absurd h (by omega)
/-- the second round: the last, repeated mark does nothing -/
theorem own_repH {c r : Int32} {H : List Obj} (h : same c (four c r H) = true) (e e' : Fin 4) : m2 0 c r (e.1).toInt32 H = m2 0 c r (e'.1).toInt32 H := by
  rw [own_m2 c r (e.1).toInt32 H, own_m2 c r (e'.1).toInt32 H]
  cases hq : four c r H with
  | none => exact (rfl : (none : Option (List Obj)) = none)
  | some K => rw [hq] at h; rw [Option.bind_some, Option.bind_some, own_same4 h e, own_same4 h e']
theorem own_rep (i : Fin 33) (c : Fin 16) (r e : Fin 4) : m2 0 (c.1).toInt32 (r.1).toInt32 (e.1).toInt32 (S i.1).2 = m2 0 (c.1).toInt32 (r.1).toInt32 (r.1).toInt32 (S i.1).2 := own_repH (own_rr i.1 i.2 c r) e r
theorem own_ph2 (i : Fin 33) (c : Fin 16) (r : Fin 4) : (m0_b62 (S i.1).1 (c.1).toInt32 (r.1).toInt32 0 (r.1).toInt32 (r.1).toInt32 (c.1).toInt32 0 (S i.1).2).map (·.1) = some 1 := own_pp i.1 i.2 c r
theorem own_b (x m : Int32) (k : Nat) (hk : k ≤ 31) (hm : m.toBitVec.toNat = 2 ^ k - 1) : ∃ j : Fin (2 ^ k), x &&& m = (j.1).toInt32 := by
  have h := c_mask x m k hk hm
  have hp : (0 : Int) < (2 ^ k : Nat) := by exact_mod_cast Nat.two_pow_pos k
  have h1 := Int.emod_nonneg x.toInt (Int.ne_of_gt hp)
  have h2 := Int.emod_lt_of_pos x.toInt hp
  exact own_fin (by rw [h]; exact h1) (by rw [h]; exact h2) (by
    have : 2 ^ k ≤ 2 ^ 31 := Nat.pow_le_pow_right (by decide) hk
    omega)
theorem plain (i0 : Int32) (i1 : Int32) (i2 : Int32) (i3 : Int32) (i4 : Int32) : ∃ Hf, m0 i0 i1 i2 i3 i4 [] = some (1, Hf) := by
  show ∃ Hf, m0_b0 i0 i1 i2 i3 i4 [] = some (1, Hf)
  obtain ⟨a, ha⟩ : ∃ j : Fin 16, i0 &&& 15 = (j.1).toInt32 := own_b i0 15 4 (by decide) (by decide)
  obtain ⟨c, hc⟩ : ∃ j : Fin 16, i1 &&& 15 = (j.1).toInt32 := own_b i1 15 4 (by decide) (by decide)
  obtain ⟨r, hr⟩ : ∃ j : Fin 4, i2 &&& 3 = (j.1).toInt32 := own_b i2 3 2 (by decide) (by decide)
  obtain ⟨q, hq⟩ : ∃ j : Fin 4, i3 &&& 3 = (j.1).toInt32 := own_b i3 3 2 (by decide) (by decide)
  obtain ⟨e, he⟩ : ∃ j : Fin 4, i4 &&& 3 = (j.1).toInt32 := own_b i4 3 2 (by decide) (by decide)
  obtain ⟨f, hf⟩ : ∃ j : Fin 4, (i4 >>> ((2 : Int32) &&& 31)) &&& 3 = (j.1).toInt32 := own_b _ 3 2 (by decide) (by decide)
  obtain ⟨p1, p2, p3⟩ := own_ph1 a r e
  replace p1 := eqR_ok p1
  generalize tab.getD (a.1 * 16 + r.1 * 4 + e.1) 99 = i at *
  have g := own_ph2 ⟨i, p3⟩ c q
  have g' := own_rep ⟨i, p3⟩ c q f
  dsimp only at g g'
  rw [p2] at g
  unfold ph1 at p1
  obtain ⟨H27, q1, p1⟩ := bnd p1
  obtain ⟨H42, q2, p1⟩ := bnd p1
  obtain ⟨vs, q3, p1⟩ := bnd p1
  have e0 : m0_b0 i0 i1 i2 i3 i4 [] = m0_b62 (a.1).toInt32 (c.1).toInt32 (q.1).toInt32 0 (f.1).toInt32 (q.1).toInt32 (c.1).toInt32 0 (S i).2 := by
    show ((m1 0 4 P0).bind fun H27 => (m2 0 (i0 &&& 15) (i2 &&& 3) (i4 &&& 3) H27).bind fun H42 => (obj 0 H42 0).bind fun _ => (m4 0 H42).bind fun H47 => m0_b62 (i0 &&& 15) (i1 &&& 15) (i3 &&& 3) 0 ((i4 >>> ((2 : Int32) &&& 31)) &&& 3) (i3 &&& 3) (i1 &&& 15) 0 H47) = _
    rw [ha, hc, hr, hq, he, hf, q1, Option.bind_some, q2, Option.bind_some, q3, Option.bind_some, p1, Option.bind_some]
  have e1 : m0_b62 (a.1).toInt32 (c.1).toInt32 (q.1).toInt32 0 (f.1).toInt32 (q.1).toInt32 (c.1).toInt32 0 (S i).2 = m0_b62 (a.1).toInt32 (c.1).toInt32 (q.1).toInt32 0 (q.1).toInt32 (q.1).toInt32 (c.1).toInt32 0 (S i).2 := by
    unfold m0_b62
    rw [g']
  rw [e0, e1]
  obtain ⟨⟨y, Hf⟩, t1, t2⟩ := Option.map_eq_some_iff.mp g
  dsimp only at t2
  subst t2
  exact ⟨Hf, t1⟩

theorem comes_1 {Post : Tables → Env → Array Value → State → Outcome → State → Prop} (hpost : ∀ tb e args s v u, (limb_1_1.after args s (.returned v) u = true ∧ limb_1_2.after args s (.returned v) u = true ∧ True) → FrameEnd s (.returned v) u (Jvm.fieldLocs frame_1_writes args s ++ Jvm.arrayLocs frame_1_arrays args s ++ Jvm.staticLocs frame_1_statics s) 32 192 → Post tb e args s (.returned v) u) :
    ArmFor flags0 classFile x code maxLocals ret World_1 tables_1 room_1 Calls_1 rest_1 Pre_1 Post := by
  intro l hfl _ _ p e ha hc hk s m args below hf hA hF happ hP
  obtain ⟨hcalls, hrest, hpre⟩ := hP
  obtain ⟨-, -, -, hnamed, -, -, -, hat⟩ := (Spec.applies_iff hf).mp happ
  obtain ⟨hg, hn⟩ := and_e (Cond.before_iff.mp (show (Jvm.Cond.and given_1 narrow_1).before args s = true from hpre))
  obtain ⟨h1, g0⟩ := and_e hg
  obtain ⟨w0, w1, w2, w3, w4, rfl⟩ : ∃ w0 w1 w2 w3 w4 : Value, args = #[w0, w1, w2, w3, w4] := by
    have hs : args.size = 5 := by simpa [Cond.value, given_1] using h1
    obtain ⟨L⟩ := args
    match L, hs with
    | [w0, w1, w2, w3, w4], _ => exact ⟨w0, w1, w2, w3, w4, rfl⟩
  have hw := fun d (hd : d ∈ tables_1) => atoms_spec (ws := Jvm.Cond.code x code maxLocals ret :: tables_1) hat d (List.mem_cons_of_mem _ hd)
  obtain ⟨a0, g1⟩ := and_e g0
  obtain ⟨i0, e0⟩ := is_v a0
  obtain rfl : w0 = (.int i0) := Option.some.inj e0
  obtain ⟨a1, g2⟩ := and_e g1
  obtain ⟨i1, e1⟩ := is_v a1
  obtain rfl : w1 = (.int i1) := Option.some.inj e1
  obtain ⟨a2, g3⟩ := and_e g2
  obtain ⟨i2, e2⟩ := is_v a2
  obtain rfl : w2 = (.int i2) := Option.some.inj e2
  obtain ⟨a3, g4⟩ := and_e g3
  obtain ⟨i3, e3⟩ := is_v a3
  obtain rfl : w3 = (.int i3) := Option.some.inj e3
  obtain ⟨i4, e4⟩ := is_v g4
  obtain rfl : w4 = (.int i4) := Option.some.inj e4
  obtain ⟨Hf, hlaw⟩ := plain i0 i1 i2 i3 i4
  obtain ⟨n, o, h1, h2, h3, _, L, rfl, ⟨rfl, N⟩, hq⟩ := law_of (l := l) (s := s) (as := [(.int i0), (.int i1), (.int i2), (.int i3), (.int i4)]) (k0 := 10) (k1 := 45) hw pn0 rfl rfl (fun K O => m0_t0 O i0 i1 i2 i3 i4 [] 1 Hf hlaw) p e ha hc hk s m _ below hf ((Spec.applies_iff_loose hf).mp happ).1 ⟨rfl, State.Warmed39.refl s, rfl⟩ trivial
  refine ⟨n, _, h1, h2, h3, hpost _ _ _ _ _ _ ⟨Cond.after_iff.mpr rfl, Cond.after_iff.mpr (eq_i res_at (Term.int_eval (1)) rfl), trivial⟩ ⟨hq.1, hq.2.1, (hq.2.2.sift fun y hy => Or.inr (N y hy)).mono (by decide) (by decide)⟩⟩
theorem main_1_1 : Claimed_1_1 := comes_1 fun _ _ _ _ _ _ h hF => ⟨h.1, hF⟩
theorem main_1_2 : Claimed_1_2 := comes_1 fun _ _ _ _ _ _ h hF => ⟨h.2.1, hF⟩
end Jvm.Pilot.@@N@@
namespace Jvm.Pilot.@@N@@
open Jvm Jvm.ClassFile Sem Op Lib Jvm.Free Jvm.Stand Jvm.Pilot.@@N@@.Jvm.D
/-! MADE BY PROGRAM (witnessworld.py) out of the Statement's table words and the real class files: 9 classes; the members and pool entries that the words name. The judged class is class 1, her method 1. -/
namespace start1
open Jvm.ClassFile
def u (s : String) : CpInfo := .utf8 (stringToUtf16 s)
/-- a pool by its gaps: so many unusable entries, then the entry; so many at the end -/
def gap : Nat → List CpInfo → List CpInfo
  | 0, r => r
  | n + 1, r => .unusable :: gap n r
def poolList (es : List (Nat × CpInfo)) (last : Nat) : List CpInfo := es.foldr (fun e r => gap e.1 (e.2 :: r)) (gap last [])
def pool (es : List (Nat × CpInfo)) (last : Nat) : Array CpInfo := ⟨poolList es last⟩
def fileOf (pool : Array CpInfo) (this : Nat) (attrs : Array Attribute := #[]) (ms : Array MethodInfo := #[]) (fl : Nat := 33) (sup : Nat := 0) (ifs : Array Nat := #[]) (fds : Array FieldInfo := #[]) : ClassFile where
  minorVersion := 0
  majorVersion := 65
  constantPool := pool
  accessFlags := fl
  thisClass := this
  superClass := sup
  interfaces := ifs
  fields := fds
  methods := ms
  attributes := attrs
def plain (name : String) (sup : Option ClassId) : Class where
  name := name
  kind := .ordinary
  loader := none
  accessFlags := 33
  super := sup
  interfaces := #[]
  cf := none
  fields := #[]
  methods := #[]
  instanceTypes := #[]
  staticTypes := #[]
  resolved := #[]
  callSites := []
  init := .initialized
  statics := none
  mirror := none

def pool0 : Array CpInfo := pool [(5, u "<init>"), (0, u "()V"), (1, .class_ 10), (1, u "java/lang/Object"), (85, u "clone"), (0, u "()Ljava/lang/Object;")] 26

def k0c0 : Code := { maxStack := 0, maxLocals := 1, code := object_method_1_code, exceptionTable := #[], attributes := #[] }
def k0m0 : Method := { name := "<init>", desc := "()V", sig := { parameters := [], returnType := none }, accessFlags := 1, code := some k0c0 }
def k0m1 : Method := { name := "clone", desc := "()Ljava/lang/Object;", sig := { parameters := [], returnType := some (.object "java/lang/Object") }, accessFlags := 260, code := none }
/-- java/lang/Object -/
def k0 : Class := { plain "java/lang/Object" none with
  accessFlags := 33
  interfaces := #[]
  cf := some (fileOf pool0 8 #[] #[{ accessFlags := 1, nameIndex := 5, descriptorIndex := 6, attributes := #[] }, { accessFlags := 260, nameIndex := 96, descriptorIndex := 97, attributes := #[] }] 33 0 #[] #[])
  fields := #[]
  methods := #[k0m0, k0m1]
  instanceTypes := #[]
  staticTypes := #[]
  resolved := Array.replicate 124 none
  statics := none }

def pool1 : Array CpInfo := pool [(2, .class_ 4), (1, u "java/lang/Object"), (0, u "<init>"), (0, u "()V"), (0, .class_ 8), (0, u "com/example/custode/custode/service/Partition"), (0, .methodref 7 10), (0, .nameAndType 5 11), (0, u "(I)V"), (0, .methodref 13 14), (0, .class_ 15), (0, .nameAndType 16 17), (0, u "com/example/custode/custode/service/PartitionSplitMarkedPinLaw"), (0, u "markRound"), (0, u "(Lcom/example/custode/custode/service/Partition;III)V"), (0, .methodref 7 19), (0, .nameAndType 20 6), (0, u "splitMarked"), (0, .methodref 13 22), (0, .nameAndType 23 24), (0, u "split"), (0, u "([IIII)I"), (0, .methodref 13 26), (0, .nameAndType 27 28), (0, u "firstIn"), (0, u "(II)I"), (0, .methodref 7 30), (0, .nameAndType 31 32), (0, u "count"), (0, u "()I"), (0, .methodref 7 34), (0, .nameAndType 35 36), (0, u "blocks"), (0, u "()[I"), (0, .methodref 13 38), (0, .nameAndType 39 40), (0, u "inBlock"), (0, u "([I[III)Z"), (0, .methodref 13 42), (0, .nameAndType 43 44), (0, u "rangeOk"), (0, u "(Lcom/example/custode/custode/service/Partition;[III)Z"), (0, .methodref 13 46), (0, .nameAndType 47 48), (0, u "markIf"), (0, u "(Lcom/example/custode/custode/service/Partition;II)V"), (0, .methodref 7 50), (0, .nameAndType 51 11), (0, u "mark"), (0, .methodref 13 53), (0, .nameAndType 54 55), (0, u "pc"), (0, u "(I)I"), (0, .methodref 7 57), (0, .nameAndType 58 55), (0, u "first"), (0, .methodref 7 60), (0, .nameAndType 61 55), (0, u "end"), (0, .methodref 7 63), (0, .nameAndType 64 55), (0, u "stateAt"), (2, u "law"), (0, u "(IIIII)Z")] 5

def k1m0 : Method := { name := "<init>", desc := "()V", sig := { parameters := [], returnType := none }, accessFlags := 1, code := none }
def k1c1 : Code := { maxStack := 5, maxLocals := 15, code := code, exceptionTable := #[], attributes := #[] }
def k1m1 : Method := { name := "law", desc := "(IIIII)Z", sig := { parameters := [.int, .int, .int, .int, .int], returnType := some .boolean }, accessFlags := 9, code := some k1c1 }
def k1c2 : Code := { maxStack := 4, maxLocals := 4, code := method_3_code, exceptionTable := #[], attributes := #[] }
def k1m2 : Method := { name := "markRound", desc := "(Lcom/example/custode/custode/service/Partition;III)V", sig := { parameters := [(.object "com/example/custode/custode/service/Partition"), .int, .int, .int], returnType := none }, accessFlags := 10, code := some k1c2 }
def k1c3 : Code := { maxStack := 2, maxLocals := 3, code := method_4_code, exceptionTable := #[], attributes := #[] }
def k1m3 : Method := { name := "markIf", desc := "(Lcom/example/custode/custode/service/Partition;II)V", sig := { parameters := [(.object "com/example/custode/custode/service/Partition"), .int, .int], returnType := none }, accessFlags := 10, code := some k1c3 }
def k1c4 : Code := { maxStack := 3, maxLocals := 1, code := method_5_code, exceptionTable := #[], attributes := #[] }
def k1m4 : Method := { name := "pc", desc := "(I)I", sig := { parameters := [.int], returnType := some .int }, accessFlags := 10, code := some k1c4 }
def k1c5 : Code := { maxStack := 4, maxLocals := 7, code := method_6_code, exceptionTable := #[], attributes := #[] }
def k1m5 : Method := { name := "split", desc := "([IIII)I", sig := { parameters := [(.array .int), .int, .int, .int], returnType := some .int }, accessFlags := 10, code := some k1c5 }
def k1c6 : Code := { maxStack := 2, maxLocals := 3, code := method_7_code, exceptionTable := #[], attributes := #[] }
def k1m6 : Method := { name := "firstIn", desc := "(II)I", sig := { parameters := [.int, .int], returnType := some .int }, accessFlags := 10, code := some k1c6 }
def k1c7 : Code := { maxStack := 2, maxLocals := 5, code := method_8_code, exceptionTable := #[], attributes := #[] }
def k1m7 : Method := { name := "inBlock", desc := "([I[III)Z", sig := { parameters := [(.array .int), (.array .int), .int, .int], returnType := some .boolean }, accessFlags := 10, code := some k1c7 }
def k1c8 : Code := { maxStack := 3, maxLocals := 7, code := method_9_code, exceptionTable := #[], attributes := #[] }
def k1m8 : Method := { name := "rangeOk", desc := "(Lcom/example/custode/custode/service/Partition;[III)Z", sig := { parameters := [(.object "com/example/custode/custode/service/Partition"), (.array .int), .int, .int], returnType := some .boolean }, accessFlags := 10, code := some k1c8 }
/-- com/example/custode/custode/service/PartitionSplitMarkedPinLaw -/
def k1 : Class := { plain "com/example/custode/custode/service/PartitionSplitMarkedPinLaw" (some 0) with
  accessFlags := 49
  interfaces := #[]
  cf := some (fileOf pool1 13 #[] #[{ accessFlags := 1, nameIndex := 5, descriptorIndex := 6, attributes := #[] }, { accessFlags := 9, nameIndex := 67, descriptorIndex := 68, attributes := #[] }, { accessFlags := 10, nameIndex := 16, descriptorIndex := 17, attributes := #[] }, { accessFlags := 10, nameIndex := 47, descriptorIndex := 48, attributes := #[] }, { accessFlags := 10, nameIndex := 54, descriptorIndex := 55, attributes := #[] }, { accessFlags := 10, nameIndex := 23, descriptorIndex := 24, attributes := #[] }, { accessFlags := 10, nameIndex := 27, descriptorIndex := 28, attributes := #[] }, { accessFlags := 10, nameIndex := 39, descriptorIndex := 40, attributes := #[] }, { accessFlags := 10, nameIndex := 43, descriptorIndex := 44, attributes := #[] }] 49 2 #[] #[])
  fields := #[]
  methods := #[k1m0, k1m1, k1m2, k1m3, k1m4, k1m5, k1m6, k1m7, k1m8]
  instanceTypes := #[]
  staticTypes := #[]
  resolved := Array.replicate 74 none
  statics := none }

def pool2 : Array CpInfo := pool [(1, .methodref 2 3), (0, .class_ 4), (0, .nameAndType 5 6), (0, u "java/lang/Object"), (0, u "<init>"), (0, u "()V"), (0, .fieldref 8 9), (0, .class_ 10), (0, .nameAndType 11 12), (0, u "com/example/custode/custode/service/Partition"), (0, u "states"), (0, u "[I"), (0, .fieldref 8 14), (0, .nameAndType 15 12), (0, u "position"), (0, .fieldref 8 17), (0, .nameAndType 18 12), (0, u "block"), (0, .fieldref 8 20), (0, .nameAndType 21 12), (0, u "first"), (0, .fieldref 8 23), (0, .nameAndType 24 12), (0, u "end"), (0, .fieldref 8 26), (0, .nameAndType 27 12), (0, u "unmarked"), (0, .fieldref 8 29), (0, .nameAndType 30 12), (0, u "touched"), (0, .fieldref 8 32), (0, .nameAndType 33 34), (0, u "count"), (0, u "I"), (0, .methodref 36 37), (0, .class_ 12), (0, .nameAndType 38 39), (0, u "clone"), (0, u "()Ljava/lang/Object;"), (0, .fieldref 8 41), (0, .nameAndType 42 34), (0, u "touchedCount"), (0, u "(I)V"), (3, u "()I"), (0, u "blocks"), (0, u "()[I"), (0, u "(I)I"), (0, u "stateAt"), (0, u "mark"), (0, u "splitMarked")] 2

def k2c0 : Code := { maxStack := 3, maxLocals := 3, code := prog_75_method_1_code, exceptionTable := #[], attributes := #[] }
def k2m0 : Method := { name := "<init>", desc := "(I)V", sig := { parameters := [.int], returnType := none }, accessFlags := 0, code := some k2c0 }
def k2c1 : Code := { maxStack := 1, maxLocals := 1, code := prog_75_method_2_code, exceptionTable := #[], attributes := #[] }
def k2m1 : Method := { name := "count", desc := "()I", sig := { parameters := [], returnType := some .int }, accessFlags := 0, code := some k2c1 }
def k2c2 : Code := { maxStack := 1, maxLocals := 1, code := prog_75_method_3_code, exceptionTable := #[], attributes := #[] }
def k2m2 : Method := { name := "blocks", desc := "()[I", sig := { parameters := [], returnType := some (.array .int) }, accessFlags := 0, code := some k2c2 }
def k2c3 : Code := { maxStack := 2, maxLocals := 2, code := prog_75_method_4_code, exceptionTable := #[], attributes := #[] }
def k2m3 : Method := { name := "first", desc := "(I)I", sig := { parameters := [.int], returnType := some .int }, accessFlags := 0, code := some k2c3 }
def k2c4 : Code := { maxStack := 2, maxLocals := 2, code := prog_75_method_5_code, exceptionTable := #[], attributes := #[] }
def k2m4 : Method := { name := "end", desc := "(I)I", sig := { parameters := [.int], returnType := some .int }, accessFlags := 0, code := some k2c4 }
def k2c5 : Code := { maxStack := 2, maxLocals := 2, code := prog_75_method_6_code, exceptionTable := #[], attributes := #[] }
def k2m5 : Method := { name := "stateAt", desc := "(I)I", sig := { parameters := [.int], returnType := some .int }, accessFlags := 0, code := some k2c5 }
def k2c6 : Code := { maxStack := 5, maxLocals := 6, code := prog_75_method_7_code, exceptionTable := #[], attributes := #[] }
def k2m6 : Method := { name := "mark", desc := "(I)V", sig := { parameters := [.int], returnType := none }, accessFlags := 0, code := some k2c6 }
def k2c7 : Code := { maxStack := 4, maxLocals := 6, code := prog_75_method_8_code, exceptionTable := #[], attributes := #[] }
def k2m7 : Method := { name := "splitMarked", desc := "()V", sig := { parameters := [], returnType := none }, accessFlags := 0, code := some k2c7 }
/-- com/example/custode/custode/service/Partition -/
def k2 : Class := { plain "com/example/custode/custode/service/Partition" (some 0) with
  accessFlags := 32
  interfaces := #[]
  cf := some (fileOf pool2 8 #[] #[{ accessFlags := 0, nameIndex := 5, descriptorIndex := 43, attributes := #[] }, { accessFlags := 0, nameIndex := 33, descriptorIndex := 47, attributes := #[] }, { accessFlags := 0, nameIndex := 48, descriptorIndex := 49, attributes := #[] }, { accessFlags := 0, nameIndex := 21, descriptorIndex := 50, attributes := #[] }, { accessFlags := 0, nameIndex := 24, descriptorIndex := 50, attributes := #[] }, { accessFlags := 0, nameIndex := 51, descriptorIndex := 50, attributes := #[] }, { accessFlags := 0, nameIndex := 52, descriptorIndex := 43, attributes := #[] }, { accessFlags := 0, nameIndex := 53, descriptorIndex := 6, attributes := #[] }] 32 2 #[] #[{ accessFlags := 18, nameIndex := 11, descriptorIndex := 12, attributes := #[] }, { accessFlags := 18, nameIndex := 15, descriptorIndex := 12, attributes := #[] }, { accessFlags := 18, nameIndex := 18, descriptorIndex := 12, attributes := #[] }, { accessFlags := 18, nameIndex := 21, descriptorIndex := 12, attributes := #[] }, { accessFlags := 18, nameIndex := 24, descriptorIndex := 12, attributes := #[] }, { accessFlags := 18, nameIndex := 27, descriptorIndex := 12, attributes := #[] }, { accessFlags := 18, nameIndex := 30, descriptorIndex := 12, attributes := #[] }, { accessFlags := 2, nameIndex := 42, descriptorIndex := 34, attributes := #[] }, { accessFlags := 2, nameIndex := 33, descriptorIndex := 34, attributes := #[] }])
  fields := #[{ name := "states", type := (.array .int), accessFlags := 18, slot := 0, constantValue := 0 }, { name := "position", type := (.array .int), accessFlags := 18, slot := 1, constantValue := 0 }, { name := "block", type := (.array .int), accessFlags := 18, slot := 2, constantValue := 0 }, { name := "first", type := (.array .int), accessFlags := 18, slot := 3, constantValue := 0 }, { name := "end", type := (.array .int), accessFlags := 18, slot := 4, constantValue := 0 }, { name := "unmarked", type := (.array .int), accessFlags := 18, slot := 5, constantValue := 0 }, { name := "touched", type := (.array .int), accessFlags := 18, slot := 6, constantValue := 0 }, { name := "touchedCount", type := .int, accessFlags := 2, slot := 7, constantValue := 0 }, { name := "count", type := .int, accessFlags := 2, slot := 8, constantValue := 0 }]
  methods := #[k2m0, k2m1, k2m2, k2m3, k2m4, k2m5, k2m6, k2m7]
  instanceTypes := #[(.array .int), (.array .int), (.array .int), (.array .int), (.array .int), (.array .int), (.array .int), .int, .int]
  staticTypes := #[]
  resolved := Array.replicate 56 none
  statics := none }

def pool3 : Array CpInfo := pool [(1, .class_ 2), (0, u "java/lang/Cloneable"), (0, .class_ 4), (0, u "java/lang/Object")] 2

/-- java/lang/Cloneable -/
def k3 : Class := { plain "java/lang/Cloneable" (some 0) with
  accessFlags := 1537
  interfaces := #[]
  cf := some (fileOf pool3 1 #[] #[] 1537 3 #[] #[])
  fields := #[]
  methods := #[]
  instanceTypes := #[]
  staticTypes := #[]
  resolved := Array.replicate 7 none
  statics := none }

def pool4 : Array CpInfo := pool [(1, u "java/io/Serializable"), (0, .class_ 1), (0, u "java/lang/Object"), (0, .class_ 3)] 3

/-- java/io/Serializable -/
def k4 : Class := { plain "java/io/Serializable" (some 0) with
  accessFlags := 1537
  interfaces := #[]
  cf := some (fileOf pool4 2 #[] #[] 1537 4 #[] #[])
  fields := #[]
  methods := #[]
  instanceTypes := #[]
  staticTypes := #[]
  resolved := Array.replicate 8 none
  statics := none }

/-- the primitive byte -/
def k5 : Class := { plain "byte" none with kind := .primitive 'B', accessFlags := 0x411 }
/-- [B -/
def k6 : Class := { plain "[B" (some 0) with kind := .array 5 .byte, interfaces := #[3, 4], accessFlags := 1041 }

/-- the primitive int -/
def k7 : Class := { plain "int" none with kind := .primitive 'I', accessFlags := 0x411 }
/-- [I -/
def k8 : Class := { plain "[I" (some 0) with kind := .array 7 .int, interfaces := #[3, 4], accessFlags := 1041 }

def heap : Heap := #[]
def classes : Array Class := #[k0, k1, k2, k3, k4, k5, k6, k7, k8]
def interned : List (Array UInt16 × Addr) := []
def slotsUsed : Nat := 0
def theMethod : MethodId := ⟨1, 1⟩
def args0 : Array Value := #[.int 5, .int 5, .int 5, .int 5, .int 5]
def aboutOver (below : List Frame) : State where
  vm := { classes := classes, interned := interned.toArray }
  heap := heap
  slotsUsed := slotsUsed
  threads := #[{ frames := .invoking theMethod args0 :: below }]
def below0 : List Frame := [.native { method := ⟨0, 0⟩, args := #[] }]
def about1 : State := aboutOver below0
def p0 : Program := .bare "" "" ""
def e0 : Env := launch0.env 0 0 0
theorem w_frames : about1.frames = Frame.invoking theMethod args0 :: below0 := rfl
set_option maxRecDepth 65536 in
theorem w_args : argsFit about1.vm theMethod args0 = true := by decide +kernel
set_option maxRecDepth 65536 in
theorem w_heap : heapFits about1 = true := by decide +kernel
set_option maxRecDepth 65536 in
theorem w_runnable : about1.curStatus? = some .runnable := by decide +kernel
set_option maxRecDepth 65536 in
theorem w_alone : about1.alone = true := by decide +kernel
set_option maxRecDepth 65536 in
theorem w_named : about1.methodNamed? x = some theMethod := by decide +kernel
set_option maxRecDepth 65536 in
theorem w_hears : about1.hears theMethod below0 = true := by decide +kernel
set_option maxRecDepth 65536 in
theorem w_ripe : about1.ripe theMethod args0 below0 = true := by decide +kernel
theorem w_running : about1.status = .running := rfl
set_option maxRecDepth 65536 in
theorem w_room : about1.hasRoom e0.platform room_1 = true :=
  launch0.hasRoom_least _ room_1 (by decide +kernel) (by decide +kernel) (by decide +kernel) (by decide +kernel) (by decide +kernel) (by decide +kernel)
theorem allAtoms_all (ts : List Jvm.Cond) (a : Array Jvm.Value) (st : Jvm.State) : (allAtoms ts).before a st = ts.all (fun c => c.before a st) := by
  induction ts with
  | nil => rfl
  | cons c t ih =>
    show (Jvm.Cond.and c (allAtoms t)).before a st = _
    rw [Jvm.Cond.before_and, ih, List.all_cons]
def words1 : List Jvm.Cond := Jvm.Cond.code x code maxLocals ret :: tables_1
/-- a 'code' word, met by the world's own term for the bytes: nothing is compared byte by byte -/
theorem code_word {y : MethodName} {bytes : ByteArray} {mx : Nat} {rt : Option FieldType} {a : Array Value} {s : State} {m : MethodId} {meth : Method} {c : Code} (h1 : s.methodNamed? y = some m) (h2 : s.vm.method? m = some meth) (h3 : meth.code = some c) (h4 : c.code = bytes)
    (h5 : (c.maxLocals == mx && c.exceptionTable.isEmpty && decide (c.maxStack ≤ mostOperands) && decide (meth.sig.returnType = rt) && !meth.locks && decide (parseMethodDescriptor y.desc = some meth.sig)) = true) : (Jvm.Cond.code y bytes mx rt).before a s = true := by
  simp only [Bool.and_eq_true, beq_iff_eq, Bool.not_eq_true', decide_eq_true_eq] at h5
  obtain ⟨⟨⟨⟨⟨g1, g2⟩, g3⟩, g4⟩, g5⟩, g6⟩ := h5
  simp [Cond.before, Cond.holds, Cond.value, h1, h2, h3, h4, g1, g2, g3, g4, g5, g6]
def isCode : Jvm.Cond → Bool
  | .code _ _ _ _ => true
  | _ => false
theorem all_split {L : List Jvm.Cond} {P : Jvm.Cond → Bool} (h1 : L.all (fun c => isCode c || P c) = true) (h2 : ∀ c ∈ L.filter isCode, P c = true) : L.all P = true := by
  refine List.all_eq_true.mpr fun c hc => ?_
  have h := List.all_eq_true.mp h1 c hc
  rcases Bool.eq_false_or_eq_true (isCode c) with hi | hi
  · exact h2 c (List.mem_filter.mpr ⟨hc, hi⟩)
  · simpa [hi] using h
set_option maxRecDepth 65536 in
theorem w_c0 : (Jvm.Cond.code x code maxLocals ret).before args0 about1 = true := code_word (m := ⟨1, 1⟩) (meth := k1m1) (c := k1c1) (by decide +kernel) rfl rfl rfl (by decide +kernel)
set_option maxRecDepth 65536 in
theorem w_c1 : (Jvm.Cond.code ({ cls := "com/example/custode/custode/service/Partition", name := "<init>", desc := "(I)V" } : Jvm.MethodName) prog_75_method_1_code (3 : Nat) (Option.none : Option Jvm.ClassFile.FieldType)).before args0 about1 = true := code_word (m := ⟨2, 0⟩) (meth := k2m0) (c := k2c0) (by decide +kernel) rfl rfl rfl (by decide +kernel)
set_option maxRecDepth 65536 in
theorem w_c2 : (Jvm.Cond.code ({ cls := "java/lang/Object", name := "<init>", desc := "()V" } : Jvm.MethodName) object_method_1_code (1 : Nat) (Option.none : Option Jvm.ClassFile.FieldType)).before args0 about1 = true := code_word (m := ⟨0, 0⟩) (meth := k0m0) (c := k0c0) (by decide +kernel) rfl rfl rfl (by decide +kernel)
set_option maxRecDepth 65536 in
theorem w_c3 : (Jvm.Cond.code ({ cls := "com/example/custode/custode/service/PartitionSplitMarkedPinLaw", name := "markRound", desc := "(Lcom/example/custode/custode/service/Partition;III)V" } : Jvm.MethodName) method_3_code (4 : Nat) (Option.none : Option Jvm.ClassFile.FieldType)).before args0 about1 = true := code_word (m := ⟨1, 2⟩) (meth := k1m2) (c := k1c2) (by decide +kernel) rfl rfl rfl (by decide +kernel)
set_option maxRecDepth 65536 in
theorem w_c4 : (Jvm.Cond.code ({ cls := "com/example/custode/custode/service/PartitionSplitMarkedPinLaw", name := "markIf", desc := "(Lcom/example/custode/custode/service/Partition;II)V" } : Jvm.MethodName) method_4_code (3 : Nat) (Option.none : Option Jvm.ClassFile.FieldType)).before args0 about1 = true := code_word (m := ⟨1, 3⟩) (meth := k1m3) (c := k1c3) (by decide +kernel) rfl rfl rfl (by decide +kernel)
set_option maxRecDepth 65536 in
theorem w_c5 : (Jvm.Cond.code ({ cls := "com/example/custode/custode/service/Partition", name := "splitMarked", desc := "()V" } : Jvm.MethodName) prog_75_method_8_code (6 : Nat) (Option.none : Option Jvm.ClassFile.FieldType)).before args0 about1 = true := code_word (m := ⟨2, 7⟩) (meth := k2m7) (c := k2c7) (by decide +kernel) rfl rfl rfl (by decide +kernel)
set_option maxRecDepth 65536 in
theorem w_c6 : (Jvm.Cond.code ({ cls := "com/example/custode/custode/service/Partition", name := "mark", desc := "(I)V" } : Jvm.MethodName) prog_75_method_7_code (6 : Nat) (Option.none : Option Jvm.ClassFile.FieldType)).before args0 about1 = true := code_word (m := ⟨2, 6⟩) (meth := k2m6) (c := k2c6) (by decide +kernel) rfl rfl rfl (by decide +kernel)
set_option maxRecDepth 65536 in
theorem w_c7 : (Jvm.Cond.code ({ cls := "com/example/custode/custode/service/PartitionSplitMarkedPinLaw", name := "split", desc := "([IIII)I" } : Jvm.MethodName) method_6_code (7 : Nat) (Option.some Jvm.ClassFile.FieldType.int)).before args0 about1 = true := code_word (m := ⟨1, 5⟩) (meth := k1m5) (c := k1c5) (by decide +kernel) rfl rfl rfl (by decide +kernel)
set_option maxRecDepth 65536 in
theorem w_c8 : (Jvm.Cond.code ({ cls := "com/example/custode/custode/service/PartitionSplitMarkedPinLaw", name := "firstIn", desc := "(II)I" } : Jvm.MethodName) method_7_code (3 : Nat) (Option.some Jvm.ClassFile.FieldType.int)).before args0 about1 = true := code_word (m := ⟨1, 6⟩) (meth := k1m6) (c := k1c6) (by decide +kernel) rfl rfl rfl (by decide +kernel)
set_option maxRecDepth 65536 in
theorem w_c9 : (Jvm.Cond.code ({ cls := "com/example/custode/custode/service/PartitionSplitMarkedPinLaw", name := "pc", desc := "(I)I" } : Jvm.MethodName) method_5_code (1 : Nat) (Option.some Jvm.ClassFile.FieldType.int)).before args0 about1 = true := code_word (m := ⟨1, 4⟩) (meth := k1m4) (c := k1c4) (by decide +kernel) rfl rfl rfl (by decide +kernel)
set_option maxRecDepth 65536 in
theorem w_c10 : (Jvm.Cond.code ({ cls := "com/example/custode/custode/service/Partition", name := "count", desc := "()I" } : Jvm.MethodName) prog_75_method_2_code (1 : Nat) (Option.some Jvm.ClassFile.FieldType.int)).before args0 about1 = true := code_word (m := ⟨2, 1⟩) (meth := k2m1) (c := k2c1) (by decide +kernel) rfl rfl rfl (by decide +kernel)
set_option maxRecDepth 65536 in
theorem w_c11 : (Jvm.Cond.code ({ cls := "com/example/custode/custode/service/Partition", name := "blocks", desc := "()[I" } : Jvm.MethodName) prog_75_method_3_code (1 : Nat) (Option.some (Jvm.ClassFile.FieldType.array Jvm.ClassFile.FieldType.int))).before args0 about1 = true := code_word (m := ⟨2, 2⟩) (meth := k2m2) (c := k2c2) (by decide +kernel) rfl rfl rfl (by decide +kernel)
set_option maxRecDepth 65536 in
theorem w_c12 : (Jvm.Cond.code ({ cls := "com/example/custode/custode/service/PartitionSplitMarkedPinLaw", name := "inBlock", desc := "([I[III)Z" } : Jvm.MethodName) method_8_code (5 : Nat) (Option.some Jvm.ClassFile.FieldType.boolean)).before args0 about1 = true := code_word (m := ⟨1, 7⟩) (meth := k1m7) (c := k1c7) (by decide +kernel) rfl rfl rfl (by decide +kernel)
set_option maxRecDepth 65536 in
theorem w_c13 : (Jvm.Cond.code ({ cls := "com/example/custode/custode/service/PartitionSplitMarkedPinLaw", name := "rangeOk", desc := "(Lcom/example/custode/custode/service/Partition;[III)Z" } : Jvm.MethodName) method_9_code (7 : Nat) (Option.some Jvm.ClassFile.FieldType.boolean)).before args0 about1 = true := code_word (m := ⟨1, 8⟩) (meth := k1m8) (c := k1c8) (by decide +kernel) rfl rfl rfl (by decide +kernel)
set_option maxRecDepth 65536 in
theorem w_c14 : (Jvm.Cond.code ({ cls := "com/example/custode/custode/service/Partition", name := "first", desc := "(I)I" } : Jvm.MethodName) prog_75_method_4_code (2 : Nat) (Option.some Jvm.ClassFile.FieldType.int)).before args0 about1 = true := code_word (m := ⟨2, 3⟩) (meth := k2m3) (c := k2c3) (by decide +kernel) rfl rfl rfl (by decide +kernel)
set_option maxRecDepth 65536 in
theorem w_c15 : (Jvm.Cond.code ({ cls := "com/example/custode/custode/service/Partition", name := "end", desc := "(I)I" } : Jvm.MethodName) prog_75_method_5_code (2 : Nat) (Option.some Jvm.ClassFile.FieldType.int)).before args0 about1 = true := code_word (m := ⟨2, 4⟩) (meth := k2m4) (c := k2c4) (by decide +kernel) rfl rfl rfl (by decide +kernel)
set_option maxRecDepth 65536 in
theorem w_c16 : (Jvm.Cond.code ({ cls := "com/example/custode/custode/service/Partition", name := "stateAt", desc := "(I)I" } : Jvm.MethodName) prog_75_method_6_code (2 : Nat) (Option.some Jvm.ClassFile.FieldType.int)).before args0 about1 = true := code_word (m := ⟨2, 5⟩) (meth := k2m5) (c := k2c5) (by decide +kernel) rfl rfl rfl (by decide +kernel)
def codes1 : List Jvm.Cond := [Jvm.Cond.code x code maxLocals ret, Jvm.Cond.code ({ cls := "com/example/custode/custode/service/Partition", name := "<init>", desc := "(I)V" } : Jvm.MethodName) prog_75_method_1_code (3 : Nat) (Option.none : Option Jvm.ClassFile.FieldType), Jvm.Cond.code ({ cls := "java/lang/Object", name := "<init>", desc := "()V" } : Jvm.MethodName) object_method_1_code (1 : Nat) (Option.none : Option Jvm.ClassFile.FieldType), Jvm.Cond.code ({ cls := "com/example/custode/custode/service/PartitionSplitMarkedPinLaw", name := "markRound", desc := "(Lcom/example/custode/custode/service/Partition;III)V" } : Jvm.MethodName) method_3_code (4 : Nat) (Option.none : Option Jvm.ClassFile.FieldType), Jvm.Cond.code ({ cls := "com/example/custode/custode/service/PartitionSplitMarkedPinLaw", name := "markIf", desc := "(Lcom/example/custode/custode/service/Partition;II)V" } : Jvm.MethodName) method_4_code (3 : Nat) (Option.none : Option Jvm.ClassFile.FieldType), Jvm.Cond.code ({ cls := "com/example/custode/custode/service/Partition", name := "splitMarked", desc := "()V" } : Jvm.MethodName) prog_75_method_8_code (6 : Nat) (Option.none : Option Jvm.ClassFile.FieldType), Jvm.Cond.code ({ cls := "com/example/custode/custode/service/Partition", name := "mark", desc := "(I)V" } : Jvm.MethodName) prog_75_method_7_code (6 : Nat) (Option.none : Option Jvm.ClassFile.FieldType), Jvm.Cond.code ({ cls := "com/example/custode/custode/service/PartitionSplitMarkedPinLaw", name := "split", desc := "([IIII)I" } : Jvm.MethodName) method_6_code (7 : Nat) (Option.some Jvm.ClassFile.FieldType.int), Jvm.Cond.code ({ cls := "com/example/custode/custode/service/PartitionSplitMarkedPinLaw", name := "firstIn", desc := "(II)I" } : Jvm.MethodName) method_7_code (3 : Nat) (Option.some Jvm.ClassFile.FieldType.int), Jvm.Cond.code ({ cls := "com/example/custode/custode/service/PartitionSplitMarkedPinLaw", name := "pc", desc := "(I)I" } : Jvm.MethodName) method_5_code (1 : Nat) (Option.some Jvm.ClassFile.FieldType.int), Jvm.Cond.code ({ cls := "com/example/custode/custode/service/Partition", name := "count", desc := "()I" } : Jvm.MethodName) prog_75_method_2_code (1 : Nat) (Option.some Jvm.ClassFile.FieldType.int), Jvm.Cond.code ({ cls := "com/example/custode/custode/service/Partition", name := "blocks", desc := "()[I" } : Jvm.MethodName) prog_75_method_3_code (1 : Nat) (Option.some (Jvm.ClassFile.FieldType.array Jvm.ClassFile.FieldType.int)), Jvm.Cond.code ({ cls := "com/example/custode/custode/service/PartitionSplitMarkedPinLaw", name := "inBlock", desc := "([I[III)Z" } : Jvm.MethodName) method_8_code (5 : Nat) (Option.some Jvm.ClassFile.FieldType.boolean), Jvm.Cond.code ({ cls := "com/example/custode/custode/service/PartitionSplitMarkedPinLaw", name := "rangeOk", desc := "(Lcom/example/custode/custode/service/Partition;[III)Z" } : Jvm.MethodName) method_9_code (7 : Nat) (Option.some Jvm.ClassFile.FieldType.boolean), Jvm.Cond.code ({ cls := "com/example/custode/custode/service/Partition", name := "first", desc := "(I)I" } : Jvm.MethodName) prog_75_method_4_code (2 : Nat) (Option.some Jvm.ClassFile.FieldType.int), Jvm.Cond.code ({ cls := "com/example/custode/custode/service/Partition", name := "end", desc := "(I)I" } : Jvm.MethodName) prog_75_method_5_code (2 : Nat) (Option.some Jvm.ClassFile.FieldType.int), Jvm.Cond.code ({ cls := "com/example/custode/custode/service/Partition", name := "stateAt", desc := "(I)I" } : Jvm.MethodName) prog_75_method_6_code (2 : Nat) (Option.some Jvm.ClassFile.FieldType.int)]
set_option maxRecDepth 65536 in
theorem codes_eq : words1.filter isCode = codes1 := rfl
theorem w_codes : ∀ c ∈ words1.filter isCode, c.before args0 about1 = true := by
  rw [codes_eq]
  intro c hc
  simp only [codes1, List.mem_cons, List.not_mem_nil, or_false] at hc
  rcases hc with rfl | rfl | rfl | rfl | rfl | rfl | rfl | rfl | rfl | rfl | rfl | rfl | rfl | rfl | rfl | rfl | rfl
  · exact w_c0
  · exact w_c1
  · exact w_c2
  · exact w_c3
  · exact w_c4
  · exact w_c5
  · exact w_c6
  · exact w_c7
  · exact w_c8
  · exact w_c9
  · exact w_c10
  · exact w_c11
  · exact w_c12
  · exact w_c13
  · exact w_c14
  · exact w_c15
  · exact w_c16
set_option maxRecDepth 65536 in
theorem w_t1 : (words1.take 24).all (fun c => isCode c || c.before args0 about1) = true := by decide +kernel
set_option maxRecDepth 65536 in
theorem w_t2 : ((words1.drop 24).take 24).all (fun c => isCode c || c.before args0 about1) = true := by decide +kernel
set_option maxRecDepth 65536 in
theorem w_t3 : (((words1.drop 24).drop 24).take 24).all (fun c => isCode c || c.before args0 about1) = true := by decide +kernel
set_option maxRecDepth 65536 in
theorem w_t4 : (((words1.drop 24).drop 24).drop 24).all (fun c => isCode c || c.before args0 about1) = true := by decide +kernel
theorem w_tables : (allAtoms (Jvm.Cond.code x code maxLocals ret :: tables_1)).before args0 about1 = true := by
  rw [allAtoms_all]
  show words1.all (fun c => c.before args0 about1) = true
  refine all_split ?_ w_codes
  rw [← List.take_append_drop 24 words1, List.all_append, w_t1, ← List.take_append_drop 24 (words1.drop 24), List.all_append, w_t2, ← List.take_append_drop 24 ((words1.drop 24).drop 24), List.all_append, w_t3, w_t4]
  rfl
set_option maxRecDepth 65536 in
theorem w_case : (Jvm.Cond.and given_1 narrow_1).before args0 about1 = true := by decide +kernel
theorem w_applies : (headSpec (Jvm.Cond.code x code maxLocals ret :: tables_1) room_1).applies x e0.platform about1 = true :=
  (Spec.applies_iff w_frames).mpr ⟨w_running, w_runnable, w_alone, w_named, w_hears, w_ripe, w_room, w_tables⟩
theorem atStart : AtStart classFile x code maxLocals ret World_1 tables_1 room_1 Calls_1 rest_1 Pre_1 launch0 p0 e0 about1 theMethod args0 below0 :=
  ⟨lists_1, trivial, launch0.admits_env _ _ _, launch0.least_env, fairChoices_fair.cas, fairChoices_fair.clock, w_frames, w_args, w_heap, w_applies, trivial, trivial, w_case⟩
end start1
theorem witness_1 : WitnessClaimed_1 := ⟨start1.p0, start1.e0, start1.about1, start1.theMethod, start1.args0, start1.below0, start1.atStart⟩
end Jvm.Pilot.@@N@@
