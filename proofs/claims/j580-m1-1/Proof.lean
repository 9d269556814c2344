import JvmDerived
import JvmDerived.Pilot.@@N@@Statement
import JvmDerived.Pilot.@@N@@Code
set_option linter.unusedVariables false
set_option linter.unusedSimpArgs false
namespace Jvm.Pilot.@@N@@
open Jvm Jvm.ClassFile Sem Op Lib Jvm.Free Jvm.Stand Jvm.LawKit Jvm.RoadKit Bundle Jvm.Pilot.@@N@@.Jvm.D
abbrev HW (a0 : Array Value) (Z : State) : Prop := ∀ d ∈ tables_1, d.before a0 Z = true
abbrev Y0 : MethodName := (⟨"java/lang/Number", "<init>", "()V"⟩ : MethodName)
abbrev Y1 : MethodName := (⟨"java/lang/Integer", "<init>", "(I)V"⟩ : MethodName)
abbrev Y2 : MethodName := (⟨"java/lang/Integer", "valueOf", "(I)Ljava/lang/Integer;"⟩ : MethodName)
abbrev Y3 : MethodName := (⟨"com/example/rosewood/rosewood/RosewoodMap", "size", "()I"⟩ : MethodName)
abbrev Y4 : MethodName := (⟨"com/example/rosewood/rosewood/RosewoodMap", "isEmpty", "()Z"⟩ : MethodName)
abbrev Y5 : MethodName := (⟨"java/util/Objects", "requireNonNull", "(Ljava/lang/Object;)Ljava/lang/Object;"⟩ : MethodName)
abbrev Y6 : MethodName := (⟨"com/example/rosewood/rosewood/RosewoodMap", "searchKey", "(Ljava/lang/Object;)Ljava/lang/Object;"⟩ : MethodName)
abbrev Y7 : MethodName := (⟨"com/example/rosewood/rosewood/RosewoodMap", "keyOf", "(Lcom/example/rosewood/rosewood/RosewoodMap$Node;)Ljava/lang/Object;"⟩ : MethodName)
abbrev Y8 : MethodName := (⟨"com/example/rosewood/rosewood/RosewoodMap", "find", "(Ljava/lang/Object;)Lcom/example/rosewood/rosewood/RosewoodMap$Node;"⟩ : MethodName)
abbrev Y9 : MethodName := (⟨"com/example/rosewood/rosewood/RosewoodMap", "get", "(Ljava/lang/Object;)Ljava/lang/Object;"⟩ : MethodName)
abbrev Y10 : MethodName := (⟨"java/lang/Integer", "compare", "(II)I"⟩ : MethodName)
abbrev Y11 : MethodName := (⟨"java/lang/Integer", "compareTo", "(Ljava/lang/Integer;)I"⟩ : MethodName)
abbrev Y12 : MethodName := (⟨"java/lang/Integer", "compareTo", "(Ljava/lang/Object;)I"⟩ : MethodName)
abbrev Y13 : MethodName := (⟨"com/example/rosewood/rosewood/RosewoodMap", "compare", "(Ljava/lang/Object;Ljava/lang/Object;)I"⟩ : MethodName)
abbrev Y14 : MethodName := (⟨"java/lang/Comparable", "compareTo", "(Ljava/lang/Object;)I"⟩ : MethodName)
abbrev Y15 : MethodName := (⟨"com/example/rosewood/rosewood/RosewoodMap$Node", "<init>", "(Ljava/lang/Object;Ljava/lang/Object;Lcom/example/rosewood/rosewood/RosewoodMap$Node;)V"⟩ : MethodName)
abbrev Y16 : MethodName := (⟨"com/example/rosewood/rosewood/RosewoodMap", "newNode", "(Ljava/lang/Object;Ljava/lang/Object;Lcom/example/rosewood/rosewood/RosewoodMap$Node;)Lcom/example/rosewood/rosewood/RosewoodMap$Node;"⟩ : MethodName)
abbrev Y17 : MethodName := (⟨"com/example/rosewood/rosewood/RosewoodMap", "setRed", "(Lcom/example/rosewood/rosewood/RosewoodMap$Node;Z)V"⟩ : MethodName)
abbrev Y18 : MethodName := (⟨"com/example/rosewood/rosewood/RosewoodMap", "addIfAbsent", "(Ljava/lang/Object;Ljava/lang/Object;)Lcom/example/rosewood/rosewood/RosewoodMap$Node;"⟩ : MethodName)
abbrev Y19 : MethodName := (⟨"com/example/rosewood/rosewood/RosewoodMap", "put", "(Ljava/lang/Object;Ljava/lang/Object;)Ljava/lang/Object;"⟩ : MethodName)
abbrev Y20 : MethodName := (⟨"java/lang/Integer", "intValue", "()I"⟩ : MethodName)
abbrev Y21 : MethodName := (⟨"com/example/rosewood/rosewood/RosewoodMap", "clear", "()V"⟩ : MethodName)
abbrev Y22 : MethodName := (⟨"com/example/rosewood/rosewood/RosewoodMap", "addToLeftCount", "(Lcom/example/rosewood/rosewood/RosewoodMap$Node;I)V"⟩ : MethodName)
abbrev Y23 : MethodName := (⟨"com/example/rosewood/rosewood/RosewoodMap", "refreshToRoot", "(Lcom/example/rosewood/rosewood/RosewoodMap$Node;)V"⟩ : MethodName)
abbrev Y24 : MethodName := (⟨"com/example/rosewood/rosewood/RosewoodMap", "isRed", "(Lcom/example/rosewood/rosewood/RosewoodMap$Node;)Z"⟩ : MethodName)
abbrev Y25 : MethodName := (⟨"com/example/rosewood/rosewood/RosewoodMap", "balanceAfterInsert", "(Lcom/example/rosewood/rosewood/RosewoodMap$Node;)V"⟩ : MethodName)
abbrev Y26 : MethodName := (⟨"com/example/rosewood/rosewood/RosewoodMap", "countPlace", "(Lcom/example/rosewood/rosewood/RosewoodMap$Node;II)V"⟩ : MethodName)
abbrev Y27 : MethodName := (⟨"com/example/rosewood/rosewood/RosewoodMap$Node", "setValue", "(Ljava/lang/Object;)Ljava/lang/Object;"⟩ : MethodName)
abbrev Y28 : MethodName := (⟨"com/example/rosewood/rosewood/RosewoodMap", "replaceValue", "(Lcom/example/rosewood/rosewood/RosewoodMap$Node;Ljava/lang/Object;)Ljava/lang/Object;"⟩ : MethodName)
abbrev Y29 : MethodName := (⟨"com/example/rosewood/rosewood/RosewoodMap", "replaceInParent", "(Lcom/example/rosewood/rosewood/RosewoodMap$Node;Lcom/example/rosewood/rosewood/RosewoodMap$Node;)V"⟩ : MethodName)
abbrev Y30 : MethodName := (⟨"com/example/rosewood/rosewood/RosewoodMap", "leftCount", "(Lcom/example/rosewood/rosewood/RosewoodMap$Node;)I"⟩ : MethodName)
abbrev Y31 : MethodName := (⟨"com/example/rosewood/rosewood/RosewoodMap", "refresh", "(Lcom/example/rosewood/rosewood/RosewoodMap$Node;)V"⟩ : MethodName)
abbrev Y32 : MethodName := (⟨"com/example/rosewood/rosewood/RosewoodMap", "rotateRight", "(Lcom/example/rosewood/rosewood/RosewoodMap$Node;)V"⟩ : MethodName)
abbrev Y33 : MethodName := (⟨"com/example/rosewood/rosewood/RosewoodMap", "countAbove", "(Lcom/example/rosewood/rosewood/RosewoodMap$Node;I)V"⟩ : MethodName)
abbrev Y34 : MethodName := (⟨"com/example/rosewood/rosewood/RosewoodMap", "rotateLeft", "(Lcom/example/rosewood/rosewood/RosewoodMap$Node;)V"⟩ : MethodName)
abbrev Y35 : MethodName := (⟨"java/util/AbstractMap", "<init>", "()V"⟩ : MethodName)
abbrev Y36 : MethodName := (⟨"com/example/rosewood/rosewood/RosewoodMap", "<init>", "(Ljava/util/Comparator;)V"⟩ : MethodName)
abbrev Y37 : MethodName := (⟨"com/example/rosewood/rosewood/RosewoodMap", "<init>", "()V"⟩ : MethodName)
abbrev Y38 : MethodName := (⟨"java/lang/Object", "<init>", "()V"⟩ : MethodName)
theorem Wd0 {Z : State} {a0 : Array Value} (hw : HW a0 Z) : (Jvm.Cond.classLink "com/example/rosewood/rosewood/RosewoodMapClearPinLaw" 7 "com/example/rosewood/rosewood/RosewoodMap").before a0 Z = true := hw _ (List.mem_of_getElem? (i := 0) rfl)
theorem Wd1 {Z : State} {a0 : Array Value} (hw : HW a0 Z) : (Jvm.Cond.instantiable "com/example/rosewood/rosewood/RosewoodMap" 7).before a0 Z = true := hw _ (List.mem_of_getElem? (i := 1) rfl)
theorem Wd2 {Z : State} {a0 : Array Value} (hw : HW a0 Z) : (Jvm.Cond.initialized "com/example/rosewood/rosewood/RosewoodMap").before a0 Z = true := hw _ (List.mem_of_getElem? (i := 2) rfl)
theorem Wd3 {Z : State} {a0 : Array Value} (hw : HW a0 Z) : (Jvm.Cond.methodLink "com/example/rosewood/rosewood/RosewoodMapClearPinLaw" 9 Y37).before a0 Z = true := hw _ (List.mem_of_getElem? (i := 3) rfl)
theorem Wd4 {Z : State} {a0 : Array Value} (hw : HW a0 Z) : (Jvm.Cond.instanceMethod Y37).before a0 Z = true := hw _ (List.mem_of_getElem? (i := 4) rfl)
theorem Wd5 {Z : State} {a0 : Array Value} (hw : HW a0 Z) : (Jvm.Cond.code Y37 prog_7_method_1_code 1 (Option.none : Option FieldType)).before a0 Z = true := hw _ (List.mem_of_getElem? (i := 5) rfl)
theorem Wd6 {Z : State} {a0 : Array Value} (hw : HW a0 Z) : (Jvm.Cond.methodLink "com/example/rosewood/rosewood/RosewoodMap" 3 Y36).before a0 Z = true := hw _ (List.mem_of_getElem? (i := 6) rfl)
theorem Wd7 {Z : State} {a0 : Array Value} (hw : HW a0 Z) : (Jvm.Cond.instanceMethod Y36).before a0 Z = true := hw _ (List.mem_of_getElem? (i := 7) rfl)
theorem Wd8 {Z : State} {a0 : Array Value} (hw : HW a0 Z) : (Jvm.Cond.code Y36 prog_7_method_2_code 2 (Option.none : Option FieldType)).before a0 Z = true := hw _ (List.mem_of_getElem? (i := 8) rfl)
theorem Wd9 {Z : State} {a0 : Array Value} (hw : HW a0 Z) : (Jvm.Cond.methodLink "com/example/rosewood/rosewood/RosewoodMap" 9 Y35).before a0 Z = true := hw _ (List.mem_of_getElem? (i := 9) rfl)
theorem Wd10 {Z : State} {a0 : Array Value} (hw : HW a0 Z) : (Jvm.Cond.instanceMethod Y35).before a0 Z = true := hw _ (List.mem_of_getElem? (i := 10) rfl)
theorem Wd12 {Z : State} {a0 : Array Value} (hw : HW a0 Z) : (Jvm.Cond.initialized "java/util/AbstractMap").before a0 Z = true := hw _ (List.mem_of_getElem? (i := 12) rfl)
theorem Wd13 {Z : State} {a0 : Array Value} (hw : HW a0 Z) : (Jvm.Cond.code Y35 jdk_71_method_1_code 1 (Option.none : Option FieldType)).before a0 Z = true := hw _ (List.mem_of_getElem? (i := 13) rfl)
theorem Wd14 {Z : State} {a0 : Array Value} (hw : HW a0 Z) : (Jvm.Cond.methodLink "java/util/AbstractMap" 1 Y38).before a0 Z = true := hw _ (List.mem_of_getElem? (i := 14) rfl)
theorem Wd15 {Z : State} {a0 : Array Value} (hw : HW a0 Z) : (Jvm.Cond.instanceMethod Y38).before a0 Z = true := hw _ (List.mem_of_getElem? (i := 15) rfl)
theorem Wd16 {Z : State} {a0 : Array Value} (hw : HW a0 Z) : (Jvm.Cond.code Y38 object_method_1_code 1 (Option.none : Option FieldType)).before a0 Z = true := hw _ (List.mem_of_getElem? (i := 16) rfl)
theorem Wd17 {Z : State} {a0 : Array Value} (hw : HW a0 Z) : (Jvm.Cond.fieldLink "com/example/rosewood/rosewood/RosewoodMap" 14 "com/example/rosewood/rosewood/RosewoodMap" "comparator" "Ljava/util/Comparator;").before a0 Z = true := hw _ (List.mem_of_getElem? (i := 17) rfl)
theorem Wd18 {Z : State} {a0 : Array Value} (hw : HW a0 Z) : (Jvm.Cond.laysFinal "com/example/rosewood/rosewood/RosewoodMap" "com/example/rosewood/rosewood/RosewoodMap" "comparator" "Ljava/util/Comparator;").before a0 Z = true := hw _ (List.mem_of_getElem? (i := 18) rfl)
theorem Wd19 {Z : State} {a0 : Array Value} (hw : HW a0 Z) : (Jvm.Cond.methodLink "com/example/rosewood/rosewood/RosewoodMapClearPinLaw" 10 Y2).before a0 Z = true := hw _ (List.mem_of_getElem? (i := 19) rfl)
theorem Wd20 {Z : State} {a0 : Array Value} (hw : HW a0 Z) : (Jvm.Cond.static Y2).before a0 Z = true := hw _ (List.mem_of_getElem? (i := 20) rfl)
theorem Wd21 {Z : State} {a0 : Array Value} (hw : HW a0 Z) : (Jvm.Cond.initialized "java/lang/Integer").before a0 Z = true := hw _ (List.mem_of_getElem? (i := 21) rfl)
theorem Wd22 {Z : State} {a0 : Array Value} (hw : HW a0 Z) : (Jvm.Cond.code Y2 jdk_33_method_22_code 1 (Option.some (FieldType.object "java/lang/Integer"))).before a0 Z = true := hw _ (List.mem_of_getElem? (i := 22) rfl)
theorem Wd23 {Z : State} {a0 : Array Value} (hw : HW a0 Z) : (Jvm.Cond.fieldLink "java/lang/Integer" 191 "java/lang/Integer$IntegerCache" "high" "I").before a0 Z = true := hw _ (List.mem_of_getElem? (i := 23) rfl)
theorem Wd24 {Z : State} {a0 : Array Value} (hw : HW a0 Z) : (Jvm.Cond.initialized "java/lang/Integer$IntegerCache").before a0 Z = true := hw _ (List.mem_of_getElem? (i := 24) rfl)
theorem Wd25 {Z : State} {a0 : Array Value} (hw : HW a0 Z) : (Jvm.Cond.fieldLink "java/lang/Integer" 195 "java/lang/Integer$IntegerCache" "cache" "[Ljava/lang/Integer;").before a0 Z = true := hw _ (List.mem_of_getElem? (i := 25) rfl)
theorem Wd26 {Z : State} {a0 : Array Value} (hw : HW a0 Z) : (Jvm.Cond.methodLink "com/example/rosewood/rosewood/RosewoodMapClearPinLaw" 16 Y19).before a0 Z = true := hw _ (List.mem_of_getElem? (i := 26) rfl)
theorem Wd27 {Z : State} {a0 : Array Value} (hw : HW a0 Z) : (Jvm.Cond.declares Y19).before a0 Z = true := hw _ (List.mem_of_getElem? (i := 27) rfl)
theorem Wd28 {Z : State} {a0 : Array Value} (hw : HW a0 Z) : (Jvm.Cond.instanceMethod Y19).before a0 Z = true := hw _ (List.mem_of_getElem? (i := 28) rfl)
theorem Wd29 {Z : State} {a0 : Array Value} (hw : HW a0 Z) : (Jvm.Cond.selects "com/example/rosewood/rosewood/RosewoodMap" Y19 Y19).before a0 Z = true := hw _ (List.mem_of_getElem? (i := 29) rfl)
theorem Wd30 {Z : State} {a0 : Array Value} (hw : HW a0 Z) : (Jvm.Cond.code Y19 prog_7_method_8_code 4 (Option.some (FieldType.object "java/lang/Object"))).before a0 Z = true := hw _ (List.mem_of_getElem? (i := 30) rfl)
theorem Wd31 {Z : State} {a0 : Array Value} (hw : HW a0 Z) : (Jvm.Cond.methodLink "com/example/rosewood/rosewood/RosewoodMap" 36 Y18).before a0 Z = true := hw _ (List.mem_of_getElem? (i := 31) rfl)
theorem Wd32 {Z : State} {a0 : Array Value} (hw : HW a0 Z) : (Jvm.Cond.instanceMethod Y18).before a0 Z = true := hw _ (List.mem_of_getElem? (i := 32) rfl)
theorem Wd33 {Z : State} {a0 : Array Value} (hw : HW a0 Z) : (Jvm.Cond.privateMethod Y18).before a0 Z = true := hw _ (List.mem_of_getElem? (i := 33) rfl)
theorem Wd34 {Z : State} {a0 : Array Value} (hw : HW a0 Z) : (Jvm.Cond.codeWith Y18 prog_7_method_65_code 15 (Option.some (FieldType.object "com/example/rosewood/rosewood/RosewoodMap$Node")) [(71, 122, 210, 0), (137, 195, 210, 0), (210, 212, 210, 0)]).before a0 Z = true := hw _ (List.mem_of_getElem? (i := 34) rfl)
theorem Wd35 {Z : State} {a0 : Array Value} (hw : HW a0 Z) : (Jvm.Cond.fieldLink "com/example/rosewood/rosewood/RosewoodMap" 22 "com/example/rosewood/rosewood/RosewoodMap" "root" "Lcom/example/rosewood/rosewood/RosewoodMap$Node;").before a0 Z = true := hw _ (List.mem_of_getElem? (i := 35) rfl)
theorem Wd36 {Z : State} {a0 : Array Value} (hw : HW a0 Z) : (Jvm.Cond.lays "com/example/rosewood/rosewood/RosewoodMap" "com/example/rosewood/rosewood/RosewoodMap" "root" "Lcom/example/rosewood/rosewood/RosewoodMap$Node;").before a0 Z = true := hw _ (List.mem_of_getElem? (i := 36) rfl)
theorem Wd37 {Z : State} {a0 : Array Value} (hw : HW a0 Z) : (Jvm.Cond.methodLink "com/example/rosewood/rosewood/RosewoodMap" 217 Y13).before a0 Z = true := hw _ (List.mem_of_getElem? (i := 37) rfl)
theorem Wd38 {Z : State} {a0 : Array Value} (hw : HW a0 Z) : (Jvm.Cond.declares Y13).before a0 Z = true := hw _ (List.mem_of_getElem? (i := 38) rfl)
theorem Wd39 {Z : State} {a0 : Array Value} (hw : HW a0 Z) : (Jvm.Cond.instanceMethod Y13).before a0 Z = true := hw _ (List.mem_of_getElem? (i := 39) rfl)
theorem Wd40 {Z : State} {a0 : Array Value} (hw : HW a0 Z) : (Jvm.Cond.selects "com/example/rosewood/rosewood/RosewoodMap" Y13 Y13).before a0 Z = true := hw _ (List.mem_of_getElem? (i := 40) rfl)
theorem Wd41 {Z : State} {a0 : Array Value} (hw : HW a0 Z) : (Jvm.Cond.code Y13 prog_7_method_72_code 3 (Option.some FieldType.int)).before a0 Z = true := hw _ (List.mem_of_getElem? (i := 41) rfl)
theorem Wd42 {Z : State} {a0 : Array Value} (hw : HW a0 Z) : (Jvm.Cond.classLink "com/example/rosewood/rosewood/RosewoodMap" 263 "java/lang/Comparable").before a0 Z = true := hw _ (List.mem_of_getElem? (i := 42) rfl)
theorem Wd43 {Z : State} {a0 : Array Value} (hw : HW a0 Z) : (Jvm.Cond.castable "java/lang/Integer" "java/lang/Comparable").before a0 Z = true := hw _ (List.mem_of_getElem? (i := 43) rfl)
theorem Wd44 {Z : State} {a0 : Array Value} (hw : HW a0 Z) : (Jvm.Cond.methodLink "com/example/rosewood/rosewood/RosewoodMap" 265 Y14).before a0 Z = true := hw _ (List.mem_of_getElem? (i := 44) rfl)
theorem Wd45 {Z : State} {a0 : Array Value} (hw : HW a0 Z) : (Jvm.Cond.declares Y14).before a0 Z = true := hw _ (List.mem_of_getElem? (i := 45) rfl)
theorem Wd46 {Z : State} {a0 : Array Value} (hw : HW a0 Z) : (Jvm.Cond.interfaceMethod "java/lang/Comparable" "java/lang/Comparable" "compareTo" "(Ljava/lang/Object;)I").before a0 Z = true := hw _ (List.mem_of_getElem? (i := 46) rfl)
theorem Wd47 {Z : State} {a0 : Array Value} (hw : HW a0 Z) : (Jvm.Cond.selects "java/lang/Integer" Y14 Y12).before a0 Z = true := hw _ (List.mem_of_getElem? (i := 47) rfl)
theorem Wd48 {Z : State} {a0 : Array Value} (hw : HW a0 Z) : (Jvm.Cond.instanceMethod Y12).before a0 Z = true := hw _ (List.mem_of_getElem? (i := 48) rfl)
theorem Wd49 {Z : State} {a0 : Array Value} (hw : HW a0 Z) : (Jvm.Cond.publicMethod Y12).before a0 Z = true := hw _ (List.mem_of_getElem? (i := 49) rfl)
theorem Wd50 {Z : State} {a0 : Array Value} (hw : HW a0 Z) : (Jvm.Cond.unhidden "java/lang/Integer" "compareTo" "(Ljava/lang/Object;)I").before a0 Z = true := hw _ (List.mem_of_getElem? (i := 50) rfl)
theorem Wd51 {Z : State} {a0 : Array Value} (hw : HW a0 Z) : (Jvm.Cond.code Y12 jdk_33_method_63_code 2 (Option.some FieldType.int)).before a0 Z = true := hw _ (List.mem_of_getElem? (i := 51) rfl)
theorem Wd52 {Z : State} {a0 : Array Value} (hw : HW a0 Z) : (Jvm.Cond.classLink "java/lang/Integer" 1 "java/lang/Integer").before a0 Z = true := hw _ (List.mem_of_getElem? (i := 52) rfl)
theorem Wd54 {Z : State} {a0 : Array Value} (hw : HW a0 Z) : (Jvm.Cond.methodLink "java/lang/Integer" 284 Y11).before a0 Z = true := hw _ (List.mem_of_getElem? (i := 54) rfl)
theorem Wd55 {Z : State} {a0 : Array Value} (hw : HW a0 Z) : (Jvm.Cond.declares Y11).before a0 Z = true := hw _ (List.mem_of_getElem? (i := 55) rfl)
theorem Wd56 {Z : State} {a0 : Array Value} (hw : HW a0 Z) : (Jvm.Cond.instanceMethod Y11).before a0 Z = true := hw _ (List.mem_of_getElem? (i := 56) rfl)
theorem Wd57 {Z : State} {a0 : Array Value} (hw : HW a0 Z) : (Jvm.Cond.selects "java/lang/Integer" Y11 Y11).before a0 Z = true := hw _ (List.mem_of_getElem? (i := 57) rfl)
theorem Wd58 {Z : State} {a0 : Array Value} (hw : HW a0 Z) : (Jvm.Cond.code Y11 jdk_33_method_39_code 2 (Option.some FieldType.int)).before a0 Z = true := hw _ (List.mem_of_getElem? (i := 58) rfl)
theorem Wd59 {Z : State} {a0 : Array Value} (hw : HW a0 Z) : (Jvm.Cond.fieldLink "java/lang/Integer" 205 "java/lang/Integer" "value" "I").before a0 Z = true := hw _ (List.mem_of_getElem? (i := 59) rfl)
theorem Wd60 {Z : State} {a0 : Array Value} (hw : HW a0 Z) : (Jvm.Cond.laysFinal "java/lang/Integer" "java/lang/Integer" "value" "I").before a0 Z = true := hw _ (List.mem_of_getElem? (i := 60) rfl)
theorem Wd61 {Z : State} {a0 : Array Value} (hw : HW a0 Z) : (Jvm.Cond.methodLink "java/lang/Integer" 259 Y10).before a0 Z = true := hw _ (List.mem_of_getElem? (i := 61) rfl)
theorem Wd62 {Z : State} {a0 : Array Value} (hw : HW a0 Z) : (Jvm.Cond.static Y10).before a0 Z = true := hw _ (List.mem_of_getElem? (i := 62) rfl)
theorem Wd63 {Z : State} {a0 : Array Value} (hw : HW a0 Z) : (Jvm.Cond.code Y10 jdk_33_method_40_code 2 (Option.some FieldType.int)).before a0 Z = true := hw _ (List.mem_of_getElem? (i := 63) rfl)
theorem Wd64 {Z : State} {a0 : Array Value} (hw : HW a0 Z) : (Jvm.Cond.methodLink "com/example/rosewood/rosewood/RosewoodMap" 233 Y16).before a0 Z = true := hw _ (List.mem_of_getElem? (i := 64) rfl)
theorem Wd65 {Z : State} {a0 : Array Value} (hw : HW a0 Z) : (Jvm.Cond.declares Y16).before a0 Z = true := hw _ (List.mem_of_getElem? (i := 65) rfl)
theorem Wd66 {Z : State} {a0 : Array Value} (hw : HW a0 Z) : (Jvm.Cond.instanceMethod Y16).before a0 Z = true := hw _ (List.mem_of_getElem? (i := 66) rfl)
theorem Wd67 {Z : State} {a0 : Array Value} (hw : HW a0 Z) : (Jvm.Cond.selects "com/example/rosewood/rosewood/RosewoodMap" Y16 Y16).before a0 Z = true := hw _ (List.mem_of_getElem? (i := 67) rfl)
theorem Wd68 {Z : State} {a0 : Array Value} (hw : HW a0 Z) : (Jvm.Cond.code Y16 prog_7_method_51_code 4 (Option.some (FieldType.object "com/example/rosewood/rosewood/RosewoodMap$Node"))).before a0 Z = true := hw _ (List.mem_of_getElem? (i := 68) rfl)
theorem Wd69 {Z : State} {a0 : Array Value} (hw : HW a0 Z) : (Jvm.Cond.classLink "com/example/rosewood/rosewood/RosewoodMap" 31 "com/example/rosewood/rosewood/RosewoodMap$Node").before a0 Z = true := hw _ (List.mem_of_getElem? (i := 69) rfl)
theorem Wd70 {Z : State} {a0 : Array Value} (hw : HW a0 Z) : (Jvm.Cond.instantiable "com/example/rosewood/rosewood/RosewoodMap$Node" 6).before a0 Z = true := hw _ (List.mem_of_getElem? (i := 70) rfl)
theorem Wd71 {Z : State} {a0 : Array Value} (hw : HW a0 Z) : (Jvm.Cond.initialized "com/example/rosewood/rosewood/RosewoodMap$Node").before a0 Z = true := hw _ (List.mem_of_getElem? (i := 71) rfl)
theorem Wd72 {Z : State} {a0 : Array Value} (hw : HW a0 Z) : (Jvm.Cond.methodLink "com/example/rosewood/rosewood/RosewoodMap" 199 Y15).before a0 Z = true := hw _ (List.mem_of_getElem? (i := 72) rfl)
theorem Wd73 {Z : State} {a0 : Array Value} (hw : HW a0 Z) : (Jvm.Cond.instanceMethod Y15).before a0 Z = true := hw _ (List.mem_of_getElem? (i := 73) rfl)
theorem Wd74 {Z : State} {a0 : Array Value} (hw : HW a0 Z) : (Jvm.Cond.code Y15 prog_8_method_1_code 4 (Option.none : Option FieldType)).before a0 Z = true := hw _ (List.mem_of_getElem? (i := 74) rfl)
theorem Wd75 {Z : State} {a0 : Array Value} (hw : HW a0 Z) : (Jvm.Cond.methodLink "com/example/rosewood/rosewood/RosewoodMap$Node" 3 Y38).before a0 Z = true := hw _ (List.mem_of_getElem? (i := 75) rfl)
theorem Wd76 {Z : State} {a0 : Array Value} (hw : HW a0 Z) : (Jvm.Cond.constant "com/example/rosewood/rosewood/RosewoodMap$Node" 9 (-2147483648 : Int32)).before a0 Z = true := hw _ (List.mem_of_getElem? (i := 76) rfl)
theorem Wd77 {Z : State} {a0 : Array Value} (hw : HW a0 Z) : (Jvm.Cond.fieldLink "com/example/rosewood/rosewood/RosewoodMap$Node" 10 "com/example/rosewood/rosewood/RosewoodMap$Node" "redAndLeftCount" "I").before a0 Z = true := hw _ (List.mem_of_getElem? (i := 77) rfl)
theorem Wd78 {Z : State} {a0 : Array Value} (hw : HW a0 Z) : (Jvm.Cond.lays "com/example/rosewood/rosewood/RosewoodMap$Node" "com/example/rosewood/rosewood/RosewoodMap$Node" "redAndLeftCount" "I").before a0 Z = true := hw _ (List.mem_of_getElem? (i := 78) rfl)
theorem Wd79 {Z : State} {a0 : Array Value} (hw : HW a0 Z) : (Jvm.Cond.fieldLink "com/example/rosewood/rosewood/RosewoodMap$Node" 16 "com/example/rosewood/rosewood/RosewoodMap$Node" "key" "Ljava/lang/Object;").before a0 Z = true := hw _ (List.mem_of_getElem? (i := 79) rfl)
theorem Wd80 {Z : State} {a0 : Array Value} (hw : HW a0 Z) : (Jvm.Cond.lays "com/example/rosewood/rosewood/RosewoodMap$Node" "com/example/rosewood/rosewood/RosewoodMap$Node" "key" "Ljava/lang/Object;").before a0 Z = true := hw _ (List.mem_of_getElem? (i := 80) rfl)
theorem Wd81 {Z : State} {a0 : Array Value} (hw : HW a0 Z) : (Jvm.Cond.fieldLink "com/example/rosewood/rosewood/RosewoodMap$Node" 20 "com/example/rosewood/rosewood/RosewoodMap$Node" "value" "Ljava/lang/Object;").before a0 Z = true := hw _ (List.mem_of_getElem? (i := 81) rfl)
theorem Wd82 {Z : State} {a0 : Array Value} (hw : HW a0 Z) : (Jvm.Cond.lays "com/example/rosewood/rosewood/RosewoodMap$Node" "com/example/rosewood/rosewood/RosewoodMap$Node" "value" "Ljava/lang/Object;").before a0 Z = true := hw _ (List.mem_of_getElem? (i := 82) rfl)
theorem Wd83 {Z : State} {a0 : Array Value} (hw : HW a0 Z) : (Jvm.Cond.fieldLink "com/example/rosewood/rosewood/RosewoodMap$Node" 23 "com/example/rosewood/rosewood/RosewoodMap$Node" "parent" "Lcom/example/rosewood/rosewood/RosewoodMap$Node;").before a0 Z = true := hw _ (List.mem_of_getElem? (i := 83) rfl)
theorem Wd84 {Z : State} {a0 : Array Value} (hw : HW a0 Z) : (Jvm.Cond.lays "com/example/rosewood/rosewood/RosewoodMap$Node" "com/example/rosewood/rosewood/RosewoodMap$Node" "parent" "Lcom/example/rosewood/rosewood/RosewoodMap$Node;").before a0 Z = true := hw _ (List.mem_of_getElem? (i := 84) rfl)
theorem Wd85 {Z : State} {a0 : Array Value} (hw : HW a0 Z) : (Jvm.Cond.methodLink "com/example/rosewood/rosewood/RosewoodMap" 237 Y17).before a0 Z = true := hw _ (List.mem_of_getElem? (i := 85) rfl)
theorem Wd86 {Z : State} {a0 : Array Value} (hw : HW a0 Z) : (Jvm.Cond.static Y17).before a0 Z = true := hw _ (List.mem_of_getElem? (i := 86) rfl)
theorem Wd87 {Z : State} {a0 : Array Value} (hw : HW a0 Z) : (Jvm.Cond.code Y17 prog_7_method_82_code 2 (Option.none : Option FieldType)).before a0 Z = true := hw _ (List.mem_of_getElem? (i := 87) rfl)
theorem Wd88 {Z : State} {a0 : Array Value} (hw : HW a0 Z) : (Jvm.Cond.fieldLink "com/example/rosewood/rosewood/RosewoodMap" 285 "com/example/rosewood/rosewood/RosewoodMap$Node" "redAndLeftCount" "I").before a0 Z = true := hw _ (List.mem_of_getElem? (i := 88) rfl)
theorem Wd89 {Z : State} {a0 : Array Value} (hw : HW a0 Z) : (Jvm.Cond.constant "com/example/rosewood/rosewood/RosewoodMap" 289 (2147483647 : Int32)).before a0 Z = true := hw _ (List.mem_of_getElem? (i := 89) rfl)
theorem Wd90 {Z : State} {a0 : Array Value} (hw : HW a0 Z) : (Jvm.Cond.fieldLink "com/example/rosewood/rosewood/RosewoodMap" 18 "com/example/rosewood/rosewood/RosewoodMap" "size" "I").before a0 Z = true := hw _ (List.mem_of_getElem? (i := 90) rfl)
theorem Wd91 {Z : State} {a0 : Array Value} (hw : HW a0 Z) : (Jvm.Cond.lays "com/example/rosewood/rosewood/RosewoodMap" "com/example/rosewood/rosewood/RosewoodMap" "size" "I").before a0 Z = true := hw _ (List.mem_of_getElem? (i := 91) rfl)
theorem Wd92 {Z : State} {a0 : Array Value} (hw : HW a0 Z) : (Jvm.Cond.fieldLink "com/example/rosewood/rosewood/RosewoodMap" 51 "com/example/rosewood/rosewood/RosewoodMap" "modCount" "I").before a0 Z = true := hw _ (List.mem_of_getElem? (i := 92) rfl)
theorem Wd93 {Z : State} {a0 : Array Value} (hw : HW a0 Z) : (Jvm.Cond.lays "com/example/rosewood/rosewood/RosewoodMap" "com/example/rosewood/rosewood/RosewoodMap" "modCount" "I").before a0 Z = true := hw _ (List.mem_of_getElem? (i := 93) rfl)
theorem Wd94 {Z : State} {a0 : Array Value} (hw : HW a0 Z) : (Jvm.Cond.fieldLink "com/example/rosewood/rosewood/RosewoodMap" 92 "com/example/rosewood/rosewood/RosewoodMap$Node" "key" "Ljava/lang/Object;").before a0 Z = true := hw _ (List.mem_of_getElem? (i := 94) rfl)
theorem Wd95 {Z : State} {a0 : Array Value} (hw : HW a0 Z) : (Jvm.Cond.fieldLink "com/example/rosewood/rosewood/RosewoodMap" 211 "com/example/rosewood/rosewood/RosewoodMap$Node" "left" "Lcom/example/rosewood/rosewood/RosewoodMap$Node;").before a0 Z = true := hw _ (List.mem_of_getElem? (i := 95) rfl)
theorem Wd96 {Z : State} {a0 : Array Value} (hw : HW a0 Z) : (Jvm.Cond.lays "com/example/rosewood/rosewood/RosewoodMap$Node" "com/example/rosewood/rosewood/RosewoodMap$Node" "left" "Lcom/example/rosewood/rosewood/RosewoodMap$Node;").before a0 Z = true := hw _ (List.mem_of_getElem? (i := 96) rfl)
theorem Wd97 {Z : State} {a0 : Array Value} (hw : HW a0 Z) : (Jvm.Cond.fieldLink "com/example/rosewood/rosewood/RosewoodMap" 214 "com/example/rosewood/rosewood/RosewoodMap$Node" "right" "Lcom/example/rosewood/rosewood/RosewoodMap$Node;").before a0 Z = true := hw _ (List.mem_of_getElem? (i := 97) rfl)
theorem Wd98 {Z : State} {a0 : Array Value} (hw : HW a0 Z) : (Jvm.Cond.lays "com/example/rosewood/rosewood/RosewoodMap$Node" "com/example/rosewood/rosewood/RosewoodMap$Node" "right" "Lcom/example/rosewood/rosewood/RosewoodMap$Node;").before a0 Z = true := hw _ (List.mem_of_getElem? (i := 98) rfl)
theorem Wd99 {Z : State} {a0 : Array Value} (hw : HW a0 Z) : (Jvm.Cond.methodLink "com/example/rosewood/rosewood/RosewoodMap" 121 Y7).before a0 Z = true := hw _ (List.mem_of_getElem? (i := 99) rfl)
theorem Wd100 {Z : State} {a0 : Array Value} (hw : HW a0 Z) : (Jvm.Cond.static Y7).before a0 Z = true := hw _ (List.mem_of_getElem? (i := 100) rfl)
theorem Wd101 {Z : State} {a0 : Array Value} (hw : HW a0 Z) : (Jvm.Cond.code Y7 prog_7_method_76_code 1 (Option.some (FieldType.object "java/lang/Object"))).before a0 Z = true := hw _ (List.mem_of_getElem? (i := 101) rfl)
theorem Wd102 {Z : State} {a0 : Array Value} (hw : HW a0 Z) : (Jvm.Cond.methodLink "com/example/rosewood/rosewood/RosewoodMap" 241 Y23).before a0 Z = true := hw _ (List.mem_of_getElem? (i := 102) rfl)
theorem Wd103 {Z : State} {a0 : Array Value} (hw : HW a0 Z) : (Jvm.Cond.declares Y23).before a0 Z = true := hw _ (List.mem_of_getElem? (i := 103) rfl)
theorem Wd104 {Z : State} {a0 : Array Value} (hw : HW a0 Z) : (Jvm.Cond.instanceMethod Y23).before a0 Z = true := hw _ (List.mem_of_getElem? (i := 104) rfl)
theorem Wd105 {Z : State} {a0 : Array Value} (hw : HW a0 Z) : (Jvm.Cond.selects "com/example/rosewood/rosewood/RosewoodMap" Y23 Y23).before a0 Z = true := hw _ (List.mem_of_getElem? (i := 105) rfl)
theorem Wd106 {Z : State} {a0 : Array Value} (hw : HW a0 Z) : (Jvm.Cond.code Y23 prog_7_method_55_code 2 (Option.none : Option FieldType)).before a0 Z = true := hw _ (List.mem_of_getElem? (i := 106) rfl)
theorem Wd107 {Z : State} {a0 : Array Value} (hw : HW a0 Z) : (Jvm.Cond.methodLink "com/example/rosewood/rosewood/RosewoodMap" 244 Y25).before a0 Z = true := hw _ (List.mem_of_getElem? (i := 107) rfl)
theorem Wd108 {Z : State} {a0 : Array Value} (hw : HW a0 Z) : (Jvm.Cond.instanceMethod Y25).before a0 Z = true := hw _ (List.mem_of_getElem? (i := 108) rfl)
theorem Wd109 {Z : State} {a0 : Array Value} (hw : HW a0 Z) : (Jvm.Cond.privateMethod Y25).before a0 Z = true := hw _ (List.mem_of_getElem? (i := 109) rfl)
theorem Wd110 {Z : State} {a0 : Array Value} (hw : HW a0 Z) : (Jvm.Cond.code Y25 prog_7_method_90_code 6 (Option.none : Option FieldType)).before a0 Z = true := hw _ (List.mem_of_getElem? (i := 110) rfl)
theorem Wd111 {Z : State} {a0 : Array Value} (hw : HW a0 Z) : (Jvm.Cond.fieldLink "com/example/rosewood/rosewood/RosewoodMap" 282 "com/example/rosewood/rosewood/RosewoodMap$Node" "parent" "Lcom/example/rosewood/rosewood/RosewoodMap$Node;").before a0 Z = true := hw _ (List.mem_of_getElem? (i := 111) rfl)
theorem Wd112 {Z : State} {a0 : Array Value} (hw : HW a0 Z) : (Jvm.Cond.methodLink "com/example/rosewood/rosewood/RosewoodMap" 300 Y24).before a0 Z = true := hw _ (List.mem_of_getElem? (i := 112) rfl)
theorem Wd113 {Z : State} {a0 : Array Value} (hw : HW a0 Z) : (Jvm.Cond.static Y24).before a0 Z = true := hw _ (List.mem_of_getElem? (i := 113) rfl)
theorem Wd114 {Z : State} {a0 : Array Value} (hw : HW a0 Z) : (Jvm.Cond.code Y24 prog_7_method_81_code 1 (Option.some FieldType.boolean)).before a0 Z = true := hw _ (List.mem_of_getElem? (i := 114) rfl)
theorem Wd115 {Z : State} {a0 : Array Value} (hw : HW a0 Z) : (Jvm.Cond.methodLink "com/example/rosewood/rosewood/RosewoodMap" 221 Y22).before a0 Z = true := hw _ (List.mem_of_getElem? (i := 115) rfl)
theorem Wd116 {Z : State} {a0 : Array Value} (hw : HW a0 Z) : (Jvm.Cond.static Y22).before a0 Z = true := hw _ (List.mem_of_getElem? (i := 116) rfl)
theorem Wd117 {Z : State} {a0 : Array Value} (hw : HW a0 Z) : (Jvm.Cond.code Y22 prog_7_method_84_code 2 (Option.none : Option FieldType)).before a0 Z = true := hw _ (List.mem_of_getElem? (i := 117) rfl)
theorem Wd118 {Z : State} {a0 : Array Value} (hw : HW a0 Z) : (Jvm.Cond.methodLink "com/example/rosewood/rosewood/RosewoodMap" 307 Y32).before a0 Z = true := hw _ (List.mem_of_getElem? (i := 118) rfl)
theorem Wd119 {Z : State} {a0 : Array Value} (hw : HW a0 Z) : (Jvm.Cond.instanceMethod Y32).before a0 Z = true := hw _ (List.mem_of_getElem? (i := 119) rfl)
theorem Wd120 {Z : State} {a0 : Array Value} (hw : HW a0 Z) : (Jvm.Cond.privateMethod Y32).before a0 Z = true := hw _ (List.mem_of_getElem? (i := 120) rfl)
theorem Wd121 {Z : State} {a0 : Array Value} (hw : HW a0 Z) : (Jvm.Cond.code Y32 prog_7_method_89_code 3 (Option.none : Option FieldType)).before a0 Z = true := hw _ (List.mem_of_getElem? (i := 121) rfl)
theorem Wd122 {Z : State} {a0 : Array Value} (hw : HW a0 Z) : (Jvm.Cond.methodLink "com/example/rosewood/rosewood/RosewoodMap" 293 Y29).before a0 Z = true := hw _ (List.mem_of_getElem? (i := 122) rfl)
theorem Wd123 {Z : State} {a0 : Array Value} (hw : HW a0 Z) : (Jvm.Cond.instanceMethod Y29).before a0 Z = true := hw _ (List.mem_of_getElem? (i := 123) rfl)
theorem Wd124 {Z : State} {a0 : Array Value} (hw : HW a0 Z) : (Jvm.Cond.privateMethod Y29).before a0 Z = true := hw _ (List.mem_of_getElem? (i := 124) rfl)
theorem Wd125 {Z : State} {a0 : Array Value} (hw : HW a0 Z) : (Jvm.Cond.code Y29 prog_7_method_87_code 4 (Option.none : Option FieldType)).before a0 Z = true := hw _ (List.mem_of_getElem? (i := 125) rfl)
theorem Wd126 {Z : State} {a0 : Array Value} (hw : HW a0 Z) : (Jvm.Cond.methodLink "com/example/rosewood/rosewood/RosewoodMap" 229 Y30).before a0 Z = true := hw _ (List.mem_of_getElem? (i := 126) rfl)
theorem Wd127 {Z : State} {a0 : Array Value} (hw : HW a0 Z) : (Jvm.Cond.static Y30).before a0 Z = true := hw _ (List.mem_of_getElem? (i := 127) rfl)
theorem Wd128 {Z : State} {a0 : Array Value} (hw : HW a0 Z) : (Jvm.Cond.code Y30 prog_7_method_83_code 1 (Option.some FieldType.int)).before a0 Z = true := hw _ (List.mem_of_getElem? (i := 128) rfl)
theorem Wd129 {Z : State} {a0 : Array Value} (hw : HW a0 Z) : (Jvm.Cond.methodLink "com/example/rosewood/rosewood/RosewoodMap" 297 Y31).before a0 Z = true := hw _ (List.mem_of_getElem? (i := 129) rfl)
theorem Wd130 {Z : State} {a0 : Array Value} (hw : HW a0 Z) : (Jvm.Cond.declares Y31).before a0 Z = true := hw _ (List.mem_of_getElem? (i := 130) rfl)
theorem Wd131 {Z : State} {a0 : Array Value} (hw : HW a0 Z) : (Jvm.Cond.instanceMethod Y31).before a0 Z = true := hw _ (List.mem_of_getElem? (i := 131) rfl)
theorem Wd132 {Z : State} {a0 : Array Value} (hw : HW a0 Z) : (Jvm.Cond.selects "com/example/rosewood/rosewood/RosewoodMap" Y31 Y31).before a0 Z = true := hw _ (List.mem_of_getElem? (i := 132) rfl)
theorem Wd133 {Z : State} {a0 : Array Value} (hw : HW a0 Z) : (Jvm.Cond.code Y31 prog_7_method_54_code 2 (Option.none : Option FieldType)).before a0 Z = true := hw _ (List.mem_of_getElem? (i := 133) rfl)
theorem Wd134 {Z : State} {a0 : Array Value} (hw : HW a0 Z) : (Jvm.Cond.constant "com/example/rosewood/rosewood/RosewoodMap" 288 (-2147483648 : Int32)).before a0 Z = true := hw _ (List.mem_of_getElem? (i := 134) rfl)
theorem Wd135 {Z : State} {a0 : Array Value} (hw : HW a0 Z) : (Jvm.Cond.methodLink "com/example/rosewood/rosewood/RosewoodMap" 304 Y34).before a0 Z = true := hw _ (List.mem_of_getElem? (i := 135) rfl)
theorem Wd136 {Z : State} {a0 : Array Value} (hw : HW a0 Z) : (Jvm.Cond.instanceMethod Y34).before a0 Z = true := hw _ (List.mem_of_getElem? (i := 136) rfl)
theorem Wd137 {Z : State} {a0 : Array Value} (hw : HW a0 Z) : (Jvm.Cond.privateMethod Y34).before a0 Z = true := hw _ (List.mem_of_getElem? (i := 137) rfl)
theorem Wd138 {Z : State} {a0 : Array Value} (hw : HW a0 Z) : (Jvm.Cond.code Y34 prog_7_method_88_code 3 (Option.none : Option FieldType)).before a0 Z = true := hw _ (List.mem_of_getElem? (i := 138) rfl)
theorem Wd139 {Z : State} {a0 : Array Value} (hw : HW a0 Z) : (Jvm.Cond.methodLink "com/example/rosewood/rosewood/RosewoodMapClearPinLaw" 20 Y21).before a0 Z = true := hw _ (List.mem_of_getElem? (i := 139) rfl)
theorem Wd140 {Z : State} {a0 : Array Value} (hw : HW a0 Z) : (Jvm.Cond.declares Y21).before a0 Z = true := hw _ (List.mem_of_getElem? (i := 140) rfl)
theorem Wd141 {Z : State} {a0 : Array Value} (hw : HW a0 Z) : (Jvm.Cond.instanceMethod Y21).before a0 Z = true := hw _ (List.mem_of_getElem? (i := 141) rfl)
theorem Wd142 {Z : State} {a0 : Array Value} (hw : HW a0 Z) : (Jvm.Cond.selects "com/example/rosewood/rosewood/RosewoodMap" Y21 Y21).before a0 Z = true := hw _ (List.mem_of_getElem? (i := 142) rfl)
theorem Wd143 {Z : State} {a0 : Array Value} (hw : HW a0 Z) : (Jvm.Cond.code Y21 prog_7_method_10_code 1 (Option.none : Option FieldType)).before a0 Z = true := hw _ (List.mem_of_getElem? (i := 143) rfl)
theorem Wd144 {Z : State} {a0 : Array Value} (hw : HW a0 Z) : (Jvm.Cond.methodLink "com/example/rosewood/rosewood/RosewoodMapClearPinLaw" 23 Y3).before a0 Z = true := hw _ (List.mem_of_getElem? (i := 144) rfl)
theorem Wd145 {Z : State} {a0 : Array Value} (hw : HW a0 Z) : (Jvm.Cond.declares Y3).before a0 Z = true := hw _ (List.mem_of_getElem? (i := 145) rfl)
theorem Wd146 {Z : State} {a0 : Array Value} (hw : HW a0 Z) : (Jvm.Cond.instanceMethod Y3).before a0 Z = true := hw _ (List.mem_of_getElem? (i := 146) rfl)
theorem Wd147 {Z : State} {a0 : Array Value} (hw : HW a0 Z) : (Jvm.Cond.selects "com/example/rosewood/rosewood/RosewoodMap" Y3 Y3).before a0 Z = true := hw _ (List.mem_of_getElem? (i := 147) rfl)
theorem Wd148 {Z : State} {a0 : Array Value} (hw : HW a0 Z) : (Jvm.Cond.code Y3 prog_7_method_4_code 1 (Option.some FieldType.int)).before a0 Z = true := hw _ (List.mem_of_getElem? (i := 148) rfl)
theorem Wd149 {Z : State} {a0 : Array Value} (hw : HW a0 Z) : (Jvm.Cond.methodLink "com/example/rosewood/rosewood/RosewoodMapClearPinLaw" 27 Y4).before a0 Z = true := hw _ (List.mem_of_getElem? (i := 149) rfl)
theorem Wd150 {Z : State} {a0 : Array Value} (hw : HW a0 Z) : (Jvm.Cond.declares Y4).before a0 Z = true := hw _ (List.mem_of_getElem? (i := 150) rfl)
theorem Wd151 {Z : State} {a0 : Array Value} (hw : HW a0 Z) : (Jvm.Cond.instanceMethod Y4).before a0 Z = true := hw _ (List.mem_of_getElem? (i := 151) rfl)
theorem Wd152 {Z : State} {a0 : Array Value} (hw : HW a0 Z) : (Jvm.Cond.selects "com/example/rosewood/rosewood/RosewoodMap" Y4 Y4).before a0 Z = true := hw _ (List.mem_of_getElem? (i := 152) rfl)
theorem Wd153 {Z : State} {a0 : Array Value} (hw : HW a0 Z) : (Jvm.Cond.code Y4 prog_7_method_5_code 1 (Option.some FieldType.boolean)).before a0 Z = true := hw _ (List.mem_of_getElem? (i := 153) rfl)
theorem Wd154 {Z : State} {a0 : Array Value} (hw : HW a0 Z) : (Jvm.Cond.methodLink "com/example/rosewood/rosewood/RosewoodMapClearPinLaw" 31 Y9).before a0 Z = true := hw _ (List.mem_of_getElem? (i := 154) rfl)
theorem Wd155 {Z : State} {a0 : Array Value} (hw : HW a0 Z) : (Jvm.Cond.declares Y9).before a0 Z = true := hw _ (List.mem_of_getElem? (i := 155) rfl)
theorem Wd156 {Z : State} {a0 : Array Value} (hw : HW a0 Z) : (Jvm.Cond.instanceMethod Y9).before a0 Z = true := hw _ (List.mem_of_getElem? (i := 156) rfl)
theorem Wd157 {Z : State} {a0 : Array Value} (hw : HW a0 Z) : (Jvm.Cond.selects "com/example/rosewood/rosewood/RosewoodMap" Y9 Y9).before a0 Z = true := hw _ (List.mem_of_getElem? (i := 157) rfl)
theorem Wd158 {Z : State} {a0 : Array Value} (hw : HW a0 Z) : (Jvm.Cond.code Y9 prog_7_method_7_code 3 (Option.some (FieldType.object "java/lang/Object"))).before a0 Z = true := hw _ (List.mem_of_getElem? (i := 158) rfl)
theorem Wd159 {Z : State} {a0 : Array Value} (hw : HW a0 Z) : (Jvm.Cond.methodLink "com/example/rosewood/rosewood/RosewoodMap" 26 Y8).before a0 Z = true := hw _ (List.mem_of_getElem? (i := 159) rfl)
theorem Wd160 {Z : State} {a0 : Array Value} (hw : HW a0 Z) : (Jvm.Cond.declares Y8).before a0 Z = true := hw _ (List.mem_of_getElem? (i := 160) rfl)
theorem Wd161 {Z : State} {a0 : Array Value} (hw : HW a0 Z) : (Jvm.Cond.instanceMethod Y8).before a0 Z = true := hw _ (List.mem_of_getElem? (i := 161) rfl)
theorem Wd162 {Z : State} {a0 : Array Value} (hw : HW a0 Z) : (Jvm.Cond.selects "com/example/rosewood/rosewood/RosewoodMap" Y8 Y8).before a0 Z = true := hw _ (List.mem_of_getElem? (i := 162) rfl)
theorem Wd163 {Z : State} {a0 : Array Value} (hw : HW a0 Z) : (Jvm.Cond.code Y8 prog_7_method_58_code 10 (Option.some (FieldType.object "com/example/rosewood/rosewood/RosewoodMap$Node"))).before a0 Z = true := hw _ (List.mem_of_getElem? (i := 163) rfl)
theorem Wd164 {Z : State} {a0 : Array Value} (hw : HW a0 Z) : (Jvm.Cond.methodLink "com/example/rosewood/rosewood/RosewoodMap" 208 Y6).before a0 Z = true := hw _ (List.mem_of_getElem? (i := 164) rfl)
theorem Wd165 {Z : State} {a0 : Array Value} (hw : HW a0 Z) : (Jvm.Cond.instanceMethod Y6).before a0 Z = true := hw _ (List.mem_of_getElem? (i := 165) rfl)
theorem Wd166 {Z : State} {a0 : Array Value} (hw : HW a0 Z) : (Jvm.Cond.privateMethod Y6).before a0 Z = true := hw _ (List.mem_of_getElem? (i := 166) rfl)
theorem Wd167 {Z : State} {a0 : Array Value} (hw : HW a0 Z) : (Jvm.Cond.code Y6 prog_7_method_60_code 3 (Option.some (FieldType.object "java/lang/Object"))).before a0 Z = true := hw _ (List.mem_of_getElem? (i := 167) rfl)
theorem Wd168 {Z : State} {a0 : Array Value} (hw : HW a0 Z) : (Jvm.Cond.methodLink "com/example/rosewood/rosewood/RosewoodMap" 60 Y5).before a0 Z = true := hw _ (List.mem_of_getElem? (i := 168) rfl)
theorem Wd169 {Z : State} {a0 : Array Value} (hw : HW a0 Z) : (Jvm.Cond.static Y5).before a0 Z = true := hw _ (List.mem_of_getElem? (i := 169) rfl)
theorem Wd170 {Z : State} {a0 : Array Value} (hw : HW a0 Z) : (Jvm.Cond.initialized "java/util/Objects").before a0 Z = true := hw _ (List.mem_of_getElem? (i := 170) rfl)
theorem Wd171 {Z : State} {a0 : Array Value} (hw : HW a0 Z) : (Jvm.Cond.code Y5 jdk_31_method_10_code 1 (Option.some (FieldType.object "java/lang/Object"))).before a0 Z = true := hw _ (List.mem_of_getElem? (i := 171) rfl)
theorem Wd172 {Z : State} {a0 : Array Value} (hw : HW a0 Z) : (Jvm.Cond.fieldLink "com/example/rosewood/rosewood/RosewoodMap" 30 "com/example/rosewood/rosewood/RosewoodMap$Node" "value" "Ljava/lang/Object;").before a0 Z = true := hw _ (List.mem_of_getElem? (i := 172) rfl)
theorem Wd173 {Z : State} {a0 : Array Value} (hw : HW a0 Z) : (Jvm.Cond.classLink "com/example/rosewood/rosewood/RosewoodMapClearPinLaw" 11 "java/lang/Integer").before a0 Z = true := hw _ (List.mem_of_getElem? (i := 173) rfl)
theorem Wd174 {Z : State} {a0 : Array Value} (hw : HW a0 Z) : (Jvm.Cond.methodLink "com/example/rosewood/rosewood/RosewoodMapClearPinLaw" 35 Y20).before a0 Z = true := hw _ (List.mem_of_getElem? (i := 174) rfl)
theorem Wd175 {Z : State} {a0 : Array Value} (hw : HW a0 Z) : (Jvm.Cond.declares Y20).before a0 Z = true := hw _ (List.mem_of_getElem? (i := 175) rfl)
theorem Wd176 {Z : State} {a0 : Array Value} (hw : HW a0 Z) : (Jvm.Cond.instanceMethod Y20).before a0 Z = true := hw _ (List.mem_of_getElem? (i := 176) rfl)
theorem Wd177 {Z : State} {a0 : Array Value} (hw : HW a0 Z) : (Jvm.Cond.selects "java/lang/Integer" Y20 Y20).before a0 Z = true := hw _ (List.mem_of_getElem? (i := 177) rfl)
theorem Wd178 {Z : State} {a0 : Array Value} (hw : HW a0 Z) : (Jvm.Cond.code Y20 jdk_33_method_27_code 1 (Option.some FieldType.int)).before a0 Z = true := hw _ (List.mem_of_getElem? (i := 178) rfl)
theorem Wd179 {Z : State} {a0 : Array Value} (hw : HW a0 Z) : (Jvm.Cond.instantiable "java/lang/Integer" 1).before a0 Z = true := hw _ (List.mem_of_getElem? (i := 179) rfl)
theorem Wd180 {Z : State} {a0 : Array Value} (hw : HW a0 Z) : (Jvm.Cond.methodLink "java/lang/Integer" 199 Y1).before a0 Z = true := hw _ (List.mem_of_getElem? (i := 180) rfl)
theorem Wd181 {Z : State} {a0 : Array Value} (hw : HW a0 Z) : (Jvm.Cond.instanceMethod Y1).before a0 Z = true := hw _ (List.mem_of_getElem? (i := 181) rfl)
theorem Wd182 {Z : State} {a0 : Array Value} (hw : HW a0 Z) : (Jvm.Cond.code Y1 jdk_33_method_23_code 2 (Option.none : Option FieldType)).before a0 Z = true := hw _ (List.mem_of_getElem? (i := 182) rfl)
theorem Wd183 {Z : State} {a0 : Array Value} (hw : HW a0 Z) : (Jvm.Cond.methodLink "java/lang/Integer" 202 Y0).before a0 Z = true := hw _ (List.mem_of_getElem? (i := 183) rfl)
theorem Wd184 {Z : State} {a0 : Array Value} (hw : HW a0 Z) : (Jvm.Cond.instanceMethod Y0).before a0 Z = true := hw _ (List.mem_of_getElem? (i := 184) rfl)
theorem Wd187 {Z : State} {a0 : Array Value} (hw : HW a0 Z) : (Jvm.Cond.initialized "java/lang/Number").before a0 Z = true := hw _ (List.mem_of_getElem? (i := 187) rfl)
theorem Wd188 {Z : State} {a0 : Array Value} (hw : HW a0 Z) : (Jvm.Cond.code Y0 jdk_18_method_1_code 1 (Option.none : Option FieldType)).before a0 Z = true := hw _ (List.mem_of_getElem? (i := 188) rfl)
theorem Wd189 {Z : State} {a0 : Array Value} (hw : HW a0 Z) : (Jvm.Cond.methodLink "java/lang/Number" 1 Y38).before a0 Z = true := hw _ (List.mem_of_getElem? (i := 189) rfl)
theorem Wd190 {Z : State} {a0 : Array Value} (hw : HW a0 Z) : (Jvm.Cond.methodLink "com/example/rosewood/rosewood/RosewoodMap" 225 Y26).before a0 Z = true := hw _ (List.mem_of_getElem? (i := 190) rfl)
theorem Wd191 {Z : State} {a0 : Array Value} (hw : HW a0 Z) : (Jvm.Cond.static Y26).before a0 Z = true := hw _ (List.mem_of_getElem? (i := 191) rfl)
theorem Wd192 {Z : State} {a0 : Array Value} (hw : HW a0 Z) : (Jvm.Cond.code Y26 prog_7_method_86_code 3 (Option.none : Option FieldType)).before a0 Z = true := hw _ (List.mem_of_getElem? (i := 192) rfl)
theorem Wd193 {Z : State} {a0 : Array Value} (hw : HW a0 Z) : (Jvm.Cond.methodLink "com/example/rosewood/rosewood/RosewoodMap" 40 Y28).before a0 Z = true := hw _ (List.mem_of_getElem? (i := 193) rfl)
theorem Wd194 {Z : State} {a0 : Array Value} (hw : HW a0 Z) : (Jvm.Cond.declares Y28).before a0 Z = true := hw _ (List.mem_of_getElem? (i := 194) rfl)
theorem Wd195 {Z : State} {a0 : Array Value} (hw : HW a0 Z) : (Jvm.Cond.instanceMethod Y28).before a0 Z = true := hw _ (List.mem_of_getElem? (i := 195) rfl)
theorem Wd196 {Z : State} {a0 : Array Value} (hw : HW a0 Z) : (Jvm.Cond.selects "com/example/rosewood/rosewood/RosewoodMap" Y28 Y28).before a0 Z = true := hw _ (List.mem_of_getElem? (i := 196) rfl)
theorem Wd197 {Z : State} {a0 : Array Value} (hw : HW a0 Z) : (Jvm.Cond.code Y28 prog_7_method_52_code 3 (Option.some (FieldType.object "java/lang/Object"))).before a0 Z = true := hw _ (List.mem_of_getElem? (i := 197) rfl)
theorem Wd198 {Z : State} {a0 : Array Value} (hw : HW a0 Z) : (Jvm.Cond.methodLink "com/example/rosewood/rosewood/RosewoodMap" 202 Y27).before a0 Z = true := hw _ (List.mem_of_getElem? (i := 198) rfl)
theorem Wd199 {Z : State} {a0 : Array Value} (hw : HW a0 Z) : (Jvm.Cond.declares Y27).before a0 Z = true := hw _ (List.mem_of_getElem? (i := 199) rfl)
theorem Wd200 {Z : State} {a0 : Array Value} (hw : HW a0 Z) : (Jvm.Cond.instanceMethod Y27).before a0 Z = true := hw _ (List.mem_of_getElem? (i := 200) rfl)
theorem Wd201 {Z : State} {a0 : Array Value} (hw : HW a0 Z) : (Jvm.Cond.selects "com/example/rosewood/rosewood/RosewoodMap$Node" Y27 Y27).before a0 Z = true := hw _ (List.mem_of_getElem? (i := 201) rfl)
theorem Wd202 {Z : State} {a0 : Array Value} (hw : HW a0 Z) : (Jvm.Cond.code Y27 prog_8_method_4_code 3 (Option.some (FieldType.object "java/lang/Object"))).before a0 Z = true := hw _ (List.mem_of_getElem? (i := 202) rfl)
theorem Wd203 {Z : State} {a0 : Array Value} (hw : HW a0 Z) : (Jvm.Cond.methodLink "com/example/rosewood/rosewood/RosewoodMap" 290 Y33).before a0 Z = true := hw _ (List.mem_of_getElem? (i := 203) rfl)
theorem Wd204 {Z : State} {a0 : Array Value} (hw : HW a0 Z) : (Jvm.Cond.static Y33).before a0 Z = true := hw _ (List.mem_of_getElem? (i := 204) rfl)
theorem Wd205 {Z : State} {a0 : Array Value} (hw : HW a0 Z) : (Jvm.Cond.code Y33 prog_7_method_85_code 4 (Option.none : Option FieldType)).before a0 Z = true := hw _ (List.mem_of_getElem? (i := 205) rfl)
section Own
variable {p : Program} {l : Launch} {e : Env} {R : Room} {s : State} {m : MethodId} {args : Array Value} {below : List Frame} {meth : Method} {c : Code} {T : State} {locs : List Loc} {cells slots : Nat}
/-- from U the run comes back to 'below' and its end is as P says -/
def Go (p : Program) (e : Env) (below : List Frame) (U : State) (P : Outcome → State → Prop) : Prop := ∃ s₂ o, Steps p.tables e below U s₂ ∧ s₂.status = .running ∧ Ended s₂ below o ∧ P o s₂
theorem Go.mp {U U' : State} {P : Outcome → State → Prop} (h : ∀ t, Steps p.tables e below U' t → Steps p.tables e below U t) (k : Go p e below U' P) : Go p e below U P := by
  obtain ⟨a, b, c, d⟩ := k; exact ⟨a, b, h _ c, d⟩
/-- how a body ends -/
def FinE (s : State) (kc ks : Nat) (Q : Option Value → Heap → List Loc → Prop) (o : Outcome) (t : State) : Prop := ∃ v L, o = .returned v ∧ Q v t.heap L ∧ FrameEnd s o t L kc ks
/-- a body's contract -/
abbrev Ctr (l : Launch) (y : MethodName) (bytes : ByteArray) (maxL : Nat) (ret : Option FieldType) (ws : List Jvm.Cond) (rm : Room) (Z : State) (as' : Array Value) (h : Heap) (Q : Option Value → Heap → List Loc → Prop) : Prop :=
  MetFree l y (head1 (Jvm.Cond.code y bytes maxL ret :: ws) rm) (fun a U => a = as' ∧ Z.Warmed39 U.vm ∧ U.heap = h) (fun _ _ _ _ _ => True) (fun _ U o U' => ∃ v L, o = .returned v ∧ Q v U'.heap L ∧ FrameEnd U o U' L rm.cells rm.slots)
theorem own_enter {y : MethodName} {bytes : ByteArray} {maxL : Nat} {ret : Option FieldType} {ws : List Jvm.Cond} {rm : Room} {Z : State} {as' : Array Value} {h : Heap} {Q : Option Value → Heap → List Loc → Prop} (hpn : plainName y.cls = true)
    (body : ∀ (p : Program) (e : Env) (s : State) (m : MethodId) (below : List Frame) (meth : Method) (c : Code) (s₁ : State), p.tables.exec = Jvm.exec → c.code = bytes → c.maxLocals = maxL → s.vm.findClass y.cls = some m.cls → meth.name = y.name → meth.sig.returnType = ret → meth.locks = false → Z.Warmed39 s.vm → Stand p l e rm s m as' below meth c s₁ [] 0 0 → s₁.heap = h →
      Go p e below (s₁.setTop (entryFrame m as' maxL)) (FinE s rm.cells rm.slots Q)) : Ctr l y bytes maxL ret ws rm Z as' h Q := by
  refine MetFree.of_bodySF (plainFor_of_name hpn) hisR ?_
  intro p e s m args below meth c s₁ Bd hml0 hP hK
  obtain ⟨rfl, hZ, hh⟩ := hP
  exact body p e s m below meth c s₁ Bd.exec Bd.bytes hml0 (findClass_of_methodNamed Bd.named) (name_of_methodNamed Bd.named Bd.method).1 Bd.returns Bd.notSynchronized hZ (Stand.of_body Bd) (by rw [← hh, Bd.state]; rfl)
theorem own_retN (X : Stand p l e R s m args below meth c T locs cells slots) (hx : p.tables.exec = Jvm.exec) {t : FieldType} (hret : meth.sig.returnType = some t) (hlk : meth.locks = false) (ht : t = .boolean ∨ t = .byte ∨ t = .char ∨ t = .short) {kc ks : Nat} {Q : Option Value → Heap → List Loc → Prop} {pc : Nat} {Ls : Array Slot} {z : Int32} {rest : List Value}
    (hd : decode c.code pc = .ok (.ireturn, 1)) (hk : cells ≤ kc) (hn : slots ≤ ks) (hq : Q (some (.int (nar t z))) T.heap locs) : Go p e below (T.setTop (mkF m pc Ls (.int z :: rest))) (FinE s kc ks Q) := by
  obtain ⟨fs, hr, hrun, hended, hW, hsame⟩ := X.leave (v := some (.int (nar t z))) (fun h => by rw [hret] at h; cases h) hlk
  exact ⟨_, _, retN X hx hret ht hd hr, hrun, hended, _, _, rfl, hq, ⟨_, rfl⟩, hW, hsame.mono hk hn⟩
theorem own_retZ (X : Stand p l e R s m args below meth c T locs cells slots) (hx : p.tables.exec = Jvm.exec) (hret : meth.sig.returnType = some .boolean) (hlk : meth.locks = false) {kc ks : Nat} {Q : Option Value → Heap → List Loc → Prop} {pc : Nat} {Ls : Array Slot} {z : Int32} {rest : List Value}
    (hd : decode c.code pc = .ok (.ireturn, 1)) (hk : cells ≤ kc) (hn : slots ≤ ks) (hz : z &&& 1 = z) (hq : Q (some (.int z)) T.heap locs) : Go p e below (T.setTop (mkF m pc Ls (.int z :: rest))) (FinE s kc ks Q) :=
  own_retN X hx hret hlk (Or.inl rfl) hd hk hn (by show Q (some (.int (z &&& 1))) T.heap locs; rw [hz]; exact hq)
theorem own_retW (X : Stand p l e R s m args below meth c T locs cells slots) (hx : p.tables.exec = Jvm.exec) {t : FieldType} {w : Value} {i : Instr} (hret : meth.sig.returnType = some t) (hlk : meth.locks = false) (hw : narrow t w = w)
    (hi : (i = .ireturn ∧ (t = .int ∨ t = .boolean ∨ t = .byte ∨ t = .char ∨ t = .short) ∧ ∃ z, w = .int z) ∨ (i = .lreturn ∧ t = .long ∧ ∃ z, w = .long z) ∨ (i = .dreturn ∧ t = .double ∧ ∃ z, w = .double z) ∨ (i = .freturn ∧ t = .float ∧ ∃ z, w = .float z) ∨ (i = .areturn ∧ t.isReference = true ∧ w.isRef = true))
    {kc ks : Nat} {Q : Option Value → Heap → List Loc → Prop} {pc : Nat} {Ls : Array Slot} {rest : List Value}
    (hd : decode c.code pc = .ok (i, 1)) (hk : cells ≤ kc) (hn : slots ≤ ks) (hq : Q (some w) T.heap locs) : Go p e below (T.setTop (mkF m pc Ls (w :: rest))) (FinE s kc ks Q) := by
  obtain ⟨fs, hr, hrun, hended, hW, hsame⟩ := X.leave (v := some w) (fun h => by rw [hret] at h; cases h) hlk
  exact ⟨_, _, retOut X hx hret hw hi hd hr, hrun, hended, _, _, rfl, hq, ⟨_, rfl⟩, hW, hsame.mono hk hn⟩
theorem own_retI (X : Stand p l e R s m args below meth c T locs cells slots) (hx : p.tables.exec = Jvm.exec) (hret : meth.sig.returnType = some .int) (hlk : meth.locks = false) {kc ks : Nat} {Q : Option Value → Heap → List Loc → Prop} {pc : Nat} {Ls : Array Slot} {z : Int32} {rest : List Value}
    (hd : decode c.code pc = .ok (.ireturn, 1)) (hk : cells ≤ kc) (hn : slots ≤ ks) (hq : Q (some (.int z)) T.heap locs) : Go p e below (T.setTop (mkF m pc Ls (.int z :: rest))) (FinE s kc ks Q) :=
  own_retW X hx hret hlk rfl (Or.inl ⟨rfl, Or.inl rfl, _, rfl⟩) hd hk hn hq
theorem own_retA (X : Stand p l e R s m args below meth c T locs cells slots) (hx : p.tables.exec = Jvm.exec) {t : FieldType} (hret : meth.sig.returnType = some t) (hlk : meth.locks = false) (ht : t.isReference = true) {w : Value} (hw : w.isRef = true) {kc ks : Nat} {Q : Option Value → Heap → List Loc → Prop} {pc : Nat} {Ls : Array Slot} {rest : List Value}
    (hd : decode c.code pc = .ok (.areturn, 1)) (hk : cells ≤ kc) (hn : slots ≤ ks) (hq : Q (some w) T.heap locs) : Go p e below (T.setTop (mkF m pc Ls (w :: rest))) (FinE s kc ks Q) :=
  own_retW X hx hret hlk (by cases t <;> first | (cases ht; done) | (cases w <;> first | rfl | cases hw)) (Or.inr (Or.inr (Or.inr (Or.inr ⟨rfl, ht, hw⟩)))) hd hk hn hq
theorem own_retV (X : Stand p l e R s m args below meth c T locs cells slots) (hx : p.tables.exec = Jvm.exec) (hret : meth.sig.returnType = none) (hlk : meth.locks = false) {kc ks : Nat} {Q : Option Value → Heap → List Loc → Prop} {pc : Nat} {Ls : Array Slot}
    (hd : decode c.code pc = .ok (.return_, 1)) (hk : cells ≤ kc) (hn : slots ≤ ks) (hq : Q none T.heap locs) : Go p e below (T.setTop (mkF m pc Ls [])) (FinE s kc ks Q) := by
  obtain ⟨fs, hr, hrun, hended, hW, hsame⟩ := X.leave (v := none) (fun _ => rfl) hlk
  exact ⟨_, _, X.returnOut hx hret hd hr, hrun, hended, _, _, rfl, hq, ⟨_, rfl⟩, hW, hsame.mono hk hn⟩
/-- the wide end (behind a cold ldc of a String) -/
def FinW (s : State) (kc ks : Nat) (Q : Option Value → Heap → List Loc → Prop) (o : Outcome) (t : State) : Prop := ∃ v L, o = .returned v ∧ Q v t.heap L ∧ ReturnedEndW s o t L kc ks
abbrev CtrW (l : Launch) (y : MethodName) (bytes : ByteArray) (maxL : Nat) (ret : Option FieldType) (ws : List Jvm.Cond) (rm : Room) (Z : State) (as' : Array Value) (h : Heap) (Q : Option Value → Heap → List Loc → Prop) : Prop :=
  MetFree l y (head1 (Jvm.Cond.code y bytes maxL ret :: ws) rm) (fun a U => a = as' ∧ Z.Warmed39 U.vm ∧ U.heap = h) (fun _ _ _ _ _ => True) (fun _ U o U' => ∃ v L, o = .returned v ∧ Q v U'.heap L ∧ ReturnedEndW U o U' L rm.cells rm.slots)
theorem own_enterW {y : MethodName} {bytes : ByteArray} {maxL : Nat} {ret : Option FieldType} {ws : List Jvm.Cond} {rm : Room} {Z : State} {as' : Array Value} {h : Heap} {Q : Option Value → Heap → List Loc → Prop} (hpn : plainName y.cls = true)
    (body : ∀ (p : Program) (e : Env) (s : State) (m : MethodId) (below : List Frame) (meth : Method) (c : Code) (s₁ : State), p.tables.exec = Jvm.exec → c.code = bytes → c.maxLocals = maxL → s.vm.findClass y.cls = some m.cls → meth.name = y.name → meth.sig.returnType = ret → meth.locks = false → Z.Warmed39 s.vm → Stand p l e rm s m as' below meth c s₁ [] 0 0 → s₁.heap = h →
      Go p e below (s₁.setTop (entryFrame m as' maxL)) (FinW s rm.cells rm.slots Q)) : CtrW l y bytes maxL ret ws rm Z as' h Q := by
  refine MetFree.of_bodySF (plainFor_of_name hpn) hisR ?_
  intro p e s m args below meth c s₁ Bd hml0 hP hK
  obtain ⟨rfl, hZ, hh⟩ := hP
  exact body p e s m below meth c s₁ Bd.exec Bd.bytes hml0 (findClass_of_methodNamed Bd.named) (name_of_methodNamed Bd.named Bd.method).1 Bd.returns Bd.notSynchronized hZ (Stand.of_body Bd) (by rw [← hh, Bd.state]; rfl)
theorem own_retZW {vm1 : Vm} {k1 : Nat} (X : Stand p l e R (s.setVm vm1) m args below meth c T locs cells slots) (hx : p.tables.exec = Jvm.exec) (hret : meth.sig.returnType = some .boolean) (hlk : meth.locks = false) (hS : s.Since vm1 k1) (hB : k1 ≤ T.heap.size) {kc ks : Nat} {Q : Option Value → Heap → List Loc → Prop} {pc : Nat} {Ls : Array Slot} {z : Int32} {rest : List Value}
    (hd : decode c.code pc = .ok (.ireturn, 1)) (hk : cells ≤ kc) (hn : slots ≤ ks) (hz : z &&& 1 = z) (hq : Q (some (.int z)) T.heap locs) : Go p e below (T.setTop (mkF m pc Ls (.int z :: rest))) (FinW s kc ks Q) := by
  obtain ⟨fs, hr, hrun, hended, h1, h2, h3, h4⟩ := X.leaveW hS hB (v := some (.int (nar .boolean z))) (fun h => by rw [hret] at h; cases h) hlk
  have e1 : nar .boolean z = z := hz
  exact ⟨_, _, retN X hx hret (Or.inl rfl) hd hr, hrun, hended, _, _, rfl, by rw [e1]; exact hq, h1, h2, h3, h4.mono hk hn⟩
section Calls
variable {Z : State} {a0 : Array Value} {h : Heap} {y : MethodName} {bytes : ByteArray} {maxL : Nat} {ret : Option FieldType} {rm : Room} {as' : Array Value} {Q : Option Value → Heap → List Loc → Prop} {own : String} {index : Nat} {pc : Nat} {Ls : Array Slot} {st argsL rest : List Value} {ps : List FieldType} {r : Option FieldType}
theorem own_callS (X : Stand p l e R s m args below meth c T locs cells slots) (hx : p.tables.exec = Jvm.exec) (hZ : Z.Warmed39 s.vm) (hown : s.vm.findClass own = some m.cls) (w1 : (Jvm.Cond.methodLink own index y).before a0 Z = true) (w2 : (Jvm.Cond.static y).before a0 Z = true) (w3 : (Jvm.Cond.initialized y.cls).before a0 Z = true) (w4 : (Jvm.Cond.code y bytes maxL ret).before a0 Z = true)
    (hy : y.cls ≠ "java/lang/invoke/MethodHandle" ∧ y.cls ≠ "java/lang/invoke/VarHandle") (hM : Ctr l y bytes maxL ret [] rm Z as' h Q) (eT : T.heap = h) (hpd : parseMethodDescriptor y.desc = some ⟨ps, r⟩) (hd : decode c.code pc = .ok (.invokestatic index, 3)) (hsize : Ls.size = c.maxLocals)
    (hlen : argsL.length = ps.length) (hst : st = argsL.reverse ++ rest) (has : argsL.toArray = as') {W : Nat} (hW : (rest.map fun v => v.category).sum ≤ W) (hR : rm.frames + 1 ≤ R.frames ∧ W + (maxL + 11) + rm.locals ≤ R.locals ∧ cells + rm.cells ≤ R.cells ∧ slots + rm.slots ≤ R.slots) :
    ∃ v T' L, Stand p l e R s m args below meth c T' (locs ++ L) (cells + rm.cells) (slots + rm.slots) ∧ Q v T'.heap L ∧ ∀ target, Steps p.tables e below (T'.setTop (mkF m (pc + 3) Ls (v.toList ++ rest))) target → Steps p.tables e below (T.setTop (mkF m pc Ls st)) target := by
  obtain ⟨hf, hl, hc, hs⟩ := hR
  obtain ⟨v, _, ⟨T', L', k', n'⟩, -, X', ⟨Lc, hQ, l1, y1, z1⟩, st'⟩ := Jvm.LawKit.callS X hx (y := y) hown (mvT hZ w1) (mvT hZ w2) (mvT hZ w3) (mvT hZ w4) hy (backOf (W := W) hM hZ w4 w3 hf hl) (g := mkF m pc Ls st) rfl hsize (argsL := argsL) (rest := rest) (lenOf hpd hlen) hst (by show 2 * 0 + _ ≤ _; omega) hd (fun _ _ => ⟨has, eT, hc, hs⟩)
  dsimp only [Pt.U, Pt.locs, Pt.cells, Pt.slots] at X' l1 y1 z1 st' hQ
  subst l1 y1 z1
  exact ⟨v, T', Lc, X', hQ, st'⟩
theorem own_callV {C : String} {b : Addr} (X : Stand p l e R s m args below meth c T locs cells slots) (hx : p.tables.exec = Jvm.exec) (hZ : Z.Warmed39 s.vm) (hown : s.vm.findClass own = some m.cls) (w1 : (Jvm.Cond.methodLink own index y).before a0 Z = true) (w2 : (Jvm.Cond.declares y).before a0 Z = true) (w3 : (Jvm.Cond.selects C y y).before a0 Z = true) (w4 : (Jvm.Cond.instanceMethod y).before a0 Z = true)
    (w5 : (Jvm.Cond.code y bytes maxL ret).before a0 Z = true) (w6 : (Jvm.Cond.initialized y.cls).before a0 Z = true) (hy : y.cls ≠ "java/lang/invoke/MethodHandle" ∧ y.cls ≠ "java/lang/invoke/VarHandle") (hM : Ctr l y bytes maxL ret [] rm Z as' h Q) (eT : T.heap = h) (E : Exa Z h b C) (hpd : parseMethodDescriptor y.desc = some ⟨ps, r⟩) (hd : decode c.code pc = .ok (.invokevirtual index, 3)) (hsize : Ls.size = c.maxLocals)
    (hlen : argsL.length = ps.length) (hst : st = argsL.reverse ++ .ref b :: rest) (has : (.ref b :: argsL).toArray = as') {W : Nat} (hW : (rest.map fun v => v.category).sum ≤ W) (hR : rm.frames + 1 ≤ R.frames ∧ W + (maxL + 11) + rm.locals ≤ R.locals ∧ cells + rm.cells ≤ R.cells ∧ slots + rm.slots ≤ R.slots) :
    ∃ v T' L, Stand p l e R s m args below meth c T' (locs ++ L) (cells + rm.cells) (slots + rm.slots) ∧ Q v T'.heap L ∧ ∀ target, Steps p.tables e below (T'.setTop (mkF m (pc + 3) Ls (v.toList ++ rest))) target → Steps p.tables e below (T.setTop (mkF m pc Ls st)) target := by
  obtain ⟨hf, hl, hc, hs⟩ := hR
  obtain ⟨cq, kq, qa, qb, qc⟩ := isOf hZ eT E
  obtain ⟨v, _, ⟨T', L', k', n'⟩, -, X', ⟨Lc, hQ, l1, y1, z1⟩, st'⟩ := X.virtualBack hx (y := y) (z := y) hown (mvT hZ w1) (mvT hZ w2) (notFace_of_selects (args := #[]) (mvT hZ w3)) (mvT hZ w3) (mvT hZ w4) hy (backOf (W := W) hM hZ w5 w6 hf hl) qa qc (g := mkF m pc Ls st) rfl hsize (Steps.refl _) (argsL := argsL) (rest := rest) (lenOf hpd hlen) hst (by show 2 * 0 + _ ≤ _; omega) hd (fun _ _ => ⟨has, eT, hc, hs⟩)
  dsimp only [Pt.U, Pt.locs, Pt.cells, Pt.slots] at X' l1 y1 z1 st' hQ
  subst l1 y1 z1
  exact ⟨v, T', Lc, X', hQ, fun t k => st'.trans k⟩
theorem own_callI {b : Addr} (X : Stand p l e R s m args below meth c T locs cells slots) (hx : p.tables.exec = Jvm.exec) (hZ : Z.Warmed39 s.vm) (hown : s.vm.findClass own = some m.cls) (w1 : (Jvm.Cond.methodLink own index y).before a0 Z = true) (w4 : (Jvm.Cond.instanceMethod y).before a0 Z = true)
    (w5 : (Jvm.Cond.code y bytes maxL none).before a0 Z = true) (w6 : (Jvm.Cond.initialized y.cls).before a0 Z = true) (hn : y.name = "<init>") (hy : y.cls ≠ "java/lang/invoke/MethodHandle" ∧ y.cls ≠ "java/lang/invoke/VarHandle") (hM : Ctr l y bytes maxL none [] rm Z as' h Q) (eT : T.heap = h) (hpd : parseMethodDescriptor y.desc = some ⟨ps, r⟩) (hd : decode c.code pc = .ok (.invokespecial index, 3)) (hsize : Ls.size = c.maxLocals)
    (hlen : argsL.length = ps.length) (hst : st = argsL.reverse ++ .ref b :: rest) (has : (.ref b :: argsL).toArray = as') {W : Nat} (hW : (rest.map fun v => v.category).sum ≤ W) (hR : rm.frames + 1 ≤ R.frames ∧ W + (maxL + 11) + rm.locals ≤ R.locals ∧ cells + rm.cells ≤ R.cells ∧ slots + rm.slots ≤ R.slots) :
    ∃ v T' L, Stand p l e R s m args below meth c T' (locs ++ L) (cells + rm.cells) (slots + rm.slots) ∧ Q v T'.heap L ∧ ∀ target, Steps p.tables e below (T'.setTop (mkF m (pc + 3) Ls (v.toList ++ rest))) target → Steps p.tables e below (T.setTop (mkF m pc Ls st)) target := by
  obtain ⟨hf, hl, hc, hs⟩ := hR
  obtain ⟨v, _, ⟨T', L', k', n'⟩, -, X', ⟨Lc, hQ, l1, y1, z1⟩, st'⟩ := X.specialBack hx (y := y) hn hown (mvT hZ w1) (mvT hZ w4) (mvT hZ w5) hy (backOf (W := W) hM hZ w5 w6 hf hl) (g := mkF m pc Ls st) rfl hsize (Steps.refl _) (a := b) (argsL := argsL) (rest := rest) (lenOf hpd hlen) hst (by show 2 * 0 + _ ≤ _; omega) hd (fun _ _ => ⟨has, eT, hc, hs⟩)
  dsimp only [Pt.U, Pt.locs, Pt.cells, Pt.slots] at X' l1 y1 z1 st' hQ
  subst l1 y1 z1
  exact ⟨v, T', Lc, X', hQ, fun t k => st'.trans k⟩
end Calls
section Facts
variable {Z : State} {h : Heap} {a b : Addr} {C F D K O n d : String} {v w : Value}
theorem own_fld_fun (F1 : Fld Z h a C n d v) (F2 : Fld Z h a C n d w) : v = w := by
  obtain ⟨c1, cf1, k1, i1, f1, h1, h2, h3, h4, h5, h6, h7⟩ := F1
  obtain ⟨c2, cf2, k2, i2, f2, g1, g2, g3, g4, g5, g6, g7⟩ := F2
  cases h1.symm.trans g1
  cases h2.symm.trans g2
  exact Option.some.inj (h7.symm.trans g7)
theorem own_ne {i j : Int32} (F1 : Fld Z h a C n d (.int i)) (F2 : Fld Z h b C n d (.int j)) (hij : i ≠ j) : a ≠ b := fun e => by
  subst e; exact hij (Value.int.inj (own_fld_fun F1 F2))
theorem own_sta {args : Array Value} (hn : (Jvm.Cond.exactly (.static C F D) K).value args Z none Z [] = some true) (hi : (Jvm.Cond.initialized C).before args Z = true) (hl : (Jvm.Cond.laysStatic C F D).before args Z = true) :
    ∃ w : Addr, Sta Z Z.heap C F D (.ref w) ∧ Exa Z Z.heap w K ∧ (Term.static C F D).eval args Z none [] Z = some (.ref w) := by
  obtain ⟨a', c', cell, k, e1, -⟩ := Cond.exactly_spec (Cond.before_iff.mpr hn)
  exact ⟨a', Sta.start e1 (Or.inr ⟨hi, hl⟩), Exa.start e1 hn, e1⟩
theorem own_ord {args : Array Value} {k : Int32} {t : Term} (hn : (Jvm.Cond.eq (.field t O n d) (.int k)).value args Z none Z [] = some true) (ev : t.eval args Z none [] Z = some (.ref a)) : Fld Z Z.heap a O n d (.int k) := by
  refine Fld.start ?_
  simp only [Jvm.Cond.value, Term.eval, ev] at hn
  cases hq : Z.fieldOf? a O n d with
  | none => simp [hq] at hn
  | some v => cases v <;> simp_all
theorem own_fref {args : Array Value} {t u : Term} (hn : (Jvm.Cond.eq (.field t O n d) u).value args Z none Z [] = some true) (ev : t.eval args Z none [] Z = some (.ref a)) (eu : u.eval args Z none [] Z = some (.ref b)) : Fld Z Z.heap a O n d (.ref b) := by
  refine Fld.start ?_
  simp only [Jvm.Cond.value, Term.eval, ev, eu] at hn
  cases hq : Z.fieldOf? a O n d with
  | none => simp [hq] at hn
  | some v => cases v <;> simp_all
theorem own_arrOf {args : Array Value} {t : Term} {ty : FieldType} (hn : (Jvm.Cond.arrayOf t ty).value args Z none Z [] = some true) : ∃ a c, t.eval args Z none [] Z = some (.ref a) ∧ Arr Z Z.heap a c ty := by
  cases hq : t.eval args Z none [] Z with
  | none => simp [Jvm.Cond.value, hq] at hn
  | some v =>
    cases v with
    | ref a => obtain ⟨c, A⟩ := Arr.start hq hn; exact ⟨a, c, rfl, A⟩
    | _ => simp [Jvm.Cond.value, hq] at hn
theorem own_arrLen {args : Array Value} {t : Term} {ty : FieldType} {cl : Cell} {k : Int32} (A : Arr Z Z.heap a cl ty) (ev : t.eval args Z none [] Z = some (.ref a)) (hn : (Jvm.Cond.eq (.length t) (.int k)).value args Z none Z [] = some true) : cl.slots.size < 2 ^ 31 ∧ cl.slots.size.toInt32 = k := by
  have hA : Z.arrayAt? a = some cl := A.fin (Vm.Alike.refl _)
  by_cases q : cl.slots.size < 2 ^ 31
  · refine ⟨q, ?_⟩
    have e : (Term.length t).eval args Z none [] Z = some (.int cl.slots.size.toInt32) := by simp [Term.eval, ev, hA, q]
    have e2 : (Term.int k).eval args Z none [] Z = some (.int k) := rfl
    simp only [Jvm.Cond.value, e, e2] at hn
    simpa using hn
  · have e : (Term.length t).eval args Z none [] Z = none := by simp [Term.eval, ev, hA, q]
    simp [Jvm.Cond.value, e] at hn
theorem own_arrElem {args : Array Value} {t u : Term} {ty : FieldType} {cl : Cell} {j : Int32} (A : Arr Z Z.heap a cl ty) (ev : t.eval args Z none [] Z = some (.ref a)) (eu : u.eval args Z none [] Z = some (.ref b)) (hj : ¬ j < 0) (hn : (Jvm.Cond.eq (.elem t (.int j)) u).value args Z none Z [] = some true) : cl.slots[j.toNatClampNeg]? = some (.ref b) := by
  have hA : Z.arrayAt? a = some cl := A.fin (Vm.Alike.refl _)
  have e : (Term.elem t (.int j)).eval args Z none [] Z = cl.slots[j.toNatClampNeg]? := by simp [Term.eval, ev, hA, hj]
  cases hq : cl.slots[j.toNatClampNeg]? with
  | none => rw [hq] at e; simp [Jvm.Cond.value, e] at hn
  | some v => rw [hq] at e; simp only [Jvm.Cond.value, e, eu] at hn; cases v <;> simp_all
theorem own_zand (x : Int32) : (0 : Int32) &&& x = (0 : Int32) := Int32.zero_and
theorem own_nin {x a : Addr} {ws : List Addr} (h : x ≠ a) (k : x ∉ ws) : x ∉ a :: ws := fun q => (List.mem_cons.mp q).elim h k
theorem own_plain {K : String} {ws : List Addr} (E : Exa Z h a K) (k : ∀ x ∈ ws, ∃ K', Exa Z h x K') : ∀ x ∈ a :: ws, ∃ K', Exa Z h x K' := fun x q => (List.mem_cons.mp q).elim (fun e => ⟨K, e ▸ E⟩) (k x)
theorem own_sta_keep {h' : Heap} {ws : List Addr} (S : Sta Z h C n d v) (K : Keep h h' ws) (hp : ∀ x ∈ ws, ∃ K', Exa Z h x K') : Sta Z h' C n d v := by
  obtain ⟨cf, i, k, f, st, cell, h1, h2, h3, h4, h5, h6, h7⟩ := S
  refine ⟨cf, i, k, f, st, cell, h1, h2, h3, h4, K.2.1 _ _ h5 fun q => ?_, h6, h7⟩
  obtain ⟨K', cl, kk, e1, -, -, e4, -⟩ := hp _ q
  cases h5.symm.trans e1
  rw [e4] at h6; cases h6
theorem own_mem1 {h0 : Heap} {ws : List Addr} {a : Addr} (q : a ∈ ws ∨ h0.size ≤ a) : ∀ x ∈ [a], x ∈ ws ∨ h0.size ≤ x := fun x hx => by cases List.mem_singleton.mp hx; exact q
theorem own_mem2 {h0 : Heap} {ws : List Addr} {a b : Addr} (q : a ∈ ws ∨ h0.size ≤ a) (r : b ∈ ws ∨ h0.size ≤ b) : ∀ x ∈ [a, b], x ∈ ws ∨ h0.size ≤ x := fun x hx => by
  rcases List.mem_cons.mp hx with rfl | hx
  · exact q
  · cases List.mem_singleton.mp hx; exact r
theorem own_fitR {ty : FieldType} (ht : ty.isReference = true) (hv : v.isRef = true) : fits ty v = true := by cases ty <;> first | (cases ht; done) | (cases v <;> first | rfl | cases hv)
theorem own_narR {ty : FieldType} (ht : ty.isReference = true) (hv : v.isRef = true) : narrow ty v = v := by cases ty <;> first | (cases ht; done) | (cases v <;> first | rfl | cases hv)
theorem own_bit {z : Int32} (hz : z = 0 ∨ z = 1) : z &&& 1 = z := by rcases hz with rfl | rfl <;> decide
theorem own_narZ {z : Int32} (hz : z = 0 ∨ z = 1) : narrow .boolean (.int z) = .int z := by rcases hz with rfl | rfl <;> rfl
theorem own_fitZ {z : Int32} (hz : z = 0 ∨ z = 1) : fits .boolean (.int z) = true := by rcases hz with rfl | rfl <;> rfl
theorem own_pad {dv : Value} (k : Nat) (i : Nat) : (List.replicate k dv).getD i dv = ([] : List Value).getD i dv := by
  simp only [List.getD, List.getElem?_replicate]
  split <;> rfl
end Facts
end Own
section G
variable {p : Program} {l : Launch} {e : Env} {R : Room} {s : State} {m : MethodId} {args : Array Value} {below : List Frame} {meth : Method} {c : Code} {T : State} {locs : List Loc} {cells slots : Nat} {pc : Nat} {Ls : Array Slot} {st : List Value} {P : Outcome → State → Prop}
theorem g_iloadN (X : Stand p l e R s m args below meth c T locs cells slots) (hx : p.tables.exec = Jvm.exec) {k : Fin 4} {v : Int32} (hd : decode c.code pc = .ok (.iload_n k, 1)) (hl : Ls[k.val]? = some (.val (.int v))) (hr : Go p e below (T.setTop (mkF m (pc + 1) Ls (.int v :: st))) P) : Go p e below (T.setTop (mkF m pc Ls st)) P := Go.mp (fun _ k => XS.iloadN X.here hx rfl hd hl k) hr
theorem g_iload (X : Stand p l e R s m args below meth c T locs cells slots) (hx : p.tables.exec = Jvm.exec) {k : Nat} {v : Int32} (hd : decode c.code pc = .ok (.iload k, 2)) (hl : Ls[k]? = some (.val (.int v))) (hr : Go p e below (T.setTop (mkF m (pc + 2) Ls (.int v :: st))) P) : Go p e below (T.setTop (mkF m pc Ls st)) P := Go.mp (fun _ k => XS.iload X.here hx rfl hd hl k) hr
theorem g_lloadN (X : Stand p l e R s m args below meth c T locs cells slots) (hx : p.tables.exec = Jvm.exec) {k : Fin 4} {v : Int64} (hd : decode c.code pc = .ok (.lload_n k, 1)) (hl : Ls[k.val]? = some (.val (.long v))) (hr : Go p e below (T.setTop (mkF m (pc + 1) Ls (.long v :: st))) P) : Go p e below (T.setTop (mkF m pc Ls st)) P := Go.mp (fun _ k => XS.lloadN X.here hx rfl hd hl k) hr
theorem g_lload (X : Stand p l e R s m args below meth c T locs cells slots) (hx : p.tables.exec = Jvm.exec) {k : Nat} {v : Int64} (hd : decode c.code pc = .ok (.lload k, 2)) (hl : Ls[k]? = some (.val (.long v))) (hr : Go p e below (T.setTop (mkF m (pc + 2) Ls (.long v :: st))) P) : Go p e below (T.setTop (mkF m pc Ls st)) P := Go.mp (fun _ k => XS.lload X.here hx rfl hd hl k) hr
theorem g_aloadN (X : Stand p l e R s m args below meth c T locs cells slots) (hx : p.tables.exec = Jvm.exec) {k : Fin 4} {v : Value} (hd : decode c.code pc = .ok (.aload_n k, 1)) (hl : Ls[k.val]? = some (.val v)) (hv : v.isRef = true) (hr : Go p e below (T.setTop (mkF m (pc + 1) Ls (v :: st))) P) : Go p e below (T.setTop (mkF m pc Ls st)) P := Go.mp (fun _ k => XS.aloadN X.here hx rfl hd hl hv k) hr
theorem g_aload (X : Stand p l e R s m args below meth c T locs cells slots) (hx : p.tables.exec = Jvm.exec) {k : Nat} {v : Value} (hd : decode c.code pc = .ok (.aload k, 2)) (hl : Ls[k]? = some (.val v)) (hv : v.isRef = true) (hr : Go p e below (T.setTop (mkF m (pc + 2) Ls (v :: st))) P) : Go p e below (T.setTop (mkF m pc Ls st)) P := Go.mp (fun _ k => XS.aload X.here hx rfl hd hl hv k) hr
theorem g_istoreN (X : Stand p l e R s m args below meth c T locs cells slots) (hx : p.tables.exec = Jvm.exec) {k : Fin 4} {v : Int32} (l' : Array Slot) (hd : decode c.code pc = .ok (.istore_n k, 1)) (hl : storeLocals Ls k.val (.int v) = some l') (hr : Go p e below (T.setTop (mkF m (pc + 1) l' st)) P) : Go p e below (T.setTop (mkF m pc Ls (.int v :: st))) P := Go.mp (fun _ k => XS.istoreN X.here hx rfl hd rfl hl k) hr
theorem g_istore (X : Stand p l e R s m args below meth c T locs cells slots) (hx : p.tables.exec = Jvm.exec) {k : Nat} {v : Int32} (l' : Array Slot) (hd : decode c.code pc = .ok (.istore k, 2)) (hl : storeLocals Ls k (.int v) = some l') (hr : Go p e below (T.setTop (mkF m (pc + 2) l' st)) P) : Go p e below (T.setTop (mkF m pc Ls (.int v :: st))) P := Go.mp (fun _ k => XS.istore X.here hx rfl hd rfl hl k) hr
theorem g_astoreN (X : Stand p l e R s m args below meth c T locs cells slots) (hx : p.tables.exec = Jvm.exec) {k : Fin 4} {v : Value} (l' : Array Slot) (hd : decode c.code pc = .ok (.astore_n k, 1)) (hv : v.isRef = true) (hl : storeLocals Ls k.val v = some l') (hr : Go p e below (T.setTop (mkF m (pc + 1) l' st)) P) : Go p e below (T.setTop (mkF m pc Ls (v :: st))) P := Go.mp (fun _ k => XS.astoreN X.here hx rfl hd rfl hv hl k) hr
theorem g_astore (X : Stand p l e R s m args below meth c T locs cells slots) (hx : p.tables.exec = Jvm.exec) {k : Nat} {v : Value} (l' : Array Slot) (hd : decode c.code pc = .ok (.astore k, 2)) (hv : v.isRef = true) (hl : storeLocals Ls k v = some l') (hr : Go p e below (T.setTop (mkF m (pc + 2) l' st)) P) : Go p e below (T.setTop (mkF m pc Ls (v :: st))) P := Go.mp (fun _ k => XS.astore X.here hx rfl hd rfl hv hl k) hr
theorem g_iconst (X : Stand p l e R s m args below meth c T locs cells slots) (hx : p.tables.exec = Jvm.exec) {i : Int} (v : Int32) (hd : decode c.code pc = .ok (.iconst i, 1)) (hv : Int32.ofInt i = v) (hr : Go p e below (T.setTop (mkF m (pc + 1) Ls (.int v :: st))) P) : Go p e below (T.setTop (mkF m pc Ls st)) P := Go.mp (fun _ k => XT.iconstV X.here hx rfl v hd hv k) hr
theorem g_bipush (X : Stand p l e R s m args below meth c T locs cells slots) (hx : p.tables.exec = Jvm.exec) {i : Int} (v : Int32) (hd : decode c.code pc = .ok (.bipush i, 2)) (hv : (Int8.ofInt i).toInt32 = v) (hr : Go p e below (T.setTop (mkF m (pc + 2) Ls (.int v :: st))) P) : Go p e below (T.setTop (mkF m pc Ls st)) P := Go.mp (fun _ k => XT.bipushV X.here hx rfl v hd hv k) hr
theorem g_sipush (X : Stand p l e R s m args below meth c T locs cells slots) (hx : p.tables.exec = Jvm.exec) {i : Int} (v : Int32) (hd : decode c.code pc = .ok (.sipush i, 3)) (hv : (Int16.ofInt i).toInt32 = v) (hr : Go p e below (T.setTop (mkF m (pc + 3) Ls (.int v :: st))) P) : Go p e below (T.setTop (mkF m pc Ls st)) P := Go.mp (fun _ k => XT.sipushV X.here hx rfl v hd hv k) hr
theorem g_null (X : Stand p l e R s m args below meth c T locs cells slots) (hx : p.tables.exec = Jvm.exec) (hd : decode c.code pc = .ok (.aconst_null, 1)) (hr : Go p e below (T.setTop (mkF m (pc + 1) Ls (.null :: st))) P) : Go p e below (T.setTop (mkF m pc Ls st)) P := Go.mp (fun _ k => XS.aconstNull X.here hx rfl hd k) hr
theorem g_iadd (X : Stand p l e R s m args below meth c T locs cells slots) (hx : p.tables.exec = Jvm.exec) {x y : Int32} (hd : decode c.code pc = .ok (.iadd, 1)) (hr : Go p e below (T.setTop (mkF m (pc + 1) Ls (.int (x + y) :: st))) P) : Go p e below (T.setTop (mkF m pc Ls (.int y :: .int x :: st))) P := Go.mp (fun _ k => XS.iadd X.here hx rfl hd rfl k) hr
theorem g_isub (X : Stand p l e R s m args below meth c T locs cells slots) (hx : p.tables.exec = Jvm.exec) {x y : Int32} (hd : decode c.code pc = .ok (.isub, 1)) (hr : Go p e below (T.setTop (mkF m (pc + 1) Ls (.int (x - y) :: st))) P) : Go p e below (T.setTop (mkF m pc Ls (.int y :: .int x :: st))) P := Go.mp (fun _ k => XS.isub X.here hx rfl hd rfl k) hr
theorem g_iand (X : Stand p l e R s m args below meth c T locs cells slots) (hx : p.tables.exec = Jvm.exec) {x y : Int32} (hd : decode c.code pc = .ok (.iand, 1)) (hr : Go p e below (T.setTop (mkF m (pc + 1) Ls (.int (x &&& y) :: st))) P) : Go p e below (T.setTop (mkF m pc Ls (.int y :: .int x :: st))) P := Go.mp (fun _ k => XS.iand X.here hx rfl hd rfl k) hr
theorem g_ior (X : Stand p l e R s m args below meth c T locs cells slots) (hx : p.tables.exec = Jvm.exec) {x y : Int32} (hd : decode c.code pc = .ok (.ior, 1)) (hr : Go p e below (T.setTop (mkF m (pc + 1) Ls (.int (x ||| y) :: st))) P) : Go p e below (T.setTop (mkF m pc Ls (.int y :: .int x :: st))) P := Go.mp (fun _ k => XS.ior X.here hx rfl hd rfl k) hr
theorem g_ixor (X : Stand p l e R s m args below meth c T locs cells slots) (hx : p.tables.exec = Jvm.exec) {x y : Int32} (hd : decode c.code pc = .ok (.ixor, 1)) (hr : Go p e below (T.setTop (mkF m (pc + 1) Ls (.int (x ^^^ y) :: st))) P) : Go p e below (T.setTop (mkF m pc Ls (.int y :: .int x :: st))) P := Go.mp (fun _ k => XS.ixor X.here hx rfl hd rfl k) hr
theorem g_dup (X : Stand p l e R s m args below meth c T locs cells slots) (hx : p.tables.exec = Jvm.exec) {x : Value} (hd : decode c.code pc = .ok (.dup, 1)) (hc : x.category = 1) (hr : Go p e below (T.setTop (mkF m (pc + 1) Ls (x :: x :: st))) P) : Go p e below (T.setTop (mkF m pc Ls (x :: st))) P := Go.mp (fun _ k => XS.dup X.here hx rfl hd rfl hc k) hr
theorem g_pop (X : Stand p l e R s m args below meth c T locs cells slots) (hx : p.tables.exec = Jvm.exec) {x : Value} (hd : decode c.code pc = .ok (.pop, 1)) (hc : x.category = 1) (hr : Go p e below (T.setTop (mkF m (pc + 1) Ls st)) P) : Go p e below (T.setTop (mkF m pc Ls (x :: st))) P := Go.mp (fun _ k => XS.pop X.here hx rfl hd rfl hc k) hr
theorem g_goto (X : Stand p l e R s m args below meth c T locs cells slots) (hx : p.tables.exec = Jvm.exec) {o : Int} (pc' : Nat) (hd : decode c.code pc = .ok (.goto o, 3)) (ho : 0 ≤ (pc : Int) + o) (hp : ((pc : Int) + o).toNat = pc') (hr : Go p e below (T.setTop (mkF m pc' Ls st)) P) : Go p e below (T.setTop (mkF m pc Ls st)) P := Go.mp (fun _ k => XS.goto X.here hx rfl (pc0 := pc) (pc' := pc') rfl hd ho hp k) hr
theorem g_ifYes (X : Stand p l e R s m args below meth c T locs cells slots) (hx : p.tables.exec = Jvm.exec) {cd : ClassFile.Cond} {x : Int32} {o : Int} (pc' : Nat) (hd : decode c.code pc = .ok (.ifCond cd o, 3)) (hc : ifCond.holds cd x = true) (ho : 0 ≤ (pc : Int) + o) (hp : ((pc : Int) + o).toNat = pc') (hr : Go p e below (T.setTop (mkF m pc' Ls st)) P) : Go p e below (T.setTop (mkF m pc Ls (.int x :: st))) P := Go.mp (fun _ k => XS.ifYes X.here hx rfl (pc0 := pc) (pc' := pc') rfl hd rfl hc ho hp k) hr
theorem g_ifNo (X : Stand p l e R s m args below meth c T locs cells slots) (hx : p.tables.exec = Jvm.exec) {cd : ClassFile.Cond} {x : Int32} {o : Int} (hd : decode c.code pc = .ok (.ifCond cd o, 3)) (hc : ifCond.holds cd x = false) (hr : Go p e below (T.setTop (mkF m (pc + 3) Ls st)) P) : Go p e below (T.setTop (mkF m pc Ls (.int x :: st))) P := Go.mp (fun _ k => XS.ifNo X.here hx rfl hd rfl hc k) hr
theorem g_icmpYes (X : Stand p l e R s m args below meth c T locs cells slots) (hx : p.tables.exec = Jvm.exec) {cd : ClassFile.Cond} {x y : Int32} {o : Int} (pc' : Nat) (hd : decode c.code pc = .ok (.if_icmp cd o, 3)) (hc : if_icmp.holds cd x y = true) (ho : 0 ≤ (pc : Int) + o) (hp : ((pc : Int) + o).toNat = pc') (hr : Go p e below (T.setTop (mkF m pc' Ls st)) P) : Go p e below (T.setTop (mkF m pc Ls (.int y :: .int x :: st))) P := Go.mp (fun _ k => XS.icmpYes X.here hx rfl (pc0 := pc) (pc' := pc') rfl hd rfl hc ho hp k) hr
theorem g_icmpNo (X : Stand p l e R s m args below meth c T locs cells slots) (hx : p.tables.exec = Jvm.exec) {cd : ClassFile.Cond} {x y : Int32} {o : Int} (hd : decode c.code pc = .ok (.if_icmp cd o, 3)) (hc : if_icmp.holds cd x y = false) (hr : Go p e below (T.setTop (mkF m (pc + 3) Ls st)) P) : Go p e below (T.setTop (mkF m pc Ls (.int y :: .int x :: st))) P := Go.mp (fun _ k => XS.icmpNo X.here hx rfl hd rfl hc k) hr
theorem g_acmp (X : Stand p l e R s m args below meth c T locs cells slots) (hx : p.tables.exec = Jvm.exec) {cd : ACond} {x y : Value} {o : Int} (pc' : Nat) (same : Bool) (h1 : x.isRef = true) (h2 : y.isRef = true) (hd : decode c.code pc = .ok (.if_acmp cd o, 3)) (hq : decide (x = y) = same) (ho : 0 ≤ (pc : Int) + o) (hp : pc' = if acV cd same = true then ((pc : Int) + o).toNat else pc + 3) (hr : Go p e below (T.setTop (mkF m pc' Ls st)) P) : Go p e below (T.setTop (mkF m pc Ls (y :: x :: st))) P := Go.mp (fun _ k => Jvm.RoadKit.acmp (g := mkF m pc Ls (y :: x :: st)) X hx rfl h1 h2 (pc0 := pc) (pc' := pc') (same := same) rfl hd rfl hq ho hp k) hr
theorem g_irem (X : Stand p l e R s m args below meth c T locs cells slots) (hx : p.tables.exec = Jvm.exec) {x y : Int32} (hd : decode c.code pc = .ok (.irem, 1)) (hy : y ≠ 0) (hr : Go p e below (T.setTop (mkF m (pc + 1) Ls (.int (x % y) :: st))) P) : Go p e below (T.setTop (mkF m pc Ls (.int y :: .int x :: st))) P := Go.mp (fun _ k => iremM X hx rfl hd rfl hy k) hr
end G
section OwnP
variable {p : Program} {l : Launch} {e : Env} {R : Room} {s : State} {m : MethodId} {args : Array Value} {below : List Frame} {meth : Method} {c : Code} {T : State} {locs : List Loc} {cells slots : Nat}
/-- a contract of a body with an exception table whose walk throws nothing -/
abbrev CtrH (l : Launch) (y : MethodName) (bytes : ByteArray) (maxL : Nat) (ret : Option FieldType) (hs : List (Nat × Nat × Nat × Nat)) (rm : Room) (Z : State) (as' : Array Value) (h : Heap) (Q : Option Value → Heap → List Loc → Prop) : Prop :=
  MetFree l y (head1 [Jvm.Cond.codeWith y bytes maxL ret hs] rm) (fun a U => a = as' ∧ Z.Warmed39 U.vm ∧ U.heap = h) (fun _ _ _ _ _ => True) (fun _ U o U' => ∃ v L, o = .returned v ∧ Q v U'.heap L ∧ FrameEnd U o U' L rm.cells rm.slots)
theorem own_enterH {y : MethodName} {bytes : ByteArray} {maxL : Nat} {ret : Option FieldType} {hs : List (Nat × Nat × Nat × Nat)} {rm : Room} {Z : State} {as' : Array Value} {h : Heap} {Q : Option Value → Heap → List Loc → Prop} (hpn : plainName y.cls = true)
    (body : ∀ (p : Program) (e : Env) (s : State) (m : MethodId) (below : List Frame) (meth : Method) (c : Code) (s₁ : State), p.tables.exec = Jvm.exec → c.code = bytes → c.maxLocals = maxL → s.vm.findClass y.cls = some m.cls → meth.name = y.name → meth.sig.returnType = ret → meth.locks = false → Z.Warmed39 s.vm → Stand p l e rm s m as' below meth c s₁ [] 0 0 → s₁.heap = h →
      Go p e below (s₁.setTop (entryFrame m as' maxL)) (FinE s rm.cells rm.slots Q)) : CtrH l y bytes maxL ret hs rm Z as' h Q := by
  refine MetFree.of_bodySF (plainFor_of_name hpn) hisWith ?_
  intro p e s m args below meth c s₁ Bd hml0 hP hK
  obtain ⟨rfl, hZ, hh⟩ := hP
  exact body p e s m below meth c s₁ Bd.exec Bd.bytes hml0 (findClass_of_methodNamed Bd.named) (name_of_methodNamed Bd.named Bd.method).1 Bd.returns Bd.notSynchronized hZ (Stand.of_body Bd) (by rw [← hh, Bd.state]; rfl)
variable {Z : State} {a0 : Array Value} {h : Heap} {y : MethodName} {bytes : ByteArray} {maxL : Nat} {ret : Option FieldType} {rm : Room} {as' : Array Value} {Q : Option Value → Heap → List Loc → Prop} {own : String} {index : Nat} {pc : Nat} {Ls : Array Slot} {st argsL rest : List Value} {ps : List FieldType} {r : Option FieldType}
theorem own_sel {n : Nat} (hZ : Z.Warmed39 s.vm) (w4 : (Jvm.Cond.instanceMethod y).before a0 Z = true) (wp : (Jvm.Cond.privateMethod y).before a0 Z = true) (wi : (Jvm.Cond.instantiable y.cls n).before a0 Z = true) (hy : y.cls ≠ "java/lang/invoke/MethodHandle" ∧ y.cls ≠ "java/lang/invoke/VarHandle") : s.PrivateAt y ∧ (Jvm.Cond.selects y.cls y y).before args s = true := by
  have hp : s.PrivateAt y := Cond.privateMethod_at (mvP hZ wp (args := #[]))
  have wi' : (Jvm.Cond.instantiable y.cls n).before args s = true := mvT hZ wi
  obtain ⟨c, k, c1, c2, -, c4, -⟩ := Cond.instantiable_spec wi'
  exact ⟨hp, selects_self_of_private c1 c2 (Bool.or_eq_false_iff.mp c4).1 hp (mvT hZ w4) hy⟩
theorem own_callP {C : String} {n : Nat} {b : Addr} (X : Stand p l e R s m args below meth c T locs cells slots) (hx : p.tables.exec = Jvm.exec) (hZ : Z.Warmed39 s.vm) (hown : s.vm.findClass own = some m.cls) (w1 : (Jvm.Cond.methodLink own index y).before a0 Z = true) (w4 : (Jvm.Cond.instanceMethod y).before a0 Z = true) (wp : (Jvm.Cond.privateMethod y).before a0 Z = true) (wi : (Jvm.Cond.instantiable y.cls n).before a0 Z = true)
    (w5 : (Jvm.Cond.code y bytes maxL ret).before a0 Z = true) (w6 : (Jvm.Cond.initialized y.cls).before a0 Z = true) (hy : y.cls ≠ "java/lang/invoke/MethodHandle" ∧ y.cls ≠ "java/lang/invoke/VarHandle") (hM : Ctr l y bytes maxL ret [] rm Z as' h Q) (eT : T.heap = h) (E : Exa Z h b C) (hpd : parseMethodDescriptor y.desc = some ⟨ps, r⟩) (hd : decode c.code pc = .ok (.invokevirtual index, 3)) (hsize : Ls.size = c.maxLocals)
    (hlen : argsL.length = ps.length) (hst : st = argsL.reverse ++ .ref b :: rest) (has : (.ref b :: argsL).toArray = as') {W : Nat} (hW : (rest.map fun v => v.category).sum ≤ W) (hR : rm.frames + 1 ≤ R.frames ∧ W + (maxL + 11) + rm.locals ≤ R.locals ∧ cells + rm.cells ≤ R.cells ∧ slots + rm.slots ≤ R.slots) :
    ∃ v T' L, Stand p l e R s m args below meth c T' (locs ++ L) (cells + rm.cells) (slots + rm.slots) ∧ Q v T'.heap L ∧ ∀ target, Steps p.tables e below (T'.setTop (mkF m (pc + 3) Ls (v.toList ++ rest))) target → Steps p.tables e below (T.setTop (mkF m pc Ls st)) target := by
  obtain ⟨hf, hl, hc, hs⟩ := hR
  obtain ⟨cq, q, q'⟩ := E.cell
  obtain ⟨hp, hsel⟩ := own_sel (args := args) hZ w4 wp wi hy
  obtain ⟨v, _, ⟨T', L', k', n'⟩, -, X', ⟨Lc, hQ, l1, y1, z1⟩, st'⟩ := X.privateBack hx (y := y) hown (mvT hZ w1) (mvT hZ w4) hsel hp (mvT hZ w5) hy (backOf (W := W) hM hZ w5 w6 hf hl) (g := mkF m pc Ls st) rfl hsize (Steps.refl _) (a := b) (by rw [eT]; exact q) q' (argsL := argsL) (rest := rest) (lenOf hpd hlen) hst (by show 2 * 0 + _ ≤ _; omega) hd (fun _ _ => ⟨has, eT, hc, hs⟩)
  dsimp only [Pt.U, Pt.locs, Pt.cells, Pt.slots] at X' l1 y1 z1 st' hQ
  subst l1 y1 z1
  exact ⟨v, T', Lc, X', hQ, fun t k => st'.trans k⟩
theorem own_callPH {hs' : List (Nat × Nat × Nat × Nat)} {C : String} {n : Nat} {b : Addr} (X : Stand p l e R s m args below meth c T locs cells slots) (hx : p.tables.exec = Jvm.exec) (hZ : Z.Warmed39 s.vm) (hown : s.vm.findClass own = some m.cls) (w1 : (Jvm.Cond.methodLink own index y).before a0 Z = true) (w4 : (Jvm.Cond.instanceMethod y).before a0 Z = true) (wp : (Jvm.Cond.privateMethod y).before a0 Z = true) (wi : (Jvm.Cond.instantiable y.cls n).before a0 Z = true)
    (w5 : (Jvm.Cond.codeWith y bytes maxL ret hs').before a0 Z = true) (w6 : (Jvm.Cond.initialized y.cls).before a0 Z = true) (hy : y.cls ≠ "java/lang/invoke/MethodHandle" ∧ y.cls ≠ "java/lang/invoke/VarHandle") (hM : CtrH l y bytes maxL ret hs' rm Z as' h Q) (eT : T.heap = h) (E : Exa Z h b C) (hpd : parseMethodDescriptor y.desc = some ⟨ps, r⟩) (hd : decode c.code pc = .ok (.invokevirtual index, 3)) (hsize : Ls.size = c.maxLocals)
    (hlen : argsL.length = ps.length) (hst : st = argsL.reverse ++ .ref b :: rest) (has : (.ref b :: argsL).toArray = as') {W : Nat} (hW : (rest.map fun v => v.category).sum ≤ W) (hR : rm.frames + 1 ≤ R.frames ∧ W + (maxL + 11) + rm.locals ≤ R.locals ∧ cells + rm.cells ≤ R.cells ∧ slots + rm.slots ≤ R.slots) :
    ∃ v T' L, Stand p l e R s m args below meth c T' (locs ++ L) (cells + rm.cells) (slots + rm.slots) ∧ Q v T'.heap L ∧ ∀ target, Steps p.tables e below (T'.setTop (mkF m (pc + 3) Ls (v.toList ++ rest))) target → Steps p.tables e below (T.setTop (mkF m pc Ls st)) target := by
  obtain ⟨hf, hl, hc, hs⟩ := hR
  obtain ⟨cq, q, q'⟩ := E.cell
  obtain ⟨hp, hsel⟩ := own_sel (args := args) hZ w4 wp wi hy
  have w4' : (Jvm.Cond.instanceMethod y).before args s = true := mvT hZ w4
  obtain ⟨mk, methM, hnamed, hmethM, hstM, habM⟩ := Cond.instanceMethod_spec w4'
  obtain ⟨c2, r2, m2, -, -, q3, -, kP, hkP, hkPi⟩ := Cond.selects_spec hsel
  cases hnamed.symm.trans q3
  have w5' : (Jvm.Cond.codeWith y bytes maxL ret hs').before args s = true := mvT hZ w5
  obtain ⟨mk', methM', cM, hnamed', hmethM', -, -, -, -, -, -, hsigM⟩ := Cond.codeWith_spec w5'
  cases hnamed.symm.trans hnamed'
  cases hmethM.symm.trans hmethM'
  have hselP : selectMethod e.platform s.vm cq.cls mk = .method mk := selectMethod_private hmethM (hp mk methM hnamed hmethM)
  obtain ⟨vm₁, X₁, hstep₁⟩ := X.invokevirtual hx hown (mvT hZ w1) hnamed hmethM hstM hkP hkPi hy (a := b) (cell := cq) (by rw [eT]; exact q) q' hselP hmethM habM hkP hkPi (g := mkF m pc Ls st) rfl (argsL := argsL) (rest := rest) ((lenOf hpd hlen) _ hsigM) hst hd
  obtain ⟨v, ⟨T', L', k', n'⟩, X', ⟨Lc, hQ, l1, y1, z1⟩, hsteps⟩ := (backOfWith (W := W) (len := 3) (p := p) (e := e) (below := below) (args := args) (R := R) hM hZ w5 w6 hf hl) m meth c ⟨T.setVm vm₁, locs, cells, slots⟩ (mkF m pc Ls rest) (.invokevirtual index) mk (.ref b :: argsL).toArray X₁ rfl hsize hd (by show 2 * 0 + (rest.map fun v => v.category).sum ≤ _; omega) (X₁.named hnamed) ⟨has, eT, hc, hs⟩
  dsimp only [Pt.U, Pt.locs, Pt.cells, Pt.slots] at X' l1 y1 z1 hsteps hQ
  subst l1 y1 z1
  exact ⟨v, T', Lc, X', hQ, fun t k => hstep₁ _ fun acts => by rw [doInvoke_state]; exact hsteps.trans k⟩
theorem own_callF {C : String} {xi : MethodName} {count : Nat} {b : Addr} (X : Stand p l e R s m args below meth c T locs cells slots) (hx : p.tables.exec = Jvm.exec) (hZ : Z.Warmed39 s.vm) (hown : s.vm.findClass own = some m.cls) (w1 : (Jvm.Cond.methodLink own index xi).before a0 Z = true) (w2 : (Jvm.Cond.declares xi).before a0 Z = true) (w3 : (Jvm.Cond.interfaceMethod xi.cls xi.cls xi.name xi.desc).before args s = true) (w4 : (Jvm.Cond.selects C xi y).before a0 Z = true) (w5 : (Jvm.Cond.instanceMethod y).before a0 Z = true)
    (w6 : (Jvm.Cond.publicMethod y).before a0 Z = true) (w7 : (Jvm.Cond.unhidden C xi.name xi.desc).before a0 Z = true) (w8 : (Jvm.Cond.castable C xi.cls).before a0 Z = true) (w9 : (Jvm.Cond.code y bytes maxL ret).before a0 Z = true) (w10 : (Jvm.Cond.initialized y.cls).before a0 Z = true) (hy : xi.cls ≠ "java/lang/invoke/MethodHandle" ∧ xi.cls ≠ "java/lang/invoke/VarHandle") (hM : Ctr l y bytes maxL ret [] rm Z as' h Q) (eT : T.heap = h) (E : Exa Z h b C) (hpd : parseMethodDescriptor xi.desc = some ⟨ps, r⟩) (hd : decode c.code pc = .ok (.invokeinterface index count, 5)) (hsize : Ls.size = c.maxLocals)
    (hlen : argsL.length = ps.length) (hst : st = argsL.reverse ++ .ref b :: rest) (has : (.ref b :: argsL).toArray = as') {W : Nat} (hW : (rest.map fun v => v.category).sum ≤ W) (hR : rm.frames + 1 ≤ R.frames ∧ W + (maxL + 11) + rm.locals ≤ R.locals ∧ cells + rm.cells ≤ R.cells ∧ slots + rm.slots ≤ R.slots) :
    ∃ v T' L, Stand p l e R s m args below meth c T' (locs ++ L) (cells + rm.cells) (slots + rm.slots) ∧ Q v T'.heap L ∧ ∀ target, Steps p.tables e below (T'.setTop (mkF m (pc + 5) Ls (v.toList ++ rest))) target → Steps p.tables e below (T.setTop (mkF m pc Ls st)) target := by
  obtain ⟨hf, hl, hc, hs⟩ := hR
  obtain ⟨cq, kq, qa, qb, qc⟩ := isOf hZ eT E
  obtain ⟨v, _, ⟨T', L', k', n'⟩, -, X', ⟨Lc, hQ, l1, y1, z1⟩, st'⟩ := X.interfaceBack hx (xi := xi) (y := y) hown (mvT hZ w1) (mvT hZ w2) w3 (mvT hZ w4) (mvT hZ w5) (mvT hZ w6) (mvT hZ w7) (mvT hZ w8) hy (backOf (W := W) hM hZ w9 w10 hf hl) qa qb qc (g := mkF m pc Ls st) rfl hsize (Steps.refl _) (argsL := argsL) (rest := rest) (lenOf hpd hlen) hst (by show 2 * 0 + _ ≤ _; omega) hd (fun _ _ => ⟨has, eT, hc, hs⟩)
  dsimp only [Pt.U, Pt.locs, Pt.cells, Pt.slots] at X' l1 y1 z1 st' hQ
  subst l1 y1 z1
  exact ⟨v, T', Lc, X', hQ, fun t k => st'.trans k⟩
theorem own_memn {n : Nat} {ws : List Addr} : ∀ x ∈ ([] : List Addr), x ∈ ws ∨ n ≤ x := fun _ q => nomatch q
theorem own_memc {n : Nat} {ws l : List Addr} {a : Addr} (q : a ∈ ws ∨ n ≤ a) (r : ∀ x ∈ l, x ∈ ws ∨ n ≤ x) : ∀ x ∈ a :: l, x ∈ ws ∨ n ≤ x := fun x hx => (List.mem_cons.mp hx).elim (fun e => e ▸ q) (r x)
theorem own_irr (x : Int32) : ¬ x < x := Int32.lt_irrefl
theorem own_tri (x y : Int32) : x < y ∨ (¬ x < y ∧ x = y) ∨ (¬ x < y ∧ ¬ x = y) := by
  by_cases h : x < y
  · exact Or.inl h
  · by_cases q : x = y
    · exact Or.inr (Or.inl ⟨h, q⟩)
    · exact Or.inr (Or.inr ⟨h, q⟩)
end OwnP
section OwnS
variable {p : Program} {l : Launch} {e : Env} {R : Room} {s : State} {m : MethodId} {args : Array Value} {below : List Frame} {meth : Method} {c : Code} {T : State} {locs : List Loc} {cells slots : Nat} {pc : Nat} {Ls : Array Slot} {st : List Value} {P : Outcome → State → Prop} {Z : State} {a0 : Array Value} {h : Heap}
abbrev vr (a : Addr) : Slot := .val (.ref a)
abbrev vi (z : Int32) : Slot := .val (.int z)
abbrev vn : Slot := .val .null
abbrev vu : Slot := .unset
theorem g_getF (X : Stand p l e R s m args below meth c T locs cells slots) (hx : p.tables.exec = Jvm.exec) (hZ : Z.Warmed39 s.vm) {own O n d : String} {index : Nat} (hown : s.vm.findClass own = some m.cls) (w : (Jvm.Cond.fieldLink own index O n d).before a0 Z = true) (eT : T.heap = h) {a : Addr} {v : Value} (F : Fld Z h a O n d v) (hd : decode c.code pc = .ok (.getfield index, 3))
    (hr : ∀ T', Stand p l e R s m args below meth c T' locs cells slots → T'.heap = h → Go p e below (T'.setTop (mkF m (pc + 3) Ls (v :: st))) P) : Go p e below (T.setTop (mkF m pc Ls (.ref a :: st))) P := by
  obtain ⟨T', X', e', st'⟩ := getF X hx hZ hown (host := "") (Or.inl w) Via.refl eT F (g := mkF m pc Ls (.ref a :: st)) rfl rfl hd
  exact Go.mp st' (hr T' X' e')
theorem g_putF (X : Stand p l e R s m args below meth c T locs cells slots) (hx : p.tables.exec = Jvm.exec) (hZ : Z.Warmed39 s.vm) {own O n d C : String} {index kk : Nat} {ty : FieldType} (hown : s.vm.findClass own = some m.cls) (w : (Jvm.Cond.fieldLink own index O n d).before a0 Z = true) (eT : T.heap = h) {a : Addr} {v old : Value} (F : Fld Z h a O n d old) (E : Exa Z h a C)
    (L : (Jvm.Cond.lays C O n d).before a0 Z = true ∨ ((Jvm.Cond.laysFinal C O n d).before a0 Z = true ∧ own = O ∧ meth.name = "<init>")) (wi : (Jvm.Cond.instantiable C kk).before a0 Z = true) (hty : parseFieldDescriptor d = some ty) (hn : narrow ty v = v) (hf : fits ty v = true) (hd : decode c.code pc = .ok (.putfield index, 3))
    (hr : ∀ T' h', Stand p l e R s m args below meth c T' (locs ++ [⟨a, Jvm.RoadKit.slotOf Z O n d⟩]) cells slots → T'.heap = h' → Wr h h' a (Jvm.RoadKit.slotOf Z O n d) v → Go p e below (T'.setTop (mkF m (pc + 3) Ls st)) P) : Go p e below (T.setTop (mkF m pc Ls (v :: .ref a :: st))) P := by
  obtain ⟨T', h', X', e', W, st'⟩ := putF X hx hZ hown (host := "") (Or.inl w) Via.refl eT F E L wi hty hn hf (g := mkF m pc Ls (v :: .ref a :: st)) rfl rfl hd
  exact Go.mp st' (hr T' h' X' e' W)
theorem g_cast (X : Stand p l e R s m args below meth c T locs cells slots) (hx : p.tables.exec = Jvm.exec) (hZ : Z.Warmed39 s.vm) {own K : String} {index : Nat} (hown : s.vm.findClass own = some m.cls) (w : (Jvm.Cond.classLink own index K).before a0 Z = true) (eT : T.heap = h) {a : Addr} (F : Ins Z h a K true) (hd : decode c.code pc = .ok (.checkcast index, 3))
    (hr : ∀ T', Stand p l e R s m args below meth c T' locs cells slots → T'.heap = h → Go p e below (T'.setTop (mkF m (pc + 3) Ls (.ref a :: st))) P) : Go p e below (T.setTop (mkF m pc Ls (.ref a :: st))) P := by
  obtain ⟨T', X', e', st'⟩ := castY X hx hZ hown w eT F (g := mkF m pc Ls (.ref a :: st)) rfl rfl hd
  exact Go.mp st' (hr T' X' e')
theorem g_init (X : Stand p l e R s m args below meth c T locs cells slots) (hx : p.tables.exec = Jvm.exec) (hZ : Z.Warmed39 s.vm) {own : String} {idx : Nat} (hown : s.vm.findClass own = some m.cls) (w1 : (Jvm.Cond.methodLink own idx Lib.objectInit).before a0 Z = true) (w2 : (Jvm.Cond.instanceMethod Lib.objectInit).before a0 Z = true) (w3 : (Jvm.Cond.code Lib.objectInit ⟨#[0xb1]⟩ 1 none).before a0 Z = true) (eT : T.heap = h) {a : Addr} (hsize : Ls.size = c.maxLocals) (hd : decode c.code pc = .ok (.invokespecial idx, 3)) (hf : 1 ≤ R.frames) {W : Nat} (hW : (st.map fun v => v.category).sum ≤ W) (hl : W + 12 ≤ R.locals)
    (hr : ∀ T', Stand p l e R s m args below meth c T' locs cells slots → T'.heap = h → Go p e below (T'.setTop (mkF m (pc + 3) Ls st)) P) : Go p e below (T.setTop (mkF m pc Ls (.ref a :: st))) P := by
  obtain ⟨T', X', e', st'⟩ := initO X hx hZ hown w1 w2 w3 eT (g := mkF m pc Ls (.ref a :: st)) rfl hsize rfl hd hf (W := W) (by show 2 * 0 + _ ≤ _; omega) hl
  exact Go.mp st' (hr T' X' e')
theorem g_call {cells' slots' : Nat} {pc' : Nat} {st' : List Value} {Q : Option Value → Heap → List Loc → Prop} (q : ∃ v T' L, Stand p l e R s m args below meth c T' (locs ++ L) cells' slots' ∧ Q v T'.heap L ∧ ∀ target, Steps p.tables e below (T'.setTop (mkF m pc' Ls (v.toList ++ st'))) target → Steps p.tables e below (T.setTop (mkF m pc Ls st)) target)
    (hr : ∀ v T' L, Stand p l e R s m args below meth c T' (locs ++ L) cells' slots' → Q v T'.heap L → Go p e below (T'.setTop (mkF m pc' Ls (v.toList ++ st'))) P) : Go p e below (T.setTop (mkF m pc Ls st)) P := by
  obtain ⟨v, T', L, X', q', st''⟩ := q
  exact Go.mp st'' (hr v T' L X' q')
theorem g_nullYes (X : Stand p l e R s m args below meth c T locs cells slots) (hx : p.tables.exec = Jvm.exec) {o : Int} (pc' : Nat) (hd : decode c.code pc = .ok (.ifnull o, 3)) (ho : 0 ≤ (pc : Int) + o) (hp : ((pc : Int) + o).toNat = pc') (hr : Go p e below (T.setTop (mkF m pc' Ls st)) P) : Go p e below (T.setTop (mkF m pc Ls (.null :: st))) P := Go.mp (fun _ k => XS.ifnullYes X.here hx rfl (pc0 := pc) (pc' := pc') rfl hd rfl ho hp k) hr
theorem g_nullNo (X : Stand p l e R s m args below meth c T locs cells slots) (hx : p.tables.exec = Jvm.exec) {o : Int} {a : Addr} (hd : decode c.code pc = .ok (.ifnull o, 3)) (hr : Go p e below (T.setTop (mkF m (pc + 3) Ls st)) P) : Go p e below (T.setTop (mkF m pc Ls (.ref a :: st))) P := Go.mp (fun _ k => XS.ifnullNo X.here hx rfl hd rfl k) hr
theorem g_nonnullYes (X : Stand p l e R s m args below meth c T locs cells slots) (hx : p.tables.exec = Jvm.exec) {o : Int} {a : Addr} (pc' : Nat) (hd : decode c.code pc = .ok (.ifnonnull o, 3)) (ho : 0 ≤ (pc : Int) + o) (hp : ((pc : Int) + o).toNat = pc') (hr : Go p e below (T.setTop (mkF m pc' Ls st)) P) : Go p e below (T.setTop (mkF m pc Ls (.ref a :: st))) P := Go.mp (fun _ k => XS.ifnonnullYes X.here hx rfl (pc0 := pc) (pc' := pc') rfl hd rfl ho hp k) hr
theorem g_nonnullNo (X : Stand p l e R s m args below meth c T locs cells slots) (hx : p.tables.exec = Jvm.exec) {o : Int} (hd : decode c.code pc = .ok (.ifnonnull o, 3)) (hr : Go p e below (T.setTop (mkF m (pc + 3) Ls st)) P) : Go p e below (T.setTop (mkF m pc Ls (.null :: st))) P := Go.mp (fun _ k => XS.ifnonnullNo X.here hx rfl hd rfl k) hr
theorem g_ldc (X : Stand p l e R s m args below meth c T locs cells slots) (hx : p.tables.exec = Jvm.exec) (hZ : Z.Warmed39 s.vm) {own : String} {index : Nat} {v : Int32} (hown : s.vm.findClass own = some m.cls) (w : (Jvm.Cond.constant own index v).before a0 Z = true) (hd : decode c.code pc = .ok (.ldc index, 2)) (hr : Go p e below (T.setTop (mkF m (pc + 2) Ls (.int v :: st))) P) : Go p e below (T.setTop (mkF m pc Ls st)) P := Go.mp (fun _ k => X.ldcInt hx hown (mvT hZ w) (g := mkF m pc Ls st) rfl hd _ k) hr
theorem g_ldcw (X : Stand p l e R s m args below meth c T locs cells slots) (hx : p.tables.exec = Jvm.exec) (hZ : Z.Warmed39 s.vm) {own : String} {index : Nat} {v : Int32} (hown : s.vm.findClass own = some m.cls) (w : (Jvm.Cond.constant own index v).before a0 Z = true) (hd : decode c.code pc = .ok (.ldc_w index, 3)) (hr : Go p e below (T.setTop (mkF m (pc + 3) Ls (.int v :: st))) P) : Go p e below (T.setTop (mkF m pc Ls st)) P := Go.mp (fun _ k => X.ldcWInt hx hown (mvT hZ w) (g := mkF m pc Ls st) rfl hd _ k) hr
end OwnS
set_option maxRecDepth 65536
set_option maxHeartbeats 40000000
def R_MP (Z : State) (h : Heap) (a : Addr) (v0 v1 v2 v3 : Value) : Prop := Exa Z h a "com/example/rosewood/rosewood/RosewoodMap" ∧ Fld Z h a "com/example/rosewood/rosewood/RosewoodMap" "comparator" "Ljava/util/Comparator;" v0 ∧ Fld Z h a "com/example/rosewood/rosewood/RosewoodMap" "root" "Lcom/example/rosewood/rosewood/RosewoodMap$Node;" v1 ∧ Fld Z h a "com/example/rosewood/rosewood/RosewoodMap" "size" "I" v2 ∧ Fld Z h a "com/example/rosewood/rosewood/RosewoodMap" "modCount" "I" v3
theorem R_MP_ext {Z : State} {h h' : Heap} {a : Addr} {v0 v1 v2 v3 : Value} (E : Ext h h') (F : R_MP Z h a v0 v1 v2 v3) : R_MP Z h' a v0 v1 v2 v3 := ⟨Exa.ext E F.1, Fld.ext E F.2.1, Fld.ext E F.2.2.1, Fld.ext E F.2.2.2.1, Fld.ext E F.2.2.2.2⟩
theorem R_MP_other {Z : State} {h h' : Heap} {a : Addr} {v0 v1 v2 v3 : Value} {b : Addr} {sl : Nat} {w : Value} (W : Wr h h' b sl w) (F : R_MP Z h a v0 v1 v2 v3) (q : a ≠ b) : R_MP Z h' a v0 v1 v2 v3 := ⟨Exa.wr W F.1, Fld.other W F.2.1 (Or.inl q), Fld.other W F.2.2.1 (Or.inl q), Fld.other W F.2.2.2.1 (Or.inl q), Fld.other W F.2.2.2.2 (Or.inl q)⟩
theorem R_MP_keep {Z : State} {h h' : Heap} {a : Addr} {v0 v1 v2 v3 : Value} {ws : List Addr} (F : R_MP Z h a v0 v1 v2 v3) (K : Keep h h' ws) (q : a ∉ ws) : R_MP Z h' a v0 v1 v2 v3 := ⟨Exa.keep F.1 K, Fld.keep F.2.1 K q, Fld.keep F.2.2.1 K q, Fld.keep F.2.2.2.1 K q, Fld.keep F.2.2.2.2 K q⟩
theorem R_MP_set_comparator {Z : State} {h h' : Heap} {a : Addr} {v0 v1 v2 v3 : Value} {w : Value} {a0 : Array Value} (hw : HW a0 Z) (W : Wr h h' a (Jvm.RoadKit.slotOf Z "com/example/rosewood/rosewood/RosewoodMap" "comparator" "Ljava/util/Comparator;") w) (F : R_MP Z h a v0 v1 v2 v3) : R_MP Z h' a w v1 v2 v3 := ⟨Exa.wr W F.1, Fld.same W F.2.1, Fld.other W F.2.2.1 (Or.inr (slot_ne (Or.inl (Wd36 hw)) (Or.inr (Wd18 hw)) (by decide) (t := (FieldType.object "com/example/rosewood/rosewood/RosewoodMap$Node")) (t' := (FieldType.object "java/util/Comparator")) (by decide) (by decide))), Fld.other W F.2.2.2.1 (Or.inr (slot_ne (Or.inl (Wd91 hw)) (Or.inr (Wd18 hw)) (by decide) (t := FieldType.int) (t' := (FieldType.object "java/util/Comparator")) (by decide) (by decide))), Fld.other W F.2.2.2.2 (Or.inr (slot_ne (Or.inl (Wd93 hw)) (Or.inr (Wd18 hw)) (by decide) (t := FieldType.int) (t' := (FieldType.object "java/util/Comparator")) (by decide) (by decide)))⟩
theorem R_MP_set_root {Z : State} {h h' : Heap} {a : Addr} {v0 v1 v2 v3 : Value} {w : Value} {a0 : Array Value} (hw : HW a0 Z) (W : Wr h h' a (Jvm.RoadKit.slotOf Z "com/example/rosewood/rosewood/RosewoodMap" "root" "Lcom/example/rosewood/rosewood/RosewoodMap$Node;") w) (F : R_MP Z h a v0 v1 v2 v3) : R_MP Z h' a v0 w v2 v3 := ⟨Exa.wr W F.1, Fld.other W F.2.1 (Or.inr (slot_ne (Or.inr (Wd18 hw)) (Or.inl (Wd36 hw)) (by decide) (t := (FieldType.object "java/util/Comparator")) (t' := (FieldType.object "com/example/rosewood/rosewood/RosewoodMap$Node")) (by decide) (by decide))), Fld.same W F.2.2.1, Fld.other W F.2.2.2.1 (Or.inr (slot_ne (Or.inl (Wd91 hw)) (Or.inl (Wd36 hw)) (by decide) (t := FieldType.int) (t' := (FieldType.object "com/example/rosewood/rosewood/RosewoodMap$Node")) (by decide) (by decide))), Fld.other W F.2.2.2.2 (Or.inr (slot_ne (Or.inl (Wd93 hw)) (Or.inl (Wd36 hw)) (by decide) (t := FieldType.int) (t' := (FieldType.object "com/example/rosewood/rosewood/RosewoodMap$Node")) (by decide) (by decide)))⟩
theorem R_MP_set_size {Z : State} {h h' : Heap} {a : Addr} {v0 v1 v2 v3 : Value} {w : Value} {a0 : Array Value} (hw : HW a0 Z) (W : Wr h h' a (Jvm.RoadKit.slotOf Z "com/example/rosewood/rosewood/RosewoodMap" "size" "I") w) (F : R_MP Z h a v0 v1 v2 v3) : R_MP Z h' a v0 v1 w v3 := ⟨Exa.wr W F.1, Fld.other W F.2.1 (Or.inr (slot_ne (Or.inr (Wd18 hw)) (Or.inl (Wd91 hw)) (by decide) (t := (FieldType.object "java/util/Comparator")) (t' := FieldType.int) (by decide) (by decide))), Fld.other W F.2.2.1 (Or.inr (slot_ne (Or.inl (Wd36 hw)) (Or.inl (Wd91 hw)) (by decide) (t := (FieldType.object "com/example/rosewood/rosewood/RosewoodMap$Node")) (t' := FieldType.int) (by decide) (by decide))), Fld.same W F.2.2.2.1, Fld.other W F.2.2.2.2 (Or.inr (slot_ne (Or.inl (Wd93 hw)) (Or.inl (Wd91 hw)) (by decide) (t := FieldType.int) (t' := FieldType.int) (by decide) (by decide)))⟩
theorem R_MP_set_modCount {Z : State} {h h' : Heap} {a : Addr} {v0 v1 v2 v3 : Value} {w : Value} {a0 : Array Value} (hw : HW a0 Z) (W : Wr h h' a (Jvm.RoadKit.slotOf Z "com/example/rosewood/rosewood/RosewoodMap" "modCount" "I") w) (F : R_MP Z h a v0 v1 v2 v3) : R_MP Z h' a v0 v1 v2 w := ⟨Exa.wr W F.1, Fld.other W F.2.1 (Or.inr (slot_ne (Or.inr (Wd18 hw)) (Or.inl (Wd93 hw)) (by decide) (t := (FieldType.object "java/util/Comparator")) (t' := FieldType.int) (by decide) (by decide))), Fld.other W F.2.2.1 (Or.inr (slot_ne (Or.inl (Wd36 hw)) (Or.inl (Wd93 hw)) (by decide) (t := (FieldType.object "com/example/rosewood/rosewood/RosewoodMap$Node")) (t' := FieldType.int) (by decide) (by decide))), Fld.other W F.2.2.2.1 (Or.inr (slot_ne (Or.inl (Wd91 hw)) (Or.inl (Wd93 hw)) (by decide) (t := FieldType.int) (t' := FieldType.int) (by decide) (by decide))), Fld.same W F.2.2.2.2⟩
def R_ND (Z : State) (h : Heap) (a : Addr) (v0 v1 v2 v3 v4 v5 : Value) : Prop := Exa Z h a "com/example/rosewood/rosewood/RosewoodMap$Node" ∧ Fld Z h a "com/example/rosewood/rosewood/RosewoodMap$Node" "key" "Ljava/lang/Object;" v0 ∧ Fld Z h a "com/example/rosewood/rosewood/RosewoodMap$Node" "value" "Ljava/lang/Object;" v1 ∧ Fld Z h a "com/example/rosewood/rosewood/RosewoodMap$Node" "left" "Lcom/example/rosewood/rosewood/RosewoodMap$Node;" v2 ∧ Fld Z h a "com/example/rosewood/rosewood/RosewoodMap$Node" "right" "Lcom/example/rosewood/rosewood/RosewoodMap$Node;" v3 ∧ Fld Z h a "com/example/rosewood/rosewood/RosewoodMap$Node" "parent" "Lcom/example/rosewood/rosewood/RosewoodMap$Node;" v4 ∧ Fld Z h a "com/example/rosewood/rosewood/RosewoodMap$Node" "redAndLeftCount" "I" v5
theorem R_ND_ext {Z : State} {h h' : Heap} {a : Addr} {v0 v1 v2 v3 v4 v5 : Value} (E : Ext h h') (F : R_ND Z h a v0 v1 v2 v3 v4 v5) : R_ND Z h' a v0 v1 v2 v3 v4 v5 := ⟨Exa.ext E F.1, Fld.ext E F.2.1, Fld.ext E F.2.2.1, Fld.ext E F.2.2.2.1, Fld.ext E F.2.2.2.2.1, Fld.ext E F.2.2.2.2.2.1, Fld.ext E F.2.2.2.2.2.2⟩
theorem R_ND_other {Z : State} {h h' : Heap} {a : Addr} {v0 v1 v2 v3 v4 v5 : Value} {b : Addr} {sl : Nat} {w : Value} (W : Wr h h' b sl w) (F : R_ND Z h a v0 v1 v2 v3 v4 v5) (q : a ≠ b) : R_ND Z h' a v0 v1 v2 v3 v4 v5 := ⟨Exa.wr W F.1, Fld.other W F.2.1 (Or.inl q), Fld.other W F.2.2.1 (Or.inl q), Fld.other W F.2.2.2.1 (Or.inl q), Fld.other W F.2.2.2.2.1 (Or.inl q), Fld.other W F.2.2.2.2.2.1 (Or.inl q), Fld.other W F.2.2.2.2.2.2 (Or.inl q)⟩
theorem R_ND_keep {Z : State} {h h' : Heap} {a : Addr} {v0 v1 v2 v3 v4 v5 : Value} {ws : List Addr} (F : R_ND Z h a v0 v1 v2 v3 v4 v5) (K : Keep h h' ws) (q : a ∉ ws) : R_ND Z h' a v0 v1 v2 v3 v4 v5 := ⟨Exa.keep F.1 K, Fld.keep F.2.1 K q, Fld.keep F.2.2.1 K q, Fld.keep F.2.2.2.1 K q, Fld.keep F.2.2.2.2.1 K q, Fld.keep F.2.2.2.2.2.1 K q, Fld.keep F.2.2.2.2.2.2 K q⟩
theorem R_ND_set_key {Z : State} {h h' : Heap} {a : Addr} {v0 v1 v2 v3 v4 v5 : Value} {w : Value} {a0 : Array Value} (hw : HW a0 Z) (W : Wr h h' a (Jvm.RoadKit.slotOf Z "com/example/rosewood/rosewood/RosewoodMap$Node" "key" "Ljava/lang/Object;") w) (F : R_ND Z h a v0 v1 v2 v3 v4 v5) : R_ND Z h' a w v1 v2 v3 v4 v5 := ⟨Exa.wr W F.1, Fld.same W F.2.1, Fld.other W F.2.2.1 (Or.inr (slot_ne (Or.inl (Wd82 hw)) (Or.inl (Wd80 hw)) (by decide) (t := (FieldType.object "java/lang/Object")) (t' := (FieldType.object "java/lang/Object")) (by decide) (by decide))), Fld.other W F.2.2.2.1 (Or.inr (slot_ne (Or.inl (Wd96 hw)) (Or.inl (Wd80 hw)) (by decide) (t := (FieldType.object "com/example/rosewood/rosewood/RosewoodMap$Node")) (t' := (FieldType.object "java/lang/Object")) (by decide) (by decide))), Fld.other W F.2.2.2.2.1 (Or.inr (slot_ne (Or.inl (Wd98 hw)) (Or.inl (Wd80 hw)) (by decide) (t := (FieldType.object "com/example/rosewood/rosewood/RosewoodMap$Node")) (t' := (FieldType.object "java/lang/Object")) (by decide) (by decide))), Fld.other W F.2.2.2.2.2.1 (Or.inr (slot_ne (Or.inl (Wd84 hw)) (Or.inl (Wd80 hw)) (by decide) (t := (FieldType.object "com/example/rosewood/rosewood/RosewoodMap$Node")) (t' := (FieldType.object "java/lang/Object")) (by decide) (by decide))), Fld.other W F.2.2.2.2.2.2 (Or.inr (slot_ne (Or.inl (Wd78 hw)) (Or.inl (Wd80 hw)) (by decide) (t := FieldType.int) (t' := (FieldType.object "java/lang/Object")) (by decide) (by decide)))⟩
theorem R_ND_set_value {Z : State} {h h' : Heap} {a : Addr} {v0 v1 v2 v3 v4 v5 : Value} {w : Value} {a0 : Array Value} (hw : HW a0 Z) (W : Wr h h' a (Jvm.RoadKit.slotOf Z "com/example/rosewood/rosewood/RosewoodMap$Node" "value" "Ljava/lang/Object;") w) (F : R_ND Z h a v0 v1 v2 v3 v4 v5) : R_ND Z h' a v0 w v2 v3 v4 v5 := ⟨Exa.wr W F.1, Fld.other W F.2.1 (Or.inr (slot_ne (Or.inl (Wd80 hw)) (Or.inl (Wd82 hw)) (by decide) (t := (FieldType.object "java/lang/Object")) (t' := (FieldType.object "java/lang/Object")) (by decide) (by decide))), Fld.same W F.2.2.1, Fld.other W F.2.2.2.1 (Or.inr (slot_ne (Or.inl (Wd96 hw)) (Or.inl (Wd82 hw)) (by decide) (t := (FieldType.object "com/example/rosewood/rosewood/RosewoodMap$Node")) (t' := (FieldType.object "java/lang/Object")) (by decide) (by decide))), Fld.other W F.2.2.2.2.1 (Or.inr (slot_ne (Or.inl (Wd98 hw)) (Or.inl (Wd82 hw)) (by decide) (t := (FieldType.object "com/example/rosewood/rosewood/RosewoodMap$Node")) (t' := (FieldType.object "java/lang/Object")) (by decide) (by decide))), Fld.other W F.2.2.2.2.2.1 (Or.inr (slot_ne (Or.inl (Wd84 hw)) (Or.inl (Wd82 hw)) (by decide) (t := (FieldType.object "com/example/rosewood/rosewood/RosewoodMap$Node")) (t' := (FieldType.object "java/lang/Object")) (by decide) (by decide))), Fld.other W F.2.2.2.2.2.2 (Or.inr (slot_ne (Or.inl (Wd78 hw)) (Or.inl (Wd82 hw)) (by decide) (t := FieldType.int) (t' := (FieldType.object "java/lang/Object")) (by decide) (by decide)))⟩
theorem R_ND_set_left {Z : State} {h h' : Heap} {a : Addr} {v0 v1 v2 v3 v4 v5 : Value} {w : Value} {a0 : Array Value} (hw : HW a0 Z) (W : Wr h h' a (Jvm.RoadKit.slotOf Z "com/example/rosewood/rosewood/RosewoodMap$Node" "left" "Lcom/example/rosewood/rosewood/RosewoodMap$Node;") w) (F : R_ND Z h a v0 v1 v2 v3 v4 v5) : R_ND Z h' a v0 v1 w v3 v4 v5 := ⟨Exa.wr W F.1, Fld.other W F.2.1 (Or.inr (slot_ne (Or.inl (Wd80 hw)) (Or.inl (Wd96 hw)) (by decide) (t := (FieldType.object "java/lang/Object")) (t' := (FieldType.object "com/example/rosewood/rosewood/RosewoodMap$Node")) (by decide) (by decide))), Fld.other W F.2.2.1 (Or.inr (slot_ne (Or.inl (Wd82 hw)) (Or.inl (Wd96 hw)) (by decide) (t := (FieldType.object "java/lang/Object")) (t' := (FieldType.object "com/example/rosewood/rosewood/RosewoodMap$Node")) (by decide) (by decide))), Fld.same W F.2.2.2.1, Fld.other W F.2.2.2.2.1 (Or.inr (slot_ne (Or.inl (Wd98 hw)) (Or.inl (Wd96 hw)) (by decide) (t := (FieldType.object "com/example/rosewood/rosewood/RosewoodMap$Node")) (t' := (FieldType.object "com/example/rosewood/rosewood/RosewoodMap$Node")) (by decide) (by decide))), Fld.other W F.2.2.2.2.2.1 (Or.inr (slot_ne (Or.inl (Wd84 hw)) (Or.inl (Wd96 hw)) (by decide) (t := (FieldType.object "com/example/rosewood/rosewood/RosewoodMap$Node")) (t' := (FieldType.object "com/example/rosewood/rosewood/RosewoodMap$Node")) (by decide) (by decide))), Fld.other W F.2.2.2.2.2.2 (Or.inr (slot_ne (Or.inl (Wd78 hw)) (Or.inl (Wd96 hw)) (by decide) (t := FieldType.int) (t' := (FieldType.object "com/example/rosewood/rosewood/RosewoodMap$Node")) (by decide) (by decide)))⟩
theorem R_ND_set_right {Z : State} {h h' : Heap} {a : Addr} {v0 v1 v2 v3 v4 v5 : Value} {w : Value} {a0 : Array Value} (hw : HW a0 Z) (W : Wr h h' a (Jvm.RoadKit.slotOf Z "com/example/rosewood/rosewood/RosewoodMap$Node" "right" "Lcom/example/rosewood/rosewood/RosewoodMap$Node;") w) (F : R_ND Z h a v0 v1 v2 v3 v4 v5) : R_ND Z h' a v0 v1 v2 w v4 v5 := ⟨Exa.wr W F.1, Fld.other W F.2.1 (Or.inr (slot_ne (Or.inl (Wd80 hw)) (Or.inl (Wd98 hw)) (by decide) (t := (FieldType.object "java/lang/Object")) (t' := (FieldType.object "com/example/rosewood/rosewood/RosewoodMap$Node")) (by decide) (by decide))), Fld.other W F.2.2.1 (Or.inr (slot_ne (Or.inl (Wd82 hw)) (Or.inl (Wd98 hw)) (by decide) (t := (FieldType.object "java/lang/Object")) (t' := (FieldType.object "com/example/rosewood/rosewood/RosewoodMap$Node")) (by decide) (by decide))), Fld.other W F.2.2.2.1 (Or.inr (slot_ne (Or.inl (Wd96 hw)) (Or.inl (Wd98 hw)) (by decide) (t := (FieldType.object "com/example/rosewood/rosewood/RosewoodMap$Node")) (t' := (FieldType.object "com/example/rosewood/rosewood/RosewoodMap$Node")) (by decide) (by decide))), Fld.same W F.2.2.2.2.1, Fld.other W F.2.2.2.2.2.1 (Or.inr (slot_ne (Or.inl (Wd84 hw)) (Or.inl (Wd98 hw)) (by decide) (t := (FieldType.object "com/example/rosewood/rosewood/RosewoodMap$Node")) (t' := (FieldType.object "com/example/rosewood/rosewood/RosewoodMap$Node")) (by decide) (by decide))), Fld.other W F.2.2.2.2.2.2 (Or.inr (slot_ne (Or.inl (Wd78 hw)) (Or.inl (Wd98 hw)) (by decide) (t := FieldType.int) (t' := (FieldType.object "com/example/rosewood/rosewood/RosewoodMap$Node")) (by decide) (by decide)))⟩
theorem R_ND_set_parent {Z : State} {h h' : Heap} {a : Addr} {v0 v1 v2 v3 v4 v5 : Value} {w : Value} {a0 : Array Value} (hw : HW a0 Z) (W : Wr h h' a (Jvm.RoadKit.slotOf Z "com/example/rosewood/rosewood/RosewoodMap$Node" "parent" "Lcom/example/rosewood/rosewood/RosewoodMap$Node;") w) (F : R_ND Z h a v0 v1 v2 v3 v4 v5) : R_ND Z h' a v0 v1 v2 v3 w v5 := ⟨Exa.wr W F.1, Fld.other W F.2.1 (Or.inr (slot_ne (Or.inl (Wd80 hw)) (Or.inl (Wd84 hw)) (by decide) (t := (FieldType.object "java/lang/Object")) (t' := (FieldType.object "com/example/rosewood/rosewood/RosewoodMap$Node")) (by decide) (by decide))), Fld.other W F.2.2.1 (Or.inr (slot_ne (Or.inl (Wd82 hw)) (Or.inl (Wd84 hw)) (by decide) (t := (FieldType.object "java/lang/Object")) (t' := (FieldType.object "com/example/rosewood/rosewood/RosewoodMap$Node")) (by decide) (by decide))), Fld.other W F.2.2.2.1 (Or.inr (slot_ne (Or.inl (Wd96 hw)) (Or.inl (Wd84 hw)) (by decide) (t := (FieldType.object "com/example/rosewood/rosewood/RosewoodMap$Node")) (t' := (FieldType.object "com/example/rosewood/rosewood/RosewoodMap$Node")) (by decide) (by decide))), Fld.other W F.2.2.2.2.1 (Or.inr (slot_ne (Or.inl (Wd98 hw)) (Or.inl (Wd84 hw)) (by decide) (t := (FieldType.object "com/example/rosewood/rosewood/RosewoodMap$Node")) (t' := (FieldType.object "com/example/rosewood/rosewood/RosewoodMap$Node")) (by decide) (by decide))), Fld.same W F.2.2.2.2.2.1, Fld.other W F.2.2.2.2.2.2 (Or.inr (slot_ne (Or.inl (Wd78 hw)) (Or.inl (Wd84 hw)) (by decide) (t := FieldType.int) (t' := (FieldType.object "com/example/rosewood/rosewood/RosewoodMap$Node")) (by decide) (by decide)))⟩
theorem R_ND_set_redAndLeftCount {Z : State} {h h' : Heap} {a : Addr} {v0 v1 v2 v3 v4 v5 : Value} {w : Value} {a0 : Array Value} (hw : HW a0 Z) (W : Wr h h' a (Jvm.RoadKit.slotOf Z "com/example/rosewood/rosewood/RosewoodMap$Node" "redAndLeftCount" "I") w) (F : R_ND Z h a v0 v1 v2 v3 v4 v5) : R_ND Z h' a v0 v1 v2 v3 v4 w := ⟨Exa.wr W F.1, Fld.other W F.2.1 (Or.inr (slot_ne (Or.inl (Wd80 hw)) (Or.inl (Wd78 hw)) (by decide) (t := (FieldType.object "java/lang/Object")) (t' := FieldType.int) (by decide) (by decide))), Fld.other W F.2.2.1 (Or.inr (slot_ne (Or.inl (Wd82 hw)) (Or.inl (Wd78 hw)) (by decide) (t := (FieldType.object "java/lang/Object")) (t' := FieldType.int) (by decide) (by decide))), Fld.other W F.2.2.2.1 (Or.inr (slot_ne (Or.inl (Wd96 hw)) (Or.inl (Wd78 hw)) (by decide) (t := (FieldType.object "com/example/rosewood/rosewood/RosewoodMap$Node")) (t' := FieldType.int) (by decide) (by decide))), Fld.other W F.2.2.2.2.1 (Or.inr (slot_ne (Or.inl (Wd98 hw)) (Or.inl (Wd78 hw)) (by decide) (t := (FieldType.object "com/example/rosewood/rosewood/RosewoodMap$Node")) (t' := FieldType.int) (by decide) (by decide))), Fld.other W F.2.2.2.2.2.1 (Or.inr (slot_ne (Or.inl (Wd84 hw)) (Or.inl (Wd78 hw)) (by decide) (t := (FieldType.object "com/example/rosewood/rosewood/RosewoodMap$Node")) (t' := FieldType.int) (by decide) (by decide))), Fld.same W F.2.2.2.2.2.2⟩
def R_IN (Z : State) (h : Heap) (a : Addr) (v0 : Value) : Prop := Exa Z h a "java/lang/Integer" ∧ Fld Z h a "java/lang/Integer" "value" "I" v0
theorem R_IN_ext {Z : State} {h h' : Heap} {a : Addr} {v0 : Value} (E : Ext h h') (F : R_IN Z h a v0) : R_IN Z h' a v0 := ⟨Exa.ext E F.1, Fld.ext E F.2⟩
theorem R_IN_other {Z : State} {h h' : Heap} {a : Addr} {v0 : Value} {b : Addr} {sl : Nat} {w : Value} (W : Wr h h' b sl w) (F : R_IN Z h a v0) (q : a ≠ b) : R_IN Z h' a v0 := ⟨Exa.wr W F.1, Fld.other W F.2 (Or.inl q)⟩
theorem R_IN_keep {Z : State} {h h' : Heap} {a : Addr} {v0 : Value} {ws : List Addr} (F : R_IN Z h a v0) (K : Keep h h' ws) (q : a ∉ ws) : R_IN Z h' a v0 := ⟨Exa.keep F.1 K, Fld.keep F.2 K q⟩
theorem R_IN_set_value {Z : State} {h h' : Heap} {a : Addr} {v0 : Value} {w : Value} {a0 : Array Value} (hw : HW a0 Z) (W : Wr h h' a (Jvm.RoadKit.slotOf Z "java/lang/Integer" "value" "I") w) (F : R_IN Z h a v0) : R_IN Z h' a w := ⟨Exa.wr W F.1, Fld.same W F.2⟩
theorem own_box {i : Int32} (h1 : ¬ i < (-128 : Int32)) (h2 : ¬ (127 : Int32) < i) {n : Nat} (hn : n = (256 : Int32).toNatClampNeg) : ¬ ((i + (128 : Int32)) < 0 ∨ n ≤ (i + (128 : Int32)).toNatClampNeg) := by
  rw [Int32.lt_iff_toInt_lt] at h1 h2
  have q := c_iadd i 128; have r := rng32 (i + 128); have e : (128 : Int32).toInt = 128 := rfl
  have e1 : (-128 : Int32).toInt = -128 := rfl
  have e2 : (127 : Int32).toInt = 127 := rfl
  have e3 : (256 : Int32).toNatClampNeg = 256 := rfl
  have e0 : (0 : Int32).toInt = 0 := rfl
  have r0 := rng32 i
  rw [Int32.lt_iff_toInt_lt]
  simp only [Int32.toNatClampNeg] at *
  omega
theorem own_exane {Z : State} {h : Heap} {a b : Addr} {C D : String} (E : Exa Z h a C) (F : Exa Z h b D) (q : C ≠ D) : a ≠ b := Exa.ne E F q
theorem ef_33_R (m : MethodId) (x0 : Addr) : entryFrame m #[(.ref x0)] 1 = mkF m 0 #[vr x0] [] := by first | (simp [entryFrame, mkF, argsToLocals, Value.category]; done) | rfl
theorem pn_0 : plainName "java/lang/Number" = true := by first | (simp [plainName, overriddenIn]; done) | decide +kernel
theorem d33_0 : decode jdk_18_method_1_code 0 = .ok (.aload_n 0, 1) := by decide +kernel
theorem d33_1 : decode jdk_18_method_1_code 1 = .ok (.invokespecial 1, 3) := by decide +kernel
theorem d33_4 : decode jdk_18_method_1_code 4 = .ok (.return_, 1) := by decide +kernel
theorem rm_init_1 (l : Launch) (Z : State) (a0 : Array Value) (hw : HW a0 Z) (a1 : Addr) (h0 : Heap) (n0 : Nat) (Z0 : n0 ≤ h0.size) (O_a1 : R_IN Z h0 a1 (.int 0)) :
    Ctr l Y0 jdk_18_method_1_code 1 none [] ({ frames := 1, cells := 0, slots := 0, locals := 12 } : Room) Z #[(.ref a1)] h0 (fun v h L => v = none ∧ Fr n0 L ∧ h = h0) := by
  refine own_enter pn_0 (fun p e s m below meth c s₁ hx hby hml hown hnm hret hlk hZ X0 e0 => ?_)
  have N0 := Fr.nil n0
  have K0 := Keep.refl h0 []
  rw [ef_33_R m _]
  show Go p e below (s₁.setTop (mkF m 0 #[vr a1] [])) _
  refine g_aloadN X0 hx (hb hby d33_0) rfl rfl ?_
  refine g_init X0 hx hZ hown (Wd189 hw) (Wd15 hw) (Wd16 hw) e0 (by rw [hml]; rfl) (hb hby d33_1) (by decide) (W := 0) (Nat.le_of_eq rfl) (by decide) (fun T1 X1 e1 => ?_)
  exact own_retV X1 hx hret hlk (hb hby d33_4) (by decide) (by decide) ⟨rfl, N0, e1⟩
theorem pd_0 : parseMethodDescriptor "()V" = some ⟨[], none⟩ := by decide +kernel
theorem fd_0 : parseFieldDescriptor "I" = some FieldType.int := by decide
theorem ef_32_RI (m : MethodId) (x0 : Addr) (x1 : Int32) : entryFrame m #[(.ref x0), (.int x1)] 2 = mkF m 0 #[vr x0, vi x1] [] := by first | (simp [entryFrame, mkF, argsToLocals, Value.category]; done) | rfl
theorem pn_1 : plainName "java/lang/Integer" = true := by first | (simp [plainName, overriddenIn]; done) | decide +kernel
theorem d32_0 : decode jdk_33_method_23_code 0 = .ok (.aload_n 0, 1) := by decide +kernel
theorem d32_1 : decode jdk_33_method_23_code 1 = .ok (.invokespecial 202, 3) := by decide +kernel
theorem d32_4 : decode jdk_33_method_23_code 4 = .ok (.aload_n 0, 1) := by decide +kernel
theorem d32_5 : decode jdk_33_method_23_code 5 = .ok (.iload_n 1, 1) := by decide +kernel
theorem d32_6 : decode jdk_33_method_23_code 6 = .ok (.putfield 205, 3) := by decide +kernel
theorem d32_9 : decode jdk_33_method_23_code 9 = .ok (.return_, 1) := by decide +kernel
theorem rm_init_0 (l : Launch) (Z : State) (a0 : Array Value) (hw : HW a0 Z) (a1 : Addr) (i1 : Int32) (h0 : Heap) (n0 : Nat) (Z0 : n0 ≤ h0.size) (O_a1 : R_IN Z h0 a1 (.int 0)) (g_a1 : n0 ≤ a1) (hk0 : i1 < (-128 : Int32)) :
    Ctr l Y1 jdk_33_method_23_code 2 none [] ({ frames := 2, cells := 0, slots := 0, locals := 24 } : Room) Z #[(.ref a1), (.int i1)] h0 (fun v h L => v = none ∧ Fr n0 L ∧ Keep h0 h [a1] ∧ R_IN Z h a1 (.int i1)) := by
  refine own_enter pn_1 (fun p e s m below meth c s₁ hx hby hml hown hnm hret hlk hZ X0 e0 => ?_)
  have N0 := Fr.nil n0
  have K0 := Keep.refl h0 [a1]
  rw [ef_32_RI m _ _]
  show Go p e below (s₁.setTop (mkF m 0 #[vr a1, vi i1] [])) _
  refine g_aloadN X0 hx (hb hby d32_0) rfl rfl ?_
  refine g_call (own_callI X0 hx hZ (y := Y0) hown (Wd183 hw) (Wd184 hw) (Wd188 hw) (Wd187 hw) rfl (by decide) (rm_init_1 l Z a0 hw a1 h0 n0 Z0 O_a1) e0 pd_0 (hb hby d32_1) (by rw [hml]; rfl) (argsL := []) (rest := []) rfl rfl rfl (W := 0) (Nat.le_of_eq rfl) (by decide)) (fun v1 T1 L1 X1 q1 => ?_)
  obtain ⟨rfl, M1, e1⟩ := q1
  have N1 := Fr.app N0 M1
  refine g_aloadN X1 hx (hb hby d32_4) rfl rfl ?_
  refine g_iloadN X1 hx (hb hby d32_5) rfl ?_
  refine g_putF X1 hx hZ hown (Wd59 hw) e1 O_a1.2 O_a1.1 (Or.inr ⟨(Wd60 hw), rfl, hnm⟩) (Wd179 hw) fd_0 rfl rfl (hb hby d32_6) (fun T2 h2 X2 e2 W2 => ?_)
  have N2 := Fr.snoc X2 N1 g_a1
  have O_a1_2 := R_IN_set_value hw W2 O_a1
  have Z2 : n0 ≤ h2.size := Nat.le_trans Z0 (Nat.le_of_eq W2.size.symm)
  have K2 := Keep.wr K0 W2 (Or.inl (List.mem_of_getElem? (i := 0) rfl))
  exact own_retV X2 hx hret hlk (hb hby d32_9) (by decide) (by decide) (by rw [e2]; exact ⟨rfl, N2, K2, O_a1_2⟩)
theorem pd_1 : parseMethodDescriptor "(I)V" = some ⟨[FieldType.int], none⟩ := by decide +kernel
theorem rm_init_2 (l : Launch) (Z : State) (a0 : Array Value) (hw : HW a0 Z) (a1 : Addr) (i1 : Int32) (h0 : Heap) (n0 : Nat) (Z0 : n0 ≤ h0.size) (O_a1 : R_IN Z h0 a1 (.int 0)) (g_a1 : n0 ≤ a1) (hk0 : ¬ (i1 < (-128 : Int32))) (hk1 : (127 : Int32) < i1) :
    Ctr l Y1 jdk_33_method_23_code 2 none [] ({ frames := 2, cells := 0, slots := 0, locals := 24 } : Room) Z #[(.ref a1), (.int i1)] h0 (fun v h L => v = none ∧ Fr n0 L ∧ Keep h0 h [a1] ∧ R_IN Z h a1 (.int i1)) := by
  refine own_enter pn_1 (fun p e s m below meth c s₁ hx hby hml hown hnm hret hlk hZ X0 e0 => ?_)
  have N0 := Fr.nil n0
  have K0 := Keep.refl h0 [a1]
  rw [ef_32_RI m _ _]
  show Go p e below (s₁.setTop (mkF m 0 #[vr a1, vi i1] [])) _
  refine g_aloadN X0 hx (hb hby d32_0) rfl rfl ?_
  refine g_call (own_callI X0 hx hZ (y := Y0) hown (Wd183 hw) (Wd184 hw) (Wd188 hw) (Wd187 hw) rfl (by decide) (rm_init_1 l Z a0 hw a1 h0 n0 Z0 O_a1) e0 pd_0 (hb hby d32_1) (by rw [hml]; rfl) (argsL := []) (rest := []) rfl rfl rfl (W := 0) (Nat.le_of_eq rfl) (by decide)) (fun v1 T1 L1 X1 q1 => ?_)
  obtain ⟨rfl, M1, e1⟩ := q1
  have N1 := Fr.app N0 M1
  refine g_aloadN X1 hx (hb hby d32_4) rfl rfl ?_
  refine g_iloadN X1 hx (hb hby d32_5) rfl ?_
  refine g_putF X1 hx hZ hown (Wd59 hw) e1 O_a1.2 O_a1.1 (Or.inr ⟨(Wd60 hw), rfl, hnm⟩) (Wd179 hw) fd_0 rfl rfl (hb hby d32_6) (fun T2 h2 X2 e2 W2 => ?_)
  have N2 := Fr.snoc X2 N1 g_a1
  have O_a1_2 := R_IN_set_value hw W2 O_a1
  have Z2 : n0 ≤ h2.size := Nat.le_trans Z0 (Nat.le_of_eq W2.size.symm)
  have K2 := Keep.wr K0 W2 (Or.inl (List.mem_of_getElem? (i := 0) rfl))
  exact own_retV X2 hx hret hlk (hb hby d32_9) (by decide) (by decide) (by rw [e2]; exact ⟨rfl, N2, K2, O_a1_2⟩)
theorem ef_5_I (m : MethodId) (x0 : Int32) : entryFrame m #[(.int x0)] 1 = mkF m 0 #[vi x0] [] := by first | (simp [entryFrame, mkF, argsToLocals, Value.category]; done) | rfl
theorem d5_0 : decode jdk_33_method_22_code 0 = .ok (.iload_n 0, 1) := by decide +kernel
theorem d5_1 : decode jdk_33_method_22_code 1 = .ok (.bipush (-128), 2) := by decide +kernel
theorem d5_3 : decode jdk_33_method_22_code 3 = .ok (.if_icmp .lt 20, 3) := by decide +kernel
theorem d5_6 : decode jdk_33_method_22_code 6 = .ok (.iload_n 0, 1) := by decide +kernel
theorem d5_7 : decode jdk_33_method_22_code 7 = .ok (.getstatic 191, 3) := by decide +kernel
theorem d5_10 : decode jdk_33_method_22_code 10 = .ok (.if_icmp .gt 13, 3) := by decide +kernel
theorem d5_13 : decode jdk_33_method_22_code 13 = .ok (.getstatic 195, 3) := by decide +kernel
theorem d5_16 : decode jdk_33_method_22_code 16 = .ok (.iload_n 0, 1) := by decide +kernel
theorem d5_17 : decode jdk_33_method_22_code 17 = .ok (.sipush 128, 3) := by decide +kernel
theorem d5_20 : decode jdk_33_method_22_code 20 = .ok (.iadd, 1) := by decide +kernel
theorem d5_21 : decode jdk_33_method_22_code 21 = .ok (.aaload, 1) := by decide +kernel
theorem d5_22 : decode jdk_33_method_22_code 22 = .ok (.areturn, 1) := by decide +kernel
theorem d5_23 : decode jdk_33_method_22_code 23 = .ok (.new 1, 3) := by decide +kernel
theorem d5_26 : decode jdk_33_method_22_code 26 = .ok (.dup, 1) := by decide +kernel
theorem d5_27 : decode jdk_33_method_22_code 27 = .ok (.iload_n 0, 1) := by decide +kernel
theorem d5_28 : decode jdk_33_method_22_code 28 = .ok (.invokespecial 199, 3) := by decide +kernel
theorem d5_31 : decode jdk_33_method_22_code 31 = .ok (.areturn, 1) := by decide +kernel
theorem rm_valueOf (l : Launch) (Z : State) (a0 : Array Value) (hw : HW a0 Z) (wc : Addr) (clc : Cell) (i1 : Int32) (h0 : Heap) (n0 : Nat) (Z0 : n0 ≤ h0.size) (hN : Z.heap.size ≤ n0) (C1 : Sta Z Z.heap "java/lang/Integer$IntegerCache" "high" "I" (.int 127)) (C2 : Sta Z Z.heap "java/lang/Integer$IntegerCache" "cache" "[Ljava/lang/Integer;" (.ref wc)) (BX : Bxs Z wc clc "java/lang/Integer" "I" (256 : Int32) (fun j => .int (j - (128 : Int32)))) (KO : Keep Z.heap h0 []) :
    Ctr l Y2 jdk_33_method_22_code 1 (some (FieldType.object "java/lang/Integer")) [] ({ frames := 3, cells := 1, slots := 1, locals := 60 } : Room) Z #[(.int i1)] h0 (fun v h L => ∃ b, v = some (.ref b) ∧ Fr n0 L ∧ Keep h0 h [] ∧ R_IN Z h b (.int i1)) := by
  refine own_enter pn_1 (fun p e s m below meth c s₁ hx hby hml hown hnm hret hlk hZ X0 e0 => ?_)
  have N0 := Fr.nil n0
  have K0 := Keep.refl h0 []
  have S_high := own_sta_keep C1 KO (fun _ q => nomatch q)
  have S_cache := own_sta_keep C2 KO (fun _ q => nomatch q)
  rw [ef_5_I m _]
  show Go p e below (s₁.setTop (mkF m 0 #[vi i1] [])) _
  refine g_iloadN X0 hx (hb hby d5_0) rfl ?_
  refine g_bipush X0 hx (-128 : Int32) (hb hby d5_1) (by decide) ?_
  by_cases c3_1 : i1 < (-128 : Int32)
  · refine g_icmpYes X0 hx 23 (hb hby d5_3) (tlt c3_1).1 (by decide) (by decide) ?_
    obtain ⟨T2, h2, X2, e2, E2, A2, D2, -, st2⟩ := newO X0 hx hZ hown (Wd52 hw) (Wd179 hw) (Wd21 hw) e0 (g := (mkF m 23 #[vi i1] [])) rfl (hb hby d5_23) (by decide) (by decide)
    obtain ⟨b2, g2⟩ : ∃ z, z = h0.size := ⟨_, rfl⟩
    rw [← g2] at A2 D2 st2
    have g_b2 : n0 ≤ b2 := Nat.le_trans Z0 (Nat.le_of_eq g2.symm)
    have Z2 : n0 ≤ h2.size := Nat.le_trans Z0 E2.1
    have S_high_2 := Sta.ext E2 S_high
    have S_cache_2 := Sta.ext E2 S_cache
    have sz_b2 : h0.size ≤ b2 := Nat.le_trans K0.1 (Nat.le_of_eq g2.symm)
    have K2 := Keep.ext K0 E2
    have O2 : R_IN Z h2 b2 (.int 0) := ⟨A2, D2 (Or.inr (Wd60 hw)) (ty := FieldType.int) (by decide)⟩
    refine Go.mp st2 ?_
    show Go p e below (T2.setTop (mkF m 26 #[vi i1] [(.ref b2)])) _
    refine g_dup X2 hx (hb hby d5_26) rfl ?_
    refine g_iloadN X2 hx (hb hby d5_27) rfl ?_
    refine g_call (own_callI X2 hx hZ (y := Y1) hown (Wd180 hw) (Wd181 hw) (Wd182 hw) (Wd21 hw) rfl (by decide) (rm_init_0 l Z a0 hw b2 i1 h2 n0 Z2 O2 g_b2 c3_1) e2 pd_1 (hb hby d5_28) (by rw [hml]; rfl) (argsL := [(.int i1)]) (rest := [(.ref b2)]) rfl rfl rfl (W := 1) (Nat.le_of_eq rfl) (by decide)) (fun v3 T3 L3 X3 q3 => ?_)
    obtain ⟨rfl, M3, Kc3, Rk3_0⟩ := q3
    have N3 := Fr.app N0 M3
    have S_high_3 := own_sta_keep S_high_2 Kc3 (own_plain O2.1 (fun _ q => nomatch q))
    have S_cache_3 := own_sta_keep S_cache_2 Kc3 (own_plain O2.1 (fun _ q => nomatch q))
    have K3 := Keep.trans K2 Kc3 (own_memc (Or.inr sz_b2) own_memn)
    have Z3 : n0 ≤ T3.heap.size := Nat.le_trans Z2 Kc3.1
    exact own_retA X3 hx hret hlk rfl rfl (hb hby d5_31) (by decide) (by decide) (by rw [(rfl : T3.heap = T3.heap)]; exact ⟨b2, rfl, N3, K3, Rk3_0⟩)
  · refine g_icmpNo X0 hx (hb hby d5_3) (flt c3_1).1 ?_
    refine g_iloadN X0 hx (hb hby d5_6) rfl ?_
    obtain ⟨T4, X4, e4, st4⟩ := getS2 X0 hx hZ hown (host := "") (Or.inl (Wd23 hw)) Via.refl e0 S_high (g := (mkF m 7 #[vi i1] [(.int i1)])) rfl (hb hby d5_7)
    refine Go.mp st4 ?_
    show Go p e below (T4.setTop (mkF m 10 #[vi i1] [(.int 127), (.int i1)])) _
    by_cases c10_5 : (127 : Int32) < i1
    · refine g_icmpYes X4 hx 23 (hb hby d5_10) (tlt c10_5).2.2.1 (by decide) (by decide) ?_
      obtain ⟨T6, h6, X6, e6, E6, A6, D6, -, st6⟩ := newO X4 hx hZ hown (Wd52 hw) (Wd179 hw) (Wd21 hw) e4 (g := (mkF m 23 #[vi i1] [])) rfl (hb hby d5_23) (by decide) (by decide)
      obtain ⟨b6, g6⟩ : ∃ z, z = h0.size := ⟨_, rfl⟩
      rw [← g6] at A6 D6 st6
      have g_b6 : n0 ≤ b6 := Nat.le_trans Z0 (Nat.le_of_eq g6.symm)
      have Z6 : n0 ≤ h6.size := Nat.le_trans Z0 E6.1
      have S_high_6 := Sta.ext E6 S_high
      have S_cache_6 := Sta.ext E6 S_cache
      have sz_b6 : h0.size ≤ b6 := Nat.le_trans K0.1 (Nat.le_of_eq g6.symm)
      have K6 := Keep.ext K0 E6
      have O6 : R_IN Z h6 b6 (.int 0) := ⟨A6, D6 (Or.inr (Wd60 hw)) (ty := FieldType.int) (by decide)⟩
      refine Go.mp st6 ?_
      show Go p e below (T6.setTop (mkF m 26 #[vi i1] [(.ref b6)])) _
      refine g_dup X6 hx (hb hby d5_26) rfl ?_
      refine g_iloadN X6 hx (hb hby d5_27) rfl ?_
      refine g_call (own_callI X6 hx hZ (y := Y1) hown (Wd180 hw) (Wd181 hw) (Wd182 hw) (Wd21 hw) rfl (by decide) (rm_init_2 l Z a0 hw b6 i1 h6 n0 Z6 O6 g_b6 c3_1 c10_5) e6 pd_1 (hb hby d5_28) (by rw [hml]; rfl) (argsL := [(.int i1)]) (rest := [(.ref b6)]) rfl rfl rfl (W := 1) (Nat.le_of_eq rfl) (by decide)) (fun v7 T7 L7 X7 q7 => ?_)
      obtain ⟨rfl, M7, Kc7, Rk7_0⟩ := q7
      have N7 := Fr.app N0 M7
      have S_high_7 := own_sta_keep S_high_6 Kc7 (own_plain O6.1 (fun _ q => nomatch q))
      have S_cache_7 := own_sta_keep S_cache_6 Kc7 (own_plain O6.1 (fun _ q => nomatch q))
      have K7 := Keep.trans K6 Kc7 (own_memc (Or.inr sz_b6) own_memn)
      have Z7 : n0 ≤ T7.heap.size := Nat.le_trans Z6 Kc7.1
      exact own_retA X7 hx hret hlk rfl rfl (hb hby d5_31) (by decide) (by decide) (by rw [(rfl : T7.heap = T7.heap)]; exact ⟨b6, rfl, N7, K7, Rk7_0⟩)
    · refine g_icmpNo X4 hx (hb hby d5_10) (flt c10_5).2.2.1 ?_
      obtain ⟨T8, X8, e8, st8⟩ := getS2 X4 hx hZ hown (host := "") (Or.inl (Wd25 hw)) Via.refl e4 S_cache (g := (mkF m 13 #[vi i1] [])) rfl (hb hby d5_13)
      refine Go.mp st8 ?_
      show Go p e below (T8.setTop (mkF m 16 #[vi i1] [(.ref wc)])) _
      refine g_iloadN X8 hx (hb hby d5_16) rfl ?_
      refine g_sipush X8 hx (128 : Int32) (hb hby d5_17) (by decide) ?_
      refine g_iadd X8 hx (hb hby d5_20) ?_
      show Go p e below (T8.setTop (mkF m 21 #[vi i1] [(.int (i1 + (128 : Int32))), (.ref wc)])) _
      have hin := own_box c3_1 c10_5 BX.2.1
      obtain ⟨bo, hat, Eb, Fb⟩ := BX.2.2.2 _ hin
      have Ar : Arr Z h0 wc clc (.object "java/lang/Integer") := ⟨KO.2.1 _ _ BX.1.1 List.not_mem_nil, BX.1.2⟩
      have O_bo : R_IN Z h0 bo (.int i1) := ⟨Exa.keep Eb KO, by have q : Fld Z h0 bo "java/lang/Integer" "value" "I" (.int (i1 + (128 : Int32) - (128 : Int32))) := Fld.keep Fb KO List.not_mem_nil; rwa [show i1 + (128 : Int32) - (128 : Int32) = i1 from Int32.add_sub_cancel _ _] at q⟩
      refine Go.mp (fun _ k => X8.aaload hx (j := (i1 + (128 : Int32))) (v := .ref bo) (by rw [e8]; exact Ar.1) (State.isArrayOf_alike hZ.alike Ar.2.1) rfl Ar.2.2 hin hat (g := (mkF m 21 #[vi i1] [(.int (i1 + (128 : Int32))), (.ref wc)])) rfl rfl (hb hby d5_21) _ k) ?_
      show Go p e below (T8.setTop (mkF m 22 #[vi i1] [(.ref bo)])) _
      exact own_retA X8 hx hret hlk rfl rfl (hb hby d5_22) (by decide) (by decide) (by rw [e8]; exact ⟨bo, rfl, N0, K0, O_bo⟩)
def own_S (s : Int32) (P : Prop) : Prop := (s = (1 : Int32) ∧ P) ∨ (s = (0 : Int32) ∧ ¬ P)
theorem own_ix {args : Array Value} {Z : State} {j : Int32} (hj : ¬ j < 0) : (Term.sub (Term.index 0) (Term.int 128)).eval args Z none [j.toNatClampNeg] Z = some (.int (j - (128 : Int32))) := by
  simp [Term.eval, idx_at hj]
  exact (back32 hj).1
theorem ef_25_R (m : MethodId) (x0 : Addr) : entryFrame m #[(.ref x0)] 1 = mkF m 0 #[vr x0] [] := by first | (simp [entryFrame, mkF, argsToLocals, Value.category]; done) | rfl
theorem pn_2 : plainName "com/example/rosewood/rosewood/RosewoodMap" = true := by first | (simp [plainName, overriddenIn]; done) | decide +kernel
theorem d25_0 : decode prog_7_method_4_code 0 = .ok (.aload_n 0, 1) := by decide +kernel
theorem d25_1 : decode prog_7_method_4_code 1 = .ok (.getfield 18, 3) := by decide +kernel
theorem d25_4 : decode prog_7_method_4_code 4 = .ok (.ireturn, 1) := by decide +kernel
theorem rm_size_3 (l : Launch) (Z : State) (a0 : Array Value) (hw : HW a0 Z) (a1 : Addr) (i1 : Int32) (h0 : Heap) (n0 : Nat) (Z0 : n0 ≤ h0.size) (O_a1 : R_MP Z h0 a1 .null .null (.int 0) (.int i1)) :
    Ctr l Y3 prog_7_method_4_code 1 (some FieldType.int) [] ({ frames := 0, cells := 0, slots := 0, locals := 0 } : Room) Z #[(.ref a1)] h0 (fun v h L => v = some (.int 0) ∧ Fr n0 L ∧ h = h0) := by
  refine own_enter pn_2 (fun p e s m below meth c s₁ hx hby hml hown hnm hret hlk hZ X0 e0 => ?_)
  have N0 := Fr.nil n0
  have K0 := Keep.refl h0 []
  rw [ef_25_R m _]
  show Go p e below (s₁.setTop (mkF m 0 #[vr a1] [])) _
  refine g_aloadN X0 hx (hb hby d25_0) rfl rfl ?_
  refine g_getF X0 hx hZ hown (Wd90 hw) e0 O_a1.2.2.2.1 (hb hby d25_1) (fun T1 X1 e1 => ?_)
  exact own_retI X1 hx hret hlk (hb hby d25_4) (by decide) (by decide) ⟨rfl, N0, e1⟩
theorem pd_2 : parseMethodDescriptor "()I" = some ⟨[], some FieldType.int⟩ := by decide +kernel
theorem ef_26_R (m : MethodId) (x0 : Addr) : entryFrame m #[(.ref x0)] 1 = mkF m 0 #[vr x0] [] := by first | (simp [entryFrame, mkF, argsToLocals, Value.category]; done) | rfl
theorem d26_0 : decode prog_7_method_5_code 0 = .ok (.aload_n 0, 1) := by decide +kernel
theorem d26_1 : decode prog_7_method_5_code 1 = .ok (.getfield 22, 3) := by decide +kernel
theorem d26_4 : decode prog_7_method_5_code 4 = .ok (.ifnonnull 7, 3) := by decide +kernel
theorem d26_7 : decode prog_7_method_5_code 7 = .ok (.iconst 1, 1) := by decide +kernel
theorem d26_8 : decode prog_7_method_5_code 8 = .ok (.goto 4, 3) := by decide +kernel
theorem d26_12 : decode prog_7_method_5_code 12 = .ok (.ireturn, 1) := by decide +kernel
theorem rm_isEmpty_4 (l : Launch) (Z : State) (a0 : Array Value) (hw : HW a0 Z) (a1 : Addr) (i1 : Int32) (h0 : Heap) (n0 : Nat) (Z0 : n0 ≤ h0.size) (O_a1 : R_MP Z h0 a1 .null .null (.int 0) (.int i1)) :
    Ctr l Y4 prog_7_method_5_code 1 (some FieldType.boolean) [] ({ frames := 0, cells := 0, slots := 0, locals := 0 } : Room) Z #[(.ref a1)] h0 (fun v h L => v = some (.int 1) ∧ Fr n0 L ∧ h = h0) := by
  refine own_enter pn_2 (fun p e s m below meth c s₁ hx hby hml hown hnm hret hlk hZ X0 e0 => ?_)
  have N0 := Fr.nil n0
  have K0 := Keep.refl h0 []
  rw [ef_26_R m _]
  show Go p e below (s₁.setTop (mkF m 0 #[vr a1] [])) _
  refine g_aloadN X0 hx (hb hby d26_0) rfl rfl ?_
  refine g_getF X0 hx hZ hown (Wd35 hw) e0 O_a1.2.2.1 (hb hby d26_1) (fun T1 X1 e1 => ?_)
  refine g_nonnullNo X1 hx (hb hby d26_4) ?_
  refine g_iconst X1 hx (1 : Int32) (hb hby d26_7) (by decide) ?_
  refine g_goto X1 hx 12 (hb hby d26_8) (by decide) (by decide) ?_
  exact own_retZ X1 hx hret hlk (hb hby d26_12) (by decide) (by decide) (by decide) ⟨rfl, N0, e1⟩
theorem pd_3 : parseMethodDescriptor "()Z" = some ⟨[], some FieldType.boolean⟩ := by decide +kernel
theorem pd_4 : parseMethodDescriptor "(I)Ljava/lang/Integer;" = some ⟨[FieldType.int], some (FieldType.object "java/lang/Integer")⟩ := by decide +kernel
theorem ef_30_R (m : MethodId) (x0 : Addr) : entryFrame m #[(.ref x0)] 1 = mkF m 0 #[vr x0] [] := by first | (simp [entryFrame, mkF, argsToLocals, Value.category]; done) | rfl
theorem pn_3 : plainName "java/util/Objects" = true := by first | (simp [plainName, overriddenIn]; done) | decide +kernel
theorem d30_0 : decode jdk_31_method_10_code 0 = .ok (.aload_n 0, 1) := by decide +kernel
theorem d30_1 : decode jdk_31_method_10_code 1 = .ok (.ifnonnull 11, 3) := by decide +kernel
theorem d30_12 : decode jdk_31_method_10_code 12 = .ok (.aload_n 0, 1) := by decide +kernel
theorem d30_13 : decode jdk_31_method_10_code 13 = .ok (.areturn, 1) := by decide +kernel
theorem rm_requireNonNull_8 (l : Launch) (Z : State) (a0 : Array Value) (hw : HW a0 Z) (a1 : Addr) (h0 : Heap) (n0 : Nat) (Z0 : n0 ≤ h0.size)  :
    Ctr l Y5 jdk_31_method_10_code 1 (some (FieldType.object "java/lang/Object")) [] ({ frames := 0, cells := 0, slots := 0, locals := 0 } : Room) Z #[(.ref a1)] h0 (fun v h L => v = some (.ref a1) ∧ Fr n0 L ∧ h = h0) := by
  refine own_enter pn_3 (fun p e s m below meth c s₁ hx hby hml hown hnm hret hlk hZ X0 e0 => ?_)
  have N0 := Fr.nil n0
  have K0 := Keep.refl h0 []
  rw [ef_30_R m _]
  show Go p e below (s₁.setTop (mkF m 0 #[vr a1] [])) _
  refine g_aloadN X0 hx (hb hby d30_0) rfl rfl ?_
  refine g_nonnullYes X0 hx 12 (hb hby d30_1) (by decide) (by decide) ?_
  refine g_aloadN X0 hx (hb hby d30_12) rfl rfl ?_
  exact own_retA X0 hx hret hlk rfl rfl (hb hby d30_13) (by decide) (by decide) ⟨rfl, N0, e0⟩
theorem pd_5 : parseMethodDescriptor "(Ljava/lang/Object;)Ljava/lang/Object;" = some ⟨[(FieldType.object "java/lang/Object")], some (FieldType.object "java/lang/Object")⟩ := by decide +kernel
theorem ef_29_RR (m : MethodId) (x0 : Addr) (x1 : Addr) : entryFrame m #[(.ref x0), (.ref x1)] 3 = mkF m 0 #[vr x0, vr x1, vu] [] := by first | (simp [entryFrame, mkF, argsToLocals, Value.category]; done) | rfl
theorem d29_0 : decode prog_7_method_60_code 0 = .ok (.aload_n 0, 1) := by decide +kernel
theorem d29_1 : decode prog_7_method_60_code 1 = .ok (.getfield 14, 3) := by decide +kernel
theorem d29_4 : decode prog_7_method_60_code 4 = .ok (.ifnonnull 8, 3) := by decide +kernel
theorem d29_7 : decode prog_7_method_60_code 7 = .ok (.aload_n 1, 1) := by decide +kernel
theorem d29_8 : decode prog_7_method_60_code 8 = .ok (.invokestatic 60, 3) := by decide +kernel
theorem d29_11 : decode prog_7_method_60_code 11 = .ok (.pop, 1) := by decide +kernel
theorem d29_12 : decode prog_7_method_60_code 12 = .ok (.aload_n 1, 1) := by decide +kernel
theorem d29_13 : decode prog_7_method_60_code 13 = .ok (.astore_n 2, 1) := by decide +kernel
theorem d29_14 : decode prog_7_method_60_code 14 = .ok (.aload_n 2, 1) := by decide +kernel
theorem d29_15 : decode prog_7_method_60_code 15 = .ok (.areturn, 1) := by decide +kernel
theorem rm_searchKey_7 (l : Launch) (Z : State) (a0 : Array Value) (hw : HW a0 Z) (a1 : Addr) (a2 : Addr) (i1 : Int32) (i2 : Int32) (h0 : Heap) (n0 : Nat) (Z0 : n0 ≤ h0.size) (O_a1 : R_MP Z h0 a1 .null .null (.int 0) (.int i1)) (O_a2 : R_IN Z h0 a2 (.int i2)) :
    Ctr l Y6 prog_7_method_60_code 3 (some (FieldType.object "java/lang/Object")) [] ({ frames := 1, cells := 0, slots := 0, locals := 12 } : Room) Z #[(.ref a1), (.ref a2)] h0 (fun v h L => v = some (.ref a2) ∧ Fr n0 L ∧ h = h0) := by
  refine own_enter pn_2 (fun p e s m below meth c s₁ hx hby hml hown hnm hret hlk hZ X0 e0 => ?_)
  have N0 := Fr.nil n0
  have K0 := Keep.refl h0 []
  rw [ef_29_RR m _ _]
  show Go p e below (s₁.setTop (mkF m 0 #[vr a1, vr a2, vu] [])) _
  refine g_aloadN X0 hx (hb hby d29_0) rfl rfl ?_
  refine g_getF X0 hx hZ hown (Wd17 hw) e0 O_a1.2.1 (hb hby d29_1) (fun T1 X1 e1 => ?_)
  refine g_nonnullNo X1 hx (hb hby d29_4) ?_
  refine g_aloadN X1 hx (hb hby d29_7) rfl rfl ?_
  refine g_call (own_callS X1 hx hZ (y := Y5) hown (Wd168 hw) (Wd169 hw) (Wd170 hw) (Wd171 hw) (by decide) (rm_requireNonNull_8 l Z a0 hw a2 h0 n0 Z0 ) e1 pd_5 (hb hby d29_8) (by rw [hml]; rfl) (argsL := [(.ref a2)]) (rest := []) rfl rfl rfl (W := 0) (Nat.le_of_eq rfl) (by decide)) (fun v2 T2 L2 X2 q2 => ?_)
  obtain ⟨rfl, M2, e2⟩ := q2
  have N2 := Fr.app N0 M2
  refine g_pop X2 hx (hb hby d29_11) rfl ?_
  refine g_aloadN X2 hx (hb hby d29_12) rfl rfl ?_
  refine g_astoreN X2 hx #[vr a1, vr a2, vr a2] (hb hby d29_13) rfl rfl ?_
  refine g_aloadN X2 hx (hb hby d29_14) rfl rfl ?_
  exact own_retA X2 hx hret hlk rfl rfl (hb hby d29_15) (by decide) (by decide) ⟨rfl, N2, e2⟩
theorem ef_14_n (m : MethodId)  : entryFrame m #[.null] 1 = mkF m 0 #[vn] [] := by first | (simp [entryFrame, mkF, argsToLocals, Value.category]; done) | rfl
theorem d14_0 : decode prog_7_method_76_code 0 = .ok (.aload_n 0, 1) := by decide +kernel
theorem d14_1 : decode prog_7_method_76_code 1 = .ok (.ifnonnull 7, 3) := by decide +kernel
theorem d14_4 : decode prog_7_method_76_code 4 = .ok (.aconst_null, 1) := by decide +kernel
theorem d14_5 : decode prog_7_method_76_code 5 = .ok (.goto 7, 3) := by decide +kernel
theorem d14_12 : decode prog_7_method_76_code 12 = .ok (.areturn, 1) := by decide +kernel
theorem rm_keyOf_9 (l : Launch) (Z : State) (a0 : Array Value) (hw : HW a0 Z)  (h0 : Heap) (n0 : Nat) (Z0 : n0 ≤ h0.size)  :
    Ctr l Y7 prog_7_method_76_code 1 (some (FieldType.object "java/lang/Object")) [] ({ frames := 0, cells := 0, slots := 0, locals := 0 } : Room) Z #[.null] h0 (fun v h L => v = some .null ∧ Fr n0 L ∧ h = h0) := by
  refine own_enter pn_2 (fun p e s m below meth c s₁ hx hby hml hown hnm hret hlk hZ X0 e0 => ?_)
  have N0 := Fr.nil n0
  have K0 := Keep.refl h0 []
  rw [ef_14_n m ]
  show Go p e below (s₁.setTop (mkF m 0 #[vn] [])) _
  refine g_aloadN X0 hx (hb hby d14_0) rfl rfl ?_
  refine g_nonnullNo X0 hx (hb hby d14_1) ?_
  refine g_null X0 hx (hb hby d14_4) ?_
  refine g_goto X0 hx 12 (hb hby d14_5) (by decide) (by decide) ?_
  exact own_retA X0 hx hret hlk rfl rfl (hb hby d14_12) (by decide) (by decide) ⟨rfl, N0, e0⟩
theorem pd_6 : parseMethodDescriptor "(Lcom/example/rosewood/rosewood/RosewoodMap$Node;)Ljava/lang/Object;" = some ⟨[(FieldType.object "com/example/rosewood/rosewood/RosewoodMap$Node")], some (FieldType.object "java/lang/Object")⟩ := by decide +kernel
theorem ef_28_RR (m : MethodId) (x0 : Addr) (x1 : Addr) : entryFrame m #[(.ref x0), (.ref x1)] 10 = mkF m 0 #[vr x0, vr x1, vu, vu, vu, vu, vu, vu, vu, vu] [] := by first | (simp [entryFrame, mkF, argsToLocals, Value.category]; done) | rfl
theorem d28_0 : decode prog_7_method_58_code 0 = .ok (.aload_n 0, 1) := by decide +kernel
theorem d28_1 : decode prog_7_method_58_code 1 = .ok (.aload_n 1, 1) := by decide +kernel
theorem d28_2 : decode prog_7_method_58_code 2 = .ok (.invokevirtual 208, 3) := by decide +kernel
theorem d28_5 : decode prog_7_method_58_code 5 = .ok (.astore_n 2, 1) := by decide +kernel
theorem d28_6 : decode prog_7_method_58_code 6 = .ok (.aload_n 0, 1) := by decide +kernel
theorem d28_7 : decode prog_7_method_58_code 7 = .ok (.getfield 22, 3) := by decide +kernel
theorem d28_10 : decode prog_7_method_58_code 10 = .ok (.astore_n 3, 1) := by decide +kernel
theorem d28_11 : decode prog_7_method_58_code 11 = .ok (.aload_n 3, 1) := by decide +kernel
theorem d28_12 : decode prog_7_method_58_code 12 = .ok (.invokestatic 121, 3) := by decide +kernel
theorem d28_15 : decode prog_7_method_58_code 15 = .ok (.astore 4, 2) := by decide +kernel
theorem d28_17 : decode prog_7_method_58_code 17 = .ok (.aload_n 3, 1) := by decide +kernel
theorem d28_18 : decode prog_7_method_58_code 18 = .ok (.ifnull 75, 3) := by decide +kernel
theorem d28_93 : decode prog_7_method_58_code 93 = .ok (.aconst_null, 1) := by decide +kernel
theorem d28_94 : decode prog_7_method_58_code 94 = .ok (.areturn, 1) := by decide +kernel
theorem rm_find_6 (l : Launch) (Z : State) (a0 : Array Value) (hw : HW a0 Z) (a1 : Addr) (a2 : Addr) (i1 : Int32) (i2 : Int32) (h0 : Heap) (n0 : Nat) (Z0 : n0 ≤ h0.size) (O_a1 : R_MP Z h0 a1 .null .null (.int 0) (.int i1)) (O_a2 : R_IN Z h0 a2 (.int i2)) :
    Ctr l Y8 prog_7_method_58_code 10 (some (FieldType.object "com/example/rosewood/rosewood/RosewoodMap$Node")) [] ({ frames := 2, cells := 0, slots := 0, locals := 26 } : Room) Z #[(.ref a1), (.ref a2)] h0 (fun v h L => v = some .null ∧ Fr n0 L ∧ h = h0) := by
  refine own_enter pn_2 (fun p e s m below meth c s₁ hx hby hml hown hnm hret hlk hZ X0 e0 => ?_)
  have N0 := Fr.nil n0
  have K0 := Keep.refl h0 []
  rw [ef_28_RR m _ _]
  show Go p e below (s₁.setTop (mkF m 0 #[vr a1, vr a2, vu, vu, vu, vu, vu, vu, vu, vu] [])) _
  refine g_aloadN X0 hx (hb hby d28_0) rfl rfl ?_
  refine g_aloadN X0 hx (hb hby d28_1) rfl rfl ?_
  refine g_call (own_callP X0 hx hZ (y := Y6) hown (Wd164 hw) (Wd165 hw) (Wd166 hw) (Wd1 hw) (Wd167 hw) (Wd2 hw) (by decide) (rm_searchKey_7 l Z a0 hw a1 a2 i1 i2 h0 n0 Z0 O_a1 O_a2) e0 O_a1.1 pd_5 (hb hby d28_2) (by rw [hml]; rfl) (argsL := [(.ref a2)]) (rest := []) rfl rfl rfl (W := 0) (Nat.le_of_eq rfl) (by decide)) (fun v1 T1 L1 X1 q1 => ?_)
  obtain ⟨rfl, M1, e1⟩ := q1
  have N1 := Fr.app N0 M1
  refine g_astoreN X1 hx #[vr a1, vr a2, vr a2, vu, vu, vu, vu, vu, vu, vu] (hb hby d28_5) rfl rfl ?_
  refine g_aloadN X1 hx (hb hby d28_6) rfl rfl ?_
  refine g_getF X1 hx hZ hown (Wd35 hw) e1 O_a1.2.2.1 (hb hby d28_7) (fun T2 X2 e2 => ?_)
  refine g_astoreN X2 hx #[vr a1, vr a2, vr a2, vn, vu, vu, vu, vu, vu, vu] (hb hby d28_10) rfl rfl ?_
  refine g_aloadN X2 hx (hb hby d28_11) rfl rfl ?_
  refine g_call (own_callS X2 hx hZ (y := Y7) hown (Wd99 hw) (Wd100 hw) (Wd2 hw) (Wd101 hw) (by decide) (rm_keyOf_9 l Z a0 hw  h0 n0 Z0 ) e2 pd_6 (hb hby d28_12) (by rw [hml]; rfl) (argsL := [.null]) (rest := []) rfl rfl rfl (W := 0) (Nat.le_of_eq rfl) (by decide)) (fun v3 T3 L3 X3 q3 => ?_)
  obtain ⟨rfl, M3, e3⟩ := q3
  have N3 := Fr.app N1 M3
  refine g_astore X3 hx #[vr a1, vr a2, vr a2, vn, vn, vu, vu, vu, vu, vu] (hb hby d28_15) rfl rfl ?_
  refine g_aloadN X3 hx (hb hby d28_17) rfl rfl ?_
  refine g_nullYes X3 hx 93 (hb hby d28_18) (by decide) (by decide) ?_
  refine g_null X3 hx (hb hby d28_93) ?_
  exact own_retA X3 hx hret hlk rfl rfl (hb hby d28_94) (by decide) (by decide) ⟨rfl, N3, e3⟩
theorem pd_7 : parseMethodDescriptor "(Ljava/lang/Object;)Lcom/example/rosewood/rosewood/RosewoodMap$Node;" = some ⟨[(FieldType.object "java/lang/Object")], some (FieldType.object "com/example/rosewood/rosewood/RosewoodMap$Node")⟩ := by decide +kernel
theorem ef_27_RR (m : MethodId) (x0 : Addr) (x1 : Addr) : entryFrame m #[(.ref x0), (.ref x1)] 3 = mkF m 0 #[vr x0, vr x1, vu] [] := by first | (simp [entryFrame, mkF, argsToLocals, Value.category]; done) | rfl
theorem d27_0 : decode prog_7_method_7_code 0 = .ok (.aload_n 0, 1) := by decide +kernel
theorem d27_1 : decode prog_7_method_7_code 1 = .ok (.aload_n 1, 1) := by decide +kernel
theorem d27_2 : decode prog_7_method_7_code 2 = .ok (.invokevirtual 26, 3) := by decide +kernel
theorem d27_5 : decode prog_7_method_7_code 5 = .ok (.astore_n 2, 1) := by decide +kernel
theorem d27_6 : decode prog_7_method_7_code 6 = .ok (.aload_n 2, 1) := by decide +kernel
theorem d27_7 : decode prog_7_method_7_code 7 = .ok (.ifnonnull 7, 3) := by decide +kernel
theorem d27_10 : decode prog_7_method_7_code 10 = .ok (.aconst_null, 1) := by decide +kernel
theorem d27_11 : decode prog_7_method_7_code 11 = .ok (.goto 7, 3) := by decide +kernel
theorem d27_18 : decode prog_7_method_7_code 18 = .ok (.areturn, 1) := by decide +kernel
theorem rm_get_5 (l : Launch) (Z : State) (a0 : Array Value) (hw : HW a0 Z) (a1 : Addr) (a2 : Addr) (i1 : Int32) (i2 : Int32) (h0 : Heap) (n0 : Nat) (Z0 : n0 ≤ h0.size) (O_a1 : R_MP Z h0 a1 .null .null (.int 0) (.int i1)) (O_a2 : R_IN Z h0 a2 (.int i2)) :
    Ctr l Y9 prog_7_method_7_code 3 (some (FieldType.object "java/lang/Object")) [] ({ frames := 3, cells := 0, slots := 0, locals := 47 } : Room) Z #[(.ref a1), (.ref a2)] h0 (fun v h L => v = some .null ∧ Fr n0 L ∧ h = h0) := by
  refine own_enter pn_2 (fun p e s m below meth c s₁ hx hby hml hown hnm hret hlk hZ X0 e0 => ?_)
  have N0 := Fr.nil n0
  have K0 := Keep.refl h0 []
  rw [ef_27_RR m _ _]
  show Go p e below (s₁.setTop (mkF m 0 #[vr a1, vr a2, vu] [])) _
  refine g_aloadN X0 hx (hb hby d27_0) rfl rfl ?_
  refine g_aloadN X0 hx (hb hby d27_1) rfl rfl ?_
  refine g_call (own_callV X0 hx hZ (y := Y8) hown (Wd159 hw) (Wd160 hw) (Wd162 hw) (Wd161 hw) (Wd163 hw) (Wd2 hw) (by decide) (rm_find_6 l Z a0 hw a1 a2 i1 i2 h0 n0 Z0 O_a1 O_a2) e0 O_a1.1 pd_7 (hb hby d27_2) (by rw [hml]; rfl) (argsL := [(.ref a2)]) (rest := []) rfl rfl rfl (W := 0) (Nat.le_of_eq rfl) (by decide)) (fun v1 T1 L1 X1 q1 => ?_)
  obtain ⟨rfl, M1, e1⟩ := q1
  have N1 := Fr.app N0 M1
  refine g_astoreN X1 hx #[vr a1, vr a2, vn] (hb hby d27_5) rfl rfl ?_
  refine g_aloadN X1 hx (hb hby d27_6) rfl rfl ?_
  refine g_nonnullNo X1 hx (hb hby d27_7) ?_
  refine g_null X1 hx (hb hby d27_10) ?_
  refine g_goto X1 hx 18 (hb hby d27_11) (by decide) (by decide) ?_
  exact own_retA X1 hx hret hlk rfl rfl (hb hby d27_18) (by decide) (by decide) ⟨rfl, N1, e1⟩
theorem ef_10_II (m : MethodId) (x0 : Int32) (x1 : Int32) : entryFrame m #[(.int x0), (.int x1)] 2 = mkF m 0 #[vi x0, vi x1] [] := by first | (simp [entryFrame, mkF, argsToLocals, Value.category]; done) | rfl
theorem d10_0 : decode jdk_33_method_40_code 0 = .ok (.iload_n 0, 1) := by decide +kernel
theorem d10_1 : decode jdk_33_method_40_code 1 = .ok (.iload_n 1, 1) := by decide +kernel
theorem d10_2 : decode jdk_33_method_40_code 2 = .ok (.if_icmp .ge 7, 3) := by decide +kernel
theorem d10_9 : decode jdk_33_method_40_code 9 = .ok (.iload_n 0, 1) := by decide +kernel
theorem d10_10 : decode jdk_33_method_40_code 10 = .ok (.iload_n 1, 1) := by decide +kernel
theorem d10_11 : decode jdk_33_method_40_code 11 = .ok (.if_icmp .ne 7, 3) := by decide +kernel
theorem d10_14 : decode jdk_33_method_40_code 14 = .ok (.iconst 0, 1) := by decide +kernel
theorem d10_15 : decode jdk_33_method_40_code 15 = .ok (.goto 4, 3) := by decide +kernel
theorem d10_19 : decode jdk_33_method_40_code 19 = .ok (.ireturn, 1) := by decide +kernel
theorem rm_compare_15 (l : Launch) (Z : State) (a0 : Array Value) (hw : HW a0 Z) (i1 : Int32) (h0 : Heap) (n0 : Nat) (Z0 : n0 ≤ h0.size)  :
    Ctr l Y10 jdk_33_method_40_code 2 (some FieldType.int) [] ({ frames := 0, cells := 0, slots := 0, locals := 0 } : Room) Z #[(.int i1), (.int i1)] h0 (fun v h L => v = some (.int 0) ∧ Fr n0 L ∧ h = h0) := by
  refine own_enter pn_1 (fun p e s m below meth c s₁ hx hby hml hown hnm hret hlk hZ X0 e0 => ?_)
  have N0 := Fr.nil n0
  have K0 := Keep.refl h0 []
  rw [ef_10_II m _ _]
  show Go p e below (s₁.setTop (mkF m 0 #[vi i1, vi i1] [])) _
  refine g_iloadN X0 hx (hb hby d10_0) rfl ?_
  refine g_iloadN X0 hx (hb hby d10_1) rfl ?_
  have c2_1 : ¬ (i1 < i1) := (own_irr _)
  refine g_icmpYes X0 hx 9 (hb hby d10_2) (flt c2_1).2.1 (by decide) (by decide) ?_
  refine g_iloadN X0 hx (hb hby d10_9) rfl ?_
  refine g_iloadN X0 hx (hb hby d10_10) rfl ?_
  refine g_icmpNo X0 hx (hb hby d10_11) (teq (rfl : i1 = i1)).2 ?_
  refine g_iconst X0 hx (0 : Int32) (hb hby d10_14) (by decide) ?_
  refine g_goto X0 hx 19 (hb hby d10_15) (by decide) (by decide) ?_
  exact own_retI X0 hx hret hlk (hb hby d10_19) (by decide) (by decide) ⟨rfl, N0, e0⟩
theorem pd_8 : parseMethodDescriptor "(II)I" = some ⟨[FieldType.int, FieldType.int], some FieldType.int⟩ := by decide +kernel
theorem ef_9_RR (m : MethodId) (x0 : Addr) (x1 : Addr) : entryFrame m #[(.ref x0), (.ref x1)] 2 = mkF m 0 #[vr x0, vr x1] [] := by first | (simp [entryFrame, mkF, argsToLocals, Value.category]; done) | rfl
theorem d9_0 : decode jdk_33_method_39_code 0 = .ok (.aload_n 0, 1) := by decide +kernel
theorem d9_1 : decode jdk_33_method_39_code 1 = .ok (.getfield 205, 3) := by decide +kernel
theorem d9_4 : decode jdk_33_method_39_code 4 = .ok (.aload_n 1, 1) := by decide +kernel
theorem d9_5 : decode jdk_33_method_39_code 5 = .ok (.getfield 205, 3) := by decide +kernel
theorem d9_8 : decode jdk_33_method_39_code 8 = .ok (.invokestatic 259, 3) := by decide +kernel
theorem d9_11 : decode jdk_33_method_39_code 11 = .ok (.ireturn, 1) := by decide +kernel
theorem rm_compareTo_14 (l : Launch) (Z : State) (a0 : Array Value) (hw : HW a0 Z) (a1 : Addr) (i1 : Int32) (h0 : Heap) (n0 : Nat) (Z0 : n0 ≤ h0.size) (O_a1 : R_IN Z h0 a1 (.int i1)) :
    Ctr l Y11 jdk_33_method_39_code 2 (some FieldType.int) [] ({ frames := 1, cells := 0, slots := 0, locals := 13 } : Room) Z #[(.ref a1), (.ref a1)] h0 (fun v h L => v = some (.int 0) ∧ Fr n0 L ∧ h = h0) := by
  refine own_enter pn_1 (fun p e s m below meth c s₁ hx hby hml hown hnm hret hlk hZ X0 e0 => ?_)
  have N0 := Fr.nil n0
  have K0 := Keep.refl h0 []
  rw [ef_9_RR m _ _]
  show Go p e below (s₁.setTop (mkF m 0 #[vr a1, vr a1] [])) _
  refine g_aloadN X0 hx (hb hby d9_0) rfl rfl ?_
  refine g_getF X0 hx hZ hown (Wd59 hw) e0 O_a1.2 (hb hby d9_1) (fun T1 X1 e1 => ?_)
  refine g_aloadN X1 hx (hb hby d9_4) rfl rfl ?_
  refine g_getF X1 hx hZ hown (Wd59 hw) e1 O_a1.2 (hb hby d9_5) (fun T2 X2 e2 => ?_)
  refine g_call (own_callS X2 hx hZ (y := Y10) hown (Wd61 hw) (Wd62 hw) (Wd21 hw) (Wd63 hw) (by decide) (rm_compare_15 l Z a0 hw i1 h0 n0 Z0 ) e2 pd_8 (hb hby d9_8) (by rw [hml]; rfl) (argsL := [(.int i1), (.int i1)]) (rest := []) rfl rfl rfl (W := 0) (Nat.le_of_eq rfl) (by decide)) (fun v3 T3 L3 X3 q3 => ?_)
  obtain ⟨rfl, M3, e3⟩ := q3
  have N3 := Fr.app N0 M3
  exact own_retI X3 hx hret hlk (hb hby d9_11) (by decide) (by decide) ⟨rfl, N3, e3⟩
theorem pd_9 : parseMethodDescriptor "(Ljava/lang/Integer;)I" = some ⟨[(FieldType.object "java/lang/Integer")], some FieldType.int⟩ := by decide +kernel
theorem ef_8_RR (m : MethodId) (x0 : Addr) (x1 : Addr) : entryFrame m #[(.ref x0), (.ref x1)] 2 = mkF m 0 #[vr x0, vr x1] [] := by first | (simp [entryFrame, mkF, argsToLocals, Value.category]; done) | rfl
theorem d8_0 : decode jdk_33_method_63_code 0 = .ok (.aload_n 0, 1) := by decide +kernel
theorem d8_1 : decode jdk_33_method_63_code 1 = .ok (.aload_n 1, 1) := by decide +kernel
theorem d8_2 : decode jdk_33_method_63_code 2 = .ok (.checkcast 1, 3) := by decide +kernel
theorem d8_5 : decode jdk_33_method_63_code 5 = .ok (.invokevirtual 284, 3) := by decide +kernel
theorem d8_8 : decode jdk_33_method_63_code 8 = .ok (.ireturn, 1) := by decide +kernel
theorem rm_compareTo_13 (l : Launch) (Z : State) (a0 : Array Value) (hw : HW a0 Z) (a1 : Addr) (i1 : Int32) (h0 : Heap) (n0 : Nat) (Z0 : n0 ≤ h0.size) (O_a1 : R_IN Z h0 a1 (.int i1)) :
    Ctr l Y12 jdk_33_method_63_code 2 (some FieldType.int) [] ({ frames := 2, cells := 0, slots := 0, locals := 26 } : Room) Z #[(.ref a1), (.ref a1)] h0 (fun v h L => v = some (.int 0) ∧ Fr n0 L ∧ h = h0) := by
  refine own_enter pn_1 (fun p e s m below meth c s₁ hx hby hml hown hnm hret hlk hZ X0 e0 => ?_)
  have N0 := Fr.nil n0
  have K0 := Keep.refl h0 []
  rw [ef_8_RR m _ _]
  show Go p e below (s₁.setTop (mkF m 0 #[vr a1, vr a1] [])) _
  refine g_aloadN X0 hx (hb hby d8_0) rfl rfl ?_
  refine g_aloadN X0 hx (hb hby d8_1) rfl rfl ?_
  refine g_cast X0 hx hZ hown (Wd52 hw) e0 (Ins.self O_a1.1) (hb hby d8_2) (fun T1 X1 e1 => ?_)
  refine g_call (own_callV X1 hx hZ (y := Y11) hown (Wd54 hw) (Wd55 hw) (Wd57 hw) (Wd56 hw) (Wd58 hw) (Wd21 hw) (by decide) (rm_compareTo_14 l Z a0 hw a1 i1 h0 n0 Z0 O_a1) e1 O_a1.1 pd_9 (hb hby d8_5) (by rw [hml]; rfl) (argsL := [(.ref a1)]) (rest := []) rfl rfl rfl (W := 0) (Nat.le_of_eq rfl) (by decide)) (fun v2 T2 L2 X2 q2 => ?_)
  obtain ⟨rfl, M2, e2⟩ := q2
  have N2 := Fr.app N0 M2
  exact own_retI X2 hx hret hlk (hb hby d8_8) (by decide) (by decide) ⟨rfl, N2, e2⟩
theorem pd_10 : parseMethodDescriptor "(Ljava/lang/Object;)I" = some ⟨[(FieldType.object "java/lang/Object")], some FieldType.int⟩ := by decide +kernel
theorem ef_7_RRR (m : MethodId) (x0 : Addr) (x1 : Addr) (x2 : Addr) : entryFrame m #[(.ref x0), (.ref x1), (.ref x2)] 3 = mkF m 0 #[vr x0, vr x1, vr x2] [] := by first | (simp [entryFrame, mkF, argsToLocals, Value.category]; done) | rfl
theorem d7_0 : decode prog_7_method_72_code 0 = .ok (.aload_n 0, 1) := by decide +kernel
theorem d7_1 : decode prog_7_method_72_code 1 = .ok (.getfield 14, 3) := by decide +kernel
theorem d7_4 : decode prog_7_method_72_code 4 = .ok (.ifnonnull 16, 3) := by decide +kernel
theorem d7_7 : decode prog_7_method_72_code 7 = .ok (.aload_n 1, 1) := by decide +kernel
theorem d7_8 : decode prog_7_method_72_code 8 = .ok (.checkcast 263, 3) := by decide +kernel
theorem d7_11 : decode prog_7_method_72_code 11 = .ok (.aload_n 2, 1) := by decide +kernel
theorem d7_12 : decode prog_7_method_72_code 12 = .ok (.invokeinterface 265 2, 5) := by decide +kernel
theorem d7_17 : decode prog_7_method_72_code 17 = .ok (.goto 14, 3) := by decide +kernel
theorem d7_31 : decode prog_7_method_72_code 31 = .ok (.ireturn, 1) := by decide +kernel
theorem rm_compare_12 (l : Launch) (Z : State) (a0 : Array Value) (hw : HW a0 Z) (a1 : Addr) (a2 : Addr) (i1 : Int32) (i2 : Int32) (h0 : Heap) (n0 : Nat) (Z0 : n0 ≤ h0.size) (O_a1 : R_MP Z h0 a1 .null .null (.int 0) (.int i1)) (O_a2 : R_IN Z h0 a2 (.int i2)) :
    Ctr l Y13 prog_7_method_72_code 3 (some FieldType.int) [] ({ frames := 3, cells := 0, slots := 0, locals := 39 } : Room) Z #[(.ref a1), (.ref a2), (.ref a2)] h0 (fun v h L => v = some (.int 0) ∧ Fr n0 L ∧ h = h0) := by
  refine own_enter pn_2 (fun p e s m below meth c s₁ hx hby hml hown hnm hret hlk hZ X0 e0 => ?_)
  have N0 := Fr.nil n0
  have K0 := Keep.refl h0 []
  rw [ef_7_RRR m _ _ _]
  show Go p e below (s₁.setTop (mkF m 0 #[vr a1, vr a2, vr a2] [])) _
  refine g_aloadN X0 hx (hb hby d7_0) rfl rfl ?_
  refine g_getF X0 hx hZ hown (Wd17 hw) e0 O_a1.2.1 (hb hby d7_1) (fun T1 X1 e1 => ?_)
  refine g_nonnullNo X1 hx (hb hby d7_4) ?_
  refine g_aloadN X1 hx (hb hby d7_7) rfl rfl ?_
  refine g_cast X1 hx hZ hown (Wd42 hw) e1 (Ins.of_exa O_a2.1 (Wd43 hw)) (hb hby d7_8) (fun T2 X2 e2 => ?_)
  refine g_aloadN X2 hx (hb hby d7_11) rfl rfl ?_
  refine g_call (own_callF X2 hx hZ (xi := Y14) (y := Y12) hown (Wd44 hw) (Wd45 hw) (mvT hZ (Wd46 hw)) (Wd47 hw) (Wd48 hw) (Wd49 hw) (Wd50 hw) (Wd43 hw) (Wd51 hw) (Wd21 hw) (by decide) (rm_compareTo_13 l Z a0 hw a2 i2 h0 n0 Z0 O_a2) e2 O_a2.1 pd_10 (hb hby d7_12) (by rw [hml]; rfl) (argsL := [(.ref a2)]) (rest := []) rfl rfl rfl (W := 0) (Nat.le_of_eq rfl) (by decide)) (fun v3 T3 L3 X3 q3 => ?_)
  obtain ⟨rfl, M3, e3⟩ := q3
  have N3 := Fr.app N0 M3
  refine g_goto X3 hx 31 (hb hby d7_17) (by decide) (by decide) ?_
  exact own_retI X3 hx hret hlk (hb hby d7_31) (by decide) (by decide) ⟨rfl, N3, e3⟩
theorem pd_11 : parseMethodDescriptor "(Ljava/lang/Object;Ljava/lang/Object;)I" = some ⟨[(FieldType.object "java/lang/Object"), (FieldType.object "java/lang/Object")], some FieldType.int⟩ := by decide +kernel
theorem fd_1 : parseFieldDescriptor "Ljava/lang/Object;" = some (FieldType.object "java/lang/Object") := by decide
theorem fd_2 : parseFieldDescriptor "Lcom/example/rosewood/rosewood/RosewoodMap$Node;" = some (FieldType.object "com/example/rosewood/rosewood/RosewoodMap$Node") := by decide
theorem ef_12_RRRn (m : MethodId) (x0 : Addr) (x1 : Addr) (x2 : Addr) : entryFrame m #[(.ref x0), (.ref x1), (.ref x2), .null] 4 = mkF m 0 #[vr x0, vr x1, vr x2, vn] [] := by first | (simp [entryFrame, mkF, argsToLocals, Value.category]; done) | rfl
theorem pn_4 : plainName "com/example/rosewood/rosewood/RosewoodMap$Node" = true := by first | (simp [plainName, overriddenIn]; done) | decide +kernel
theorem d12_0 : decode prog_8_method_1_code 0 = .ok (.aload_n 0, 1) := by decide +kernel
theorem d12_1 : decode prog_8_method_1_code 1 = .ok (.invokespecial 3, 3) := by decide +kernel
theorem d12_4 : decode prog_8_method_1_code 4 = .ok (.aload_n 0, 1) := by decide +kernel
theorem d12_5 : decode prog_8_method_1_code 5 = .ok (.ldc 9, 2) := by decide +kernel
theorem d12_7 : decode prog_8_method_1_code 7 = .ok (.putfield 10, 3) := by decide +kernel
theorem d12_10 : decode prog_8_method_1_code 10 = .ok (.aload_n 0, 1) := by decide +kernel
theorem d12_11 : decode prog_8_method_1_code 11 = .ok (.aload_n 1, 1) := by decide +kernel
theorem d12_12 : decode prog_8_method_1_code 12 = .ok (.putfield 16, 3) := by decide +kernel
theorem d12_15 : decode prog_8_method_1_code 15 = .ok (.aload_n 0, 1) := by decide +kernel
theorem d12_16 : decode prog_8_method_1_code 16 = .ok (.aload_n 2, 1) := by decide +kernel
theorem d12_17 : decode prog_8_method_1_code 17 = .ok (.putfield 20, 3) := by decide +kernel
theorem d12_20 : decode prog_8_method_1_code 20 = .ok (.aload_n 0, 1) := by decide +kernel
theorem d12_21 : decode prog_8_method_1_code 21 = .ok (.aload_n 3, 1) := by decide +kernel
theorem d12_22 : decode prog_8_method_1_code 22 = .ok (.putfield 23, 3) := by decide +kernel
theorem d12_25 : decode prog_8_method_1_code 25 = .ok (.return_, 1) := by decide +kernel
theorem rm_init_17 (l : Launch) (Z : State) (a0 : Array Value) (hw : HW a0 Z) (a1 : Addr) (a2 : Addr) (a3 : Addr) (h0 : Heap) (n0 : Nat) (Z0 : n0 ≤ h0.size) (O_a1 : R_ND Z h0 a1 .null .null .null .null .null (.int 0)) (g_a1 : n0 ≤ a1) :
    Ctr l Y15 prog_8_method_1_code 4 none [] ({ frames := 1, cells := 0, slots := 0, locals := 12 } : Room) Z #[(.ref a1), (.ref a2), (.ref a3), .null] h0 (fun v h L => v = none ∧ Fr n0 L ∧ Keep h0 h [a1] ∧ R_ND Z h a1 (.ref a2) (.ref a3) .null .null .null (.int (-2147483648))) := by
  refine own_enter pn_4 (fun p e s m below meth c s₁ hx hby hml hown hnm hret hlk hZ X0 e0 => ?_)
  have N0 := Fr.nil n0
  have K0 := Keep.refl h0 [a1]
  rw [ef_12_RRRn m _ _ _ ]
  show Go p e below (s₁.setTop (mkF m 0 #[vr a1, vr a2, vr a3, vn] [])) _
  refine g_aloadN X0 hx (hb hby d12_0) rfl rfl ?_
  refine g_init X0 hx hZ hown (Wd75 hw) (Wd15 hw) (Wd16 hw) e0 (by rw [hml]; rfl) (hb hby d12_1) (by decide) (W := 0) (Nat.le_of_eq rfl) (by decide) (fun T1 X1 e1 => ?_)
  refine g_aloadN X1 hx (hb hby d12_4) rfl rfl ?_
  refine g_ldc X1 hx hZ hown (Wd76 hw) (hb hby d12_5) ?_
  refine g_putF X1 hx hZ hown (Wd77 hw) e1 O_a1.2.2.2.2.2.2 O_a1.1 (Or.inl (Wd78 hw)) (Wd70 hw) fd_0 rfl rfl (hb hby d12_7) (fun T2 h2 X2 e2 W2 => ?_)
  have N2 := Fr.snoc X2 N0 g_a1
  have O_a1_2 := R_ND_set_redAndLeftCount hw W2 O_a1
  have Z2 : n0 ≤ h2.size := Nat.le_trans Z0 (Nat.le_of_eq W2.size.symm)
  have K2 := Keep.wr K0 W2 (Or.inl (List.mem_of_getElem? (i := 0) rfl))
  refine g_aloadN X2 hx (hb hby d12_10) rfl rfl ?_
  refine g_aloadN X2 hx (hb hby d12_11) rfl rfl ?_
  refine g_putF X2 hx hZ hown (Wd79 hw) e2 O_a1_2.2.1 O_a1_2.1 (Or.inl (Wd80 hw)) (Wd70 hw) fd_1 rfl rfl (hb hby d12_12) (fun T3 h3 X3 e3 W3 => ?_)
  have N3 := Fr.snoc X3 N2 g_a1
  have O_a1_3 := R_ND_set_key hw W3 O_a1_2
  have Z3 : n0 ≤ h3.size := Nat.le_trans Z2 (Nat.le_of_eq W3.size.symm)
  have K3 := Keep.wr K2 W3 (Or.inl (List.mem_of_getElem? (i := 0) rfl))
  refine g_aloadN X3 hx (hb hby d12_15) rfl rfl ?_
  refine g_aloadN X3 hx (hb hby d12_16) rfl rfl ?_
  refine g_putF X3 hx hZ hown (Wd81 hw) e3 O_a1_3.2.2.1 O_a1_3.1 (Or.inl (Wd82 hw)) (Wd70 hw) fd_1 rfl rfl (hb hby d12_17) (fun T4 h4 X4 e4 W4 => ?_)
  have N4 := Fr.snoc X4 N3 g_a1
  have O_a1_4 := R_ND_set_value hw W4 O_a1_3
  have Z4 : n0 ≤ h4.size := Nat.le_trans Z3 (Nat.le_of_eq W4.size.symm)
  have K4 := Keep.wr K3 W4 (Or.inl (List.mem_of_getElem? (i := 0) rfl))
  refine g_aloadN X4 hx (hb hby d12_20) rfl rfl ?_
  refine g_aloadN X4 hx (hb hby d12_21) rfl rfl ?_
  refine g_putF X4 hx hZ hown (Wd83 hw) e4 O_a1_4.2.2.2.2.2.1 O_a1_4.1 (Or.inl (Wd84 hw)) (Wd70 hw) fd_2 rfl rfl (hb hby d12_22) (fun T5 h5 X5 e5 W5 => ?_)
  have N5 := Fr.snoc X5 N4 g_a1
  have O_a1_5 := R_ND_set_parent hw W5 O_a1_4
  have Z5 : n0 ≤ h5.size := Nat.le_trans Z4 (Nat.le_of_eq W5.size.symm)
  have K5 := Keep.wr K4 W5 (Or.inl (List.mem_of_getElem? (i := 0) rfl))
  exact own_retV X5 hx hret hlk (hb hby d12_25) (by decide) (by decide) (by rw [e5]; exact ⟨rfl, N5, K5, O_a1_5⟩)
theorem pd_12 : parseMethodDescriptor "(Ljava/lang/Object;Ljava/lang/Object;Lcom/example/rosewood/rosewood/RosewoodMap$Node;)V" = some ⟨[(FieldType.object "java/lang/Object"), (FieldType.object "java/lang/Object"), (FieldType.object "com/example/rosewood/rosewood/RosewoodMap$Node")], none⟩ := by decide +kernel
theorem ef_11_RRRn (m : MethodId) (x0 : Addr) (x1 : Addr) (x2 : Addr) : entryFrame m #[(.ref x0), (.ref x1), (.ref x2), .null] 4 = mkF m 0 #[vr x0, vr x1, vr x2, vn] [] := by first | (simp [entryFrame, mkF, argsToLocals, Value.category]; done) | rfl
theorem d11_0 : decode prog_7_method_51_code 0 = .ok (.new 31, 3) := by decide +kernel
theorem d11_3 : decode prog_7_method_51_code 3 = .ok (.dup, 1) := by decide +kernel
theorem d11_4 : decode prog_7_method_51_code 4 = .ok (.aload_n 1, 1) := by decide +kernel
theorem d11_5 : decode prog_7_method_51_code 5 = .ok (.aload_n 2, 1) := by decide +kernel
theorem d11_6 : decode prog_7_method_51_code 6 = .ok (.aload_n 3, 1) := by decide +kernel
theorem d11_7 : decode prog_7_method_51_code 7 = .ok (.invokespecial 199, 3) := by decide +kernel
theorem d11_10 : decode prog_7_method_51_code 10 = .ok (.areturn, 1) := by decide +kernel
theorem rm_newNode_16 (l : Launch) (Z : State) (a0 : Array Value) (hw : HW a0 Z) (a1 : Addr) (a2 : Addr) (a3 : Addr) (h0 : Heap) (n0 : Nat) (Z0 : n0 ≤ h0.size)  :
    Ctr l Y16 prog_7_method_51_code 4 (some (FieldType.object "com/example/rosewood/rosewood/RosewoodMap$Node")) [] ({ frames := 2, cells := 1, slots := 6, locals := 28 } : Room) Z #[(.ref a1), (.ref a2), (.ref a3), .null] h0 (fun v h L => ∃ f1, v = some (.ref f1) ∧ Fr n0 L ∧ Keep h0 h [] ∧ h0.size ≤ f1 ∧ R_ND Z h f1 (.ref a2) (.ref a3) .null .null .null (.int (-2147483648))) := by
  refine own_enter pn_2 (fun p e s m below meth c s₁ hx hby hml hown hnm hret hlk hZ X0 e0 => ?_)
  have N0 := Fr.nil n0
  have K0 := Keep.refl h0 []
  rw [ef_11_RRRn m _ _ _ ]
  show Go p e below (s₁.setTop (mkF m 0 #[vr a1, vr a2, vr a3, vn] [])) _
  obtain ⟨T1, h1, X1, e1, E1, A1, D1, -, st1⟩ := newO X0 hx hZ hown (Wd69 hw) (Wd70 hw) (Wd71 hw) e0 (g := (mkF m 0 #[vr a1, vr a2, vr a3, vn] [])) rfl (hb hby d11_0) (by decide) (by decide)
  obtain ⟨b1, g1⟩ : ∃ z, z = h0.size := ⟨_, rfl⟩
  rw [← g1] at A1 D1 st1
  have g_b1 : n0 ≤ b1 := Nat.le_trans Z0 (Nat.le_of_eq g1.symm)
  have Z1 : n0 ≤ h1.size := Nat.le_trans Z0 E1.1
  have sz_b1 : h0.size ≤ b1 := Nat.le_trans K0.1 (Nat.le_of_eq g1.symm)
  have K1 := Keep.ext K0 E1
  have O1 : R_ND Z h1 b1 .null .null .null .null .null (.int 0) := ⟨A1, D1 (Or.inl (Wd80 hw)) (ty := (FieldType.object "java/lang/Object")) (by decide), D1 (Or.inl (Wd82 hw)) (ty := (FieldType.object "java/lang/Object")) (by decide), D1 (Or.inl (Wd96 hw)) (ty := (FieldType.object "com/example/rosewood/rosewood/RosewoodMap$Node")) (by decide), D1 (Or.inl (Wd98 hw)) (ty := (FieldType.object "com/example/rosewood/rosewood/RosewoodMap$Node")) (by decide), D1 (Or.inl (Wd84 hw)) (ty := (FieldType.object "com/example/rosewood/rosewood/RosewoodMap$Node")) (by decide), D1 (Or.inl (Wd78 hw)) (ty := FieldType.int) (by decide)⟩
  refine Go.mp st1 ?_
  show Go p e below (T1.setTop (mkF m 3 #[vr a1, vr a2, vr a3, vn] [(.ref b1)])) _
  refine g_dup X1 hx (hb hby d11_3) rfl ?_
  refine g_aloadN X1 hx (hb hby d11_4) rfl rfl ?_
  refine g_aloadN X1 hx (hb hby d11_5) rfl rfl ?_
  refine g_aloadN X1 hx (hb hby d11_6) rfl rfl ?_
  refine g_call (own_callI X1 hx hZ (y := Y15) hown (Wd72 hw) (Wd73 hw) (Wd74 hw) (Wd71 hw) rfl (by decide) (rm_init_17 l Z a0 hw b1 a2 a3 h1 n0 Z1 O1 g_b1) e1 pd_12 (hb hby d11_7) (by rw [hml]; rfl) (argsL := [(.ref a2), (.ref a3), .null]) (rest := [(.ref b1)]) rfl rfl rfl (W := 1) (Nat.le_of_eq rfl) (by decide)) (fun v2 T2 L2 X2 q2 => ?_)
  obtain ⟨rfl, M2, Kc2, Rk2_0⟩ := q2
  have N2 := Fr.app N0 M2
  have K2 := Keep.trans K1 Kc2 (own_memc (Or.inr sz_b1) own_memn)
  have Z2 : n0 ≤ T2.heap.size := Nat.le_trans Z1 Kc2.1
  exact own_retA X2 hx hret hlk rfl rfl (hb hby d11_10) (by decide) (by decide) (by rw [(rfl : T2.heap = T2.heap)]; exact ⟨b1, rfl, N2, K2, sz_b1, Rk2_0⟩)
theorem pd_13 : parseMethodDescriptor "(Ljava/lang/Object;Ljava/lang/Object;Lcom/example/rosewood/rosewood/RosewoodMap$Node;)Lcom/example/rosewood/rosewood/RosewoodMap$Node;" = some ⟨[(FieldType.object "java/lang/Object"), (FieldType.object "java/lang/Object"), (FieldType.object "com/example/rosewood/rosewood/RosewoodMap$Node")], some (FieldType.object "com/example/rosewood/rosewood/RosewoodMap$Node")⟩ := by decide +kernel
theorem ef_13_RI (m : MethodId) (x0 : Addr) (x1 : Int32) : entryFrame m #[(.ref x0), (.int x1)] 2 = mkF m 0 #[vr x0, vi x1] [] := by first | (simp [entryFrame, mkF, argsToLocals, Value.category]; done) | rfl
theorem d13_0 : decode prog_7_method_82_code 0 = .ok (.aload_n 0, 1) := by decide +kernel
theorem d13_1 : decode prog_7_method_82_code 1 = .ok (.iload_n 1, 1) := by decide +kernel
theorem d13_2 : decode prog_7_method_82_code 2 = .ok (.ifCond .eq 14, 3) := by decide +kernel
theorem d13_16 : decode prog_7_method_82_code 16 = .ok (.aload_n 0, 1) := by decide +kernel
theorem d13_17 : decode prog_7_method_82_code 17 = .ok (.getfield 285, 3) := by decide +kernel
theorem d13_20 : decode prog_7_method_82_code 20 = .ok (.ldc_w 289, 3) := by decide +kernel
theorem d13_23 : decode prog_7_method_82_code 23 = .ok (.iand, 1) := by decide +kernel
theorem d13_24 : decode prog_7_method_82_code 24 = .ok (.putfield 285, 3) := by decide +kernel
theorem d13_27 : decode prog_7_method_82_code 27 = .ok (.return_, 1) := by decide +kernel
theorem rm_setRed_18 (l : Launch) (Z : State) (a0 : Array Value) (hw : HW a0 Z) (a1 : Addr) (a2 : Addr) (a3 : Addr) (h0 : Heap) (n0 : Nat) (Z0 : n0 ≤ h0.size) (O_a1 : R_ND Z h0 a1 (.ref a2) (.ref a3) .null .null .null (.int (-2147483648))) (g_a1 : n0 ≤ a1) :
    Ctr l Y17 prog_7_method_82_code 2 none [] ({ frames := 0, cells := 0, slots := 0, locals := 0 } : Room) Z #[(.ref a1), (.int 0)] h0 (fun v h L => v = none ∧ Fr n0 L ∧ Keep h0 h [a1] ∧ R_ND Z h a1 (.ref a2) (.ref a3) .null .null .null (.int 0)) := by
  refine own_enter pn_2 (fun p e s m below meth c s₁ hx hby hml hown hnm hret hlk hZ X0 e0 => ?_)
  have N0 := Fr.nil n0
  have K0 := Keep.refl h0 [a1]
  rw [ef_13_RI m _ _]
  show Go p e below (s₁.setTop (mkF m 0 #[vr a1, vi 0] [])) _
  refine g_aloadN X0 hx (hb hby d13_0) rfl rfl ?_
  refine g_iloadN X0 hx (hb hby d13_1) rfl ?_
  refine g_ifYes X0 hx 16 (hb hby d13_2) ((if0 _ _).trans (teq ((by decide) : (0 : Int32) = (0 : Int32))).1) (by decide) (by decide) ?_
  refine g_aloadN X0 hx (hb hby d13_16) rfl rfl ?_
  refine g_getF X0 hx hZ hown (Wd88 hw) e0 O_a1.2.2.2.2.2.2 (hb hby d13_17) (fun T1 X1 e1 => ?_)
  refine g_ldcw X1 hx hZ hown (Wd89 hw) (hb hby d13_20) ?_
  refine g_iand X1 hx (hb hby d13_23) ?_
  show Go p e below (T1.setTop (mkF m 24 #[vr a1, vi 0] [(.int ((-2147483648 : Int32) &&& (2147483647 : Int32))), (.ref a1)])) _
  rw [show ((-2147483648 : Int32) &&& (2147483647 : Int32)) = (0 : Int32) from by decide]
  refine g_putF X1 hx hZ hown (Wd88 hw) e1 O_a1.2.2.2.2.2.2 O_a1.1 (Or.inl (Wd78 hw)) (Wd70 hw) fd_0 rfl rfl (hb hby d13_24) (fun T2 h2 X2 e2 W2 => ?_)
  have N2 := Fr.snoc X2 N0 g_a1
  have O_a1_2 := R_ND_set_redAndLeftCount hw W2 O_a1
  have Z2 : n0 ≤ h2.size := Nat.le_trans Z0 (Nat.le_of_eq W2.size.symm)
  have K2 := Keep.wr K0 W2 (Or.inl (List.mem_of_getElem? (i := 0) rfl))
  exact own_retV X2 hx hret hlk (hb hby d13_27) (by decide) (by decide) (by rw [e2]; exact ⟨rfl, N2, K2, O_a1_2⟩)
theorem pd_14 : parseMethodDescriptor "(Lcom/example/rosewood/rosewood/RosewoodMap$Node;Z)V" = some ⟨[(FieldType.object "com/example/rosewood/rosewood/RosewoodMap$Node"), FieldType.boolean], none⟩ := by decide +kernel
theorem ef_38_RRR (m : MethodId) (x0 : Addr) (x1 : Addr) (x2 : Addr) : entryFrame m #[(.ref x0), (.ref x1), (.ref x2)] 15 = mkF m 0 #[vr x0, vr x1, vr x2, vu, vu, vu, vu, vu, vu, vu, vu, vu, vu, vu, vu] [] := by first | (simp [entryFrame, mkF, argsToLocals, Value.category]; done) | rfl
theorem d38_0 : decode prog_7_method_65_code 0 = .ok (.aload_n 0, 1) := by decide +kernel
theorem d38_1 : decode prog_7_method_65_code 1 = .ok (.getfield 22, 3) := by decide +kernel
theorem d38_4 : decode prog_7_method_65_code 4 = .ok (.ifnonnull 46, 3) := by decide +kernel
theorem d38_7 : decode prog_7_method_65_code 7 = .ok (.aload_n 0, 1) := by decide +kernel
theorem d38_8 : decode prog_7_method_65_code 8 = .ok (.aload_n 1, 1) := by decide +kernel
theorem d38_9 : decode prog_7_method_65_code 9 = .ok (.aload_n 1, 1) := by decide +kernel
theorem d38_10 : decode prog_7_method_65_code 10 = .ok (.invokevirtual 217, 3) := by decide +kernel
theorem d38_13 : decode prog_7_method_65_code 13 = .ok (.pop, 1) := by decide +kernel
theorem d38_14 : decode prog_7_method_65_code 14 = .ok (.aload_n 0, 1) := by decide +kernel
theorem d38_15 : decode prog_7_method_65_code 15 = .ok (.aload_n 0, 1) := by decide +kernel
theorem d38_16 : decode prog_7_method_65_code 16 = .ok (.aload_n 1, 1) := by decide +kernel
theorem d38_17 : decode prog_7_method_65_code 17 = .ok (.aload_n 2, 1) := by decide +kernel
theorem d38_18 : decode prog_7_method_65_code 18 = .ok (.aconst_null, 1) := by decide +kernel
theorem d38_19 : decode prog_7_method_65_code 19 = .ok (.invokevirtual 233, 3) := by decide +kernel
theorem d38_22 : decode prog_7_method_65_code 22 = .ok (.putfield 22, 3) := by decide +kernel
theorem d38_25 : decode prog_7_method_65_code 25 = .ok (.aload_n 0, 1) := by decide +kernel
theorem d38_26 : decode prog_7_method_65_code 26 = .ok (.getfield 22, 3) := by decide +kernel
theorem d38_29 : decode prog_7_method_65_code 29 = .ok (.iconst 0, 1) := by decide +kernel
theorem d38_30 : decode prog_7_method_65_code 30 = .ok (.invokestatic 237, 3) := by decide +kernel
theorem d38_33 : decode prog_7_method_65_code 33 = .ok (.aload_n 0, 1) := by decide +kernel
theorem d38_34 : decode prog_7_method_65_code 34 = .ok (.iconst 1, 1) := by decide +kernel
theorem d38_35 : decode prog_7_method_65_code 35 = .ok (.putfield 18, 3) := by decide +kernel
theorem d38_38 : decode prog_7_method_65_code 38 = .ok (.aload_n 0, 1) := by decide +kernel
theorem d38_39 : decode prog_7_method_65_code 39 = .ok (.dup, 1) := by decide +kernel
theorem d38_40 : decode prog_7_method_65_code 40 = .ok (.getfield 51, 3) := by decide +kernel
theorem d38_43 : decode prog_7_method_65_code 43 = .ok (.iconst 1, 1) := by decide +kernel
theorem d38_44 : decode prog_7_method_65_code 44 = .ok (.iadd, 1) := by decide +kernel
theorem d38_45 : decode prog_7_method_65_code 45 = .ok (.putfield 51, 3) := by decide +kernel
theorem d38_48 : decode prog_7_method_65_code 48 = .ok (.aconst_null, 1) := by decide +kernel
theorem d38_49 : decode prog_7_method_65_code 49 = .ok (.areturn, 1) := by decide +kernel
theorem rm_addIfAbsent_11 (l : Launch) (Z : State) (a0 : Array Value) (hw : HW a0 Z) (a1 : Addr) (a2 : Addr) (a3 : Addr) (i1 : Int32) (i2 : Int32) (i3 : Int32) (h0 : Heap) (n0 : Nat) (Z0 : n0 ≤ h0.size) (O_a1 : R_MP Z h0 a1 .null .null (.int 0) (.int i1)) (O_a2 : R_IN Z h0 a2 (.int i2)) (O_a3 : R_IN Z h0 a3 (.int (i3 ^^^ (1 : Int32)))) (ne_a1_a2 : a1 ≠ a2) (ne_a1_a3 : a1 ≠ a3) (g_a1 : n0 ≤ a1) :
    CtrH l Y18 prog_7_method_65_code 15 (some (FieldType.object "com/example/rosewood/rosewood/RosewoodMap$Node")) [(71, 122, 210, 0), (137, 195, 210, 0), (210, 212, 210, 0)] ({ frames := 4, cells := 1, slots := 6, locals := 53 } : Room) Z #[(.ref a1), (.ref a2), (.ref a3)] h0 (fun v h L => ∃ f1, v = some .null ∧ Fr n0 L ∧ Keep h0 h [a1] ∧ h0.size ≤ f1 ∧ R_MP Z h a1 .null (.ref f1) (.int 1) (.int (i1 + (1 : Int32))) ∧ R_ND Z h f1 (.ref a2) (.ref a3) .null .null .null (.int 0)) := by
  refine own_enterH pn_2 (fun p e s m below meth c s₁ hx hby hml hown hnm hret hlk hZ X0 e0 => ?_)
  have N0 := Fr.nil n0
  have K0 := Keep.refl h0 [a1]
  rw [ef_38_RRR m _ _ _]
  show Go p e below (s₁.setTop (mkF m 0 #[vr a1, vr a2, vr a3, vu, vu, vu, vu, vu, vu, vu, vu, vu, vu, vu, vu] [])) _
  refine g_aloadN X0 hx (hb hby d38_0) rfl rfl ?_
  refine g_getF X0 hx hZ hown (Wd35 hw) e0 O_a1.2.2.1 (hb hby d38_1) (fun T1 X1 e1 => ?_)
  refine g_nonnullNo X1 hx (hb hby d38_4) ?_
  refine g_aloadN X1 hx (hb hby d38_7) rfl rfl ?_
  refine g_aloadN X1 hx (hb hby d38_8) rfl rfl ?_
  refine g_aloadN X1 hx (hb hby d38_9) rfl rfl ?_
  refine g_call (own_callV X1 hx hZ (y := Y13) hown (Wd37 hw) (Wd38 hw) (Wd40 hw) (Wd39 hw) (Wd41 hw) (Wd2 hw) (by decide) (rm_compare_12 l Z a0 hw a1 a2 i1 i2 h0 n0 Z0 O_a1 O_a2) e1 O_a1.1 pd_11 (hb hby d38_10) (by rw [hml]; rfl) (argsL := [(.ref a2), (.ref a2)]) (rest := []) rfl rfl rfl (W := 0) (Nat.le_of_eq rfl) (by decide)) (fun v2 T2 L2 X2 q2 => ?_)
  obtain ⟨rfl, M2, e2⟩ := q2
  have N2 := Fr.app N0 M2
  refine g_pop X2 hx (hb hby d38_13) rfl ?_
  refine g_aloadN X2 hx (hb hby d38_14) rfl rfl ?_
  refine g_aloadN X2 hx (hb hby d38_15) rfl rfl ?_
  refine g_aloadN X2 hx (hb hby d38_16) rfl rfl ?_
  refine g_aloadN X2 hx (hb hby d38_17) rfl rfl ?_
  refine g_null X2 hx (hb hby d38_18) ?_
  refine g_call (own_callV X2 hx hZ (y := Y16) hown (Wd64 hw) (Wd65 hw) (Wd67 hw) (Wd66 hw) (Wd68 hw) (Wd2 hw) (by decide) (rm_newNode_16 l Z a0 hw a1 a2 a3 h0 n0 Z0 ) e2 O_a1.1 pd_13 (hb hby d38_19) (by rw [hml]; rfl) (argsL := [(.ref a2), (.ref a3), .null]) (rest := [(.ref a1)]) rfl rfl rfl (W := 1) (Nat.le_of_eq rfl) (by decide)) (fun v3 T3 L3 X3 q3 => ?_)
  obtain ⟨b3_0, rfl, M3, Kc3, zb3_0, Rk3_0⟩ := q3
  have N3 := Fr.app N2 M3
  have ne_a1_b3_0 : a1 ≠ b3_0 := Nat.ne_of_lt (Nat.lt_of_lt_of_le O_a1.1.lt zb3_0)
  have ne_a2_b3_0 : a2 ≠ b3_0 := Nat.ne_of_lt (Nat.lt_of_lt_of_le O_a2.1.lt zb3_0)
  have ne_a3_b3_0 : a3 ≠ b3_0 := Nat.ne_of_lt (Nat.lt_of_lt_of_le O_a3.1.lt zb3_0)
  have g_b3_0 : n0 ≤ b3_0 := Nat.le_trans Z0 zb3_0
  have sz_b3_0 : h0.size ≤ b3_0 := Nat.le_trans K0.1 zb3_0
  have O_a1_3 := R_MP_keep O_a1 Kc3 List.not_mem_nil
  have O_a2_3 := R_IN_keep O_a2 Kc3 List.not_mem_nil
  have O_a3_3 := R_IN_keep O_a3 Kc3 List.not_mem_nil
  have K3 := Keep.trans K0 Kc3 own_memn
  have Z3 : n0 ≤ T3.heap.size := Nat.le_trans Z0 Kc3.1
  refine g_putF X3 hx hZ hown (Wd35 hw) (rfl : T3.heap = T3.heap) O_a1_3.2.2.1 O_a1_3.1 (Or.inl (Wd36 hw)) (Wd1 hw) fd_2 rfl rfl (hb hby d38_22) (fun T4 h4 X4 e4 W4 => ?_)
  have N4 := Fr.snoc X4 N3 g_a1
  have O_a1_4 := R_MP_set_root hw W4 O_a1_3
  have O_a2_4 := R_IN_other W4 O_a2_3 (Ne.symm ne_a1_a2)
  have O_a3_4 := R_IN_other W4 O_a3_3 (Ne.symm ne_a1_a3)
  have O_b3_0_4 := R_ND_other W4 Rk3_0 (Ne.symm ne_a1_b3_0)
  have Z4 : n0 ≤ h4.size := Nat.le_trans Z3 (Nat.le_of_eq W4.size.symm)
  have K4 := Keep.wr K3 W4 (Or.inl (List.mem_of_getElem? (i := 0) rfl))
  refine g_aloadN X4 hx (hb hby d38_25) rfl rfl ?_
  refine g_getF X4 hx hZ hown (Wd35 hw) e4 O_a1_4.2.2.1 (hb hby d38_26) (fun T5 X5 e5 => ?_)
  refine g_iconst X5 hx (0 : Int32) (hb hby d38_29) (by decide) ?_
  refine g_call (own_callS X5 hx hZ (y := Y17) hown (Wd85 hw) (Wd86 hw) (Wd2 hw) (Wd87 hw) (by decide) (rm_setRed_18 l Z a0 hw b3_0 a2 a3 h4 n0 Z4 O_b3_0_4 g_b3_0) e5 pd_14 (hb hby d38_30) (by rw [hml]; rfl) (argsL := [(.ref b3_0), (.int 0)]) (rest := []) rfl rfl rfl (W := 0) (Nat.le_of_eq rfl) (by decide)) (fun v6 T6 L6 X6 q6 => ?_)
  obtain ⟨rfl, M6, Kc6, Rk6_0⟩ := q6
  have N6 := Fr.app N4 M6
  have O_a1_6 := R_MP_keep O_a1_4 Kc6 (own_nin ne_a1_b3_0 List.not_mem_nil)
  have O_a2_6 := R_IN_keep O_a2_4 Kc6 (own_nin ne_a2_b3_0 List.not_mem_nil)
  have O_a3_6 := R_IN_keep O_a3_4 Kc6 (own_nin ne_a3_b3_0 List.not_mem_nil)
  have K6 := Keep.trans K4 Kc6 (own_memc (Or.inr sz_b3_0) own_memn)
  have Z6 : n0 ≤ T6.heap.size := Nat.le_trans Z4 Kc6.1
  refine g_aloadN X6 hx (hb hby d38_33) rfl rfl ?_
  refine g_iconst X6 hx (1 : Int32) (hb hby d38_34) (by decide) ?_
  refine g_putF X6 hx hZ hown (Wd90 hw) (rfl : T6.heap = T6.heap) O_a1_6.2.2.2.1 O_a1_6.1 (Or.inl (Wd91 hw)) (Wd1 hw) fd_0 rfl rfl (hb hby d38_35) (fun T7 h7 X7 e7 W7 => ?_)
  have N7 := Fr.snoc X7 N6 g_a1
  have O_a1_7 := R_MP_set_size hw W7 O_a1_6
  have O_a2_7 := R_IN_other W7 O_a2_6 (Ne.symm ne_a1_a2)
  have O_a3_7 := R_IN_other W7 O_a3_6 (Ne.symm ne_a1_a3)
  have O_b3_0_7 := R_ND_other W7 Rk6_0 (Ne.symm ne_a1_b3_0)
  have Z7 : n0 ≤ h7.size := Nat.le_trans Z6 (Nat.le_of_eq W7.size.symm)
  have K7 := Keep.wr K6 W7 (Or.inl (List.mem_of_getElem? (i := 0) rfl))
  refine g_aloadN X7 hx (hb hby d38_38) rfl rfl ?_
  refine g_dup X7 hx (hb hby d38_39) rfl ?_
  refine g_getF X7 hx hZ hown (Wd92 hw) e7 O_a1_7.2.2.2.2 (hb hby d38_40) (fun T8 X8 e8 => ?_)
  refine g_iconst X8 hx (1 : Int32) (hb hby d38_43) (by decide) ?_
  refine g_iadd X8 hx (hb hby d38_44) ?_
  refine g_putF X8 hx hZ hown (Wd92 hw) e8 O_a1_7.2.2.2.2 O_a1_7.1 (Or.inl (Wd93 hw)) (Wd1 hw) fd_0 rfl rfl (hb hby d38_45) (fun T9 h9 X9 e9 W9 => ?_)
  have N9 := Fr.snoc X9 N7 g_a1
  have O_a1_9 := R_MP_set_modCount hw W9 O_a1_7
  have O_a2_9 := R_IN_other W9 O_a2_7 (Ne.symm ne_a1_a2)
  have O_a3_9 := R_IN_other W9 O_a3_7 (Ne.symm ne_a1_a3)
  have O_b3_0_9 := R_ND_other W9 O_b3_0_7 (Ne.symm ne_a1_b3_0)
  have Z9 : n0 ≤ h9.size := Nat.le_trans Z7 (Nat.le_of_eq W9.size.symm)
  have K9 := Keep.wr K7 W9 (Or.inl (List.mem_of_getElem? (i := 0) rfl))
  refine g_null X9 hx (hb hby d38_48) ?_
  exact own_retA X9 hx hret hlk rfl rfl (hb hby d38_49) (by decide) (by decide) (by rw [e9]; exact ⟨b3_0, rfl, N9, K9, sz_b3_0, O_a1_9, O_b3_0_9⟩)
theorem pd_15 : parseMethodDescriptor "(Ljava/lang/Object;Ljava/lang/Object;)Lcom/example/rosewood/rosewood/RosewoodMap$Node;" = some ⟨[(FieldType.object "java/lang/Object"), (FieldType.object "java/lang/Object")], some (FieldType.object "com/example/rosewood/rosewood/RosewoodMap$Node")⟩ := by decide +kernel
theorem ef_6_RRR (m : MethodId) (x0 : Addr) (x1 : Addr) (x2 : Addr) : entryFrame m #[(.ref x0), (.ref x1), (.ref x2)] 4 = mkF m 0 #[vr x0, vr x1, vr x2, vu] [] := by first | (simp [entryFrame, mkF, argsToLocals, Value.category]; done) | rfl
theorem d6_0 : decode prog_7_method_8_code 0 = .ok (.aload_n 0, 1) := by decide +kernel
theorem d6_1 : decode prog_7_method_8_code 1 = .ok (.aload_n 1, 1) := by decide +kernel
theorem d6_2 : decode prog_7_method_8_code 2 = .ok (.aload_n 2, 1) := by decide +kernel
theorem d6_3 : decode prog_7_method_8_code 3 = .ok (.invokevirtual 36, 3) := by decide +kernel
theorem d6_6 : decode prog_7_method_8_code 6 = .ok (.astore_n 3, 1) := by decide +kernel
theorem d6_7 : decode prog_7_method_8_code 7 = .ok (.aload_n 3, 1) := by decide +kernel
theorem d6_8 : decode prog_7_method_8_code 8 = .ok (.ifnonnull 7, 3) := by decide +kernel
theorem d6_11 : decode prog_7_method_8_code 11 = .ok (.aconst_null, 1) := by decide +kernel
theorem d6_12 : decode prog_7_method_8_code 12 = .ok (.goto 9, 3) := by decide +kernel
theorem d6_21 : decode prog_7_method_8_code 21 = .ok (.areturn, 1) := by decide +kernel
theorem rm_put_10 (l : Launch) (Z : State) (a0 : Array Value) (hw : HW a0 Z) (a1 : Addr) (a2 : Addr) (a3 : Addr) (i1 : Int32) (i2 : Int32) (i3 : Int32) (h0 : Heap) (n0 : Nat) (Z0 : n0 ≤ h0.size) (O_a1 : R_MP Z h0 a1 .null .null (.int 0) (.int i1)) (O_a2 : R_IN Z h0 a2 (.int i2)) (O_a3 : R_IN Z h0 a3 (.int (i3 ^^^ (1 : Int32)))) (ne_a1_a2 : a1 ≠ a2) (ne_a1_a3 : a1 ≠ a3) (g_a1 : n0 ≤ a1) :
    Ctr l Y19 prog_7_method_8_code 4 (some (FieldType.object "java/lang/Object")) [] ({ frames := 5, cells := 1, slots := 6, locals := 79 } : Room) Z #[(.ref a1), (.ref a2), (.ref a3)] h0 (fun v h L => ∃ f1, v = some .null ∧ Fr n0 L ∧ Keep h0 h [a1] ∧ h0.size ≤ f1 ∧ R_MP Z h a1 .null (.ref f1) (.int 1) (.int (i1 + (1 : Int32))) ∧ R_ND Z h f1 (.ref a2) (.ref a3) .null .null .null (.int 0)) := by
  refine own_enter pn_2 (fun p e s m below meth c s₁ hx hby hml hown hnm hret hlk hZ X0 e0 => ?_)
  have N0 := Fr.nil n0
  have K0 := Keep.refl h0 [a1]
  rw [ef_6_RRR m _ _ _]
  show Go p e below (s₁.setTop (mkF m 0 #[vr a1, vr a2, vr a3, vu] [])) _
  refine g_aloadN X0 hx (hb hby d6_0) rfl rfl ?_
  refine g_aloadN X0 hx (hb hby d6_1) rfl rfl ?_
  refine g_aloadN X0 hx (hb hby d6_2) rfl rfl ?_
  refine g_call (own_callPH X0 hx hZ (y := Y18) hown (Wd31 hw) (Wd32 hw) (Wd33 hw) (Wd1 hw) (Wd34 hw) (Wd2 hw) (by decide) (rm_addIfAbsent_11 l Z a0 hw a1 a2 a3 i1 i2 i3 h0 n0 Z0 O_a1 O_a2 O_a3 ne_a1_a2 ne_a1_a3 g_a1) e0 O_a1.1 pd_15 (hb hby d6_3) (by rw [hml]; rfl) (argsL := [(.ref a2), (.ref a3)]) (rest := []) rfl rfl rfl (W := 0) (Nat.le_of_eq rfl) (by decide)) (fun v1 T1 L1 X1 q1 => ?_)
  obtain ⟨b1_0, rfl, M1, Kc1, zb1_0, Rk1_0, Rk1_1⟩ := q1
  have N1 := Fr.app N0 M1
  have ne_a1_b1_0 : a1 ≠ b1_0 := Nat.ne_of_lt (Nat.lt_of_lt_of_le O_a1.1.lt zb1_0)
  have ne_a2_b1_0 : a2 ≠ b1_0 := Nat.ne_of_lt (Nat.lt_of_lt_of_le O_a2.1.lt zb1_0)
  have ne_a3_b1_0 : a3 ≠ b1_0 := Nat.ne_of_lt (Nat.lt_of_lt_of_le O_a3.1.lt zb1_0)
  have g_b1_0 : n0 ≤ b1_0 := Nat.le_trans Z0 zb1_0
  have sz_b1_0 : h0.size ≤ b1_0 := Nat.le_trans K0.1 zb1_0
  have O_a2_1 := R_IN_keep O_a2 Kc1 (own_nin (Ne.symm ne_a1_a2) List.not_mem_nil)
  have O_a3_1 := R_IN_keep O_a3 Kc1 (own_nin (Ne.symm ne_a1_a3) List.not_mem_nil)
  have K1 := Keep.trans K0 Kc1 (own_memc (Or.inl (List.mem_of_getElem? (i := 0) rfl)) own_memn)
  have Z1 : n0 ≤ T1.heap.size := Nat.le_trans Z0 Kc1.1
  refine g_astoreN X1 hx #[vr a1, vr a2, vr a3, vn] (hb hby d6_6) rfl rfl ?_
  refine g_aloadN X1 hx (hb hby d6_7) rfl rfl ?_
  refine g_nonnullNo X1 hx (hb hby d6_8) ?_
  refine g_null X1 hx (hb hby d6_11) ?_
  refine g_goto X1 hx 21 (hb hby d6_12) (by decide) (by decide) ?_
  exact own_retA X1 hx hret hlk rfl rfl (hb hby d6_21) (by decide) (by decide) (by rw [(rfl : T1.heap = T1.heap)]; exact ⟨b1_0, rfl, N1, K1, sz_b1_0, Rk1_0, Rk1_1⟩)
theorem pd_16 : parseMethodDescriptor "(Ljava/lang/Object;Ljava/lang/Object;)Ljava/lang/Object;" = some ⟨[(FieldType.object "java/lang/Object"), (FieldType.object "java/lang/Object")], some (FieldType.object "java/lang/Object")⟩ := by decide +kernel
theorem rm_size_19 (l : Launch) (Z : State) (a0 : Array Value) (hw : HW a0 Z) (a1 : Addr) (a2 : Addr) (i1 : Int32) (h0 : Heap) (n0 : Nat) (Z0 : n0 ≤ h0.size) (O_a1 : R_MP Z h0 a1 .null (.ref a2) (.int 1) (.int (i1 + (1 : Int32)))) :
    Ctr l Y3 prog_7_method_4_code 1 (some FieldType.int) [] ({ frames := 0, cells := 0, slots := 0, locals := 0 } : Room) Z #[(.ref a1)] h0 (fun v h L => v = some (.int 1) ∧ Fr n0 L ∧ h = h0) := by
  refine own_enter pn_2 (fun p e s m below meth c s₁ hx hby hml hown hnm hret hlk hZ X0 e0 => ?_)
  have N0 := Fr.nil n0
  have K0 := Keep.refl h0 []
  rw [ef_25_R m _]
  show Go p e below (s₁.setTop (mkF m 0 #[vr a1] [])) _
  refine g_aloadN X0 hx (hb hby d25_0) rfl rfl ?_
  refine g_getF X0 hx hZ hown (Wd90 hw) e0 O_a1.2.2.2.1 (hb hby d25_1) (fun T1 X1 e1 => ?_)
  exact own_retI X1 hx hret hlk (hb hby d25_4) (by decide) (by decide) ⟨rfl, N0, e1⟩
theorem rm_searchKey_22 (l : Launch) (Z : State) (a0 : Array Value) (hw : HW a0 Z) (a1 : Addr) (a2 : Addr) (a3 : Addr) (i1 : Int32) (i2 : Int32) (h0 : Heap) (n0 : Nat) (Z0 : n0 ≤ h0.size) (O_a1 : R_MP Z h0 a1 .null (.ref a3) (.int 1) (.int (i1 + (1 : Int32)))) (O_a2 : R_IN Z h0 a2 (.int i2)) :
    Ctr l Y6 prog_7_method_60_code 3 (some (FieldType.object "java/lang/Object")) [] ({ frames := 1, cells := 0, slots := 0, locals := 12 } : Room) Z #[(.ref a1), (.ref a2)] h0 (fun v h L => v = some (.ref a2) ∧ Fr n0 L ∧ h = h0) := by
  refine own_enter pn_2 (fun p e s m below meth c s₁ hx hby hml hown hnm hret hlk hZ X0 e0 => ?_)
  have N0 := Fr.nil n0
  have K0 := Keep.refl h0 []
  rw [ef_29_RR m _ _]
  show Go p e below (s₁.setTop (mkF m 0 #[vr a1, vr a2, vu] [])) _
  refine g_aloadN X0 hx (hb hby d29_0) rfl rfl ?_
  refine g_getF X0 hx hZ hown (Wd17 hw) e0 O_a1.2.1 (hb hby d29_1) (fun T1 X1 e1 => ?_)
  refine g_nonnullNo X1 hx (hb hby d29_4) ?_
  refine g_aloadN X1 hx (hb hby d29_7) rfl rfl ?_
  refine g_call (own_callS X1 hx hZ (y := Y5) hown (Wd168 hw) (Wd169 hw) (Wd170 hw) (Wd171 hw) (by decide) (rm_requireNonNull_8 l Z a0 hw a2 h0 n0 Z0 ) e1 pd_5 (hb hby d29_8) (by rw [hml]; rfl) (argsL := [(.ref a2)]) (rest := []) rfl rfl rfl (W := 0) (Nat.le_of_eq rfl) (by decide)) (fun v2 T2 L2 X2 q2 => ?_)
  obtain ⟨rfl, M2, e2⟩ := q2
  have N2 := Fr.app N0 M2
  refine g_pop X2 hx (hb hby d29_11) rfl ?_
  refine g_aloadN X2 hx (hb hby d29_12) rfl rfl ?_
  refine g_astoreN X2 hx #[vr a1, vr a2, vr a2] (hb hby d29_13) rfl rfl ?_
  refine g_aloadN X2 hx (hb hby d29_14) rfl rfl ?_
  exact own_retA X2 hx hret hlk rfl rfl (hb hby d29_15) (by decide) (by decide) ⟨rfl, N2, e2⟩
theorem ef_14_R (m : MethodId) (x0 : Addr) : entryFrame m #[(.ref x0)] 1 = mkF m 0 #[vr x0] [] := by first | (simp [entryFrame, mkF, argsToLocals, Value.category]; done) | rfl
theorem d14_8 : decode prog_7_method_76_code 8 = .ok (.aload_n 0, 1) := by decide +kernel
theorem d14_9 : decode prog_7_method_76_code 9 = .ok (.getfield 92, 3) := by decide +kernel
theorem rm_keyOf_23 (l : Launch) (Z : State) (a0 : Array Value) (hw : HW a0 Z) (a1 : Addr) (a2 : Addr) (a3 : Addr) (h0 : Heap) (n0 : Nat) (Z0 : n0 ≤ h0.size) (O_a1 : R_ND Z h0 a1 (.ref a2) (.ref a3) .null .null .null (.int 0)) :
    Ctr l Y7 prog_7_method_76_code 1 (some (FieldType.object "java/lang/Object")) [] ({ frames := 0, cells := 0, slots := 0, locals := 0 } : Room) Z #[(.ref a1)] h0 (fun v h L => v = some (.ref a2) ∧ Fr n0 L ∧ h = h0) := by
  refine own_enter pn_2 (fun p e s m below meth c s₁ hx hby hml hown hnm hret hlk hZ X0 e0 => ?_)
  have N0 := Fr.nil n0
  have K0 := Keep.refl h0 []
  rw [ef_14_R m _]
  show Go p e below (s₁.setTop (mkF m 0 #[vr a1] [])) _
  refine g_aloadN X0 hx (hb hby d14_0) rfl rfl ?_
  refine g_nonnullYes X0 hx 8 (hb hby d14_1) (by decide) (by decide) ?_
  refine g_aloadN X0 hx (hb hby d14_8) rfl rfl ?_
  refine g_getF X0 hx hZ hown (Wd94 hw) e0 O_a1.2.1 (hb hby d14_9) (fun T1 X1 e1 => ?_)
  exact own_retA X1 hx hret hlk rfl rfl (hb hby d14_12) (by decide) (by decide) ⟨rfl, N0, e1⟩
theorem rm_compareTo_26 (l : Launch) (Z : State) (a0 : Array Value) (hw : HW a0 Z) (a1 : Addr) (a2 : Addr) (i1 : Int32) (h0 : Heap) (n0 : Nat) (Z0 : n0 ≤ h0.size) (O_a1 : R_IN Z h0 a1 (.int i1)) (O_a2 : R_IN Z h0 a2 (.int i1)) :
    Ctr l Y11 jdk_33_method_39_code 2 (some FieldType.int) [] ({ frames := 1, cells := 0, slots := 0, locals := 13 } : Room) Z #[(.ref a1), (.ref a2)] h0 (fun v h L => v = some (.int 0) ∧ Fr n0 L ∧ h = h0) := by
  refine own_enter pn_1 (fun p e s m below meth c s₁ hx hby hml hown hnm hret hlk hZ X0 e0 => ?_)
  have N0 := Fr.nil n0
  have K0 := Keep.refl h0 []
  rw [ef_9_RR m _ _]
  show Go p e below (s₁.setTop (mkF m 0 #[vr a1, vr a2] [])) _
  refine g_aloadN X0 hx (hb hby d9_0) rfl rfl ?_
  refine g_getF X0 hx hZ hown (Wd59 hw) e0 O_a1.2 (hb hby d9_1) (fun T1 X1 e1 => ?_)
  refine g_aloadN X1 hx (hb hby d9_4) rfl rfl ?_
  refine g_getF X1 hx hZ hown (Wd59 hw) e1 O_a2.2 (hb hby d9_5) (fun T2 X2 e2 => ?_)
  refine g_call (own_callS X2 hx hZ (y := Y10) hown (Wd61 hw) (Wd62 hw) (Wd21 hw) (Wd63 hw) (by decide) (rm_compare_15 l Z a0 hw i1 h0 n0 Z0 ) e2 pd_8 (hb hby d9_8) (by rw [hml]; rfl) (argsL := [(.int i1), (.int i1)]) (rest := []) rfl rfl rfl (W := 0) (Nat.le_of_eq rfl) (by decide)) (fun v3 T3 L3 X3 q3 => ?_)
  obtain ⟨rfl, M3, e3⟩ := q3
  have N3 := Fr.app N0 M3
  exact own_retI X3 hx hret hlk (hb hby d9_11) (by decide) (by decide) ⟨rfl, N3, e3⟩
theorem rm_compareTo_25 (l : Launch) (Z : State) (a0 : Array Value) (hw : HW a0 Z) (a1 : Addr) (a2 : Addr) (i1 : Int32) (h0 : Heap) (n0 : Nat) (Z0 : n0 ≤ h0.size) (O_a1 : R_IN Z h0 a1 (.int i1)) (O_a2 : R_IN Z h0 a2 (.int i1)) :
    Ctr l Y12 jdk_33_method_63_code 2 (some FieldType.int) [] ({ frames := 2, cells := 0, slots := 0, locals := 26 } : Room) Z #[(.ref a1), (.ref a2)] h0 (fun v h L => v = some (.int 0) ∧ Fr n0 L ∧ h = h0) := by
  refine own_enter pn_1 (fun p e s m below meth c s₁ hx hby hml hown hnm hret hlk hZ X0 e0 => ?_)
  have N0 := Fr.nil n0
  have K0 := Keep.refl h0 []
  rw [ef_8_RR m _ _]
  show Go p e below (s₁.setTop (mkF m 0 #[vr a1, vr a2] [])) _
  refine g_aloadN X0 hx (hb hby d8_0) rfl rfl ?_
  refine g_aloadN X0 hx (hb hby d8_1) rfl rfl ?_
  refine g_cast X0 hx hZ hown (Wd52 hw) e0 (Ins.self O_a2.1) (hb hby d8_2) (fun T1 X1 e1 => ?_)
  refine g_call (own_callV X1 hx hZ (y := Y11) hown (Wd54 hw) (Wd55 hw) (Wd57 hw) (Wd56 hw) (Wd58 hw) (Wd21 hw) (by decide) (rm_compareTo_26 l Z a0 hw a1 a2 i1 h0 n0 Z0 O_a1 O_a2) e1 O_a1.1 pd_9 (hb hby d8_5) (by rw [hml]; rfl) (argsL := [(.ref a2)]) (rest := []) rfl rfl rfl (W := 0) (Nat.le_of_eq rfl) (by decide)) (fun v2 T2 L2 X2 q2 => ?_)
  obtain ⟨rfl, M2, e2⟩ := q2
  have N2 := Fr.app N0 M2
  exact own_retI X2 hx hret hlk (hb hby d8_8) (by decide) (by decide) ⟨rfl, N2, e2⟩
theorem rm_compare_24 (l : Launch) (Z : State) (a0 : Array Value) (hw : HW a0 Z) (a1 : Addr) (a2 : Addr) (a3 : Addr) (a4 : Addr) (i1 : Int32) (i2 : Int32) (h0 : Heap) (n0 : Nat) (Z0 : n0 ≤ h0.size) (O_a1 : R_MP Z h0 a1 .null (.ref a4) (.int 1) (.int (i1 + (1 : Int32)))) (O_a2 : R_IN Z h0 a2 (.int i2)) (O_a3 : R_IN Z h0 a3 (.int i2)) :
    Ctr l Y13 prog_7_method_72_code 3 (some FieldType.int) [] ({ frames := 3, cells := 0, slots := 0, locals := 39 } : Room) Z #[(.ref a1), (.ref a2), (.ref a3)] h0 (fun v h L => v = some (.int 0) ∧ Fr n0 L ∧ h = h0) := by
  refine own_enter pn_2 (fun p e s m below meth c s₁ hx hby hml hown hnm hret hlk hZ X0 e0 => ?_)
  have N0 := Fr.nil n0
  have K0 := Keep.refl h0 []
  rw [ef_7_RRR m _ _ _]
  show Go p e below (s₁.setTop (mkF m 0 #[vr a1, vr a2, vr a3] [])) _
  refine g_aloadN X0 hx (hb hby d7_0) rfl rfl ?_
  refine g_getF X0 hx hZ hown (Wd17 hw) e0 O_a1.2.1 (hb hby d7_1) (fun T1 X1 e1 => ?_)
  refine g_nonnullNo X1 hx (hb hby d7_4) ?_
  refine g_aloadN X1 hx (hb hby d7_7) rfl rfl ?_
  refine g_cast X1 hx hZ hown (Wd42 hw) e1 (Ins.of_exa O_a2.1 (Wd43 hw)) (hb hby d7_8) (fun T2 X2 e2 => ?_)
  refine g_aloadN X2 hx (hb hby d7_11) rfl rfl ?_
  refine g_call (own_callF X2 hx hZ (xi := Y14) (y := Y12) hown (Wd44 hw) (Wd45 hw) (mvT hZ (Wd46 hw)) (Wd47 hw) (Wd48 hw) (Wd49 hw) (Wd50 hw) (Wd43 hw) (Wd51 hw) (Wd21 hw) (by decide) (rm_compareTo_25 l Z a0 hw a2 a3 i2 h0 n0 Z0 O_a2 O_a3) e2 O_a2.1 pd_10 (hb hby d7_12) (by rw [hml]; rfl) (argsL := [(.ref a3)]) (rest := []) rfl rfl rfl (W := 0) (Nat.le_of_eq rfl) (by decide)) (fun v3 T3 L3 X3 q3 => ?_)
  obtain ⟨rfl, M3, e3⟩ := q3
  have N3 := Fr.app N0 M3
  refine g_goto X3 hx 31 (hb hby d7_17) (by decide) (by decide) ?_
  exact own_retI X3 hx hret hlk (hb hby d7_31) (by decide) (by decide) ⟨rfl, N3, e3⟩
theorem d28_21 : decode prog_7_method_58_code 21 = .ok (.aload_n 3, 1) := by decide +kernel
theorem d28_22 : decode prog_7_method_58_code 22 = .ok (.getfield 211, 3) := by decide +kernel
theorem d28_25 : decode prog_7_method_58_code 25 = .ok (.astore 5, 2) := by decide +kernel
theorem d28_27 : decode prog_7_method_58_code 27 = .ok (.aload_n 3, 1) := by decide +kernel
theorem d28_28 : decode prog_7_method_58_code 28 = .ok (.getfield 214, 3) := by decide +kernel
theorem d28_31 : decode prog_7_method_58_code 31 = .ok (.astore 6, 2) := by decide +kernel
theorem d28_33 : decode prog_7_method_58_code 33 = .ok (.aload 5, 2) := by decide +kernel
theorem d28_35 : decode prog_7_method_58_code 35 = .ok (.invokestatic 121, 3) := by decide +kernel
theorem d28_38 : decode prog_7_method_58_code 38 = .ok (.astore 7, 2) := by decide +kernel
theorem d28_40 : decode prog_7_method_58_code 40 = .ok (.aload 6, 2) := by decide +kernel
theorem d28_42 : decode prog_7_method_58_code 42 = .ok (.invokestatic 121, 3) := by decide +kernel
theorem d28_45 : decode prog_7_method_58_code 45 = .ok (.astore 8, 2) := by decide +kernel
theorem d28_47 : decode prog_7_method_58_code 47 = .ok (.aload_n 0, 1) := by decide +kernel
theorem d28_48 : decode prog_7_method_58_code 48 = .ok (.aload_n 2, 1) := by decide +kernel
theorem d28_49 : decode prog_7_method_58_code 49 = .ok (.aload 4, 2) := by decide +kernel
theorem d28_51 : decode prog_7_method_58_code 51 = .ok (.invokevirtual 217, 3) := by decide +kernel
theorem d28_54 : decode prog_7_method_58_code 54 = .ok (.istore 9, 2) := by decide +kernel
theorem d28_56 : decode prog_7_method_58_code 56 = .ok (.iload 9, 2) := by decide +kernel
theorem d28_58 : decode prog_7_method_58_code 58 = .ok (.ifCond .ne 5, 3) := by decide +kernel
theorem d28_61 : decode prog_7_method_58_code 61 = .ok (.aload_n 3, 1) := by decide +kernel
theorem d28_62 : decode prog_7_method_58_code 62 = .ok (.areturn, 1) := by decide +kernel
theorem rm_find_21 (l : Launch) (Z : State) (a0 : Array Value) (hw : HW a0 Z) (a1 : Addr) (a2 : Addr) (a3 : Addr) (i1 : Int32) (i2 : Int32) (a4 : Addr) (a5 : Addr) (i3 : Int32) (h0 : Heap) (n0 : Nat) (Z0 : n0 ≤ h0.size) (O_a1 : R_MP Z h0 a1 .null (.ref a3) (.int 1) (.int (i1 + (1 : Int32)))) (O_a2 : R_IN Z h0 a2 (.int i2)) (O_a3 : R_ND Z h0 a3 (.ref a4) (.ref a5) .null .null .null (.int 0)) (O_a4 : R_IN Z h0 a4 (.int i2)) (O_a5 : R_IN Z h0 a5 (.int (i3 ^^^ (1 : Int32)))) :
    Ctr l Y8 prog_7_method_58_code 10 (some (FieldType.object "com/example/rosewood/rosewood/RosewoodMap$Node")) [] ({ frames := 4, cells := 0, slots := 0, locals := 53 } : Room) Z #[(.ref a1), (.ref a2)] h0 (fun v h L => v = some (.ref a3) ∧ Fr n0 L ∧ h = h0) := by
  refine own_enter pn_2 (fun p e s m below meth c s₁ hx hby hml hown hnm hret hlk hZ X0 e0 => ?_)
  have N0 := Fr.nil n0
  have K0 := Keep.refl h0 []
  rw [ef_28_RR m _ _]
  show Go p e below (s₁.setTop (mkF m 0 #[vr a1, vr a2, vu, vu, vu, vu, vu, vu, vu, vu] [])) _
  refine g_aloadN X0 hx (hb hby d28_0) rfl rfl ?_
  refine g_aloadN X0 hx (hb hby d28_1) rfl rfl ?_
  refine g_call (own_callP X0 hx hZ (y := Y6) hown (Wd164 hw) (Wd165 hw) (Wd166 hw) (Wd1 hw) (Wd167 hw) (Wd2 hw) (by decide) (rm_searchKey_22 l Z a0 hw a1 a2 a3 i1 i2 h0 n0 Z0 O_a1 O_a2) e0 O_a1.1 pd_5 (hb hby d28_2) (by rw [hml]; rfl) (argsL := [(.ref a2)]) (rest := []) rfl rfl rfl (W := 0) (Nat.le_of_eq rfl) (by decide)) (fun v1 T1 L1 X1 q1 => ?_)
  obtain ⟨rfl, M1, e1⟩ := q1
  have N1 := Fr.app N0 M1
  refine g_astoreN X1 hx #[vr a1, vr a2, vr a2, vu, vu, vu, vu, vu, vu, vu] (hb hby d28_5) rfl rfl ?_
  refine g_aloadN X1 hx (hb hby d28_6) rfl rfl ?_
  refine g_getF X1 hx hZ hown (Wd35 hw) e1 O_a1.2.2.1 (hb hby d28_7) (fun T2 X2 e2 => ?_)
  refine g_astoreN X2 hx #[vr a1, vr a2, vr a2, vr a3, vu, vu, vu, vu, vu, vu] (hb hby d28_10) rfl rfl ?_
  refine g_aloadN X2 hx (hb hby d28_11) rfl rfl ?_
  refine g_call (own_callS X2 hx hZ (y := Y7) hown (Wd99 hw) (Wd100 hw) (Wd2 hw) (Wd101 hw) (by decide) (rm_keyOf_23 l Z a0 hw a3 a4 a5 h0 n0 Z0 O_a3) e2 pd_6 (hb hby d28_12) (by rw [hml]; rfl) (argsL := [(.ref a3)]) (rest := []) rfl rfl rfl (W := 0) (Nat.le_of_eq rfl) (by decide)) (fun v3 T3 L3 X3 q3 => ?_)
  obtain ⟨rfl, M3, e3⟩ := q3
  have N3 := Fr.app N1 M3
  refine g_astore X3 hx #[vr a1, vr a2, vr a2, vr a3, vr a4, vu, vu, vu, vu, vu] (hb hby d28_15) rfl rfl ?_
  refine g_aloadN X3 hx (hb hby d28_17) rfl rfl ?_
  refine g_nullNo X3 hx (hb hby d28_18) ?_
  refine g_aloadN X3 hx (hb hby d28_21) rfl rfl ?_
  refine g_getF X3 hx hZ hown (Wd95 hw) e3 O_a3.2.2.2.1 (hb hby d28_22) (fun T4 X4 e4 => ?_)
  refine g_astore X4 hx #[vr a1, vr a2, vr a2, vr a3, vr a4, vn, vu, vu, vu, vu] (hb hby d28_25) rfl rfl ?_
  refine g_aloadN X4 hx (hb hby d28_27) rfl rfl ?_
  refine g_getF X4 hx hZ hown (Wd97 hw) e4 O_a3.2.2.2.2.1 (hb hby d28_28) (fun T5 X5 e5 => ?_)
  refine g_astore X5 hx #[vr a1, vr a2, vr a2, vr a3, vr a4, vn, vn, vu, vu, vu] (hb hby d28_31) rfl rfl ?_
  refine g_aload X5 hx (hb hby d28_33) rfl rfl ?_
  refine g_call (own_callS X5 hx hZ (y := Y7) hown (Wd99 hw) (Wd100 hw) (Wd2 hw) (Wd101 hw) (by decide) (rm_keyOf_9 l Z a0 hw  h0 n0 Z0 ) e5 pd_6 (hb hby d28_35) (by rw [hml]; rfl) (argsL := [.null]) (rest := []) rfl rfl rfl (W := 0) (Nat.le_of_eq rfl) (by decide)) (fun v6 T6 L6 X6 q6 => ?_)
  obtain ⟨rfl, M6, e6⟩ := q6
  have N6 := Fr.app N3 M6
  refine g_astore X6 hx #[vr a1, vr a2, vr a2, vr a3, vr a4, vn, vn, vn, vu, vu] (hb hby d28_38) rfl rfl ?_
  refine g_aload X6 hx (hb hby d28_40) rfl rfl ?_
  refine g_call (own_callS X6 hx hZ (y := Y7) hown (Wd99 hw) (Wd100 hw) (Wd2 hw) (Wd101 hw) (by decide) (rm_keyOf_9 l Z a0 hw  h0 n0 Z0 ) e6 pd_6 (hb hby d28_42) (by rw [hml]; rfl) (argsL := [.null]) (rest := []) rfl rfl rfl (W := 0) (Nat.le_of_eq rfl) (by decide)) (fun v7 T7 L7 X7 q7 => ?_)
  obtain ⟨rfl, M7, e7⟩ := q7
  have N7 := Fr.app N6 M7
  refine g_astore X7 hx #[vr a1, vr a2, vr a2, vr a3, vr a4, vn, vn, vn, vn, vu] (hb hby d28_45) rfl rfl ?_
  refine g_aloadN X7 hx (hb hby d28_47) rfl rfl ?_
  refine g_aloadN X7 hx (hb hby d28_48) rfl rfl ?_
  refine g_aload X7 hx (hb hby d28_49) rfl rfl ?_
  refine g_call (own_callV X7 hx hZ (y := Y13) hown (Wd37 hw) (Wd38 hw) (Wd40 hw) (Wd39 hw) (Wd41 hw) (Wd2 hw) (by decide) (rm_compare_24 l Z a0 hw a1 a2 a4 a3 i1 i2 h0 n0 Z0 O_a1 O_a2 O_a4) e7 O_a1.1 pd_11 (hb hby d28_51) (by rw [hml]; rfl) (argsL := [(.ref a2), (.ref a4)]) (rest := []) rfl rfl rfl (W := 0) (Nat.le_of_eq rfl) (by decide)) (fun v8 T8 L8 X8 q8 => ?_)
  obtain ⟨rfl, M8, e8⟩ := q8
  have N8 := Fr.app N7 M8
  refine g_istore X8 hx #[vr a1, vr a2, vr a2, vr a3, vr a4, vn, vn, vn, vn, vi 0] (hb hby d28_54) rfl ?_
  refine g_iload X8 hx (hb hby d28_56) rfl ?_
  refine g_ifNo X8 hx (hb hby d28_58) ((if0 _ _).trans (teq ((by decide) : (0 : Int32) = (0 : Int32))).2) ?_
  refine g_aloadN X8 hx (hb hby d28_61) rfl rfl ?_
  exact own_retA X8 hx hret hlk rfl rfl (hb hby d28_62) (by decide) (by decide) ⟨rfl, N8, e8⟩
theorem d27_14 : decode prog_7_method_7_code 14 = .ok (.aload_n 2, 1) := by decide +kernel
theorem d27_15 : decode prog_7_method_7_code 15 = .ok (.getfield 30, 3) := by decide +kernel
theorem rm_get_20 (l : Launch) (Z : State) (a0 : Array Value) (hw : HW a0 Z) (a1 : Addr) (a2 : Addr) (a3 : Addr) (i1 : Int32) (i2 : Int32) (a4 : Addr) (a5 : Addr) (i3 : Int32) (h0 : Heap) (n0 : Nat) (Z0 : n0 ≤ h0.size) (O_a1 : R_MP Z h0 a1 .null (.ref a3) (.int 1) (.int (i1 + (1 : Int32)))) (O_a2 : R_IN Z h0 a2 (.int i2)) (O_a3 : R_ND Z h0 a3 (.ref a4) (.ref a5) .null .null .null (.int 0)) (O_a4 : R_IN Z h0 a4 (.int i2)) (O_a5 : R_IN Z h0 a5 (.int (i3 ^^^ (1 : Int32)))) :
    Ctr l Y9 prog_7_method_7_code 3 (some (FieldType.object "java/lang/Object")) [] ({ frames := 5, cells := 0, slots := 0, locals := 74 } : Room) Z #[(.ref a1), (.ref a2)] h0 (fun v h L => v = some (.ref a5) ∧ Fr n0 L ∧ h = h0) := by
  refine own_enter pn_2 (fun p e s m below meth c s₁ hx hby hml hown hnm hret hlk hZ X0 e0 => ?_)
  have N0 := Fr.nil n0
  have K0 := Keep.refl h0 []
  rw [ef_27_RR m _ _]
  show Go p e below (s₁.setTop (mkF m 0 #[vr a1, vr a2, vu] [])) _
  refine g_aloadN X0 hx (hb hby d27_0) rfl rfl ?_
  refine g_aloadN X0 hx (hb hby d27_1) rfl rfl ?_
  refine g_call (own_callV X0 hx hZ (y := Y8) hown (Wd159 hw) (Wd160 hw) (Wd162 hw) (Wd161 hw) (Wd163 hw) (Wd2 hw) (by decide) (rm_find_21 l Z a0 hw a1 a2 a3 i1 i2 a4 a5 i3 h0 n0 Z0 O_a1 O_a2 O_a3 O_a4 O_a5) e0 O_a1.1 pd_7 (hb hby d27_2) (by rw [hml]; rfl) (argsL := [(.ref a2)]) (rest := []) rfl rfl rfl (W := 0) (Nat.le_of_eq rfl) (by decide)) (fun v1 T1 L1 X1 q1 => ?_)
  obtain ⟨rfl, M1, e1⟩ := q1
  have N1 := Fr.app N0 M1
  refine g_astoreN X1 hx #[vr a1, vr a2, vr a3] (hb hby d27_5) rfl rfl ?_
  refine g_aloadN X1 hx (hb hby d27_6) rfl rfl ?_
  refine g_nonnullYes X1 hx 14 (hb hby d27_7) (by decide) (by decide) ?_
  refine g_aloadN X1 hx (hb hby d27_14) rfl rfl ?_
  refine g_getF X1 hx hZ hown (Wd172 hw) e1 O_a3.2.2.1 (hb hby d27_15) (fun T2 X2 e2 => ?_)
  exact own_retA X2 hx hret hlk rfl rfl (hb hby d27_18) (by decide) (by decide) ⟨rfl, N1, e2⟩
theorem ef_31_R (m : MethodId) (x0 : Addr) : entryFrame m #[(.ref x0)] 1 = mkF m 0 #[vr x0] [] := by first | (simp [entryFrame, mkF, argsToLocals, Value.category]; done) | rfl
theorem d31_0 : decode jdk_33_method_27_code 0 = .ok (.aload_n 0, 1) := by decide +kernel
theorem d31_1 : decode jdk_33_method_27_code 1 = .ok (.getfield 205, 3) := by decide +kernel
theorem d31_4 : decode jdk_33_method_27_code 4 = .ok (.ireturn, 1) := by decide +kernel
theorem rm_intValue_27 (l : Launch) (Z : State) (a0 : Array Value) (hw : HW a0 Z) (a1 : Addr) (i1 : Int32) (h0 : Heap) (n0 : Nat) (Z0 : n0 ≤ h0.size) (O_a1 : R_IN Z h0 a1 (.int (i1 ^^^ (1 : Int32)))) :
    Ctr l Y20 jdk_33_method_27_code 1 (some FieldType.int) [] ({ frames := 0, cells := 0, slots := 0, locals := 0 } : Room) Z #[(.ref a1)] h0 (fun v h L => v = some (.int (i1 ^^^ (1 : Int32))) ∧ Fr n0 L ∧ h = h0) := by
  refine own_enter pn_1 (fun p e s m below meth c s₁ hx hby hml hown hnm hret hlk hZ X0 e0 => ?_)
  have N0 := Fr.nil n0
  have K0 := Keep.refl h0 []
  rw [ef_31_R m _]
  show Go p e below (s₁.setTop (mkF m 0 #[vr a1] [])) _
  refine g_aloadN X0 hx (hb hby d31_0) rfl rfl ?_
  refine g_getF X0 hx hZ hown (Wd59 hw) e0 O_a1.2 (hb hby d31_1) (fun T1 X1 e1 => ?_)
  exact own_retI X1 hx hret hlk (hb hby d31_4) (by decide) (by decide) ⟨rfl, N0, e1⟩
theorem seg_83_E (l : Launch) (Z : State) (a0 : Array Value) (hw : HW a0 Z) (wc : Addr) (clc : Cell) (p1 : Int32) (p2 : Int32) (p3 : Int32) (p4 : Int32) (p5 : Int32) (p6 : Int32) (n : Int32) (M : Addr) (mc : Int32) (h0 : Heap) (n0 : Nat) (Z0 : n0 ≤ h0.size) (hN : Z.heap.size ≤ n0) (C1 : Sta Z Z.heap "java/lang/Integer$IntegerCache" "high" "I" (.int 127)) (C2 : Sta Z Z.heap "java/lang/Integer$IntegerCache" "cache" "[Ljava/lang/Integer;" (.ref wc)) (BX : Bxs Z wc clc "java/lang/Integer" "I" (256 : Int32) (fun j => .int (j - (128 : Int32)))) (KO : Keep Z.heap h0 []) (O_M : R_MP Z h0 M .null .null (.int 0) (.int mc)) (g_M : n0 ≤ M) {p : Program} {e : Env} {s : State} {m : MethodId} {below : List Frame} {meth : Method} {c : Code} {args : Array Value} {s₁ : State} {lo : List Loc} (hx : p.tables.exec = Jvm.exec) (hby : c.code = code) (hml : c.maxLocals = maxLocals) (hown : s.vm.findClass "com/example/rosewood/rosewood/RosewoodMapClearPinLaw" = some m.cls) (hnm : meth.name = "law") (hret : meth.sig.returnType = ret) (hlk : meth.locks = false) (hZ : Z.Warmed39 s.vm) (X0 : Stand p l e room_1 s m args below meth c s₁ lo 10 31) (e0 : s₁.heap = h0) (N0 : Fr n0 lo) :
    Go p e below (s₁.setTop (mkF m 83 #[vi p1, vi p2, vi p3, vi p4, vi p5, vi p6, vi n, vr M, vu, vu, vu, vu, vu] [])) (FinE s room_1.cells room_1.slots (fun v h L => v = some (.int 1) ∧ Fr n0 L)) := by
  show Go p e below (s₁.setTop (mkF m 83 #[vi p1, vi p2, vi p3, vi p4, vi p5, vi p6, vi n, vr M, vu, vu, vu, vu, vu] [])) _
  refine g_aload X0 hx (hb hby at_83) rfl rfl ?_
  refine g_call (own_callV X0 hx hZ (y := Y3) hown (Wd144 hw) (Wd145 hw) (Wd147 hw) (Wd146 hw) (Wd148 hw) (Wd2 hw) (by decide) (rm_size_3 l Z a0 hw M mc h0 n0 Z0 O_M) e0 O_M.1 pd_2 (hb hby at_85) (by rw [hml]; rfl) (argsL := []) (rest := []) rfl rfl rfl (W := 0) (Nat.le_of_eq rfl) (by decide)) (fun v1 T1 L1 X1 q1 => ?_)
  obtain ⟨rfl, M1, e1⟩ := q1
  have N1 := Fr.app N0 M1
  refine g_ifNo X1 hx (hb hby at_88) ((if0 _ _).trans (teq ((by decide) : (0 : Int32) = (0 : Int32))).2) ?_
  refine g_aload X1 hx (hb hby at_91) rfl rfl ?_
  refine g_call (own_callV X1 hx hZ (y := Y4) hown (Wd149 hw) (Wd150 hw) (Wd152 hw) (Wd151 hw) (Wd153 hw) (Wd2 hw) (by decide) (rm_isEmpty_4 l Z a0 hw M mc h0 n0 Z0 O_M) e1 O_M.1 pd_3 (hb hby at_93) (by rw [hml]; rfl) (argsL := []) (rest := []) rfl rfl rfl (W := 0) (Nat.le_of_eq rfl) (by decide)) (fun v2 T2 L2 X2 q2 => ?_)
  obtain ⟨rfl, M2, e2⟩ := q2
  have N2 := Fr.app N1 M2
  refine g_ifNo X2 hx (hb hby at_96) ((if0 _ _).trans (feq ((by decide) : ¬ ((1 : Int32) = (0 : Int32)))).1) ?_
  refine g_aload X2 hx (hb hby at_99) rfl rfl ?_
  refine g_iloadN X2 hx (hb hby at_101) rfl ?_
  refine g_call (own_callS X2 hx hZ (y := Y2) hown (Wd19 hw) (Wd20 hw) (Wd21 hw) (Wd22 hw) (by decide) (rm_valueOf l Z a0 hw wc clc p1 h0 n0 Z0 hN C1 C2 BX KO) e2 pd_4 (hb hby at_102) (by rw [hml]; rfl) (argsL := [(.int p1)]) (rest := [(.ref M)]) rfl rfl rfl (W := 1) (Nat.le_of_eq rfl) (by decide)) (fun v3 T3 L3 X3 q3 => ?_)
  obtain ⟨b3, rfl, M3, Kc3, O3⟩ := q3
  have N3 := Fr.app N2 M3
  have O_M_3 := R_MP_keep O_M Kc3 List.not_mem_nil
  have KO_3 := Keep.trans KO Kc3 own_memn
  have ne_M_b3 : M ≠ b3 := own_exane O_M_3.1 O3.1 (by decide)
  have Z3 : n0 ≤ T3.heap.size := Nat.le_trans Z0 Kc3.1
  refine g_call (own_callV X3 hx hZ (y := Y9) hown (Wd154 hw) (Wd155 hw) (Wd157 hw) (Wd156 hw) (Wd158 hw) (Wd2 hw) (by decide) (rm_get_5 l Z a0 hw M b3 mc p1 T3.heap n0 Z3 O_M_3 O3) (rfl : T3.heap = T3.heap) O_M_3.1 pd_5 (hb hby at_105) (by rw [hml]; rfl) (argsL := [(.ref b3)]) (rest := []) rfl rfl rfl (W := 0) (Nat.le_of_eq rfl) (by decide)) (fun v4 T4 L4 X4 q4 => ?_)
  obtain ⟨rfl, M4, e4⟩ := q4
  have N4 := Fr.app N3 M4
  refine g_nonnullNo X4 hx (hb hby at_108) ?_
  refine g_iconst X4 hx (1 : Int32) (hb hby at_111) (by decide) ?_
  refine g_goto X4 hx 116 (hb hby at_112) (by decide) (by decide) ?_
  refine g_istore X4 hx #[vi p1, vi p2, vi p3, vi p4, vi p5, vi p6, vi n, vr M, vi 1, vu, vu, vu, vu] (hb hby at_116) rfl ?_
  refine g_iload X4 hx (hb hby at_118) rfl ?_
  refine g_iconst X4 hx (1 : Int32) (hb hby at_120) (by decide) ?_
  refine g_ixor X4 hx (hb hby at_121) ?_
  refine g_istore X4 hx #[vi p1, vi p2, vi p3, vi p4, vi p5, vi p6, vi n, vr M, vi 1, .val (.int (p5 ^^^ (1 : Int32))), vu, vu, vu] (hb hby at_122) rfl ?_
  refine g_aload X4 hx (hb hby at_124) rfl rfl ?_
  refine g_iloadN X4 hx (hb hby at_126) rfl ?_
  refine g_call (own_callS X4 hx hZ (y := Y2) hown (Wd19 hw) (Wd20 hw) (Wd21 hw) (Wd22 hw) (by decide) (rm_valueOf l Z a0 hw wc clc p4 T3.heap n0 Z3 hN C1 C2 BX KO_3) e4 pd_4 (hb hby at_127) (by rw [hml]; rfl) (argsL := [(.int p4)]) (rest := [(.ref M)]) rfl rfl rfl (W := 1) (Nat.le_of_eq rfl) (by decide)) (fun v5 T5 L5 X5 q5 => ?_)
  obtain ⟨b5, rfl, M5, Kc5, O5⟩ := q5
  have N5 := Fr.app N4 M5
  have O_M_5 := R_MP_keep O_M_3 Kc5 List.not_mem_nil
  have KO_5 := Keep.trans KO_3 Kc5 own_memn
  have O_b3_5 := R_IN_keep O3 Kc5 List.not_mem_nil
  have ne_M_b5 : M ≠ b5 := own_exane O_M_5.1 O5.1 (by decide)
  have Z5 : n0 ≤ T5.heap.size := Nat.le_trans Z3 Kc5.1
  refine g_iload X5 hx (hb hby at_130) rfl ?_
  refine g_call (own_callS X5 hx hZ (y := Y2) hown (Wd19 hw) (Wd20 hw) (Wd21 hw) (Wd22 hw) (by decide) (rm_valueOf l Z a0 hw wc clc (p5 ^^^ (1 : Int32)) T5.heap n0 Z5 hN C1 C2 BX KO_5) (rfl : T5.heap = T5.heap) pd_4 (hb hby at_132) (by rw [hml]; rfl) (argsL := [(.int (p5 ^^^ (1 : Int32)))]) (rest := [(.ref b5), (.ref M)]) rfl rfl rfl (W := 2) (Nat.le_of_eq rfl) (by decide)) (fun v6 T6 L6 X6 q6 => ?_)
  obtain ⟨b6, rfl, M6, Kc6, O6⟩ := q6
  have N6 := Fr.app N5 M6
  have O_M_6 := R_MP_keep O_M_5 Kc6 List.not_mem_nil
  have KO_6 := Keep.trans KO_5 Kc6 own_memn
  have O_b3_6 := R_IN_keep O_b3_5 Kc6 List.not_mem_nil
  have O_b5_6 := R_IN_keep O5 Kc6 List.not_mem_nil
  have ne_M_b6 : M ≠ b6 := own_exane O_M_6.1 O6.1 (by decide)
  have Z6 : n0 ≤ T6.heap.size := Nat.le_trans Z5 Kc6.1
  refine g_call (own_callV X6 hx hZ (y := Y19) hown (Wd26 hw) (Wd27 hw) (Wd29 hw) (Wd28 hw) (Wd30 hw) (Wd2 hw) (by decide) (rm_put_10 l Z a0 hw M b5 b6 mc p4 p5 T6.heap n0 Z6 O_M_6 O_b5_6 O6 ne_M_b5 ne_M_b6 g_M) (rfl : T6.heap = T6.heap) O_M_6.1 pd_16 (hb hby at_135) (by rw [hml]; rfl) (argsL := [(.ref b5), (.ref b6)]) (rest := []) rfl rfl rfl (W := 0) (Nat.le_of_eq rfl) (by decide)) (fun v7 T7 L7 X7 q7 => ?_)
  obtain ⟨b7_0, rfl, M7, Kc7, zb7_0, Rk7_0, Rk7_1⟩ := q7
  have N7 := Fr.app N6 M7
  have ne_M_b7_0 : M ≠ b7_0 := Nat.ne_of_lt (Nat.lt_of_lt_of_le O_M_6.1.lt zb7_0)
  have ne_b3_b7_0 : b3 ≠ b7_0 := Nat.ne_of_lt (Nat.lt_of_lt_of_le O_b3_6.1.lt zb7_0)
  have ne_b5_b7_0 : b5 ≠ b7_0 := Nat.ne_of_lt (Nat.lt_of_lt_of_le O_b5_6.1.lt zb7_0)
  have ne_b6_b7_0 : b6 ≠ b7_0 := Nat.ne_of_lt (Nat.lt_of_lt_of_le O6.1.lt zb7_0)
  have g_b7_0 : n0 ≤ b7_0 := Nat.le_trans Z6 zb7_0
  have KO_7 := Keep.trans KO_6 Kc7 (own_memc (Or.inr (Nat.le_trans hN g_M)) own_memn)
  have O_b3_7 := R_IN_keep O_b3_6 Kc7 (own_nin (Ne.symm ne_M_b3) List.not_mem_nil)
  have O_b5_7 := R_IN_keep O_b5_6 Kc7 (own_nin (Ne.symm ne_M_b5) List.not_mem_nil)
  have O_b6_7 := R_IN_keep O6 Kc7 (own_nin (Ne.symm ne_M_b6) List.not_mem_nil)
  have Z7 : n0 ≤ T7.heap.size := Nat.le_trans Z6 Kc7.1
  refine Go.mp (fun _ k => X7.checkcastNull hx (g := (mkF m 138 #[vi p1, vi p2, vi p3, vi p4, vi p5, vi p6, vi n, vr M, vi 1, .val (.int (p5 ^^^ (1 : Int32))), vu, vu, vu] [.null])) rfl rfl (hb hby at_138) _ k) ?_
  show Go p e below (T7.setTop (mkF m 141 #[vi p1, vi p2, vi p3, vi p4, vi p5, vi p6, vi n, vr M, vi 1, .val (.int (p5 ^^^ (1 : Int32))), vu, vu, vu] [.null])) _
  refine g_astore X7 hx #[vi p1, vi p2, vi p3, vi p4, vi p5, vi p6, vi n, vr M, vi 1, .val (.int (p5 ^^^ (1 : Int32))), vn, vu, vu] (hb hby at_141) rfl rfl ?_
  refine g_aload X7 hx (hb hby at_143) rfl rfl ?_
  refine g_call (own_callV X7 hx hZ (y := Y3) hown (Wd144 hw) (Wd145 hw) (Wd147 hw) (Wd146 hw) (Wd148 hw) (Wd2 hw) (by decide) (rm_size_19 l Z a0 hw M b7_0 mc T7.heap n0 Z7 Rk7_0) (rfl : T7.heap = T7.heap) Rk7_0.1 pd_2 (hb hby at_145) (by rw [hml]; rfl) (argsL := []) (rest := []) rfl rfl rfl (W := 0) (Nat.le_of_eq rfl) (by decide)) (fun v9 T9 L9 X9 q9 => ?_)
  obtain ⟨rfl, M9, e9⟩ := q9
  have N9 := Fr.app N7 M9
  refine g_iconst X9 hx (1 : Int32) (hb hby at_148) (by decide) ?_
  refine g_icmpNo X9 hx (hb hby at_149) (teq ((by decide) : (1 : Int32) = (1 : Int32))).2 ?_
  refine g_iconst X9 hx (1 : Int32) (hb hby at_152) (by decide) ?_
  refine g_goto X9 hx 157 (hb hby at_153) (by decide) (by decide) ?_
  refine g_istore X9 hx #[vi p1, vi p2, vi p3, vi p4, vi p5, vi p6, vi n, vr M, vi 1, .val (.int (p5 ^^^ (1 : Int32))), vn, vi 1, vu] (hb hby at_157) rfl ?_
  refine g_aload X9 hx (hb hby at_159) rfl rfl ?_
  refine g_iloadN X9 hx (hb hby at_161) rfl ?_
  refine g_call (own_callS X9 hx hZ (y := Y2) hown (Wd19 hw) (Wd20 hw) (Wd21 hw) (Wd22 hw) (by decide) (rm_valueOf l Z a0 hw wc clc p4 T7.heap n0 Z7 hN C1 C2 BX KO_7) e9 pd_4 (hb hby at_162) (by rw [hml]; rfl) (argsL := [(.int p4)]) (rest := [(.ref M)]) rfl rfl rfl (W := 1) (Nat.le_of_eq rfl) (by decide)) (fun v10 T10 L10 X10 q10 => ?_)
  obtain ⟨b10, rfl, M10, Kc10, O10⟩ := q10
  have N10 := Fr.app N9 M10
  have KO_10 := Keep.trans KO_7 Kc10 own_memn
  have O_b3_10 := R_IN_keep O_b3_7 Kc10 List.not_mem_nil
  have O_b5_10 := R_IN_keep O_b5_7 Kc10 List.not_mem_nil
  have O_b6_10 := R_IN_keep O_b6_7 Kc10 List.not_mem_nil
  have O_M_10 := R_MP_keep Rk7_0 Kc10 List.not_mem_nil
  have O_b7_0_10 := R_ND_keep Rk7_1 Kc10 List.not_mem_nil
  have ne_M_b10 : M ≠ b10 := own_exane O_M_10.1 O10.1 (by decide)
  have ne_b7_0_b10 : b7_0 ≠ b10 := own_exane O_b7_0_10.1 O10.1 (by decide)
  have Z10 : n0 ≤ T10.heap.size := Nat.le_trans Z7 Kc10.1
  refine g_call (own_callV X10 hx hZ (y := Y9) hown (Wd154 hw) (Wd155 hw) (Wd157 hw) (Wd156 hw) (Wd158 hw) (Wd2 hw) (by decide) (rm_get_20 l Z a0 hw M b10 b7_0 mc p4 b5 b6 p5 T10.heap n0 Z10 O_M_10 O10 O_b7_0_10 O_b5_10 O_b6_10) (rfl : T10.heap = T10.heap) O_M_10.1 pd_5 (hb hby at_165) (by rw [hml]; rfl) (argsL := [(.ref b10)]) (rest := []) rfl rfl rfl (W := 0) (Nat.le_of_eq rfl) (by decide)) (fun v11 T11 L11 X11 q11 => ?_)
  obtain ⟨rfl, M11, e11⟩ := q11
  have N11 := Fr.app N10 M11
  refine g_cast X11 hx hZ hown (Wd173 hw) e11 (Ins.self O_b6_10.1) (hb hby at_168) (fun T12 X12 e12 => ?_)
  refine g_astore X12 hx #[vi p1, vi p2, vi p3, vi p4, vi p5, vi p6, vi n, vr M, vi 1, .val (.int (p5 ^^^ (1 : Int32))), vn, vi 1, vr b6] (hb hby at_171) rfl rfl ?_
  refine g_iload X12 hx (hb hby at_173) rfl ?_
  refine g_ifNo X12 hx (hb hby at_175) ((if0 _ _).trans (feq ((by decide) : ¬ ((1 : Int32) = (0 : Int32)))).1) ?_
  refine g_aload X12 hx (hb hby at_178) rfl rfl ?_
  refine g_nonnullNo X12 hx (hb hby at_180) ?_
  refine g_iload X12 hx (hb hby at_183) rfl ?_
  refine g_ifNo X12 hx (hb hby at_185) ((if0 _ _).trans (feq ((by decide) : ¬ ((1 : Int32) = (0 : Int32)))).1) ?_
  refine g_aload X12 hx (hb hby at_188) rfl rfl ?_
  refine g_nullNo X12 hx (hb hby at_190) ?_
  refine g_aload X12 hx (hb hby at_193) rfl rfl ?_
  refine g_call (own_callV X12 hx hZ (y := Y20) hown (Wd174 hw) (Wd175 hw) (Wd177 hw) (Wd176 hw) (Wd178 hw) (Wd21 hw) (by decide) (rm_intValue_27 l Z a0 hw b6 p5 T10.heap n0 Z10 O_b6_10) e12 O_b6_10.1 pd_2 (hb hby at_195) (by rw [hml]; rfl) (argsL := []) (rest := []) rfl rfl rfl (W := 0) (Nat.le_of_eq rfl) (by decide)) (fun v13 T13 L13 X13 q13 => ?_)
  obtain ⟨rfl, M13, e13⟩ := q13
  have N13 := Fr.app N11 M13
  refine g_iload X13 hx (hb hby at_198) rfl ?_
  refine g_icmpNo X13 hx (hb hby at_200) (teq (rfl : (p5 ^^^ (1 : Int32)) = (p5 ^^^ (1 : Int32)))).2 ?_
  refine g_iconst X13 hx (1 : Int32) (hb hby at_203) (by decide) ?_
  refine g_goto X13 hx 208 (hb hby at_204) (by decide) (by decide) ?_
  exact own_retZ X13 hx hret hlk (hb hby at_208) (by decide) (by decide) (by decide) ⟨rfl, N13⟩
theorem ef_24_R (m : MethodId) (x0 : Addr) : entryFrame m #[(.ref x0)] 1 = mkF m 0 #[vr x0] [] := by first | (simp [entryFrame, mkF, argsToLocals, Value.category]; done) | rfl
theorem d24_0 : decode prog_7_method_10_code 0 = .ok (.aload_n 0, 1) := by decide +kernel
theorem d24_1 : decode prog_7_method_10_code 1 = .ok (.aconst_null, 1) := by decide +kernel
theorem d24_2 : decode prog_7_method_10_code 2 = .ok (.putfield 22, 3) := by decide +kernel
theorem d24_5 : decode prog_7_method_10_code 5 = .ok (.aload_n 0, 1) := by decide +kernel
theorem d24_6 : decode prog_7_method_10_code 6 = .ok (.iconst 0, 1) := by decide +kernel
theorem d24_7 : decode prog_7_method_10_code 7 = .ok (.putfield 18, 3) := by decide +kernel
theorem d24_10 : decode prog_7_method_10_code 10 = .ok (.aload_n 0, 1) := by decide +kernel
theorem d24_11 : decode prog_7_method_10_code 11 = .ok (.dup, 1) := by decide +kernel
theorem d24_12 : decode prog_7_method_10_code 12 = .ok (.getfield 51, 3) := by decide +kernel
theorem d24_15 : decode prog_7_method_10_code 15 = .ok (.iconst 1, 1) := by decide +kernel
theorem d24_16 : decode prog_7_method_10_code 16 = .ok (.iadd, 1) := by decide +kernel
theorem d24_17 : decode prog_7_method_10_code 17 = .ok (.putfield 51, 3) := by decide +kernel
theorem d24_20 : decode prog_7_method_10_code 20 = .ok (.return_, 1) := by decide +kernel
theorem rm_clear_28 (l : Launch) (Z : State) (a0 : Array Value) (hw : HW a0 Z) (a1 : Addr) (i1 : Int32) (h0 : Heap) (n0 : Nat) (Z0 : n0 ≤ h0.size) (O_a1 : R_MP Z h0 a1 .null .null (.int 0) (.int i1)) (g_a1 : n0 ≤ a1) :
    Ctr l Y21 prog_7_method_10_code 1 none [] ({ frames := 0, cells := 0, slots := 0, locals := 0 } : Room) Z #[(.ref a1)] h0 (fun v h L => v = none ∧ Fr n0 L ∧ Keep h0 h [a1] ∧ R_MP Z h a1 .null .null (.int 0) (.int (i1 + (1 : Int32)))) := by
  refine own_enter pn_2 (fun p e s m below meth c s₁ hx hby hml hown hnm hret hlk hZ X0 e0 => ?_)
  have N0 := Fr.nil n0
  have K0 := Keep.refl h0 [a1]
  rw [ef_24_R m _]
  show Go p e below (s₁.setTop (mkF m 0 #[vr a1] [])) _
  refine g_aloadN X0 hx (hb hby d24_0) rfl rfl ?_
  refine g_null X0 hx (hb hby d24_1) ?_
  refine g_putF X0 hx hZ hown (Wd35 hw) e0 O_a1.2.2.1 O_a1.1 (Or.inl (Wd36 hw)) (Wd1 hw) fd_2 rfl rfl (hb hby d24_2) (fun T1 h1 X1 e1 W1 => ?_)
  have N1 := Fr.snoc X1 N0 g_a1
  have O_a1_1 := R_MP_set_root hw W1 O_a1
  have Z1 : n0 ≤ h1.size := Nat.le_trans Z0 (Nat.le_of_eq W1.size.symm)
  have K1 := Keep.wr K0 W1 (Or.inl (List.mem_of_getElem? (i := 0) rfl))
  refine g_aloadN X1 hx (hb hby d24_5) rfl rfl ?_
  refine g_iconst X1 hx (0 : Int32) (hb hby d24_6) (by decide) ?_
  refine g_putF X1 hx hZ hown (Wd90 hw) e1 O_a1_1.2.2.2.1 O_a1_1.1 (Or.inl (Wd91 hw)) (Wd1 hw) fd_0 rfl rfl (hb hby d24_7) (fun T2 h2 X2 e2 W2 => ?_)
  have N2 := Fr.snoc X2 N1 g_a1
  have O_a1_2 := R_MP_set_size hw W2 O_a1_1
  have Z2 : n0 ≤ h2.size := Nat.le_trans Z1 (Nat.le_of_eq W2.size.symm)
  have K2 := Keep.wr K1 W2 (Or.inl (List.mem_of_getElem? (i := 0) rfl))
  refine g_aloadN X2 hx (hb hby d24_10) rfl rfl ?_
  refine g_dup X2 hx (hb hby d24_11) rfl ?_
  refine g_getF X2 hx hZ hown (Wd92 hw) e2 O_a1_2.2.2.2.2 (hb hby d24_12) (fun T3 X3 e3 => ?_)
  refine g_iconst X3 hx (1 : Int32) (hb hby d24_15) (by decide) ?_
  refine g_iadd X3 hx (hb hby d24_16) ?_
  refine g_putF X3 hx hZ hown (Wd92 hw) e3 O_a1_2.2.2.2.2 O_a1_2.1 (Or.inl (Wd93 hw)) (Wd1 hw) fd_0 rfl rfl (hb hby d24_17) (fun T4 h4 X4 e4 W4 => ?_)
  have N4 := Fr.snoc X4 N2 g_a1
  have O_a1_4 := R_MP_set_modCount hw W4 O_a1_2
  have Z4 : n0 ≤ h4.size := Nat.le_trans Z2 (Nat.le_of_eq W4.size.symm)
  have K4 := Keep.wr K2 W4 (Or.inl (List.mem_of_getElem? (i := 0) rfl))
  exact own_retV X4 hx hret hlk (hb hby d24_20) (by decide) (by decide) (by rw [e4]; exact ⟨rfl, N4, K4, O_a1_4⟩)
theorem seg_78_E (l : Launch) (Z : State) (a0 : Array Value) (hw : HW a0 Z) (wc : Addr) (clc : Cell) (p1 : Int32) (p2 : Int32) (p3 : Int32) (p4 : Int32) (p5 : Int32) (p6 : Int32) (n : Int32) (M : Addr) (mc : Int32) (h0 : Heap) (n0 : Nat) (Z0 : n0 ≤ h0.size) (hN : Z.heap.size ≤ n0) (C1 : Sta Z Z.heap "java/lang/Integer$IntegerCache" "high" "I" (.int 127)) (C2 : Sta Z Z.heap "java/lang/Integer$IntegerCache" "cache" "[Ljava/lang/Integer;" (.ref wc)) (BX : Bxs Z wc clc "java/lang/Integer" "I" (256 : Int32) (fun j => .int (j - (128 : Int32)))) (KO : Keep Z.heap h0 []) (O_M : R_MP Z h0 M .null .null (.int 0) (.int mc)) (g_M : n0 ≤ M) {p : Program} {e : Env} {s : State} {m : MethodId} {below : List Frame} {meth : Method} {c : Code} {args : Array Value} {s₁ : State} {lo : List Loc} (hx : p.tables.exec = Jvm.exec) (hby : c.code = code) (hml : c.maxLocals = maxLocals) (hown : s.vm.findClass "com/example/rosewood/rosewood/RosewoodMapClearPinLaw" = some m.cls) (hnm : meth.name = "law") (hret : meth.sig.returnType = ret) (hlk : meth.locks = false) (hZ : Z.Warmed39 s.vm) (X0 : Stand p l e room_1 s m args below meth c s₁ lo 10 31) (e0 : s₁.heap = h0) (N0 : Fr n0 lo) :
    Go p e below (s₁.setTop (mkF m 78 #[vi p1, vi p2, vi p3, vi p4, vi p5, vi p6, vi n, vr M, vu, vu, vu, vu, vu] [])) (FinE s room_1.cells room_1.slots (fun v h L => v = some (.int 1) ∧ Fr n0 L)) := by
  show Go p e below (s₁.setTop (mkF m 78 #[vi p1, vi p2, vi p3, vi p4, vi p5, vi p6, vi n, vr M, vu, vu, vu, vu, vu] [])) _
  refine g_aload X0 hx (hb hby at_78) rfl rfl ?_
  refine g_call (own_callV X0 hx hZ (y := Y21) hown (Wd139 hw) (Wd140 hw) (Wd142 hw) (Wd141 hw) (Wd143 hw) (Wd2 hw) (by decide) (rm_clear_28 l Z a0 hw M mc h0 n0 Z0 O_M g_M) e0 O_M.1 pd_0 (hb hby at_80) (by rw [hml]; rfl) (argsL := []) (rest := []) rfl rfl rfl (W := 0) (Nat.le_of_eq rfl) (by decide)) (fun v1 T1 L1 X1 q1 => ?_)
  obtain ⟨rfl, M1, Kc1, Rk1_0⟩ := q1
  have N1 := Fr.app N0 M1
  have KO_1 := Keep.trans KO Kc1 (own_memc (Or.inr (Nat.le_trans hN g_M)) own_memn)
  have Z1 : n0 ≤ T1.heap.size := Nat.le_trans Z0 Kc1.1
  show Go p e below (T1.setTop (mkF m 83 #[vi p1, vi p2, vi p3, vi p4, vi p5, vi p6, vi n, vr M, vu, vu, vu, vu, vu] [])) _
  exact seg_83_E l Z a0 hw wc clc p1 p2 p3 p4 p5 p6 n M (mc + (1 : Int32)) T1.heap n0 Z1 hN C1 C2 BX KO_1 Rk1_0 g_M hx hby hml hown hnm hret hlk hZ (Stand.more X1 (by decide) (by decide)) (rfl : T1.heap = T1.heap) N1
theorem rm_clear_29 (l : Launch) (Z : State) (a0 : Array Value) (hw : HW a0 Z) (a1 : Addr) (a2 : Addr) (i1 : Int32) (i2 : Int32) (h0 : Heap) (n0 : Nat) (Z0 : n0 ≤ h0.size) (O_a1 : R_MP Z h0 a1 .null (.ref a2) (.int i1) (.int i2)) (g_a1 : n0 ≤ a1) :
    Ctr l Y21 prog_7_method_10_code 1 none [] ({ frames := 0, cells := 0, slots := 0, locals := 0 } : Room) Z #[(.ref a1)] h0 (fun v h L => v = none ∧ Fr n0 L ∧ Keep h0 h [a1] ∧ R_MP Z h a1 .null .null (.int 0) (.int (i2 + (1 : Int32)))) := by
  refine own_enter pn_2 (fun p e s m below meth c s₁ hx hby hml hown hnm hret hlk hZ X0 e0 => ?_)
  have N0 := Fr.nil n0
  have K0 := Keep.refl h0 [a1]
  rw [ef_24_R m _]
  show Go p e below (s₁.setTop (mkF m 0 #[vr a1] [])) _
  refine g_aloadN X0 hx (hb hby d24_0) rfl rfl ?_
  refine g_null X0 hx (hb hby d24_1) ?_
  refine g_putF X0 hx hZ hown (Wd35 hw) e0 O_a1.2.2.1 O_a1.1 (Or.inl (Wd36 hw)) (Wd1 hw) fd_2 rfl rfl (hb hby d24_2) (fun T1 h1 X1 e1 W1 => ?_)
  have N1 := Fr.snoc X1 N0 g_a1
  have O_a1_1 := R_MP_set_root hw W1 O_a1
  have Z1 : n0 ≤ h1.size := Nat.le_trans Z0 (Nat.le_of_eq W1.size.symm)
  have K1 := Keep.wr K0 W1 (Or.inl (List.mem_of_getElem? (i := 0) rfl))
  refine g_aloadN X1 hx (hb hby d24_5) rfl rfl ?_
  refine g_iconst X1 hx (0 : Int32) (hb hby d24_6) (by decide) ?_
  refine g_putF X1 hx hZ hown (Wd90 hw) e1 O_a1_1.2.2.2.1 O_a1_1.1 (Or.inl (Wd91 hw)) (Wd1 hw) fd_0 rfl rfl (hb hby d24_7) (fun T2 h2 X2 e2 W2 => ?_)
  have N2 := Fr.snoc X2 N1 g_a1
  have O_a1_2 := R_MP_set_size hw W2 O_a1_1
  have Z2 : n0 ≤ h2.size := Nat.le_trans Z1 (Nat.le_of_eq W2.size.symm)
  have K2 := Keep.wr K1 W2 (Or.inl (List.mem_of_getElem? (i := 0) rfl))
  refine g_aloadN X2 hx (hb hby d24_10) rfl rfl ?_
  refine g_dup X2 hx (hb hby d24_11) rfl ?_
  refine g_getF X2 hx hZ hown (Wd92 hw) e2 O_a1_2.2.2.2.2 (hb hby d24_12) (fun T3 X3 e3 => ?_)
  refine g_iconst X3 hx (1 : Int32) (hb hby d24_15) (by decide) ?_
  refine g_iadd X3 hx (hb hby d24_16) ?_
  refine g_putF X3 hx hZ hown (Wd92 hw) e3 O_a1_2.2.2.2.2 O_a1_2.1 (Or.inl (Wd93 hw)) (Wd1 hw) fd_0 rfl rfl (hb hby d24_17) (fun T4 h4 X4 e4 W4 => ?_)
  have N4 := Fr.snoc X4 N2 g_a1
  have O_a1_4 := R_MP_set_modCount hw W4 O_a1_2
  have Z4 : n0 ≤ h4.size := Nat.le_trans Z2 (Nat.le_of_eq W4.size.symm)
  have K4 := Keep.wr K2 W4 (Or.inl (List.mem_of_getElem? (i := 0) rfl))
  exact own_retV X4 hx hret hlk (hb hby d24_20) (by decide) (by decide) (by rw [e4]; exact ⟨rfl, N4, K4, O_a1_4⟩)
theorem seg_78_N (l : Launch) (Z : State) (a0 : Array Value) (hw : HW a0 Z) (wc : Addr) (clc : Cell) (p1 : Int32) (p2 : Int32) (p3 : Int32) (p4 : Int32) (p5 : Int32) (p6 : Int32) (n : Int32) (M : Addr) (mc : Int32) (r : Addr) (sz : Int32) (h0 : Heap) (n0 : Nat) (Z0 : n0 ≤ h0.size) (hN : Z.heap.size ≤ n0) (C1 : Sta Z Z.heap "java/lang/Integer$IntegerCache" "high" "I" (.int 127)) (C2 : Sta Z Z.heap "java/lang/Integer$IntegerCache" "cache" "[Ljava/lang/Integer;" (.ref wc)) (BX : Bxs Z wc clc "java/lang/Integer" "I" (256 : Int32) (fun j => .int (j - (128 : Int32)))) (KO : Keep Z.heap h0 []) (O_M : R_MP Z h0 M .null (.ref r) (.int sz) (.int mc)) (g_M : n0 ≤ M) {p : Program} {e : Env} {s : State} {m : MethodId} {below : List Frame} {meth : Method} {c : Code} {args : Array Value} {s₁ : State} {lo : List Loc} (hx : p.tables.exec = Jvm.exec) (hby : c.code = code) (hml : c.maxLocals = maxLocals) (hown : s.vm.findClass "com/example/rosewood/rosewood/RosewoodMapClearPinLaw" = some m.cls) (hnm : meth.name = "law") (hret : meth.sig.returnType = ret) (hlk : meth.locks = false) (hZ : Z.Warmed39 s.vm) (X0 : Stand p l e room_1 s m args below meth c s₁ lo 10 31) (e0 : s₁.heap = h0) (N0 : Fr n0 lo) :
    Go p e below (s₁.setTop (mkF m 78 #[vi p1, vi p2, vi p3, vi p4, vi p5, vi p6, vi n, vr M, vu, vu, vu, vu, vu] [])) (FinE s room_1.cells room_1.slots (fun v h L => v = some (.int 1) ∧ Fr n0 L)) := by
  show Go p e below (s₁.setTop (mkF m 78 #[vi p1, vi p2, vi p3, vi p4, vi p5, vi p6, vi n, vr M, vu, vu, vu, vu, vu] [])) _
  refine g_aload X0 hx (hb hby at_78) rfl rfl ?_
  refine g_call (own_callV X0 hx hZ (y := Y21) hown (Wd139 hw) (Wd140 hw) (Wd142 hw) (Wd141 hw) (Wd143 hw) (Wd2 hw) (by decide) (rm_clear_29 l Z a0 hw M r sz mc h0 n0 Z0 O_M g_M) e0 O_M.1 pd_0 (hb hby at_80) (by rw [hml]; rfl) (argsL := []) (rest := []) rfl rfl rfl (W := 0) (Nat.le_of_eq rfl) (by decide)) (fun v1 T1 L1 X1 q1 => ?_)
  obtain ⟨rfl, M1, Kc1, Rk1_0⟩ := q1
  have N1 := Fr.app N0 M1
  have KO_1 := Keep.trans KO Kc1 (own_memc (Or.inr (Nat.le_trans hN g_M)) own_memn)
  have Z1 : n0 ≤ T1.heap.size := Nat.le_trans Z0 Kc1.1
  show Go p e below (T1.setTop (mkF m 83 #[vi p1, vi p2, vi p3, vi p4, vi p5, vi p6, vi n, vr M, vu, vu, vu, vu, vu] [])) _
  exact seg_83_E l Z a0 hw wc clc p1 p2 p3 p4 p5 p6 n M (mc + (1 : Int32)) T1.heap n0 Z1 hN C1 C2 BX KO_1 Rk1_0 g_M hx hby hml hown hnm hret hlk hZ (Stand.more X1 (by decide) (by decide)) (rfl : T1.heap = T1.heap) N1
theorem seg_57_E (l : Launch) (Z : State) (a0 : Array Value) (hw : HW a0 Z) (wc : Addr) (clc : Cell) (p1 : Int32) (p2 : Int32) (p3 : Int32) (p4 : Int32) (p5 : Int32) (p6 : Int32) (n : Int32) (M : Addr) (mc : Int32) (h0 : Heap) (n0 : Nat) (Z0 : n0 ≤ h0.size) (hN : Z.heap.size ≤ n0) (C1 : Sta Z Z.heap "java/lang/Integer$IntegerCache" "high" "I" (.int 127)) (C2 : Sta Z Z.heap "java/lang/Integer$IntegerCache" "cache" "[Ljava/lang/Integer;" (.ref wc)) (BX : Bxs Z wc clc "java/lang/Integer" "I" (256 : Int32) (fun j => .int (j - (128 : Int32)))) (KO : Keep Z.heap h0 []) (O_M : R_MP Z h0 M .null .null (.int 0) (.int mc)) (g_M : n0 ≤ M) (hn : n < (1 : Int32)) {p : Program} {e : Env} {s : State} {m : MethodId} {below : List Frame} {meth : Method} {c : Code} {args : Array Value} {s₁ : State} {lo : List Loc} (hx : p.tables.exec = Jvm.exec) (hby : c.code = code) (hml : c.maxLocals = maxLocals) (hown : s.vm.findClass "com/example/rosewood/rosewood/RosewoodMapClearPinLaw" = some m.cls) (hnm : meth.name = "law") (hret : meth.sig.returnType = ret) (hlk : meth.locks = false) (hZ : Z.Warmed39 s.vm) (X0 : Stand p l e room_1 s m args below meth c s₁ lo 7 23) (e0 : s₁.heap = h0) (N0 : Fr n0 lo) :
    Go p e below (s₁.setTop (mkF m 57 #[vi p1, vi p2, vi p3, vi p4, vi p5, vi p6, vi n, vr M, vu, vu, vu, vu, vu] [])) (FinE s room_1.cells room_1.slots (fun v h L => v = some (.int 1) ∧ Fr n0 L)) := by
  show Go p e below (s₁.setTop (mkF m 57 #[vi p1, vi p2, vi p3, vi p4, vi p5, vi p6, vi n, vr M, vu, vu, vu, vu, vu] [])) _
  refine g_iload X0 hx (hb hby at_57) rfl ?_
  refine g_iconst X0 hx (3 : Int32) (hb hby at_59) (by decide) ?_
  have c60_1 : n < (3 : Int32) := (by have u0 := hn; (try simp only [own_S, Int32.lt_iff_toInt_lt, ← Int32.toInt_inj, Int32.reduceToInt] at u0) <;> (try simp only [own_S, Int32.lt_iff_toInt_lt, ← Int32.toInt_inj, Int32.reduceToInt]) <;> first | omega | (simp; done) | (simp; omega))
  refine g_icmpYes X0 hx 78 (hb hby at_60) (tlt c60_1).1 (by decide) (by decide) ?_
  show Go p e below (s₁.setTop (mkF m 78 #[vi p1, vi p2, vi p3, vi p4, vi p5, vi p6, vi n, vr M, vu, vu, vu, vu, vu] [])) _
  exact seg_78_E l Z a0 hw wc clc p1 p2 p3 p4 p5 p6 n M mc h0 n0 Z0 hN C1 C2 BX KO O_M g_M hx hby hml hown hnm hret hlk hZ (Stand.more X0 (by decide) (by decide)) e0 N0
theorem d10_5 : decode jdk_33_method_40_code 5 = .ok (.iconst (-1), 1) := by decide +kernel
theorem d10_6 : decode jdk_33_method_40_code 6 = .ok (.goto 13, 3) := by decide +kernel
theorem rm_compare_35 (l : Launch) (Z : State) (a0 : Array Value) (hw : HW a0 Z) (i1 : Int32) (i2 : Int32) (h0 : Heap) (n0 : Nat) (Z0 : n0 ≤ h0.size) (hk0 : i1 < i2) :
    Ctr l Y10 jdk_33_method_40_code 2 (some FieldType.int) [] ({ frames := 0, cells := 0, slots := 0, locals := 0 } : Room) Z #[(.int i1), (.int i2)] h0 (fun v h L => v = some (.int (-1)) ∧ Fr n0 L ∧ h = h0) := by
  refine own_enter pn_1 (fun p e s m below meth c s₁ hx hby hml hown hnm hret hlk hZ X0 e0 => ?_)
  have N0 := Fr.nil n0
  have K0 := Keep.refl h0 []
  rw [ef_10_II m _ _]
  show Go p e below (s₁.setTop (mkF m 0 #[vi i1, vi i2] [])) _
  refine g_iloadN X0 hx (hb hby d10_0) rfl ?_
  refine g_iloadN X0 hx (hb hby d10_1) rfl ?_
  have c2_1 : i1 < i2 := hk0
  refine g_icmpNo X0 hx (hb hby d10_2) (tlt c2_1).2.1 ?_
  refine g_iconst X0 hx (-1 : Int32) (hb hby d10_5) (by decide) ?_
  refine g_goto X0 hx 19 (hb hby d10_6) (by decide) (by decide) ?_
  exact own_retI X0 hx hret hlk (hb hby d10_19) (by decide) (by decide) ⟨rfl, N0, e0⟩
theorem rm_compareTo_34 (l : Launch) (Z : State) (a0 : Array Value) (hw : HW a0 Z) (a1 : Addr) (a2 : Addr) (i1 : Int32) (i2 : Int32) (h0 : Heap) (n0 : Nat) (Z0 : n0 ≤ h0.size) (O_a1 : R_IN Z h0 a1 (.int i1)) (O_a2 : R_IN Z h0 a2 (.int i2)) (hk0 : i1 < i2) :
    Ctr l Y11 jdk_33_method_39_code 2 (some FieldType.int) [] ({ frames := 1, cells := 0, slots := 0, locals := 13 } : Room) Z #[(.ref a1), (.ref a2)] h0 (fun v h L => v = some (.int (-1)) ∧ Fr n0 L ∧ h = h0) := by
  refine own_enter pn_1 (fun p e s m below meth c s₁ hx hby hml hown hnm hret hlk hZ X0 e0 => ?_)
  have N0 := Fr.nil n0
  have K0 := Keep.refl h0 []
  rw [ef_9_RR m _ _]
  show Go p e below (s₁.setTop (mkF m 0 #[vr a1, vr a2] [])) _
  refine g_aloadN X0 hx (hb hby d9_0) rfl rfl ?_
  refine g_getF X0 hx hZ hown (Wd59 hw) e0 O_a1.2 (hb hby d9_1) (fun T1 X1 e1 => ?_)
  refine g_aloadN X1 hx (hb hby d9_4) rfl rfl ?_
  refine g_getF X1 hx hZ hown (Wd59 hw) e1 O_a2.2 (hb hby d9_5) (fun T2 X2 e2 => ?_)
  refine g_call (own_callS X2 hx hZ (y := Y10) hown (Wd61 hw) (Wd62 hw) (Wd21 hw) (Wd63 hw) (by decide) (rm_compare_35 l Z a0 hw i1 i2 h0 n0 Z0 hk0) e2 pd_8 (hb hby d9_8) (by rw [hml]; rfl) (argsL := [(.int i1), (.int i2)]) (rest := []) rfl rfl rfl (W := 0) (Nat.le_of_eq rfl) (by decide)) (fun v3 T3 L3 X3 q3 => ?_)
  obtain ⟨rfl, M3, e3⟩ := q3
  have N3 := Fr.app N0 M3
  exact own_retI X3 hx hret hlk (hb hby d9_11) (by decide) (by decide) ⟨rfl, N3, e3⟩
theorem rm_compareTo_33 (l : Launch) (Z : State) (a0 : Array Value) (hw : HW a0 Z) (a1 : Addr) (a2 : Addr) (i1 : Int32) (i2 : Int32) (h0 : Heap) (n0 : Nat) (Z0 : n0 ≤ h0.size) (O_a1 : R_IN Z h0 a1 (.int i1)) (O_a2 : R_IN Z h0 a2 (.int i2)) (hk0 : i1 < i2) :
    Ctr l Y12 jdk_33_method_63_code 2 (some FieldType.int) [] ({ frames := 2, cells := 0, slots := 0, locals := 26 } : Room) Z #[(.ref a1), (.ref a2)] h0 (fun v h L => v = some (.int (-1)) ∧ Fr n0 L ∧ h = h0) := by
  refine own_enter pn_1 (fun p e s m below meth c s₁ hx hby hml hown hnm hret hlk hZ X0 e0 => ?_)
  have N0 := Fr.nil n0
  have K0 := Keep.refl h0 []
  rw [ef_8_RR m _ _]
  show Go p e below (s₁.setTop (mkF m 0 #[vr a1, vr a2] [])) _
  refine g_aloadN X0 hx (hb hby d8_0) rfl rfl ?_
  refine g_aloadN X0 hx (hb hby d8_1) rfl rfl ?_
  refine g_cast X0 hx hZ hown (Wd52 hw) e0 (Ins.self O_a2.1) (hb hby d8_2) (fun T1 X1 e1 => ?_)
  refine g_call (own_callV X1 hx hZ (y := Y11) hown (Wd54 hw) (Wd55 hw) (Wd57 hw) (Wd56 hw) (Wd58 hw) (Wd21 hw) (by decide) (rm_compareTo_34 l Z a0 hw a1 a2 i1 i2 h0 n0 Z0 O_a1 O_a2 hk0) e1 O_a1.1 pd_9 (hb hby d8_5) (by rw [hml]; rfl) (argsL := [(.ref a2)]) (rest := []) rfl rfl rfl (W := 0) (Nat.le_of_eq rfl) (by decide)) (fun v2 T2 L2 X2 q2 => ?_)
  obtain ⟨rfl, M2, e2⟩ := q2
  have N2 := Fr.app N0 M2
  exact own_retI X2 hx hret hlk (hb hby d8_8) (by decide) (by decide) ⟨rfl, N2, e2⟩
theorem rm_compare_32 (l : Launch) (Z : State) (a0 : Array Value) (hw : HW a0 Z) (a1 : Addr) (a2 : Addr) (a3 : Addr) (a4 : Addr) (i1 : Int32) (i2 : Int32) (i3 : Int32) (h0 : Heap) (n0 : Nat) (Z0 : n0 ≤ h0.size) (O_a1 : R_MP Z h0 a1 .null (.ref a4) (.int 1) (.int i1)) (O_a2 : R_IN Z h0 a2 (.int i2)) (O_a3 : R_IN Z h0 a3 (.int i3)) (hk0 : i2 < i3) :
    Ctr l Y13 prog_7_method_72_code 3 (some FieldType.int) [] ({ frames := 3, cells := 0, slots := 0, locals := 39 } : Room) Z #[(.ref a1), (.ref a2), (.ref a3)] h0 (fun v h L => v = some (.int (-1)) ∧ Fr n0 L ∧ h = h0) := by
  refine own_enter pn_2 (fun p e s m below meth c s₁ hx hby hml hown hnm hret hlk hZ X0 e0 => ?_)
  have N0 := Fr.nil n0
  have K0 := Keep.refl h0 []
  rw [ef_7_RRR m _ _ _]
  show Go p e below (s₁.setTop (mkF m 0 #[vr a1, vr a2, vr a3] [])) _
  refine g_aloadN X0 hx (hb hby d7_0) rfl rfl ?_
  refine g_getF X0 hx hZ hown (Wd17 hw) e0 O_a1.2.1 (hb hby d7_1) (fun T1 X1 e1 => ?_)
  refine g_nonnullNo X1 hx (hb hby d7_4) ?_
  refine g_aloadN X1 hx (hb hby d7_7) rfl rfl ?_
  refine g_cast X1 hx hZ hown (Wd42 hw) e1 (Ins.of_exa O_a2.1 (Wd43 hw)) (hb hby d7_8) (fun T2 X2 e2 => ?_)
  refine g_aloadN X2 hx (hb hby d7_11) rfl rfl ?_
  refine g_call (own_callF X2 hx hZ (xi := Y14) (y := Y12) hown (Wd44 hw) (Wd45 hw) (mvT hZ (Wd46 hw)) (Wd47 hw) (Wd48 hw) (Wd49 hw) (Wd50 hw) (Wd43 hw) (Wd51 hw) (Wd21 hw) (by decide) (rm_compareTo_33 l Z a0 hw a2 a3 i2 i3 h0 n0 Z0 O_a2 O_a3 hk0) e2 O_a2.1 pd_10 (hb hby d7_12) (by rw [hml]; rfl) (argsL := [(.ref a3)]) (rest := []) rfl rfl rfl (W := 0) (Nat.le_of_eq rfl) (by decide)) (fun v3 T3 L3 X3 q3 => ?_)
  obtain ⟨rfl, M3, e3⟩ := q3
  have N3 := Fr.app N0 M3
  refine g_goto X3 hx 31 (hb hby d7_17) (by decide) (by decide) ?_
  exact own_retI X3 hx hret hlk (hb hby d7_31) (by decide) (by decide) ⟨rfl, N3, e3⟩
theorem ef_18_RI (m : MethodId) (x0 : Addr) (x1 : Int32) : entryFrame m #[(.ref x0), (.int x1)] 2 = mkF m 0 #[vr x0, vi x1] [] := by first | (simp [entryFrame, mkF, argsToLocals, Value.category]; done) | rfl
theorem d18_0 : decode prog_7_method_84_code 0 = .ok (.aload_n 0, 1) := by decide +kernel
theorem d18_1 : decode prog_7_method_84_code 1 = .ok (.dup, 1) := by decide +kernel
theorem d18_2 : decode prog_7_method_84_code 2 = .ok (.getfield 285, 3) := by decide +kernel
theorem d18_5 : decode prog_7_method_84_code 5 = .ok (.iload_n 1, 1) := by decide +kernel
theorem d18_6 : decode prog_7_method_84_code 6 = .ok (.iadd, 1) := by decide +kernel
theorem d18_7 : decode prog_7_method_84_code 7 = .ok (.putfield 285, 3) := by decide +kernel
theorem d18_10 : decode prog_7_method_84_code 10 = .ok (.return_, 1) := by decide +kernel
theorem rm_addToLeftCount_36 (l : Launch) (Z : State) (a0 : Array Value) (hw : HW a0 Z) (a1 : Addr) (a2 : Addr) (a3 : Addr) (h0 : Heap) (n0 : Nat) (Z0 : n0 ≤ h0.size) (O_a1 : R_ND Z h0 a1 (.ref a2) (.ref a3) .null .null .null (.int 0)) (g_a1 : n0 ≤ a1) :
    Ctr l Y22 prog_7_method_84_code 2 none [] ({ frames := 0, cells := 0, slots := 0, locals := 0 } : Room) Z #[(.ref a1), (.int 1)] h0 (fun v h L => v = none ∧ Fr n0 L ∧ Keep h0 h [a1] ∧ R_ND Z h a1 (.ref a2) (.ref a3) .null .null .null (.int 1)) := by
  refine own_enter pn_2 (fun p e s m below meth c s₁ hx hby hml hown hnm hret hlk hZ X0 e0 => ?_)
  have N0 := Fr.nil n0
  have K0 := Keep.refl h0 [a1]
  rw [ef_18_RI m _ _]
  show Go p e below (s₁.setTop (mkF m 0 #[vr a1, vi 1] [])) _
  refine g_aloadN X0 hx (hb hby d18_0) rfl rfl ?_
  refine g_dup X0 hx (hb hby d18_1) rfl ?_
  refine g_getF X0 hx hZ hown (Wd88 hw) e0 O_a1.2.2.2.2.2.2 (hb hby d18_2) (fun T1 X1 e1 => ?_)
  refine g_iloadN X1 hx (hb hby d18_5) rfl ?_
  refine g_iadd X1 hx (hb hby d18_6) ?_
  show Go p e below (T1.setTop (mkF m 7 #[vr a1, vi 1] [(.int ((0 : Int32) + (1 : Int32))), (.ref a1)])) _
  rw [show ((0 : Int32) + (1 : Int32)) = (1 : Int32) from by decide]
  refine g_putF X1 hx hZ hown (Wd88 hw) e1 O_a1.2.2.2.2.2.2 O_a1.1 (Or.inl (Wd78 hw)) (Wd70 hw) fd_0 rfl rfl (hb hby d18_7) (fun T2 h2 X2 e2 W2 => ?_)
  have N2 := Fr.snoc X2 N0 g_a1
  have O_a1_2 := R_ND_set_redAndLeftCount hw W2 O_a1
  have Z2 : n0 ≤ h2.size := Nat.le_trans Z0 (Nat.le_of_eq W2.size.symm)
  have K2 := Keep.wr K0 W2 (Or.inl (List.mem_of_getElem? (i := 0) rfl))
  exact own_retV X2 hx hret hlk (hb hby d18_10) (by decide) (by decide) (by rw [e2]; exact ⟨rfl, N2, K2, O_a1_2⟩)
theorem pd_17 : parseMethodDescriptor "(Lcom/example/rosewood/rosewood/RosewoodMap$Node;I)V" = some ⟨[(FieldType.object "com/example/rosewood/rosewood/RosewoodMap$Node"), FieldType.int], none⟩ := by decide +kernel
theorem ef_12_RRRR (m : MethodId) (x0 : Addr) (x1 : Addr) (x2 : Addr) (x3 : Addr) : entryFrame m #[(.ref x0), (.ref x1), (.ref x2), (.ref x3)] 4 = mkF m 0 #[vr x0, vr x1, vr x2, vr x3] [] := by first | (simp [entryFrame, mkF, argsToLocals, Value.category]; done) | rfl
theorem rm_init_38 (l : Launch) (Z : State) (a0 : Array Value) (hw : HW a0 Z) (a1 : Addr) (a2 : Addr) (a3 : Addr) (a4 : Addr) (h0 : Heap) (n0 : Nat) (Z0 : n0 ≤ h0.size) (O_a1 : R_ND Z h0 a1 .null .null .null .null .null (.int 0)) (g_a1 : n0 ≤ a1) :
    Ctr l Y15 prog_8_method_1_code 4 none [] ({ frames := 1, cells := 0, slots := 0, locals := 12 } : Room) Z #[(.ref a1), (.ref a2), (.ref a3), (.ref a4)] h0 (fun v h L => v = none ∧ Fr n0 L ∧ Keep h0 h [a1] ∧ R_ND Z h a1 (.ref a2) (.ref a3) .null .null (.ref a4) (.int (-2147483648))) := by
  refine own_enter pn_4 (fun p e s m below meth c s₁ hx hby hml hown hnm hret hlk hZ X0 e0 => ?_)
  have N0 := Fr.nil n0
  have K0 := Keep.refl h0 [a1]
  rw [ef_12_RRRR m _ _ _ _]
  show Go p e below (s₁.setTop (mkF m 0 #[vr a1, vr a2, vr a3, vr a4] [])) _
  refine g_aloadN X0 hx (hb hby d12_0) rfl rfl ?_
  refine g_init X0 hx hZ hown (Wd75 hw) (Wd15 hw) (Wd16 hw) e0 (by rw [hml]; rfl) (hb hby d12_1) (by decide) (W := 0) (Nat.le_of_eq rfl) (by decide) (fun T1 X1 e1 => ?_)
  refine g_aloadN X1 hx (hb hby d12_4) rfl rfl ?_
  refine g_ldc X1 hx hZ hown (Wd76 hw) (hb hby d12_5) ?_
  refine g_putF X1 hx hZ hown (Wd77 hw) e1 O_a1.2.2.2.2.2.2 O_a1.1 (Or.inl (Wd78 hw)) (Wd70 hw) fd_0 rfl rfl (hb hby d12_7) (fun T2 h2 X2 e2 W2 => ?_)
  have N2 := Fr.snoc X2 N0 g_a1
  have O_a1_2 := R_ND_set_redAndLeftCount hw W2 O_a1
  have Z2 : n0 ≤ h2.size := Nat.le_trans Z0 (Nat.le_of_eq W2.size.symm)
  have K2 := Keep.wr K0 W2 (Or.inl (List.mem_of_getElem? (i := 0) rfl))
  refine g_aloadN X2 hx (hb hby d12_10) rfl rfl ?_
  refine g_aloadN X2 hx (hb hby d12_11) rfl rfl ?_
  refine g_putF X2 hx hZ hown (Wd79 hw) e2 O_a1_2.2.1 O_a1_2.1 (Or.inl (Wd80 hw)) (Wd70 hw) fd_1 rfl rfl (hb hby d12_12) (fun T3 h3 X3 e3 W3 => ?_)
  have N3 := Fr.snoc X3 N2 g_a1
  have O_a1_3 := R_ND_set_key hw W3 O_a1_2
  have Z3 : n0 ≤ h3.size := Nat.le_trans Z2 (Nat.le_of_eq W3.size.symm)
  have K3 := Keep.wr K2 W3 (Or.inl (List.mem_of_getElem? (i := 0) rfl))
  refine g_aloadN X3 hx (hb hby d12_15) rfl rfl ?_
  refine g_aloadN X3 hx (hb hby d12_16) rfl rfl ?_
  refine g_putF X3 hx hZ hown (Wd81 hw) e3 O_a1_3.2.2.1 O_a1_3.1 (Or.inl (Wd82 hw)) (Wd70 hw) fd_1 rfl rfl (hb hby d12_17) (fun T4 h4 X4 e4 W4 => ?_)
  have N4 := Fr.snoc X4 N3 g_a1
  have O_a1_4 := R_ND_set_value hw W4 O_a1_3
  have Z4 : n0 ≤ h4.size := Nat.le_trans Z3 (Nat.le_of_eq W4.size.symm)
  have K4 := Keep.wr K3 W4 (Or.inl (List.mem_of_getElem? (i := 0) rfl))
  refine g_aloadN X4 hx (hb hby d12_20) rfl rfl ?_
  refine g_aloadN X4 hx (hb hby d12_21) rfl rfl ?_
  refine g_putF X4 hx hZ hown (Wd83 hw) e4 O_a1_4.2.2.2.2.2.1 O_a1_4.1 (Or.inl (Wd84 hw)) (Wd70 hw) fd_2 rfl rfl (hb hby d12_22) (fun T5 h5 X5 e5 W5 => ?_)
  have N5 := Fr.snoc X5 N4 g_a1
  have O_a1_5 := R_ND_set_parent hw W5 O_a1_4
  have Z5 : n0 ≤ h5.size := Nat.le_trans Z4 (Nat.le_of_eq W5.size.symm)
  have K5 := Keep.wr K4 W5 (Or.inl (List.mem_of_getElem? (i := 0) rfl))
  exact own_retV X5 hx hret hlk (hb hby d12_25) (by decide) (by decide) (by rw [e5]; exact ⟨rfl, N5, K5, O_a1_5⟩)
theorem ef_11_RRRR (m : MethodId) (x0 : Addr) (x1 : Addr) (x2 : Addr) (x3 : Addr) : entryFrame m #[(.ref x0), (.ref x1), (.ref x2), (.ref x3)] 4 = mkF m 0 #[vr x0, vr x1, vr x2, vr x3] [] := by first | (simp [entryFrame, mkF, argsToLocals, Value.category]; done) | rfl
theorem rm_newNode_37 (l : Launch) (Z : State) (a0 : Array Value) (hw : HW a0 Z) (a1 : Addr) (a2 : Addr) (a3 : Addr) (a4 : Addr) (h0 : Heap) (n0 : Nat) (Z0 : n0 ≤ h0.size)  :
    Ctr l Y16 prog_7_method_51_code 4 (some (FieldType.object "com/example/rosewood/rosewood/RosewoodMap$Node")) [] ({ frames := 2, cells := 1, slots := 6, locals := 28 } : Room) Z #[(.ref a1), (.ref a2), (.ref a3), (.ref a4)] h0 (fun v h L => ∃ f1, v = some (.ref f1) ∧ Fr n0 L ∧ Keep h0 h [] ∧ h0.size ≤ f1 ∧ R_ND Z h f1 (.ref a2) (.ref a3) .null .null (.ref a4) (.int (-2147483648))) := by
  refine own_enter pn_2 (fun p e s m below meth c s₁ hx hby hml hown hnm hret hlk hZ X0 e0 => ?_)
  have N0 := Fr.nil n0
  have K0 := Keep.refl h0 []
  rw [ef_11_RRRR m _ _ _ _]
  show Go p e below (s₁.setTop (mkF m 0 #[vr a1, vr a2, vr a3, vr a4] [])) _
  obtain ⟨T1, h1, X1, e1, E1, A1, D1, -, st1⟩ := newO X0 hx hZ hown (Wd69 hw) (Wd70 hw) (Wd71 hw) e0 (g := (mkF m 0 #[vr a1, vr a2, vr a3, vr a4] [])) rfl (hb hby d11_0) (by decide) (by decide)
  obtain ⟨b1, g1⟩ : ∃ z, z = h0.size := ⟨_, rfl⟩
  rw [← g1] at A1 D1 st1
  have g_b1 : n0 ≤ b1 := Nat.le_trans Z0 (Nat.le_of_eq g1.symm)
  have Z1 : n0 ≤ h1.size := Nat.le_trans Z0 E1.1
  have sz_b1 : h0.size ≤ b1 := Nat.le_trans K0.1 (Nat.le_of_eq g1.symm)
  have K1 := Keep.ext K0 E1
  have O1 : R_ND Z h1 b1 .null .null .null .null .null (.int 0) := ⟨A1, D1 (Or.inl (Wd80 hw)) (ty := (FieldType.object "java/lang/Object")) (by decide), D1 (Or.inl (Wd82 hw)) (ty := (FieldType.object "java/lang/Object")) (by decide), D1 (Or.inl (Wd96 hw)) (ty := (FieldType.object "com/example/rosewood/rosewood/RosewoodMap$Node")) (by decide), D1 (Or.inl (Wd98 hw)) (ty := (FieldType.object "com/example/rosewood/rosewood/RosewoodMap$Node")) (by decide), D1 (Or.inl (Wd84 hw)) (ty := (FieldType.object "com/example/rosewood/rosewood/RosewoodMap$Node")) (by decide), D1 (Or.inl (Wd78 hw)) (ty := FieldType.int) (by decide)⟩
  refine Go.mp st1 ?_
  show Go p e below (T1.setTop (mkF m 3 #[vr a1, vr a2, vr a3, vr a4] [(.ref b1)])) _
  refine g_dup X1 hx (hb hby d11_3) rfl ?_
  refine g_aloadN X1 hx (hb hby d11_4) rfl rfl ?_
  refine g_aloadN X1 hx (hb hby d11_5) rfl rfl ?_
  refine g_aloadN X1 hx (hb hby d11_6) rfl rfl ?_
  refine g_call (own_callI X1 hx hZ (y := Y15) hown (Wd72 hw) (Wd73 hw) (Wd74 hw) (Wd71 hw) rfl (by decide) (rm_init_38 l Z a0 hw b1 a2 a3 a4 h1 n0 Z1 O1 g_b1) e1 pd_12 (hb hby d11_7) (by rw [hml]; rfl) (argsL := [(.ref a2), (.ref a3), (.ref a4)]) (rest := [(.ref b1)]) rfl rfl rfl (W := 1) (Nat.le_of_eq rfl) (by decide)) (fun v2 T2 L2 X2 q2 => ?_)
  obtain ⟨rfl, M2, Kc2, Rk2_0⟩ := q2
  have N2 := Fr.app N0 M2
  have K2 := Keep.trans K1 Kc2 (own_memc (Or.inr sz_b1) own_memn)
  have Z2 : n0 ≤ T2.heap.size := Nat.le_trans Z1 Kc2.1
  exact own_retA X2 hx hret hlk rfl rfl (hb hby d11_10) (by decide) (by decide) (by rw [(rfl : T2.heap = T2.heap)]; exact ⟨b1, rfl, N2, K2, sz_b1, Rk2_0⟩)
theorem ef_15_RR (m : MethodId) (x0 : Addr) (x1 : Addr) : entryFrame m #[(.ref x0), (.ref x1)] 2 = mkF m 0 #[vr x0, vr x1] [] := by first | (simp [entryFrame, mkF, argsToLocals, Value.category]; done) | rfl
theorem d15_0 : decode prog_7_method_55_code 0 = .ok (.return_, 1) := by decide +kernel
theorem rm_refreshToRoot_39 (l : Launch) (Z : State) (a0 : Array Value) (hw : HW a0 Z) (a1 : Addr) (a2 : Addr) (h0 : Heap) (n0 : Nat) (Z0 : n0 ≤ h0.size)  :
    Ctr l Y23 prog_7_method_55_code 2 none [] ({ frames := 0, cells := 0, slots := 0, locals := 0 } : Room) Z #[(.ref a1), (.ref a2)] h0 (fun v h L => v = none ∧ Fr n0 L ∧ h = h0) := by
  refine own_enter pn_2 (fun p e s m below meth c s₁ hx hby hml hown hnm hret hlk hZ X0 e0 => ?_)
  have N0 := Fr.nil n0
  have K0 := Keep.refl h0 []
  rw [ef_15_RR m _ _]
  show Go p e below (s₁.setTop (mkF m 0 #[vr a1, vr a2] [])) _
  exact own_retV X0 hx hret hlk (hb hby d15_0) (by decide) (by decide) ⟨rfl, N0, e0⟩
theorem pd_18 : parseMethodDescriptor "(Lcom/example/rosewood/rosewood/RosewoodMap$Node;)V" = some ⟨[(FieldType.object "com/example/rosewood/rosewood/RosewoodMap$Node")], none⟩ := by decide +kernel
theorem ef_17_R (m : MethodId) (x0 : Addr) : entryFrame m #[(.ref x0)] 1 = mkF m 0 #[vr x0] [] := by first | (simp [entryFrame, mkF, argsToLocals, Value.category]; done) | rfl
theorem d17_0 : decode prog_7_method_81_code 0 = .ok (.aload_n 0, 1) := by decide +kernel
theorem d17_1 : decode prog_7_method_81_code 1 = .ok (.ifnull 14, 3) := by decide +kernel
theorem d17_4 : decode prog_7_method_81_code 4 = .ok (.aload_n 0, 1) := by decide +kernel
theorem d17_5 : decode prog_7_method_81_code 5 = .ok (.getfield 285, 3) := by decide +kernel
theorem d17_8 : decode prog_7_method_81_code 8 = .ok (.ifCond .ge 7, 3) := by decide +kernel
theorem d17_15 : decode prog_7_method_81_code 15 = .ok (.iconst 0, 1) := by decide +kernel
theorem d17_16 : decode prog_7_method_81_code 16 = .ok (.ireturn, 1) := by decide +kernel
theorem rm_isRed_41 (l : Launch) (Z : State) (a0 : Array Value) (hw : HW a0 Z) (a1 : Addr) (a2 : Addr) (a3 : Addr) (a4 : Addr) (h0 : Heap) (n0 : Nat) (Z0 : n0 ≤ h0.size) (O_a1 : R_ND Z h0 a1 (.ref a2) (.ref a3) (.ref a4) .null .null (.int 1)) :
    Ctr l Y24 prog_7_method_81_code 1 (some FieldType.boolean) [] ({ frames := 0, cells := 0, slots := 0, locals := 0 } : Room) Z #[(.ref a1)] h0 (fun v h L => v = some (.int 0) ∧ Fr n0 L ∧ h = h0) := by
  refine own_enter pn_2 (fun p e s m below meth c s₁ hx hby hml hown hnm hret hlk hZ X0 e0 => ?_)
  have N0 := Fr.nil n0
  have K0 := Keep.refl h0 []
  rw [ef_17_R m _]
  show Go p e below (s₁.setTop (mkF m 0 #[vr a1] [])) _
  refine g_aloadN X0 hx (hb hby d17_0) rfl rfl ?_
  refine g_nullNo X0 hx (hb hby d17_1) ?_
  refine g_aloadN X0 hx (hb hby d17_4) rfl rfl ?_
  refine g_getF X0 hx hZ hown (Wd88 hw) e0 O_a1.2.2.2.2.2.2 (hb hby d17_5) (fun T1 X1 e1 => ?_)
  refine g_ifYes X1 hx 15 (hb hby d17_8) ((if0 _ _).trans (flt ((by decide) : ¬ ((1 : Int32) < (0 : Int32)))).2.1) (by decide) (by decide) ?_
  refine g_iconst X1 hx (0 : Int32) (hb hby d17_15) (by decide) ?_
  exact own_retZ X1 hx hret hlk (hb hby d17_16) (by decide) (by decide) (by decide) ⟨rfl, N0, e1⟩
theorem pd_19 : parseMethodDescriptor "(Lcom/example/rosewood/rosewood/RosewoodMap$Node;)Z" = some ⟨[(FieldType.object "com/example/rosewood/rosewood/RosewoodMap$Node")], some FieldType.boolean⟩ := by decide +kernel
theorem rm_setRed_42 (l : Launch) (Z : State) (a0 : Array Value) (hw : HW a0 Z) (a1 : Addr) (a2 : Addr) (a3 : Addr) (a4 : Addr) (h0 : Heap) (n0 : Nat) (Z0 : n0 ≤ h0.size) (O_a1 : R_ND Z h0 a1 (.ref a2) (.ref a3) (.ref a4) .null .null (.int 1)) (g_a1 : n0 ≤ a1) :
    Ctr l Y17 prog_7_method_82_code 2 none [] ({ frames := 0, cells := 0, slots := 0, locals := 0 } : Room) Z #[(.ref a1), (.int 0)] h0 (fun v h L => v = none ∧ Fr n0 L ∧ Keep h0 h [a1] ∧ R_ND Z h a1 (.ref a2) (.ref a3) (.ref a4) .null .null (.int 1)) := by
  refine own_enter pn_2 (fun p e s m below meth c s₁ hx hby hml hown hnm hret hlk hZ X0 e0 => ?_)
  have N0 := Fr.nil n0
  have K0 := Keep.refl h0 [a1]
  rw [ef_13_RI m _ _]
  show Go p e below (s₁.setTop (mkF m 0 #[vr a1, vi 0] [])) _
  refine g_aloadN X0 hx (hb hby d13_0) rfl rfl ?_
  refine g_iloadN X0 hx (hb hby d13_1) rfl ?_
  refine g_ifYes X0 hx 16 (hb hby d13_2) ((if0 _ _).trans (teq ((by decide) : (0 : Int32) = (0 : Int32))).1) (by decide) (by decide) ?_
  refine g_aloadN X0 hx (hb hby d13_16) rfl rfl ?_
  refine g_getF X0 hx hZ hown (Wd88 hw) e0 O_a1.2.2.2.2.2.2 (hb hby d13_17) (fun T1 X1 e1 => ?_)
  refine g_ldcw X1 hx hZ hown (Wd89 hw) (hb hby d13_20) ?_
  refine g_iand X1 hx (hb hby d13_23) ?_
  show Go p e below (T1.setTop (mkF m 24 #[vr a1, vi 0] [(.int ((1 : Int32) &&& (2147483647 : Int32))), (.ref a1)])) _
  rw [show ((1 : Int32) &&& (2147483647 : Int32)) = (1 : Int32) from by decide]
  refine g_putF X1 hx hZ hown (Wd88 hw) e1 O_a1.2.2.2.2.2.2 O_a1.1 (Or.inl (Wd78 hw)) (Wd70 hw) fd_0 rfl rfl (hb hby d13_24) (fun T2 h2 X2 e2 W2 => ?_)
  have N2 := Fr.snoc X2 N0 g_a1
  have O_a1_2 := R_ND_set_redAndLeftCount hw W2 O_a1
  have Z2 : n0 ≤ h2.size := Nat.le_trans Z0 (Nat.le_of_eq W2.size.symm)
  have K2 := Keep.wr K0 W2 (Or.inl (List.mem_of_getElem? (i := 0) rfl))
  exact own_retV X2 hx hret hlk (hb hby d13_27) (by decide) (by decide) (by rw [e2]; exact ⟨rfl, N2, K2, O_a1_2⟩)
theorem ef_16_RR (m : MethodId) (x0 : Addr) (x1 : Addr) : entryFrame m #[(.ref x0), (.ref x1)] 6 = mkF m 0 #[vr x0, vr x1, vu, vu, vu, vu] [] := by first | (simp [entryFrame, mkF, argsToLocals, Value.category]; done) | rfl
theorem d16_0 : decode prog_7_method_90_code 0 = .ok (.aload_n 1, 1) := by decide +kernel
theorem d16_1 : decode prog_7_method_90_code 1 = .ok (.astore_n 2, 1) := by decide +kernel
theorem d16_2 : decode prog_7_method_90_code 2 = .ok (.aload_n 2, 1) := by decide +kernel
theorem d16_3 : decode prog_7_method_90_code 3 = .ok (.getfield 282, 3) := by decide +kernel
theorem d16_6 : decode prog_7_method_90_code 6 = .ok (.invokestatic 300, 3) := by decide +kernel
theorem d16_9 : decode prog_7_method_90_code 9 = .ok (.ifCond .eq 179, 3) := by decide +kernel
theorem d16_188 : decode prog_7_method_90_code 188 = .ok (.aload_n 0, 1) := by decide +kernel
theorem d16_189 : decode prog_7_method_90_code 189 = .ok (.getfield 22, 3) := by decide +kernel
theorem d16_192 : decode prog_7_method_90_code 192 = .ok (.iconst 0, 1) := by decide +kernel
theorem d16_193 : decode prog_7_method_90_code 193 = .ok (.invokestatic 237, 3) := by decide +kernel
theorem d16_196 : decode prog_7_method_90_code 196 = .ok (.return_, 1) := by decide +kernel
theorem rm_balanceAfterInsert_40 (l : Launch) (Z : State) (a0 : Array Value) (hw : HW a0 Z) (a1 : Addr) (a2 : Addr) (a3 : Addr) (i1 : Int32) (a4 : Addr) (a5 : Addr) (a6 : Addr) (a7 : Addr) (i2 : Int32) (i3 : Int32) (i4 : Int32) (h0 : Heap) (n0 : Nat) (Z0 : n0 ≤ h0.size) (O_a1 : R_MP Z h0 a1 .null (.ref a3) (.int 2) (.int i1)) (O_a2 : R_ND Z h0 a2 (.ref a4) (.ref a5) .null .null (.ref a3) (.int (-2147483648))) (O_a3 : R_ND Z h0 a3 (.ref a6) (.ref a7) (.ref a2) .null .null (.int 1)) (O_a4 : R_IN Z h0 a4 (.int i2)) (O_a5 : R_IN Z h0 a5 (.int i3)) (O_a6 : R_IN Z h0 a6 (.int i4)) (ne_a1_a3 : a1 ≠ a3) (ne_a2_a3 : a2 ≠ a3) (ne_a3_a4 : a3 ≠ a4) (ne_a3_a5 : a3 ≠ a5) (ne_a3_a6 : a3 ≠ a6) (g_a3 : n0 ≤ a3) (hk0 : i2 < i4) :
    Ctr l Y25 prog_7_method_90_code 6 none [] ({ frames := 1, cells := 0, slots := 0, locals := 13 } : Room) Z #[(.ref a1), (.ref a2)] h0 (fun v h L => v = none ∧ Fr n0 L ∧ Keep h0 h [a3] ∧ R_ND Z h a3 (.ref a6) (.ref a7) (.ref a2) .null .null (.int 1)) := by
  refine own_enter pn_2 (fun p e s m below meth c s₁ hx hby hml hown hnm hret hlk hZ X0 e0 => ?_)
  have N0 := Fr.nil n0
  have K0 := Keep.refl h0 [a3]
  rw [ef_16_RR m _ _]
  show Go p e below (s₁.setTop (mkF m 0 #[vr a1, vr a2, vu, vu, vu, vu] [])) _
  refine g_aloadN X0 hx (hb hby d16_0) rfl rfl ?_
  refine g_astoreN X0 hx #[vr a1, vr a2, vr a2, vu, vu, vu] (hb hby d16_1) rfl rfl ?_
  refine g_aloadN X0 hx (hb hby d16_2) rfl rfl ?_
  refine g_getF X0 hx hZ hown (Wd111 hw) e0 O_a2.2.2.2.2.2.1 (hb hby d16_3) (fun T1 X1 e1 => ?_)
  refine g_call (own_callS X1 hx hZ (y := Y24) hown (Wd112 hw) (Wd113 hw) (Wd2 hw) (Wd114 hw) (by decide) (rm_isRed_41 l Z a0 hw a3 a6 a7 a2 h0 n0 Z0 O_a3) e1 pd_19 (hb hby d16_6) (by rw [hml]; rfl) (argsL := [(.ref a3)]) (rest := []) rfl rfl rfl (W := 0) (Nat.le_of_eq rfl) (by decide)) (fun v2 T2 L2 X2 q2 => ?_)
  obtain ⟨rfl, M2, e2⟩ := q2
  have N2 := Fr.app N0 M2
  refine g_ifYes X2 hx 188 (hb hby d16_9) ((if0 _ _).trans (teq ((by decide) : (0 : Int32) = (0 : Int32))).1) (by decide) (by decide) ?_
  refine g_aloadN X2 hx (hb hby d16_188) rfl rfl ?_
  refine g_getF X2 hx hZ hown (Wd35 hw) e2 O_a1.2.2.1 (hb hby d16_189) (fun T3 X3 e3 => ?_)
  refine g_iconst X3 hx (0 : Int32) (hb hby d16_192) (by decide) ?_
  refine g_call (own_callS X3 hx hZ (y := Y17) hown (Wd85 hw) (Wd86 hw) (Wd2 hw) (Wd87 hw) (by decide) (rm_setRed_42 l Z a0 hw a3 a6 a7 a2 h0 n0 Z0 O_a3 g_a3) e3 pd_14 (hb hby d16_193) (by rw [hml]; rfl) (argsL := [(.ref a3), (.int 0)]) (rest := []) rfl rfl rfl (W := 0) (Nat.le_of_eq rfl) (by decide)) (fun v4 T4 L4 X4 q4 => ?_)
  obtain ⟨rfl, M4, Kc4, Rk4_0⟩ := q4
  have N4 := Fr.app N2 M4
  have O_a1_4 := R_MP_keep O_a1 Kc4 (own_nin ne_a1_a3 List.not_mem_nil)
  have O_a2_4 := R_ND_keep O_a2 Kc4 (own_nin ne_a2_a3 List.not_mem_nil)
  have O_a4_4 := R_IN_keep O_a4 Kc4 (own_nin (Ne.symm ne_a3_a4) List.not_mem_nil)
  have O_a5_4 := R_IN_keep O_a5 Kc4 (own_nin (Ne.symm ne_a3_a5) List.not_mem_nil)
  have O_a6_4 := R_IN_keep O_a6 Kc4 (own_nin (Ne.symm ne_a3_a6) List.not_mem_nil)
  have K4 := Keep.trans K0 Kc4 (own_memc (Or.inl (List.mem_of_getElem? (i := 0) rfl)) own_memn)
  have Z4 : n0 ≤ T4.heap.size := Nat.le_trans Z0 Kc4.1
  exact own_retV X4 hx hret hlk (hb hby d16_196) (by decide) (by decide) (by rw [(rfl : T4.heap = T4.heap)]; exact ⟨rfl, N4, K4, Rk4_0⟩)
theorem d38_50 : decode prog_7_method_65_code 50 = .ok (.aconst_null, 1) := by decide +kernel
theorem d38_51 : decode prog_7_method_65_code 51 = .ok (.astore_n 3, 1) := by decide +kernel
theorem d38_52 : decode prog_7_method_65_code 52 = .ok (.iconst 0, 1) := by decide +kernel
theorem d38_53 : decode prog_7_method_65_code 53 = .ok (.istore 4, 2) := by decide +kernel
theorem d38_55 : decode prog_7_method_65_code 55 = .ok (.aload_n 0, 1) := by decide +kernel
theorem d38_56 : decode prog_7_method_65_code 56 = .ok (.getfield 22, 3) := by decide +kernel
theorem d38_59 : decode prog_7_method_65_code 59 = .ok (.astore 5, 2) := by decide +kernel
theorem d38_61 : decode prog_7_method_65_code 61 = .ok (.aload 5, 2) := by decide +kernel
theorem d38_63 : decode prog_7_method_65_code 63 = .ok (.getfield 92, 3) := by decide +kernel
theorem d38_66 : decode prog_7_method_65_code 66 = .ok (.astore 6, 2) := by decide +kernel
theorem d38_68 : decode prog_7_method_65_code 68 = .ok (.aconst_null, 1) := by decide +kernel
theorem d38_69 : decode prog_7_method_65_code 69 = .ok (.astore 7, 2) := by decide +kernel
theorem d38_71 : decode prog_7_method_65_code 71 = .ok (.aload 5, 2) := by decide +kernel
theorem d38_73 : decode prog_7_method_65_code 73 = .ok (.ifnull 113, 3) := by decide +kernel
theorem d38_76 : decode prog_7_method_65_code 76 = .ok (.aload 5, 2) := by decide +kernel
theorem d38_78 : decode prog_7_method_65_code 78 = .ok (.getfield 211, 3) := by decide +kernel
theorem d38_81 : decode prog_7_method_65_code 81 = .ok (.astore 8, 2) := by decide +kernel
theorem d38_83 : decode prog_7_method_65_code 83 = .ok (.aload 5, 2) := by decide +kernel
theorem d38_85 : decode prog_7_method_65_code 85 = .ok (.getfield 214, 3) := by decide +kernel
theorem d38_88 : decode prog_7_method_65_code 88 = .ok (.astore 9, 2) := by decide +kernel
theorem d38_90 : decode prog_7_method_65_code 90 = .ok (.aload 8, 2) := by decide +kernel
theorem d38_92 : decode prog_7_method_65_code 92 = .ok (.invokestatic 121, 3) := by decide +kernel
theorem d38_95 : decode prog_7_method_65_code 95 = .ok (.astore 10, 2) := by decide +kernel
theorem d38_97 : decode prog_7_method_65_code 97 = .ok (.aload 9, 2) := by decide +kernel
theorem d38_99 : decode prog_7_method_65_code 99 = .ok (.invokestatic 121, 3) := by decide +kernel
theorem d38_102 : decode prog_7_method_65_code 102 = .ok (.astore 11, 2) := by decide +kernel
theorem d38_104 : decode prog_7_method_65_code 104 = .ok (.aload_n 0, 1) := by decide +kernel
theorem d38_105 : decode prog_7_method_65_code 105 = .ok (.aload_n 1, 1) := by decide +kernel
theorem d38_106 : decode prog_7_method_65_code 106 = .ok (.aload 6, 2) := by decide +kernel
theorem d38_108 : decode prog_7_method_65_code 108 = .ok (.invokevirtual 217, 3) := by decide +kernel
theorem d38_111 : decode prog_7_method_65_code 111 = .ok (.istore 12, 2) := by decide +kernel
theorem d38_113 : decode prog_7_method_65_code 113 = .ok (.iload 12, 2) := by decide +kernel
theorem d38_115 : decode prog_7_method_65_code 115 = .ok (.ifCond .ne 22, 3) := by decide +kernel
theorem d38_137 : decode prog_7_method_65_code 137 = .ok (.aload 5, 2) := by decide +kernel
theorem d38_139 : decode prog_7_method_65_code 139 = .ok (.astore_n 3, 1) := by decide +kernel
theorem d38_140 : decode prog_7_method_65_code 140 = .ok (.iload 12, 2) := by decide +kernel
theorem d38_142 : decode prog_7_method_65_code 142 = .ok (.istore 4, 2) := by decide +kernel
theorem d38_144 : decode prog_7_method_65_code 144 = .ok (.iload 12, 2) := by decide +kernel
theorem d38_146 : decode prog_7_method_65_code 146 = .ok (.ifCond .ge 9, 3) := by decide +kernel
theorem d38_149 : decode prog_7_method_65_code 149 = .ok (.aload 5, 2) := by decide +kernel
theorem d38_151 : decode prog_7_method_65_code 151 = .ok (.iconst 1, 1) := by decide +kernel
theorem d38_152 : decode prog_7_method_65_code 152 = .ok (.invokestatic 221, 3) := by decide +kernel
theorem d38_155 : decode prog_7_method_65_code 155 = .ok (.iload 12, 2) := by decide +kernel
theorem d38_157 : decode prog_7_method_65_code 157 = .ok (.ifCond .ge 8, 3) := by decide +kernel
theorem d38_160 : decode prog_7_method_65_code 160 = .ok (.aload 8, 2) := by decide +kernel
theorem d38_162 : decode prog_7_method_65_code 162 = .ok (.goto 5, 3) := by decide +kernel
theorem d38_167 : decode prog_7_method_65_code 167 = .ok (.astore 5, 2) := by decide +kernel
theorem d38_169 : decode prog_7_method_65_code 169 = .ok (.iload 12, 2) := by decide +kernel
theorem d38_171 : decode prog_7_method_65_code 171 = .ok (.ifCond .ge 8, 3) := by decide +kernel
theorem d38_174 : decode prog_7_method_65_code 174 = .ok (.aload 10, 2) := by decide +kernel
theorem d38_176 : decode prog_7_method_65_code 176 = .ok (.goto 5, 3) := by decide +kernel
theorem d38_181 : decode prog_7_method_65_code 181 = .ok (.astore 6, 2) := by decide +kernel
theorem d38_183 : decode prog_7_method_65_code 183 = .ok (.goto (-112), 3) := by decide +kernel
theorem d38_186 : decode prog_7_method_65_code 186 = .ok (.aload_n 0, 1) := by decide +kernel
theorem d38_187 : decode prog_7_method_65_code 187 = .ok (.aload_n 1, 1) := by decide +kernel
theorem d38_188 : decode prog_7_method_65_code 188 = .ok (.aload_n 2, 1) := by decide +kernel
theorem d38_189 : decode prog_7_method_65_code 189 = .ok (.aload_n 3, 1) := by decide +kernel
theorem d38_190 : decode prog_7_method_65_code 190 = .ok (.invokevirtual 233, 3) := by decide +kernel
theorem d38_193 : decode prog_7_method_65_code 193 = .ok (.astore 7, 2) := by decide +kernel
theorem d38_195 : decode prog_7_method_65_code 195 = .ok (.aload 7, 2) := by decide +kernel
theorem d38_197 : decode prog_7_method_65_code 197 = .ok (.ifnonnull 30, 3) := by decide +kernel
theorem d38_227 : decode prog_7_method_65_code 227 = .ok (.iload 4, 2) := by decide +kernel
theorem d38_229 : decode prog_7_method_65_code 229 = .ok (.ifCond .ge 12, 3) := by decide +kernel
theorem d38_232 : decode prog_7_method_65_code 232 = .ok (.aload_n 3, 1) := by decide +kernel
theorem d38_233 : decode prog_7_method_65_code 233 = .ok (.aload 7, 2) := by decide +kernel
theorem d38_235 : decode prog_7_method_65_code 235 = .ok (.putfield 211, 3) := by decide +kernel
theorem d38_238 : decode prog_7_method_65_code 238 = .ok (.goto 9, 3) := by decide +kernel
theorem d38_247 : decode prog_7_method_65_code 247 = .ok (.aload_n 0, 1) := by decide +kernel
theorem d38_248 : decode prog_7_method_65_code 248 = .ok (.dup, 1) := by decide +kernel
theorem d38_249 : decode prog_7_method_65_code 249 = .ok (.getfield 18, 3) := by decide +kernel
theorem d38_252 : decode prog_7_method_65_code 252 = .ok (.iconst 1, 1) := by decide +kernel
theorem d38_253 : decode prog_7_method_65_code 253 = .ok (.iadd, 1) := by decide +kernel
theorem d38_254 : decode prog_7_method_65_code 254 = .ok (.putfield 18, 3) := by decide +kernel
theorem d38_257 : decode prog_7_method_65_code 257 = .ok (.aload_n 0, 1) := by decide +kernel
theorem d38_258 : decode prog_7_method_65_code 258 = .ok (.aload_n 3, 1) := by decide +kernel
theorem d38_259 : decode prog_7_method_65_code 259 = .ok (.invokevirtual 241, 3) := by decide +kernel
theorem d38_262 : decode prog_7_method_65_code 262 = .ok (.aload_n 0, 1) := by decide +kernel
theorem d38_263 : decode prog_7_method_65_code 263 = .ok (.aload 7, 2) := by decide +kernel
theorem d38_265 : decode prog_7_method_65_code 265 = .ok (.invokevirtual 244, 3) := by decide +kernel
theorem d38_268 : decode prog_7_method_65_code 268 = .ok (.aload_n 0, 1) := by decide +kernel
theorem d38_269 : decode prog_7_method_65_code 269 = .ok (.dup, 1) := by decide +kernel
theorem d38_270 : decode prog_7_method_65_code 270 = .ok (.getfield 51, 3) := by decide +kernel
theorem d38_273 : decode prog_7_method_65_code 273 = .ok (.iconst 1, 1) := by decide +kernel
theorem d38_274 : decode prog_7_method_65_code 274 = .ok (.iadd, 1) := by decide +kernel
theorem d38_275 : decode prog_7_method_65_code 275 = .ok (.putfield 51, 3) := by decide +kernel
theorem d38_278 : decode prog_7_method_65_code 278 = .ok (.aconst_null, 1) := by decide +kernel
theorem d38_279 : decode prog_7_method_65_code 279 = .ok (.areturn, 1) := by decide +kernel
theorem rm_addIfAbsent_31 (l : Launch) (Z : State) (a0 : Array Value) (hw : HW a0 Z) (a1 : Addr) (a2 : Addr) (a3 : Addr) (a4 : Addr) (i1 : Int32) (i2 : Int32) (i3 : Int32) (a5 : Addr) (a6 : Addr) (i4 : Int32) (h0 : Heap) (n0 : Nat) (Z0 : n0 ≤ h0.size) (O_a1 : R_MP Z h0 a1 .null (.ref a4) (.int 1) (.int i1)) (O_a2 : R_IN Z h0 a2 (.int i2)) (O_a3 : R_IN Z h0 a3 (.int i3)) (O_a4 : R_ND Z h0 a4 (.ref a5) (.ref a6) .null .null .null (.int 0)) (O_a5 : R_IN Z h0 a5 (.int i4)) (ne_a1_a2 : a1 ≠ a2) (ne_a1_a3 : a1 ≠ a3) (ne_a1_a4 : a1 ≠ a4) (ne_a1_a5 : a1 ≠ a5) (ne_a2_a4 : a2 ≠ a4) (ne_a3_a4 : a3 ≠ a4) (ne_a4_a5 : a4 ≠ a5) (g_a1 : n0 ≤ a1) (g_a4 : n0 ≤ a4) (hk0 : i2 < i4) :
    CtrH l Y18 prog_7_method_65_code 15 (some (FieldType.object "com/example/rosewood/rosewood/RosewoodMap$Node")) [(71, 122, 210, 0), (137, 195, 210, 0), (210, 212, 210, 0)] ({ frames := 4, cells := 1, slots := 6, locals := 53 } : Room) Z #[(.ref a1), (.ref a2), (.ref a3)] h0 (fun v h L => ∃ f1, v = some .null ∧ Fr n0 L ∧ Keep h0 h [a1, a4] ∧ h0.size ≤ f1 ∧ R_MP Z h a1 .null (.ref a4) (.int 2) (.int (i1 + (1 : Int32))) ∧ R_ND Z h a4 (.ref a5) (.ref a6) (.ref f1) .null .null (.int 1) ∧ R_ND Z h f1 (.ref a2) (.ref a3) .null .null (.ref a4) (.int (-2147483648))) := by
  refine own_enterH pn_2 (fun p e s m below meth c s₁ hx hby hml hown hnm hret hlk hZ X0 e0 => ?_)
  have N0 := Fr.nil n0
  have K0 := Keep.refl h0 [a1, a4]
  rw [ef_38_RRR m _ _ _]
  show Go p e below (s₁.setTop (mkF m 0 #[vr a1, vr a2, vr a3, vu, vu, vu, vu, vu, vu, vu, vu, vu, vu, vu, vu] [])) _
  refine g_aloadN X0 hx (hb hby d38_0) rfl rfl ?_
  refine g_getF X0 hx hZ hown (Wd35 hw) e0 O_a1.2.2.1 (hb hby d38_1) (fun T1 X1 e1 => ?_)
  refine g_nonnullYes X1 hx 50 (hb hby d38_4) (by decide) (by decide) ?_
  refine g_null X1 hx (hb hby d38_50) ?_
  refine g_astoreN X1 hx #[vr a1, vr a2, vr a3, vn, vu, vu, vu, vu, vu, vu, vu, vu, vu, vu, vu] (hb hby d38_51) rfl rfl ?_
  refine g_iconst X1 hx (0 : Int32) (hb hby d38_52) (by decide) ?_
  refine g_istore X1 hx #[vr a1, vr a2, vr a3, vn, vi 0, vu, vu, vu, vu, vu, vu, vu, vu, vu, vu] (hb hby d38_53) rfl ?_
  refine g_aloadN X1 hx (hb hby d38_55) rfl rfl ?_
  refine g_getF X1 hx hZ hown (Wd35 hw) e1 O_a1.2.2.1 (hb hby d38_56) (fun T2 X2 e2 => ?_)
  refine g_astore X2 hx #[vr a1, vr a2, vr a3, vn, vi 0, vr a4, vu, vu, vu, vu, vu, vu, vu, vu, vu] (hb hby d38_59) rfl rfl ?_
  refine g_aload X2 hx (hb hby d38_61) rfl rfl ?_
  refine g_getF X2 hx hZ hown (Wd94 hw) e2 O_a4.2.1 (hb hby d38_63) (fun T3 X3 e3 => ?_)
  refine g_astore X3 hx #[vr a1, vr a2, vr a3, vn, vi 0, vr a4, vr a5, vu, vu, vu, vu, vu, vu, vu, vu] (hb hby d38_66) rfl rfl ?_
  refine g_null X3 hx (hb hby d38_68) ?_
  refine g_astore X3 hx #[vr a1, vr a2, vr a3, vn, vi 0, vr a4, vr a5, vn, vu, vu, vu, vu, vu, vu, vu] (hb hby d38_69) rfl rfl ?_
  refine g_aload X3 hx (hb hby d38_71) rfl rfl ?_
  refine g_nullNo X3 hx (hb hby d38_73) ?_
  refine g_aload X3 hx (hb hby d38_76) rfl rfl ?_
  refine g_getF X3 hx hZ hown (Wd95 hw) e3 O_a4.2.2.2.1 (hb hby d38_78) (fun T4 X4 e4 => ?_)
  refine g_astore X4 hx #[vr a1, vr a2, vr a3, vn, vi 0, vr a4, vr a5, vn, vn, vu, vu, vu, vu, vu, vu] (hb hby d38_81) rfl rfl ?_
  refine g_aload X4 hx (hb hby d38_83) rfl rfl ?_
  refine g_getF X4 hx hZ hown (Wd97 hw) e4 O_a4.2.2.2.2.1 (hb hby d38_85) (fun T5 X5 e5 => ?_)
  refine g_astore X5 hx #[vr a1, vr a2, vr a3, vn, vi 0, vr a4, vr a5, vn, vn, vn, vu, vu, vu, vu, vu] (hb hby d38_88) rfl rfl ?_
  refine g_aload X5 hx (hb hby d38_90) rfl rfl ?_
  refine g_call (own_callS X5 hx hZ (y := Y7) hown (Wd99 hw) (Wd100 hw) (Wd2 hw) (Wd101 hw) (by decide) (rm_keyOf_9 l Z a0 hw  h0 n0 Z0 ) e5 pd_6 (hb hby d38_92) (by rw [hml]; rfl) (argsL := [.null]) (rest := []) rfl rfl rfl (W := 0) (Nat.le_of_eq rfl) (by decide)) (fun v6 T6 L6 X6 q6 => ?_)
  obtain ⟨rfl, M6, e6⟩ := q6
  have N6 := Fr.app N0 M6
  refine g_astore X6 hx #[vr a1, vr a2, vr a3, vn, vi 0, vr a4, vr a5, vn, vn, vn, vn, vu, vu, vu, vu] (hb hby d38_95) rfl rfl ?_
  refine g_aload X6 hx (hb hby d38_97) rfl rfl ?_
  refine g_call (own_callS X6 hx hZ (y := Y7) hown (Wd99 hw) (Wd100 hw) (Wd2 hw) (Wd101 hw) (by decide) (rm_keyOf_9 l Z a0 hw  h0 n0 Z0 ) e6 pd_6 (hb hby d38_99) (by rw [hml]; rfl) (argsL := [.null]) (rest := []) rfl rfl rfl (W := 0) (Nat.le_of_eq rfl) (by decide)) (fun v7 T7 L7 X7 q7 => ?_)
  obtain ⟨rfl, M7, e7⟩ := q7
  have N7 := Fr.app N6 M7
  refine g_astore X7 hx #[vr a1, vr a2, vr a3, vn, vi 0, vr a4, vr a5, vn, vn, vn, vn, vn, vu, vu, vu] (hb hby d38_102) rfl rfl ?_
  refine g_aloadN X7 hx (hb hby d38_104) rfl rfl ?_
  refine g_aloadN X7 hx (hb hby d38_105) rfl rfl ?_
  refine g_aload X7 hx (hb hby d38_106) rfl rfl ?_
  refine g_call (own_callV X7 hx hZ (y := Y13) hown (Wd37 hw) (Wd38 hw) (Wd40 hw) (Wd39 hw) (Wd41 hw) (Wd2 hw) (by decide) (rm_compare_32 l Z a0 hw a1 a2 a5 a4 i1 i2 i4 h0 n0 Z0 O_a1 O_a2 O_a5 hk0) e7 O_a1.1 pd_11 (hb hby d38_108) (by rw [hml]; rfl) (argsL := [(.ref a2), (.ref a5)]) (rest := []) rfl rfl rfl (W := 0) (Nat.le_of_eq rfl) (by decide)) (fun v8 T8 L8 X8 q8 => ?_)
  obtain ⟨rfl, M8, e8⟩ := q8
  have N8 := Fr.app N7 M8
  refine g_istore X8 hx #[vr a1, vr a2, vr a3, vn, vi 0, vr a4, vr a5, vn, vn, vn, vn, vn, vi (-1), vu, vu] (hb hby d38_111) rfl ?_
  refine g_iload X8 hx (hb hby d38_113) rfl ?_
  refine g_ifYes X8 hx 137 (hb hby d38_115) ((if0 _ _).trans (feq ((by decide) : ¬ ((-1 : Int32) = (0 : Int32)))).2) (by decide) (by decide) ?_
  refine g_aload X8 hx (hb hby d38_137) rfl rfl ?_
  refine g_astoreN X8 hx #[vr a1, vr a2, vr a3, vr a4, vi 0, vr a4, vr a5, vn, vn, vn, vn, vn, vi (-1), vu, vu] (hb hby d38_139) rfl rfl ?_
  refine g_iload X8 hx (hb hby d38_140) rfl ?_
  refine g_istore X8 hx #[vr a1, vr a2, vr a3, vr a4, vi (-1), vr a4, vr a5, vn, vn, vn, vn, vn, vi (-1), vu, vu] (hb hby d38_142) rfl ?_
  refine g_iload X8 hx (hb hby d38_144) rfl ?_
  refine g_ifNo X8 hx (hb hby d38_146) ((if0 _ _).trans (tlt ((by decide) : (-1 : Int32) < (0 : Int32))).2.1) ?_
  refine g_aload X8 hx (hb hby d38_149) rfl rfl ?_
  refine g_iconst X8 hx (1 : Int32) (hb hby d38_151) (by decide) ?_
  refine g_call (own_callS X8 hx hZ (y := Y22) hown (Wd115 hw) (Wd116 hw) (Wd2 hw) (Wd117 hw) (by decide) (rm_addToLeftCount_36 l Z a0 hw a4 a5 a6 h0 n0 Z0 O_a4 g_a4) e8 pd_17 (hb hby d38_152) (by rw [hml]; rfl) (argsL := [(.ref a4), (.int 1)]) (rest := []) rfl rfl rfl (W := 0) (Nat.le_of_eq rfl) (by decide)) (fun v9 T9 L9 X9 q9 => ?_)
  obtain ⟨rfl, M9, Kc9, Rk9_0⟩ := q9
  have N9 := Fr.app N8 M9
  have O_a1_9 := R_MP_keep O_a1 Kc9 (own_nin ne_a1_a4 List.not_mem_nil)
  have O_a2_9 := R_IN_keep O_a2 Kc9 (own_nin ne_a2_a4 List.not_mem_nil)
  have O_a3_9 := R_IN_keep O_a3 Kc9 (own_nin ne_a3_a4 List.not_mem_nil)
  have O_a5_9 := R_IN_keep O_a5 Kc9 (own_nin (Ne.symm ne_a4_a5) List.not_mem_nil)
  have K9 := Keep.trans K0 Kc9 (own_memc (Or.inl (List.mem_of_getElem? (i := 1) rfl)) own_memn)
  have Z9 : n0 ≤ T9.heap.size := Nat.le_trans Z0 Kc9.1
  refine g_iload X9 hx (hb hby d38_155) rfl ?_
  refine g_ifNo X9 hx (hb hby d38_157) ((if0 _ _).trans (tlt ((by decide) : (-1 : Int32) < (0 : Int32))).2.1) ?_
  refine g_aload X9 hx (hb hby d38_160) rfl rfl ?_
  refine g_goto X9 hx 167 (hb hby d38_162) (by decide) (by decide) ?_
  refine g_astore X9 hx #[vr a1, vr a2, vr a3, vr a4, vi (-1), vn, vr a5, vn, vn, vn, vn, vn, vi (-1), vu, vu] (hb hby d38_167) rfl rfl ?_
  refine g_iload X9 hx (hb hby d38_169) rfl ?_
  refine g_ifNo X9 hx (hb hby d38_171) ((if0 _ _).trans (tlt ((by decide) : (-1 : Int32) < (0 : Int32))).2.1) ?_
  refine g_aload X9 hx (hb hby d38_174) rfl rfl ?_
  refine g_goto X9 hx 181 (hb hby d38_176) (by decide) (by decide) ?_
  refine g_astore X9 hx #[vr a1, vr a2, vr a3, vr a4, vi (-1), vn, vn, vn, vn, vn, vn, vn, vi (-1), vu, vu] (hb hby d38_181) rfl rfl ?_
  refine g_goto X9 hx 71 (hb hby d38_183) (by decide) (by decide) ?_
  refine g_aload X9 hx (hb hby d38_71) rfl rfl ?_
  refine g_nullYes X9 hx 186 (hb hby d38_73) (by decide) (by decide) ?_
  refine g_aloadN X9 hx (hb hby d38_186) rfl rfl ?_
  refine g_aloadN X9 hx (hb hby d38_187) rfl rfl ?_
  refine g_aloadN X9 hx (hb hby d38_188) rfl rfl ?_
  refine g_aloadN X9 hx (hb hby d38_189) rfl rfl ?_
  refine g_call (own_callV X9 hx hZ (y := Y16) hown (Wd64 hw) (Wd65 hw) (Wd67 hw) (Wd66 hw) (Wd68 hw) (Wd2 hw) (by decide) (rm_newNode_37 l Z a0 hw a1 a2 a3 a4 T9.heap n0 Z9 ) (rfl : T9.heap = T9.heap) O_a1_9.1 pd_13 (hb hby d38_190) (by rw [hml]; rfl) (argsL := [(.ref a2), (.ref a3), (.ref a4)]) (rest := []) rfl rfl rfl (W := 0) (Nat.le_of_eq rfl) (by decide)) (fun v10 T10 L10 X10 q10 => ?_)
  obtain ⟨b10_0, rfl, M10, Kc10, zb10_0, Rk10_0⟩ := q10
  have N10 := Fr.app N9 M10
  have ne_a1_b10_0 : a1 ≠ b10_0 := Nat.ne_of_lt (Nat.lt_of_lt_of_le O_a1_9.1.lt zb10_0)
  have ne_a2_b10_0 : a2 ≠ b10_0 := Nat.ne_of_lt (Nat.lt_of_lt_of_le O_a2_9.1.lt zb10_0)
  have ne_a3_b10_0 : a3 ≠ b10_0 := Nat.ne_of_lt (Nat.lt_of_lt_of_le O_a3_9.1.lt zb10_0)
  have ne_a5_b10_0 : a5 ≠ b10_0 := Nat.ne_of_lt (Nat.lt_of_lt_of_le O_a5_9.1.lt zb10_0)
  have ne_a4_b10_0 : a4 ≠ b10_0 := Nat.ne_of_lt (Nat.lt_of_lt_of_le Rk9_0.1.lt zb10_0)
  have g_b10_0 : n0 ≤ b10_0 := Nat.le_trans Z9 zb10_0
  have sz_b10_0 : h0.size ≤ b10_0 := Nat.le_trans K9.1 zb10_0
  have O_a1_10 := R_MP_keep O_a1_9 Kc10 List.not_mem_nil
  have O_a2_10 := R_IN_keep O_a2_9 Kc10 List.not_mem_nil
  have O_a3_10 := R_IN_keep O_a3_9 Kc10 List.not_mem_nil
  have O_a5_10 := R_IN_keep O_a5_9 Kc10 List.not_mem_nil
  have O_a4_10 := R_ND_keep Rk9_0 Kc10 List.not_mem_nil
  have K10 := Keep.trans K9 Kc10 own_memn
  have Z10 : n0 ≤ T10.heap.size := Nat.le_trans Z9 Kc10.1
  refine g_astore X10 hx #[vr a1, vr a2, vr a3, vr a4, vi (-1), vn, vn, vr b10_0, vn, vn, vn, vn, vi (-1), vu, vu] (hb hby d38_193) rfl rfl ?_
  refine g_aload X10 hx (hb hby d38_195) rfl rfl ?_
  refine g_nonnullYes X10 hx 227 (hb hby d38_197) (by decide) (by decide) ?_
  refine g_iload X10 hx (hb hby d38_227) rfl ?_
  refine g_ifNo X10 hx (hb hby d38_229) ((if0 _ _).trans (tlt ((by decide) : (-1 : Int32) < (0 : Int32))).2.1) ?_
  refine g_aloadN X10 hx (hb hby d38_232) rfl rfl ?_
  refine g_aload X10 hx (hb hby d38_233) rfl rfl ?_
  refine g_putF X10 hx hZ hown (Wd95 hw) (rfl : T10.heap = T10.heap) O_a4_10.2.2.2.1 O_a4_10.1 (Or.inl (Wd96 hw)) (Wd70 hw) fd_2 rfl rfl (hb hby d38_235) (fun T11 h11 X11 e11 W11 => ?_)
  have N11 := Fr.snoc X11 N10 g_a4
  have O_a1_11 := R_MP_other W11 O_a1_10 ne_a1_a4
  have O_a2_11 := R_IN_other W11 O_a2_10 ne_a2_a4
  have O_a3_11 := R_IN_other W11 O_a3_10 ne_a3_a4
  have O_a5_11 := R_IN_other W11 O_a5_10 (Ne.symm ne_a4_a5)
  have O_a4_11 := R_ND_set_left hw W11 O_a4_10
  have O_b10_0_11 := R_ND_other W11 Rk10_0 (Ne.symm ne_a4_b10_0)
  have Z11 : n0 ≤ h11.size := Nat.le_trans Z10 (Nat.le_of_eq W11.size.symm)
  have K11 := Keep.wr K10 W11 (Or.inl (List.mem_of_getElem? (i := 1) rfl))
  refine g_goto X11 hx 247 (hb hby d38_238) (by decide) (by decide) ?_
  refine g_aloadN X11 hx (hb hby d38_247) rfl rfl ?_
  refine g_dup X11 hx (hb hby d38_248) rfl ?_
  refine g_getF X11 hx hZ hown (Wd90 hw) e11 O_a1_11.2.2.2.1 (hb hby d38_249) (fun T12 X12 e12 => ?_)
  refine g_iconst X12 hx (1 : Int32) (hb hby d38_252) (by decide) ?_
  refine g_iadd X12 hx (hb hby d38_253) ?_
  show Go p e below (T12.setTop (mkF m 254 #[vr a1, vr a2, vr a3, vr a4, vi (-1), vn, vn, vr b10_0, vn, vn, vn, vn, vi (-1), vu, vu] [(.int ((1 : Int32) + (1 : Int32))), (.ref a1)])) _
  rw [show ((1 : Int32) + (1 : Int32)) = (2 : Int32) from by decide]
  refine g_putF X12 hx hZ hown (Wd90 hw) e12 O_a1_11.2.2.2.1 O_a1_11.1 (Or.inl (Wd91 hw)) (Wd1 hw) fd_0 rfl rfl (hb hby d38_254) (fun T13 h13 X13 e13 W13 => ?_)
  have N13 := Fr.snoc X13 N11 g_a1
  have O_a1_13 := R_MP_set_size hw W13 O_a1_11
  have O_a2_13 := R_IN_other W13 O_a2_11 (Ne.symm ne_a1_a2)
  have O_a3_13 := R_IN_other W13 O_a3_11 (Ne.symm ne_a1_a3)
  have O_a5_13 := R_IN_other W13 O_a5_11 (Ne.symm ne_a1_a5)
  have O_a4_13 := R_ND_other W13 O_a4_11 (Ne.symm ne_a1_a4)
  have O_b10_0_13 := R_ND_other W13 O_b10_0_11 (Ne.symm ne_a1_b10_0)
  have Z13 : n0 ≤ h13.size := Nat.le_trans Z11 (Nat.le_of_eq W13.size.symm)
  have K13 := Keep.wr K11 W13 (Or.inl (List.mem_of_getElem? (i := 0) rfl))
  refine g_aloadN X13 hx (hb hby d38_257) rfl rfl ?_
  refine g_aloadN X13 hx (hb hby d38_258) rfl rfl ?_
  refine g_call (own_callV X13 hx hZ (y := Y23) hown (Wd102 hw) (Wd103 hw) (Wd105 hw) (Wd104 hw) (Wd106 hw) (Wd2 hw) (by decide) (rm_refreshToRoot_39 l Z a0 hw a1 a4 h13 n0 Z13 ) e13 O_a1_13.1 pd_18 (hb hby d38_259) (by rw [hml]; rfl) (argsL := [(.ref a4)]) (rest := []) rfl rfl rfl (W := 0) (Nat.le_of_eq rfl) (by decide)) (fun v14 T14 L14 X14 q14 => ?_)
  obtain ⟨rfl, M14, e14⟩ := q14
  have N14 := Fr.app N13 M14
  refine g_aloadN X14 hx (hb hby d38_262) rfl rfl ?_
  refine g_aload X14 hx (hb hby d38_263) rfl rfl ?_
  refine g_call (own_callP X14 hx hZ (y := Y25) hown (Wd107 hw) (Wd108 hw) (Wd109 hw) (Wd1 hw) (Wd110 hw) (Wd2 hw) (by decide) (rm_balanceAfterInsert_40 l Z a0 hw a1 b10_0 a4 i1 a2 a3 a5 a6 i2 i3 i4 h13 n0 Z13 O_a1_13 O_b10_0_13 O_a4_13 O_a2_13 O_a3_13 O_a5_13 ne_a1_a4 (Ne.symm ne_a4_b10_0) (Ne.symm ne_a2_a4) (Ne.symm ne_a3_a4) ne_a4_a5 g_a4 hk0) e14 O_a1_13.1 pd_18 (hb hby d38_265) (by rw [hml]; rfl) (argsL := [(.ref b10_0)]) (rest := []) rfl rfl rfl (W := 0) (Nat.le_of_eq rfl) (by decide)) (fun v15 T15 L15 X15 q15 => ?_)
  obtain ⟨rfl, M15, Kc15, Rk15_0⟩ := q15
  have N15 := Fr.app N14 M15
  have O_a1_15 := R_MP_keep O_a1_13 Kc15 (own_nin ne_a1_a4 List.not_mem_nil)
  have O_a2_15 := R_IN_keep O_a2_13 Kc15 (own_nin ne_a2_a4 List.not_mem_nil)
  have O_a3_15 := R_IN_keep O_a3_13 Kc15 (own_nin ne_a3_a4 List.not_mem_nil)
  have O_a5_15 := R_IN_keep O_a5_13 Kc15 (own_nin (Ne.symm ne_a4_a5) List.not_mem_nil)
  have O_b10_0_15 := R_ND_keep O_b10_0_13 Kc15 (own_nin (Ne.symm ne_a4_b10_0) List.not_mem_nil)
  have K15 := Keep.trans K13 Kc15 (own_memc (Or.inl (List.mem_of_getElem? (i := 1) rfl)) own_memn)
  have Z15 : n0 ≤ T15.heap.size := Nat.le_trans Z13 Kc15.1
  refine g_aloadN X15 hx (hb hby d38_268) rfl rfl ?_
  refine g_dup X15 hx (hb hby d38_269) rfl ?_
  refine g_getF X15 hx hZ hown (Wd92 hw) (rfl : T15.heap = T15.heap) O_a1_15.2.2.2.2 (hb hby d38_270) (fun T16 X16 e16 => ?_)
  refine g_iconst X16 hx (1 : Int32) (hb hby d38_273) (by decide) ?_
  refine g_iadd X16 hx (hb hby d38_274) ?_
  refine g_putF X16 hx hZ hown (Wd92 hw) e16 O_a1_15.2.2.2.2 O_a1_15.1 (Or.inl (Wd93 hw)) (Wd1 hw) fd_0 rfl rfl (hb hby d38_275) (fun T17 h17 X17 e17 W17 => ?_)
  have N17 := Fr.snoc X17 N15 g_a1
  have O_a1_17 := R_MP_set_modCount hw W17 O_a1_15
  have O_a2_17 := R_IN_other W17 O_a2_15 (Ne.symm ne_a1_a2)
  have O_a3_17 := R_IN_other W17 O_a3_15 (Ne.symm ne_a1_a3)
  have O_a5_17 := R_IN_other W17 O_a5_15 (Ne.symm ne_a1_a5)
  have O_b10_0_17 := R_ND_other W17 O_b10_0_15 (Ne.symm ne_a1_b10_0)
  have O_a4_17 := R_ND_other W17 Rk15_0 (Ne.symm ne_a1_a4)
  have Z17 : n0 ≤ h17.size := Nat.le_trans Z15 (Nat.le_of_eq W17.size.symm)
  have K17 := Keep.wr K15 W17 (Or.inl (List.mem_of_getElem? (i := 0) rfl))
  refine g_null X17 hx (hb hby d38_278) ?_
  exact own_retA X17 hx hret hlk rfl rfl (hb hby d38_279) (by decide) (by decide) (by rw [e17]; exact ⟨b10_0, rfl, N17, K17, sz_b10_0, O_a1_17, O_a4_17, O_b10_0_17⟩)
theorem rm_put_30 (l : Launch) (Z : State) (a0 : Array Value) (hw : HW a0 Z) (a1 : Addr) (a2 : Addr) (a3 : Addr) (a4 : Addr) (i1 : Int32) (i2 : Int32) (i3 : Int32) (a5 : Addr) (a6 : Addr) (i4 : Int32) (h0 : Heap) (n0 : Nat) (Z0 : n0 ≤ h0.size) (O_a1 : R_MP Z h0 a1 .null (.ref a4) (.int 1) (.int i1)) (O_a2 : R_IN Z h0 a2 (.int i2)) (O_a3 : R_IN Z h0 a3 (.int i3)) (O_a4 : R_ND Z h0 a4 (.ref a5) (.ref a6) .null .null .null (.int 0)) (O_a5 : R_IN Z h0 a5 (.int i4)) (ne_a1_a2 : a1 ≠ a2) (ne_a1_a3 : a1 ≠ a3) (ne_a1_a4 : a1 ≠ a4) (ne_a1_a5 : a1 ≠ a5) (ne_a2_a4 : a2 ≠ a4) (ne_a3_a4 : a3 ≠ a4) (ne_a4_a5 : a4 ≠ a5) (g_a1 : n0 ≤ a1) (g_a4 : n0 ≤ a4) (hk0 : i2 < i4) :
    Ctr l Y19 prog_7_method_8_code 4 (some (FieldType.object "java/lang/Object")) [] ({ frames := 5, cells := 1, slots := 6, locals := 79 } : Room) Z #[(.ref a1), (.ref a2), (.ref a3)] h0 (fun v h L => ∃ f1, v = some .null ∧ Fr n0 L ∧ Keep h0 h [a1, a4] ∧ h0.size ≤ f1 ∧ R_MP Z h a1 .null (.ref a4) (.int 2) (.int (i1 + (1 : Int32))) ∧ R_ND Z h a4 (.ref a5) (.ref a6) (.ref f1) .null .null (.int 1) ∧ R_ND Z h f1 (.ref a2) (.ref a3) .null .null (.ref a4) (.int (-2147483648))) := by
  refine own_enter pn_2 (fun p e s m below meth c s₁ hx hby hml hown hnm hret hlk hZ X0 e0 => ?_)
  have N0 := Fr.nil n0
  have K0 := Keep.refl h0 [a1, a4]
  rw [ef_6_RRR m _ _ _]
  show Go p e below (s₁.setTop (mkF m 0 #[vr a1, vr a2, vr a3, vu] [])) _
  refine g_aloadN X0 hx (hb hby d6_0) rfl rfl ?_
  refine g_aloadN X0 hx (hb hby d6_1) rfl rfl ?_
  refine g_aloadN X0 hx (hb hby d6_2) rfl rfl ?_
  refine g_call (own_callPH X0 hx hZ (y := Y18) hown (Wd31 hw) (Wd32 hw) (Wd33 hw) (Wd1 hw) (Wd34 hw) (Wd2 hw) (by decide) (rm_addIfAbsent_31 l Z a0 hw a1 a2 a3 a4 i1 i2 i3 a5 a6 i4 h0 n0 Z0 O_a1 O_a2 O_a3 O_a4 O_a5 ne_a1_a2 ne_a1_a3 ne_a1_a4 ne_a1_a5 ne_a2_a4 ne_a3_a4 ne_a4_a5 g_a1 g_a4 hk0) e0 O_a1.1 pd_15 (hb hby d6_3) (by rw [hml]; rfl) (argsL := [(.ref a2), (.ref a3)]) (rest := []) rfl rfl rfl (W := 0) (Nat.le_of_eq rfl) (by decide)) (fun v1 T1 L1 X1 q1 => ?_)
  obtain ⟨b1_0, rfl, M1, Kc1, zb1_0, Rk1_0, Rk1_1, Rk1_2⟩ := q1
  have N1 := Fr.app N0 M1
  have ne_a1_b1_0 : a1 ≠ b1_0 := Nat.ne_of_lt (Nat.lt_of_lt_of_le O_a1.1.lt zb1_0)
  have ne_a2_b1_0 : a2 ≠ b1_0 := Nat.ne_of_lt (Nat.lt_of_lt_of_le O_a2.1.lt zb1_0)
  have ne_a3_b1_0 : a3 ≠ b1_0 := Nat.ne_of_lt (Nat.lt_of_lt_of_le O_a3.1.lt zb1_0)
  have ne_a4_b1_0 : a4 ≠ b1_0 := Nat.ne_of_lt (Nat.lt_of_lt_of_le O_a4.1.lt zb1_0)
  have ne_a5_b1_0 : a5 ≠ b1_0 := Nat.ne_of_lt (Nat.lt_of_lt_of_le O_a5.1.lt zb1_0)
  have g_b1_0 : n0 ≤ b1_0 := Nat.le_trans Z0 zb1_0
  have sz_b1_0 : h0.size ≤ b1_0 := Nat.le_trans K0.1 zb1_0
  have O_a2_1 := R_IN_keep O_a2 Kc1 (own_nin (Ne.symm ne_a1_a2) (own_nin ne_a2_a4 List.not_mem_nil))
  have O_a3_1 := R_IN_keep O_a3 Kc1 (own_nin (Ne.symm ne_a1_a3) (own_nin ne_a3_a4 List.not_mem_nil))
  have O_a5_1 := R_IN_keep O_a5 Kc1 (own_nin (Ne.symm ne_a1_a5) (own_nin (Ne.symm ne_a4_a5) List.not_mem_nil))
  have K1 := Keep.trans K0 Kc1 (own_memc (Or.inl (List.mem_of_getElem? (i := 0) rfl)) (own_memc (Or.inl (List.mem_of_getElem? (i := 1) rfl)) own_memn))
  have Z1 : n0 ≤ T1.heap.size := Nat.le_trans Z0 Kc1.1
  refine g_astoreN X1 hx #[vr a1, vr a2, vr a3, vn] (hb hby d6_6) rfl rfl ?_
  refine g_aloadN X1 hx (hb hby d6_7) rfl rfl ?_
  refine g_nonnullNo X1 hx (hb hby d6_8) ?_
  refine g_null X1 hx (hb hby d6_11) ?_
  refine g_goto X1 hx 21 (hb hby d6_12) (by decide) (by decide) ?_
  exact own_retA X1 hx hret hlk rfl rfl (hb hby d6_21) (by decide) (by decide) (by rw [(rfl : T1.heap = T1.heap)]; exact ⟨b1_0, rfl, N1, K1, sz_b1_0, Rk1_0, Rk1_1, Rk1_2⟩)
theorem rm_compare_48 (l : Launch) (Z : State) (a0 : Array Value) (hw : HW a0 Z) (i1 : Int32) (i2 : Int32) (h0 : Heap) (n0 : Nat) (Z0 : n0 ≤ h0.size) (hk0 : ¬ (i1 < i2)) (hk1 : i1 = i2) :
    Ctr l Y10 jdk_33_method_40_code 2 (some FieldType.int) [] ({ frames := 0, cells := 0, slots := 0, locals := 0 } : Room) Z #[(.int i1), (.int i2)] h0 (fun v h L => v = some (.int 0) ∧ Fr n0 L ∧ h = h0) := by
  refine own_enter pn_1 (fun p e s m below meth c s₁ hx hby hml hown hnm hret hlk hZ X0 e0 => ?_)
  have N0 := Fr.nil n0
  have K0 := Keep.refl h0 []
  rw [ef_10_II m _ _]
  show Go p e below (s₁.setTop (mkF m 0 #[vi i1, vi i2] [])) _
  refine g_iloadN X0 hx (hb hby d10_0) rfl ?_
  refine g_iloadN X0 hx (hb hby d10_1) rfl ?_
  have c2_1 : ¬ (i1 < i2) := hk0
  refine g_icmpYes X0 hx 9 (hb hby d10_2) (flt c2_1).2.1 (by decide) (by decide) ?_
  refine g_iloadN X0 hx (hb hby d10_9) rfl ?_
  refine g_iloadN X0 hx (hb hby d10_10) rfl ?_
  have c11_2 : i1 = i2 := hk1
  refine g_icmpNo X0 hx (hb hby d10_11) (teq c11_2).2 ?_
  refine g_iconst X0 hx (0 : Int32) (hb hby d10_14) (by decide) ?_
  refine g_goto X0 hx 19 (hb hby d10_15) (by decide) (by decide) ?_
  exact own_retI X0 hx hret hlk (hb hby d10_19) (by decide) (by decide) ⟨rfl, N0, e0⟩
theorem rm_compareTo_47 (l : Launch) (Z : State) (a0 : Array Value) (hw : HW a0 Z) (a1 : Addr) (a2 : Addr) (i1 : Int32) (i2 : Int32) (h0 : Heap) (n0 : Nat) (Z0 : n0 ≤ h0.size) (O_a1 : R_IN Z h0 a1 (.int i1)) (O_a2 : R_IN Z h0 a2 (.int i2)) (hk0 : ¬ (i1 < i2)) (hk1 : i1 = i2) :
    Ctr l Y11 jdk_33_method_39_code 2 (some FieldType.int) [] ({ frames := 1, cells := 0, slots := 0, locals := 13 } : Room) Z #[(.ref a1), (.ref a2)] h0 (fun v h L => v = some (.int 0) ∧ Fr n0 L ∧ h = h0) := by
  refine own_enter pn_1 (fun p e s m below meth c s₁ hx hby hml hown hnm hret hlk hZ X0 e0 => ?_)
  have N0 := Fr.nil n0
  have K0 := Keep.refl h0 []
  rw [ef_9_RR m _ _]
  show Go p e below (s₁.setTop (mkF m 0 #[vr a1, vr a2] [])) _
  refine g_aloadN X0 hx (hb hby d9_0) rfl rfl ?_
  refine g_getF X0 hx hZ hown (Wd59 hw) e0 O_a1.2 (hb hby d9_1) (fun T1 X1 e1 => ?_)
  refine g_aloadN X1 hx (hb hby d9_4) rfl rfl ?_
  refine g_getF X1 hx hZ hown (Wd59 hw) e1 O_a2.2 (hb hby d9_5) (fun T2 X2 e2 => ?_)
  refine g_call (own_callS X2 hx hZ (y := Y10) hown (Wd61 hw) (Wd62 hw) (Wd21 hw) (Wd63 hw) (by decide) (rm_compare_48 l Z a0 hw i1 i2 h0 n0 Z0 hk0 hk1) e2 pd_8 (hb hby d9_8) (by rw [hml]; rfl) (argsL := [(.int i1), (.int i2)]) (rest := []) rfl rfl rfl (W := 0) (Nat.le_of_eq rfl) (by decide)) (fun v3 T3 L3 X3 q3 => ?_)
  obtain ⟨rfl, M3, e3⟩ := q3
  have N3 := Fr.app N0 M3
  exact own_retI X3 hx hret hlk (hb hby d9_11) (by decide) (by decide) ⟨rfl, N3, e3⟩
theorem rm_compareTo_46 (l : Launch) (Z : State) (a0 : Array Value) (hw : HW a0 Z) (a1 : Addr) (a2 : Addr) (i1 : Int32) (i2 : Int32) (h0 : Heap) (n0 : Nat) (Z0 : n0 ≤ h0.size) (O_a1 : R_IN Z h0 a1 (.int i1)) (O_a2 : R_IN Z h0 a2 (.int i2)) (hk0 : ¬ (i1 < i2)) (hk1 : i1 = i2) :
    Ctr l Y12 jdk_33_method_63_code 2 (some FieldType.int) [] ({ frames := 2, cells := 0, slots := 0, locals := 26 } : Room) Z #[(.ref a1), (.ref a2)] h0 (fun v h L => v = some (.int 0) ∧ Fr n0 L ∧ h = h0) := by
  refine own_enter pn_1 (fun p e s m below meth c s₁ hx hby hml hown hnm hret hlk hZ X0 e0 => ?_)
  have N0 := Fr.nil n0
  have K0 := Keep.refl h0 []
  rw [ef_8_RR m _ _]
  show Go p e below (s₁.setTop (mkF m 0 #[vr a1, vr a2] [])) _
  refine g_aloadN X0 hx (hb hby d8_0) rfl rfl ?_
  refine g_aloadN X0 hx (hb hby d8_1) rfl rfl ?_
  refine g_cast X0 hx hZ hown (Wd52 hw) e0 (Ins.self O_a2.1) (hb hby d8_2) (fun T1 X1 e1 => ?_)
  refine g_call (own_callV X1 hx hZ (y := Y11) hown (Wd54 hw) (Wd55 hw) (Wd57 hw) (Wd56 hw) (Wd58 hw) (Wd21 hw) (by decide) (rm_compareTo_47 l Z a0 hw a1 a2 i1 i2 h0 n0 Z0 O_a1 O_a2 hk0 hk1) e1 O_a1.1 pd_9 (hb hby d8_5) (by rw [hml]; rfl) (argsL := [(.ref a2)]) (rest := []) rfl rfl rfl (W := 0) (Nat.le_of_eq rfl) (by decide)) (fun v2 T2 L2 X2 q2 => ?_)
  obtain ⟨rfl, M2, e2⟩ := q2
  have N2 := Fr.app N0 M2
  exact own_retI X2 hx hret hlk (hb hby d8_8) (by decide) (by decide) ⟨rfl, N2, e2⟩
theorem rm_compare_45 (l : Launch) (Z : State) (a0 : Array Value) (hw : HW a0 Z) (a1 : Addr) (a2 : Addr) (a3 : Addr) (a4 : Addr) (i1 : Int32) (i2 : Int32) (i3 : Int32) (h0 : Heap) (n0 : Nat) (Z0 : n0 ≤ h0.size) (O_a1 : R_MP Z h0 a1 .null (.ref a4) (.int 1) (.int i1)) (O_a2 : R_IN Z h0 a2 (.int i2)) (O_a3 : R_IN Z h0 a3 (.int i3)) (hk0 : ¬ (i2 < i3)) (hk1 : i2 = i3) :
    Ctr l Y13 prog_7_method_72_code 3 (some FieldType.int) [] ({ frames := 3, cells := 0, slots := 0, locals := 39 } : Room) Z #[(.ref a1), (.ref a2), (.ref a3)] h0 (fun v h L => v = some (.int 0) ∧ Fr n0 L ∧ h = h0) := by
  refine own_enter pn_2 (fun p e s m below meth c s₁ hx hby hml hown hnm hret hlk hZ X0 e0 => ?_)
  have N0 := Fr.nil n0
  have K0 := Keep.refl h0 []
  rw [ef_7_RRR m _ _ _]
  show Go p e below (s₁.setTop (mkF m 0 #[vr a1, vr a2, vr a3] [])) _
  refine g_aloadN X0 hx (hb hby d7_0) rfl rfl ?_
  refine g_getF X0 hx hZ hown (Wd17 hw) e0 O_a1.2.1 (hb hby d7_1) (fun T1 X1 e1 => ?_)
  refine g_nonnullNo X1 hx (hb hby d7_4) ?_
  refine g_aloadN X1 hx (hb hby d7_7) rfl rfl ?_
  refine g_cast X1 hx hZ hown (Wd42 hw) e1 (Ins.of_exa O_a2.1 (Wd43 hw)) (hb hby d7_8) (fun T2 X2 e2 => ?_)
  refine g_aloadN X2 hx (hb hby d7_11) rfl rfl ?_
  refine g_call (own_callF X2 hx hZ (xi := Y14) (y := Y12) hown (Wd44 hw) (Wd45 hw) (mvT hZ (Wd46 hw)) (Wd47 hw) (Wd48 hw) (Wd49 hw) (Wd50 hw) (Wd43 hw) (Wd51 hw) (Wd21 hw) (by decide) (rm_compareTo_46 l Z a0 hw a2 a3 i2 i3 h0 n0 Z0 O_a2 O_a3 hk0 hk1) e2 O_a2.1 pd_10 (hb hby d7_12) (by rw [hml]; rfl) (argsL := [(.ref a3)]) (rest := []) rfl rfl rfl (W := 0) (Nat.le_of_eq rfl) (by decide)) (fun v3 T3 L3 X3 q3 => ?_)
  obtain ⟨rfl, M3, e3⟩ := q3
  have N3 := Fr.app N0 M3
  refine g_goto X3 hx 31 (hb hby d7_17) (by decide) (by decide) ?_
  exact own_retI X3 hx hret hlk (hb hby d7_31) (by decide) (by decide) ⟨rfl, N3, e3⟩
theorem ef_34_nII (m : MethodId) (x1 : Int32) (x2 : Int32) : entryFrame m #[.null, (.int x1), (.int x2)] 3 = mkF m 0 #[vn, vi x1, vi x2] [] := by first | (simp [entryFrame, mkF, argsToLocals, Value.category]; done) | rfl
theorem d34_0 : decode prog_7_method_86_code 0 = .ok (.aload_n 0, 1) := by decide +kernel
theorem d34_1 : decode prog_7_method_86_code 1 = .ok (.ifnonnull 4, 3) := by decide +kernel
theorem d34_4 : decode prog_7_method_86_code 4 = .ok (.return_, 1) := by decide +kernel
theorem rm_countPlace_49 (l : Launch) (Z : State) (a0 : Array Value) (hw : HW a0 Z)  (h0 : Heap) (n0 : Nat) (Z0 : n0 ≤ h0.size)  :
    Ctr l Y26 prog_7_method_86_code 3 none [] ({ frames := 0, cells := 0, slots := 0, locals := 0 } : Room) Z #[.null, (.int 0), (.int (-1))] h0 (fun v h L => v = none ∧ Fr n0 L ∧ h = h0) := by
  refine own_enter pn_2 (fun p e s m below meth c s₁ hx hby hml hown hnm hret hlk hZ X0 e0 => ?_)
  have N0 := Fr.nil n0
  have K0 := Keep.refl h0 []
  rw [ef_34_nII m  _ _]
  show Go p e below (s₁.setTop (mkF m 0 #[vn, vi 0, vi (-1)] [])) _
  refine g_aloadN X0 hx (hb hby d34_0) rfl rfl ?_
  refine g_nonnullNo X0 hx (hb hby d34_1) ?_
  exact own_retV X0 hx hret hlk (hb hby d34_4) (by decide) (by decide) ⟨rfl, N0, e0⟩
theorem pd_20 : parseMethodDescriptor "(Lcom/example/rosewood/rosewood/RosewoodMap$Node;II)V" = some ⟨[(FieldType.object "com/example/rosewood/rosewood/RosewoodMap$Node"), FieldType.int, FieldType.int], none⟩ := by decide +kernel
theorem d38_118 : decode prog_7_method_65_code 118 = .ok (.aload 5, 2) := by decide +kernel
theorem d38_120 : decode prog_7_method_65_code 120 = .ok (.astore 13, 2) := by decide +kernel
theorem d38_122 : decode prog_7_method_65_code 122 = .ok (.aload 7, 2) := by decide +kernel
theorem d38_124 : decode prog_7_method_65_code 124 = .ok (.ifnonnull 10, 3) := by decide +kernel
theorem d38_127 : decode prog_7_method_65_code 127 = .ok (.aload_n 3, 1) := by decide +kernel
theorem d38_128 : decode prog_7_method_65_code 128 = .ok (.iload 4, 2) := by decide +kernel
theorem d38_130 : decode prog_7_method_65_code 130 = .ok (.iconst (-1), 1) := by decide +kernel
theorem d38_131 : decode prog_7_method_65_code 131 = .ok (.invokestatic 225, 3) := by decide +kernel
theorem d38_134 : decode prog_7_method_65_code 134 = .ok (.aload 13, 2) := by decide +kernel
theorem d38_136 : decode prog_7_method_65_code 136 = .ok (.areturn, 1) := by decide +kernel
theorem rm_addIfAbsent_44 (l : Launch) (Z : State) (a0 : Array Value) (hw : HW a0 Z) (a1 : Addr) (a2 : Addr) (a3 : Addr) (a4 : Addr) (i1 : Int32) (i2 : Int32) (i3 : Int32) (a5 : Addr) (a6 : Addr) (i4 : Int32) (h0 : Heap) (n0 : Nat) (Z0 : n0 ≤ h0.size) (O_a1 : R_MP Z h0 a1 .null (.ref a4) (.int 1) (.int i1)) (O_a2 : R_IN Z h0 a2 (.int i2)) (O_a3 : R_IN Z h0 a3 (.int i3)) (O_a4 : R_ND Z h0 a4 (.ref a5) (.ref a6) .null .null .null (.int 0)) (O_a5 : R_IN Z h0 a5 (.int i4)) (hk0 : ¬ (i2 < i4)) (hk1 : i2 = i4) :
    CtrH l Y18 prog_7_method_65_code 15 (some (FieldType.object "com/example/rosewood/rosewood/RosewoodMap$Node")) [(71, 122, 210, 0), (137, 195, 210, 0), (210, 212, 210, 0)] ({ frames := 4, cells := 0, slots := 0, locals := 53 } : Room) Z #[(.ref a1), (.ref a2), (.ref a3)] h0 (fun v h L => v = some (.ref a4) ∧ Fr n0 L ∧ h = h0) := by
  refine own_enterH pn_2 (fun p e s m below meth c s₁ hx hby hml hown hnm hret hlk hZ X0 e0 => ?_)
  have N0 := Fr.nil n0
  have K0 := Keep.refl h0 []
  rw [ef_38_RRR m _ _ _]
  show Go p e below (s₁.setTop (mkF m 0 #[vr a1, vr a2, vr a3, vu, vu, vu, vu, vu, vu, vu, vu, vu, vu, vu, vu] [])) _
  refine g_aloadN X0 hx (hb hby d38_0) rfl rfl ?_
  refine g_getF X0 hx hZ hown (Wd35 hw) e0 O_a1.2.2.1 (hb hby d38_1) (fun T1 X1 e1 => ?_)
  refine g_nonnullYes X1 hx 50 (hb hby d38_4) (by decide) (by decide) ?_
  refine g_null X1 hx (hb hby d38_50) ?_
  refine g_astoreN X1 hx #[vr a1, vr a2, vr a3, vn, vu, vu, vu, vu, vu, vu, vu, vu, vu, vu, vu] (hb hby d38_51) rfl rfl ?_
  refine g_iconst X1 hx (0 : Int32) (hb hby d38_52) (by decide) ?_
  refine g_istore X1 hx #[vr a1, vr a2, vr a3, vn, vi 0, vu, vu, vu, vu, vu, vu, vu, vu, vu, vu] (hb hby d38_53) rfl ?_
  refine g_aloadN X1 hx (hb hby d38_55) rfl rfl ?_
  refine g_getF X1 hx hZ hown (Wd35 hw) e1 O_a1.2.2.1 (hb hby d38_56) (fun T2 X2 e2 => ?_)
  refine g_astore X2 hx #[vr a1, vr a2, vr a3, vn, vi 0, vr a4, vu, vu, vu, vu, vu, vu, vu, vu, vu] (hb hby d38_59) rfl rfl ?_
  refine g_aload X2 hx (hb hby d38_61) rfl rfl ?_
  refine g_getF X2 hx hZ hown (Wd94 hw) e2 O_a4.2.1 (hb hby d38_63) (fun T3 X3 e3 => ?_)
  refine g_astore X3 hx #[vr a1, vr a2, vr a3, vn, vi 0, vr a4, vr a5, vu, vu, vu, vu, vu, vu, vu, vu] (hb hby d38_66) rfl rfl ?_
  refine g_null X3 hx (hb hby d38_68) ?_
  refine g_astore X3 hx #[vr a1, vr a2, vr a3, vn, vi 0, vr a4, vr a5, vn, vu, vu, vu, vu, vu, vu, vu] (hb hby d38_69) rfl rfl ?_
  refine g_aload X3 hx (hb hby d38_71) rfl rfl ?_
  refine g_nullNo X3 hx (hb hby d38_73) ?_
  refine g_aload X3 hx (hb hby d38_76) rfl rfl ?_
  refine g_getF X3 hx hZ hown (Wd95 hw) e3 O_a4.2.2.2.1 (hb hby d38_78) (fun T4 X4 e4 => ?_)
  refine g_astore X4 hx #[vr a1, vr a2, vr a3, vn, vi 0, vr a4, vr a5, vn, vn, vu, vu, vu, vu, vu, vu] (hb hby d38_81) rfl rfl ?_
  refine g_aload X4 hx (hb hby d38_83) rfl rfl ?_
  refine g_getF X4 hx hZ hown (Wd97 hw) e4 O_a4.2.2.2.2.1 (hb hby d38_85) (fun T5 X5 e5 => ?_)
  refine g_astore X5 hx #[vr a1, vr a2, vr a3, vn, vi 0, vr a4, vr a5, vn, vn, vn, vu, vu, vu, vu, vu] (hb hby d38_88) rfl rfl ?_
  refine g_aload X5 hx (hb hby d38_90) rfl rfl ?_
  refine g_call (own_callS X5 hx hZ (y := Y7) hown (Wd99 hw) (Wd100 hw) (Wd2 hw) (Wd101 hw) (by decide) (rm_keyOf_9 l Z a0 hw  h0 n0 Z0 ) e5 pd_6 (hb hby d38_92) (by rw [hml]; rfl) (argsL := [.null]) (rest := []) rfl rfl rfl (W := 0) (Nat.le_of_eq rfl) (by decide)) (fun v6 T6 L6 X6 q6 => ?_)
  obtain ⟨rfl, M6, e6⟩ := q6
  have N6 := Fr.app N0 M6
  refine g_astore X6 hx #[vr a1, vr a2, vr a3, vn, vi 0, vr a4, vr a5, vn, vn, vn, vn, vu, vu, vu, vu] (hb hby d38_95) rfl rfl ?_
  refine g_aload X6 hx (hb hby d38_97) rfl rfl ?_
  refine g_call (own_callS X6 hx hZ (y := Y7) hown (Wd99 hw) (Wd100 hw) (Wd2 hw) (Wd101 hw) (by decide) (rm_keyOf_9 l Z a0 hw  h0 n0 Z0 ) e6 pd_6 (hb hby d38_99) (by rw [hml]; rfl) (argsL := [.null]) (rest := []) rfl rfl rfl (W := 0) (Nat.le_of_eq rfl) (by decide)) (fun v7 T7 L7 X7 q7 => ?_)
  obtain ⟨rfl, M7, e7⟩ := q7
  have N7 := Fr.app N6 M7
  refine g_astore X7 hx #[vr a1, vr a2, vr a3, vn, vi 0, vr a4, vr a5, vn, vn, vn, vn, vn, vu, vu, vu] (hb hby d38_102) rfl rfl ?_
  refine g_aloadN X7 hx (hb hby d38_104) rfl rfl ?_
  refine g_aloadN X7 hx (hb hby d38_105) rfl rfl ?_
  refine g_aload X7 hx (hb hby d38_106) rfl rfl ?_
  refine g_call (own_callV X7 hx hZ (y := Y13) hown (Wd37 hw) (Wd38 hw) (Wd40 hw) (Wd39 hw) (Wd41 hw) (Wd2 hw) (by decide) (rm_compare_45 l Z a0 hw a1 a2 a5 a4 i1 i2 i4 h0 n0 Z0 O_a1 O_a2 O_a5 hk0 hk1) e7 O_a1.1 pd_11 (hb hby d38_108) (by rw [hml]; rfl) (argsL := [(.ref a2), (.ref a5)]) (rest := []) rfl rfl rfl (W := 0) (Nat.le_of_eq rfl) (by decide)) (fun v8 T8 L8 X8 q8 => ?_)
  obtain ⟨rfl, M8, e8⟩ := q8
  have N8 := Fr.app N7 M8
  refine g_istore X8 hx #[vr a1, vr a2, vr a3, vn, vi 0, vr a4, vr a5, vn, vn, vn, vn, vn, vi 0, vu, vu] (hb hby d38_111) rfl ?_
  refine g_iload X8 hx (hb hby d38_113) rfl ?_
  refine g_ifNo X8 hx (hb hby d38_115) ((if0 _ _).trans (teq ((by decide) : (0 : Int32) = (0 : Int32))).2) ?_
  refine g_aload X8 hx (hb hby d38_118) rfl rfl ?_
  refine g_astore X8 hx #[vr a1, vr a2, vr a3, vn, vi 0, vr a4, vr a5, vn, vn, vn, vn, vn, vi 0, vr a4, vu] (hb hby d38_120) rfl rfl ?_
  refine g_aload X8 hx (hb hby d38_122) rfl rfl ?_
  refine g_nonnullNo X8 hx (hb hby d38_124) ?_
  refine g_aloadN X8 hx (hb hby d38_127) rfl rfl ?_
  refine g_iload X8 hx (hb hby d38_128) rfl ?_
  refine g_iconst X8 hx (-1 : Int32) (hb hby d38_130) (by decide) ?_
  refine g_call (own_callS X8 hx hZ (y := Y26) hown (Wd190 hw) (Wd191 hw) (Wd2 hw) (Wd192 hw) (by decide) (rm_countPlace_49 l Z a0 hw  h0 n0 Z0 ) e8 pd_20 (hb hby d38_131) (by rw [hml]; rfl) (argsL := [.null, (.int 0), (.int (-1))]) (rest := []) rfl rfl rfl (W := 0) (Nat.le_of_eq rfl) (by decide)) (fun v9 T9 L9 X9 q9 => ?_)
  obtain ⟨rfl, M9, e9⟩ := q9
  have N9 := Fr.app N8 M9
  refine g_aload X9 hx (hb hby d38_134) rfl rfl ?_
  exact own_retA X9 hx hret hlk rfl rfl (hb hby d38_136) (by decide) (by decide) ⟨rfl, N9, e9⟩
theorem ef_36_RR (m : MethodId) (x0 : Addr) (x1 : Addr) : entryFrame m #[(.ref x0), (.ref x1)] 3 = mkF m 0 #[vr x0, vr x1, vu] [] := by first | (simp [entryFrame, mkF, argsToLocals, Value.category]; done) | rfl
theorem d36_0 : decode prog_8_method_4_code 0 = .ok (.aload_n 0, 1) := by decide +kernel
theorem d36_1 : decode prog_8_method_4_code 1 = .ok (.getfield 20, 3) := by decide +kernel
theorem d36_4 : decode prog_8_method_4_code 4 = .ok (.astore_n 2, 1) := by decide +kernel
theorem d36_5 : decode prog_8_method_4_code 5 = .ok (.aload_n 0, 1) := by decide +kernel
theorem d36_6 : decode prog_8_method_4_code 6 = .ok (.aload_n 1, 1) := by decide +kernel
theorem d36_7 : decode prog_8_method_4_code 7 = .ok (.putfield 20, 3) := by decide +kernel
theorem d36_10 : decode prog_8_method_4_code 10 = .ok (.aload_n 2, 1) := by decide +kernel
theorem d36_11 : decode prog_8_method_4_code 11 = .ok (.areturn, 1) := by decide +kernel
theorem rm_setValue_51 (l : Launch) (Z : State) (a0 : Array Value) (hw : HW a0 Z) (a1 : Addr) (a2 : Addr) (a3 : Addr) (a4 : Addr) (h0 : Heap) (n0 : Nat) (Z0 : n0 ≤ h0.size) (O_a1 : R_ND Z h0 a1 (.ref a3) (.ref a4) .null .null .null (.int 0)) (g_a1 : n0 ≤ a1) :
    Ctr l Y27 prog_8_method_4_code 3 (some (FieldType.object "java/lang/Object")) [] ({ frames := 0, cells := 0, slots := 0, locals := 0 } : Room) Z #[(.ref a1), (.ref a2)] h0 (fun v h L => v = some (.ref a4) ∧ Fr n0 L ∧ Keep h0 h [a1] ∧ R_ND Z h a1 (.ref a3) (.ref a2) .null .null .null (.int 0)) := by
  refine own_enter pn_4 (fun p e s m below meth c s₁ hx hby hml hown hnm hret hlk hZ X0 e0 => ?_)
  have N0 := Fr.nil n0
  have K0 := Keep.refl h0 [a1]
  rw [ef_36_RR m _ _]
  show Go p e below (s₁.setTop (mkF m 0 #[vr a1, vr a2, vu] [])) _
  refine g_aloadN X0 hx (hb hby d36_0) rfl rfl ?_
  refine g_getF X0 hx hZ hown (Wd81 hw) e0 O_a1.2.2.1 (hb hby d36_1) (fun T1 X1 e1 => ?_)
  refine g_astoreN X1 hx #[vr a1, vr a2, vr a4] (hb hby d36_4) rfl rfl ?_
  refine g_aloadN X1 hx (hb hby d36_5) rfl rfl ?_
  refine g_aloadN X1 hx (hb hby d36_6) rfl rfl ?_
  refine g_putF X1 hx hZ hown (Wd81 hw) e1 O_a1.2.2.1 O_a1.1 (Or.inl (Wd82 hw)) (Wd70 hw) fd_1 rfl rfl (hb hby d36_7) (fun T2 h2 X2 e2 W2 => ?_)
  have N2 := Fr.snoc X2 N0 g_a1
  have O_a1_2 := R_ND_set_value hw W2 O_a1
  have Z2 : n0 ≤ h2.size := Nat.le_trans Z0 (Nat.le_of_eq W2.size.symm)
  have K2 := Keep.wr K0 W2 (Or.inl (List.mem_of_getElem? (i := 0) rfl))
  refine g_aloadN X2 hx (hb hby d36_10) rfl rfl ?_
  exact own_retA X2 hx hret hlk rfl rfl (hb hby d36_11) (by decide) (by decide) (by rw [e2]; exact ⟨rfl, N2, K2, O_a1_2⟩)
theorem ef_35_RRR (m : MethodId) (x0 : Addr) (x1 : Addr) (x2 : Addr) : entryFrame m #[(.ref x0), (.ref x1), (.ref x2)] 3 = mkF m 0 #[vr x0, vr x1, vr x2] [] := by first | (simp [entryFrame, mkF, argsToLocals, Value.category]; done) | rfl
theorem d35_0 : decode prog_7_method_52_code 0 = .ok (.aload_n 1, 1) := by decide +kernel
theorem d35_1 : decode prog_7_method_52_code 1 = .ok (.aload_n 2, 1) := by decide +kernel
theorem d35_2 : decode prog_7_method_52_code 2 = .ok (.invokevirtual 202, 3) := by decide +kernel
theorem d35_5 : decode prog_7_method_52_code 5 = .ok (.areturn, 1) := by decide +kernel
theorem rm_replaceValue_50 (l : Launch) (Z : State) (a0 : Array Value) (hw : HW a0 Z) (a1 : Addr) (a2 : Addr) (a3 : Addr) (i1 : Int32) (i2 : Int32) (a4 : Addr) (a5 : Addr) (h0 : Heap) (n0 : Nat) (Z0 : n0 ≤ h0.size) (O_a1 : R_MP Z h0 a1 .null (.ref a2) (.int 1) (.int i1)) (O_a3 : R_IN Z h0 a3 (.int i2)) (O_a2 : R_ND Z h0 a2 (.ref a4) (.ref a5) .null .null .null (.int 0)) (ne_a1_a2 : a1 ≠ a2) (ne_a3_a2 : a3 ≠ a2) (g_a2 : n0 ≤ a2) :
    Ctr l Y28 prog_7_method_52_code 3 (some (FieldType.object "java/lang/Object")) [] ({ frames := 1, cells := 0, slots := 0, locals := 14 } : Room) Z #[(.ref a1), (.ref a2), (.ref a3)] h0 (fun v h L => v = some (.ref a5) ∧ Fr n0 L ∧ Keep h0 h [a2] ∧ R_ND Z h a2 (.ref a4) (.ref a3) .null .null .null (.int 0)) := by
  refine own_enter pn_2 (fun p e s m below meth c s₁ hx hby hml hown hnm hret hlk hZ X0 e0 => ?_)
  have N0 := Fr.nil n0
  have K0 := Keep.refl h0 [a2]
  rw [ef_35_RRR m _ _ _]
  show Go p e below (s₁.setTop (mkF m 0 #[vr a1, vr a2, vr a3] [])) _
  refine g_aloadN X0 hx (hb hby d35_0) rfl rfl ?_
  refine g_aloadN X0 hx (hb hby d35_1) rfl rfl ?_
  refine g_call (own_callV X0 hx hZ (y := Y27) hown (Wd198 hw) (Wd199 hw) (Wd201 hw) (Wd200 hw) (Wd202 hw) (Wd71 hw) (by decide) (rm_setValue_51 l Z a0 hw a2 a3 a4 a5 h0 n0 Z0 O_a2 g_a2) e0 O_a2.1 pd_5 (hb hby d35_2) (by rw [hml]; rfl) (argsL := [(.ref a3)]) (rest := []) rfl rfl rfl (W := 0) (Nat.le_of_eq rfl) (by decide)) (fun v1 T1 L1 X1 q1 => ?_)
  obtain ⟨rfl, M1, Kc1, Rk1_0⟩ := q1
  have N1 := Fr.app N0 M1
  have O_a1_1 := R_MP_keep O_a1 Kc1 (own_nin ne_a1_a2 List.not_mem_nil)
  have O_a3_1 := R_IN_keep O_a3 Kc1 (own_nin ne_a3_a2 List.not_mem_nil)
  have K1 := Keep.trans K0 Kc1 (own_memc (Or.inl (List.mem_of_getElem? (i := 0) rfl)) own_memn)
  have Z1 : n0 ≤ T1.heap.size := Nat.le_trans Z0 Kc1.1
  exact own_retA X1 hx hret hlk rfl rfl (hb hby d35_5) (by decide) (by decide) (by rw [(rfl : T1.heap = T1.heap)]; exact ⟨rfl, N1, K1, Rk1_0⟩)
theorem pd_21 : parseMethodDescriptor "(Lcom/example/rosewood/rosewood/RosewoodMap$Node;Ljava/lang/Object;)Ljava/lang/Object;" = some ⟨[(FieldType.object "com/example/rosewood/rosewood/RosewoodMap$Node"), (FieldType.object "java/lang/Object")], some (FieldType.object "java/lang/Object")⟩ := by decide +kernel
theorem d6_15 : decode prog_7_method_8_code 15 = .ok (.aload_n 0, 1) := by decide +kernel
theorem d6_16 : decode prog_7_method_8_code 16 = .ok (.aload_n 3, 1) := by decide +kernel
theorem d6_17 : decode prog_7_method_8_code 17 = .ok (.aload_n 2, 1) := by decide +kernel
theorem d6_18 : decode prog_7_method_8_code 18 = .ok (.invokevirtual 40, 3) := by decide +kernel
theorem rm_put_43 (l : Launch) (Z : State) (a0 : Array Value) (hw : HW a0 Z) (a1 : Addr) (a2 : Addr) (a3 : Addr) (a4 : Addr) (i1 : Int32) (i2 : Int32) (i3 : Int32) (a5 : Addr) (a6 : Addr) (i4 : Int32) (h0 : Heap) (n0 : Nat) (Z0 : n0 ≤ h0.size) (O_a1 : R_MP Z h0 a1 .null (.ref a4) (.int 1) (.int i1)) (O_a2 : R_IN Z h0 a2 (.int i2)) (O_a3 : R_IN Z h0 a3 (.int i3)) (O_a4 : R_ND Z h0 a4 (.ref a5) (.ref a6) .null .null .null (.int 0)) (O_a5 : R_IN Z h0 a5 (.int i4)) (ne_a1_a4 : a1 ≠ a4) (ne_a2_a4 : a2 ≠ a4) (ne_a3_a4 : a3 ≠ a4) (ne_a4_a5 : a4 ≠ a5) (g_a4 : n0 ≤ a4) (hk0 : ¬ (i2 < i4)) (hk1 : i2 = i4) :
    Ctr l Y19 prog_7_method_8_code 4 (some (FieldType.object "java/lang/Object")) [] ({ frames := 5, cells := 0, slots := 0, locals := 79 } : Room) Z #[(.ref a1), (.ref a2), (.ref a3)] h0 (fun v h L => v = some (.ref a6) ∧ Fr n0 L ∧ Keep h0 h [a4] ∧ R_ND Z h a4 (.ref a5) (.ref a3) .null .null .null (.int 0)) := by
  refine own_enter pn_2 (fun p e s m below meth c s₁ hx hby hml hown hnm hret hlk hZ X0 e0 => ?_)
  have N0 := Fr.nil n0
  have K0 := Keep.refl h0 [a4]
  rw [ef_6_RRR m _ _ _]
  show Go p e below (s₁.setTop (mkF m 0 #[vr a1, vr a2, vr a3, vu] [])) _
  refine g_aloadN X0 hx (hb hby d6_0) rfl rfl ?_
  refine g_aloadN X0 hx (hb hby d6_1) rfl rfl ?_
  refine g_aloadN X0 hx (hb hby d6_2) rfl rfl ?_
  refine g_call (own_callPH X0 hx hZ (y := Y18) hown (Wd31 hw) (Wd32 hw) (Wd33 hw) (Wd1 hw) (Wd34 hw) (Wd2 hw) (by decide) (rm_addIfAbsent_44 l Z a0 hw a1 a2 a3 a4 i1 i2 i3 a5 a6 i4 h0 n0 Z0 O_a1 O_a2 O_a3 O_a4 O_a5 hk0 hk1) e0 O_a1.1 pd_15 (hb hby d6_3) (by rw [hml]; rfl) (argsL := [(.ref a2), (.ref a3)]) (rest := []) rfl rfl rfl (W := 0) (Nat.le_of_eq rfl) (by decide)) (fun v1 T1 L1 X1 q1 => ?_)
  obtain ⟨rfl, M1, e1⟩ := q1
  have N1 := Fr.app N0 M1
  refine g_astoreN X1 hx #[vr a1, vr a2, vr a3, vr a4] (hb hby d6_6) rfl rfl ?_
  refine g_aloadN X1 hx (hb hby d6_7) rfl rfl ?_
  refine g_nonnullYes X1 hx 15 (hb hby d6_8) (by decide) (by decide) ?_
  refine g_aloadN X1 hx (hb hby d6_15) rfl rfl ?_
  refine g_aloadN X1 hx (hb hby d6_16) rfl rfl ?_
  refine g_aloadN X1 hx (hb hby d6_17) rfl rfl ?_
  refine g_call (own_callV X1 hx hZ (y := Y28) hown (Wd193 hw) (Wd194 hw) (Wd196 hw) (Wd195 hw) (Wd197 hw) (Wd2 hw) (by decide) (rm_replaceValue_50 l Z a0 hw a1 a4 a3 i1 i3 a5 a6 h0 n0 Z0 O_a1 O_a3 O_a4 ne_a1_a4 ne_a3_a4 g_a4) e1 O_a1.1 pd_21 (hb hby d6_18) (by rw [hml]; rfl) (argsL := [(.ref a4), (.ref a3)]) (rest := []) rfl rfl rfl (W := 0) (Nat.le_of_eq rfl) (by decide)) (fun v2 T2 L2 X2 q2 => ?_)
  obtain ⟨rfl, M2, Kc2, Rk2_0⟩ := q2
  have N2 := Fr.app N1 M2
  have O_a1_2 := R_MP_keep O_a1 Kc2 (own_nin ne_a1_a4 List.not_mem_nil)
  have O_a2_2 := R_IN_keep O_a2 Kc2 (own_nin ne_a2_a4 List.not_mem_nil)
  have O_a3_2 := R_IN_keep O_a3 Kc2 (own_nin ne_a3_a4 List.not_mem_nil)
  have O_a5_2 := R_IN_keep O_a5 Kc2 (own_nin (Ne.symm ne_a4_a5) List.not_mem_nil)
  have K2 := Keep.trans K0 Kc2 (own_memc (Or.inl (List.mem_of_getElem? (i := 0) rfl)) own_memn)
  have Z2 : n0 ≤ T2.heap.size := Nat.le_trans Z0 Kc2.1
  exact own_retA X2 hx hret hlk rfl rfl (hb hby d6_21) (by decide) (by decide) (by rw [(rfl : T2.heap = T2.heap)]; exact ⟨rfl, N2, K2, Rk2_0⟩)
theorem d10_18 : decode jdk_33_method_40_code 18 = .ok (.iconst 1, 1) := by decide +kernel
theorem rm_compare_57 (l : Launch) (Z : State) (a0 : Array Value) (hw : HW a0 Z) (i1 : Int32) (i2 : Int32) (h0 : Heap) (n0 : Nat) (Z0 : n0 ≤ h0.size) (hk0 : ¬ (i1 < i2)) (hk1 : ¬ (i1 = i2)) :
    Ctr l Y10 jdk_33_method_40_code 2 (some FieldType.int) [] ({ frames := 0, cells := 0, slots := 0, locals := 0 } : Room) Z #[(.int i1), (.int i2)] h0 (fun v h L => v = some (.int 1) ∧ Fr n0 L ∧ h = h0) := by
  refine own_enter pn_1 (fun p e s m below meth c s₁ hx hby hml hown hnm hret hlk hZ X0 e0 => ?_)
  have N0 := Fr.nil n0
  have K0 := Keep.refl h0 []
  rw [ef_10_II m _ _]
  show Go p e below (s₁.setTop (mkF m 0 #[vi i1, vi i2] [])) _
  refine g_iloadN X0 hx (hb hby d10_0) rfl ?_
  refine g_iloadN X0 hx (hb hby d10_1) rfl ?_
  have c2_1 : ¬ (i1 < i2) := hk0
  refine g_icmpYes X0 hx 9 (hb hby d10_2) (flt c2_1).2.1 (by decide) (by decide) ?_
  refine g_iloadN X0 hx (hb hby d10_9) rfl ?_
  refine g_iloadN X0 hx (hb hby d10_10) rfl ?_
  have c11_2 : ¬ (i1 = i2) := hk1
  refine g_icmpYes X0 hx 18 (hb hby d10_11) (feq c11_2).2 (by decide) (by decide) ?_
  refine g_iconst X0 hx (1 : Int32) (hb hby d10_18) (by decide) ?_
  exact own_retI X0 hx hret hlk (hb hby d10_19) (by decide) (by decide) ⟨rfl, N0, e0⟩
theorem rm_compareTo_56 (l : Launch) (Z : State) (a0 : Array Value) (hw : HW a0 Z) (a1 : Addr) (a2 : Addr) (i1 : Int32) (i2 : Int32) (h0 : Heap) (n0 : Nat) (Z0 : n0 ≤ h0.size) (O_a1 : R_IN Z h0 a1 (.int i1)) (O_a2 : R_IN Z h0 a2 (.int i2)) (hk0 : ¬ (i1 < i2)) (hk1 : ¬ (i1 = i2)) :
    Ctr l Y11 jdk_33_method_39_code 2 (some FieldType.int) [] ({ frames := 1, cells := 0, slots := 0, locals := 13 } : Room) Z #[(.ref a1), (.ref a2)] h0 (fun v h L => v = some (.int 1) ∧ Fr n0 L ∧ h = h0) := by
  refine own_enter pn_1 (fun p e s m below meth c s₁ hx hby hml hown hnm hret hlk hZ X0 e0 => ?_)
  have N0 := Fr.nil n0
  have K0 := Keep.refl h0 []
  rw [ef_9_RR m _ _]
  show Go p e below (s₁.setTop (mkF m 0 #[vr a1, vr a2] [])) _
  refine g_aloadN X0 hx (hb hby d9_0) rfl rfl ?_
  refine g_getF X0 hx hZ hown (Wd59 hw) e0 O_a1.2 (hb hby d9_1) (fun T1 X1 e1 => ?_)
  refine g_aloadN X1 hx (hb hby d9_4) rfl rfl ?_
  refine g_getF X1 hx hZ hown (Wd59 hw) e1 O_a2.2 (hb hby d9_5) (fun T2 X2 e2 => ?_)
  refine g_call (own_callS X2 hx hZ (y := Y10) hown (Wd61 hw) (Wd62 hw) (Wd21 hw) (Wd63 hw) (by decide) (rm_compare_57 l Z a0 hw i1 i2 h0 n0 Z0 hk0 hk1) e2 pd_8 (hb hby d9_8) (by rw [hml]; rfl) (argsL := [(.int i1), (.int i2)]) (rest := []) rfl rfl rfl (W := 0) (Nat.le_of_eq rfl) (by decide)) (fun v3 T3 L3 X3 q3 => ?_)
  obtain ⟨rfl, M3, e3⟩ := q3
  have N3 := Fr.app N0 M3
  exact own_retI X3 hx hret hlk (hb hby d9_11) (by decide) (by decide) ⟨rfl, N3, e3⟩
theorem rm_compareTo_55 (l : Launch) (Z : State) (a0 : Array Value) (hw : HW a0 Z) (a1 : Addr) (a2 : Addr) (i1 : Int32) (i2 : Int32) (h0 : Heap) (n0 : Nat) (Z0 : n0 ≤ h0.size) (O_a1 : R_IN Z h0 a1 (.int i1)) (O_a2 : R_IN Z h0 a2 (.int i2)) (hk0 : ¬ (i1 < i2)) (hk1 : ¬ (i1 = i2)) :
    Ctr l Y12 jdk_33_method_63_code 2 (some FieldType.int) [] ({ frames := 2, cells := 0, slots := 0, locals := 26 } : Room) Z #[(.ref a1), (.ref a2)] h0 (fun v h L => v = some (.int 1) ∧ Fr n0 L ∧ h = h0) := by
  refine own_enter pn_1 (fun p e s m below meth c s₁ hx hby hml hown hnm hret hlk hZ X0 e0 => ?_)
  have N0 := Fr.nil n0
  have K0 := Keep.refl h0 []
  rw [ef_8_RR m _ _]
  show Go p e below (s₁.setTop (mkF m 0 #[vr a1, vr a2] [])) _
  refine g_aloadN X0 hx (hb hby d8_0) rfl rfl ?_
  refine g_aloadN X0 hx (hb hby d8_1) rfl rfl ?_
  refine g_cast X0 hx hZ hown (Wd52 hw) e0 (Ins.self O_a2.1) (hb hby d8_2) (fun T1 X1 e1 => ?_)
  refine g_call (own_callV X1 hx hZ (y := Y11) hown (Wd54 hw) (Wd55 hw) (Wd57 hw) (Wd56 hw) (Wd58 hw) (Wd21 hw) (by decide) (rm_compareTo_56 l Z a0 hw a1 a2 i1 i2 h0 n0 Z0 O_a1 O_a2 hk0 hk1) e1 O_a1.1 pd_9 (hb hby d8_5) (by rw [hml]; rfl) (argsL := [(.ref a2)]) (rest := []) rfl rfl rfl (W := 0) (Nat.le_of_eq rfl) (by decide)) (fun v2 T2 L2 X2 q2 => ?_)
  obtain ⟨rfl, M2, e2⟩ := q2
  have N2 := Fr.app N0 M2
  exact own_retI X2 hx hret hlk (hb hby d8_8) (by decide) (by decide) ⟨rfl, N2, e2⟩
theorem rm_compare_54 (l : Launch) (Z : State) (a0 : Array Value) (hw : HW a0 Z) (a1 : Addr) (a2 : Addr) (a3 : Addr) (a4 : Addr) (i1 : Int32) (i2 : Int32) (i3 : Int32) (h0 : Heap) (n0 : Nat) (Z0 : n0 ≤ h0.size) (O_a1 : R_MP Z h0 a1 .null (.ref a4) (.int 1) (.int i1)) (O_a2 : R_IN Z h0 a2 (.int i2)) (O_a3 : R_IN Z h0 a3 (.int i3)) (hk0 : ¬ (i2 < i3)) (hk1 : ¬ (i2 = i3)) :
    Ctr l Y13 prog_7_method_72_code 3 (some FieldType.int) [] ({ frames := 3, cells := 0, slots := 0, locals := 39 } : Room) Z #[(.ref a1), (.ref a2), (.ref a3)] h0 (fun v h L => v = some (.int 1) ∧ Fr n0 L ∧ h = h0) := by
  refine own_enter pn_2 (fun p e s m below meth c s₁ hx hby hml hown hnm hret hlk hZ X0 e0 => ?_)
  have N0 := Fr.nil n0
  have K0 := Keep.refl h0 []
  rw [ef_7_RRR m _ _ _]
  show Go p e below (s₁.setTop (mkF m 0 #[vr a1, vr a2, vr a3] [])) _
  refine g_aloadN X0 hx (hb hby d7_0) rfl rfl ?_
  refine g_getF X0 hx hZ hown (Wd17 hw) e0 O_a1.2.1 (hb hby d7_1) (fun T1 X1 e1 => ?_)
  refine g_nonnullNo X1 hx (hb hby d7_4) ?_
  refine g_aloadN X1 hx (hb hby d7_7) rfl rfl ?_
  refine g_cast X1 hx hZ hown (Wd42 hw) e1 (Ins.of_exa O_a2.1 (Wd43 hw)) (hb hby d7_8) (fun T2 X2 e2 => ?_)
  refine g_aloadN X2 hx (hb hby d7_11) rfl rfl ?_
  refine g_call (own_callF X2 hx hZ (xi := Y14) (y := Y12) hown (Wd44 hw) (Wd45 hw) (mvT hZ (Wd46 hw)) (Wd47 hw) (Wd48 hw) (Wd49 hw) (Wd50 hw) (Wd43 hw) (Wd51 hw) (Wd21 hw) (by decide) (rm_compareTo_55 l Z a0 hw a2 a3 i2 i3 h0 n0 Z0 O_a2 O_a3 hk0 hk1) e2 O_a2.1 pd_10 (hb hby d7_12) (by rw [hml]; rfl) (argsL := [(.ref a3)]) (rest := []) rfl rfl rfl (W := 0) (Nat.le_of_eq rfl) (by decide)) (fun v3 T3 L3 X3 q3 => ?_)
  obtain ⟨rfl, M3, e3⟩ := q3
  have N3 := Fr.app N0 M3
  refine g_goto X3 hx 31 (hb hby d7_17) (by decide) (by decide) ?_
  exact own_retI X3 hx hret hlk (hb hby d7_31) (by decide) (by decide) ⟨rfl, N3, e3⟩
theorem rm_isRed_59 (l : Launch) (Z : State) (a0 : Array Value) (hw : HW a0 Z) (a1 : Addr) (a2 : Addr) (a3 : Addr) (a4 : Addr) (h0 : Heap) (n0 : Nat) (Z0 : n0 ≤ h0.size) (O_a1 : R_ND Z h0 a1 (.ref a2) (.ref a3) .null (.ref a4) .null (.int 0)) :
    Ctr l Y24 prog_7_method_81_code 1 (some FieldType.boolean) [] ({ frames := 0, cells := 0, slots := 0, locals := 0 } : Room) Z #[(.ref a1)] h0 (fun v h L => v = some (.int 0) ∧ Fr n0 L ∧ h = h0) := by
  refine own_enter pn_2 (fun p e s m below meth c s₁ hx hby hml hown hnm hret hlk hZ X0 e0 => ?_)
  have N0 := Fr.nil n0
  have K0 := Keep.refl h0 []
  rw [ef_17_R m _]
  show Go p e below (s₁.setTop (mkF m 0 #[vr a1] [])) _
  refine g_aloadN X0 hx (hb hby d17_0) rfl rfl ?_
  refine g_nullNo X0 hx (hb hby d17_1) ?_
  refine g_aloadN X0 hx (hb hby d17_4) rfl rfl ?_
  refine g_getF X0 hx hZ hown (Wd88 hw) e0 O_a1.2.2.2.2.2.2 (hb hby d17_5) (fun T1 X1 e1 => ?_)
  refine g_ifYes X1 hx 15 (hb hby d17_8) ((if0 _ _).trans (flt ((by decide) : ¬ ((0 : Int32) < (0 : Int32)))).2.1) (by decide) (by decide) ?_
  refine g_iconst X1 hx (0 : Int32) (hb hby d17_15) (by decide) ?_
  exact own_retZ X1 hx hret hlk (hb hby d17_16) (by decide) (by decide) (by decide) ⟨rfl, N0, e1⟩
theorem rm_setRed_60 (l : Launch) (Z : State) (a0 : Array Value) (hw : HW a0 Z) (a1 : Addr) (a2 : Addr) (a3 : Addr) (a4 : Addr) (h0 : Heap) (n0 : Nat) (Z0 : n0 ≤ h0.size) (O_a1 : R_ND Z h0 a1 (.ref a2) (.ref a3) .null (.ref a4) .null (.int 0)) (g_a1 : n0 ≤ a1) :
    Ctr l Y17 prog_7_method_82_code 2 none [] ({ frames := 0, cells := 0, slots := 0, locals := 0 } : Room) Z #[(.ref a1), (.int 0)] h0 (fun v h L => v = none ∧ Fr n0 L ∧ Keep h0 h [a1] ∧ R_ND Z h a1 (.ref a2) (.ref a3) .null (.ref a4) .null (.int 0)) := by
  refine own_enter pn_2 (fun p e s m below meth c s₁ hx hby hml hown hnm hret hlk hZ X0 e0 => ?_)
  have N0 := Fr.nil n0
  have K0 := Keep.refl h0 [a1]
  rw [ef_13_RI m _ _]
  show Go p e below (s₁.setTop (mkF m 0 #[vr a1, vi 0] [])) _
  refine g_aloadN X0 hx (hb hby d13_0) rfl rfl ?_
  refine g_iloadN X0 hx (hb hby d13_1) rfl ?_
  refine g_ifYes X0 hx 16 (hb hby d13_2) ((if0 _ _).trans (teq ((by decide) : (0 : Int32) = (0 : Int32))).1) (by decide) (by decide) ?_
  refine g_aloadN X0 hx (hb hby d13_16) rfl rfl ?_
  refine g_getF X0 hx hZ hown (Wd88 hw) e0 O_a1.2.2.2.2.2.2 (hb hby d13_17) (fun T1 X1 e1 => ?_)
  refine g_ldcw X1 hx hZ hown (Wd89 hw) (hb hby d13_20) ?_
  refine g_iand X1 hx (hb hby d13_23) ?_
  show Go p e below (T1.setTop (mkF m 24 #[vr a1, vi 0] [(.int ((0 : Int32) &&& (2147483647 : Int32))), (.ref a1)])) _
  rw [show ((0 : Int32) &&& (2147483647 : Int32)) = (0 : Int32) from by decide]
  refine g_putF X1 hx hZ hown (Wd88 hw) e1 O_a1.2.2.2.2.2.2 O_a1.1 (Or.inl (Wd78 hw)) (Wd70 hw) fd_0 rfl rfl (hb hby d13_24) (fun T2 h2 X2 e2 W2 => ?_)
  have N2 := Fr.snoc X2 N0 g_a1
  have O_a1_2 := R_ND_set_redAndLeftCount hw W2 O_a1
  have Z2 : n0 ≤ h2.size := Nat.le_trans Z0 (Nat.le_of_eq W2.size.symm)
  have K2 := Keep.wr K0 W2 (Or.inl (List.mem_of_getElem? (i := 0) rfl))
  exact own_retV X2 hx hret hlk (hb hby d13_27) (by decide) (by decide) (by rw [e2]; exact ⟨rfl, N2, K2, O_a1_2⟩)
theorem rm_balanceAfterInsert_58 (l : Launch) (Z : State) (a0 : Array Value) (hw : HW a0 Z) (a1 : Addr) (a2 : Addr) (a3 : Addr) (i1 : Int32) (a4 : Addr) (a5 : Addr) (a6 : Addr) (a7 : Addr) (i2 : Int32) (i3 : Int32) (i4 : Int32) (h0 : Heap) (n0 : Nat) (Z0 : n0 ≤ h0.size) (O_a1 : R_MP Z h0 a1 .null (.ref a3) (.int 2) (.int i1)) (O_a2 : R_ND Z h0 a2 (.ref a4) (.ref a5) .null .null (.ref a3) (.int (-2147483648))) (O_a3 : R_ND Z h0 a3 (.ref a6) (.ref a7) .null (.ref a2) .null (.int 0)) (O_a4 : R_IN Z h0 a4 (.int i2)) (O_a5 : R_IN Z h0 a5 (.int i3)) (O_a6 : R_IN Z h0 a6 (.int i4)) (ne_a1_a3 : a1 ≠ a3) (ne_a2_a3 : a2 ≠ a3) (ne_a3_a4 : a3 ≠ a4) (ne_a3_a5 : a3 ≠ a5) (ne_a3_a6 : a3 ≠ a6) (g_a3 : n0 ≤ a3) (hk0 : ¬ (i2 < i4)) (hk1 : ¬ (i2 = i4)) :
    Ctr l Y25 prog_7_method_90_code 6 none [] ({ frames := 1, cells := 0, slots := 0, locals := 13 } : Room) Z #[(.ref a1), (.ref a2)] h0 (fun v h L => v = none ∧ Fr n0 L ∧ Keep h0 h [a3] ∧ R_ND Z h a3 (.ref a6) (.ref a7) .null (.ref a2) .null (.int 0)) := by
  refine own_enter pn_2 (fun p e s m below meth c s₁ hx hby hml hown hnm hret hlk hZ X0 e0 => ?_)
  have N0 := Fr.nil n0
  have K0 := Keep.refl h0 [a3]
  rw [ef_16_RR m _ _]
  show Go p e below (s₁.setTop (mkF m 0 #[vr a1, vr a2, vu, vu, vu, vu] [])) _
  refine g_aloadN X0 hx (hb hby d16_0) rfl rfl ?_
  refine g_astoreN X0 hx #[vr a1, vr a2, vr a2, vu, vu, vu] (hb hby d16_1) rfl rfl ?_
  refine g_aloadN X0 hx (hb hby d16_2) rfl rfl ?_
  refine g_getF X0 hx hZ hown (Wd111 hw) e0 O_a2.2.2.2.2.2.1 (hb hby d16_3) (fun T1 X1 e1 => ?_)
  refine g_call (own_callS X1 hx hZ (y := Y24) hown (Wd112 hw) (Wd113 hw) (Wd2 hw) (Wd114 hw) (by decide) (rm_isRed_59 l Z a0 hw a3 a6 a7 a2 h0 n0 Z0 O_a3) e1 pd_19 (hb hby d16_6) (by rw [hml]; rfl) (argsL := [(.ref a3)]) (rest := []) rfl rfl rfl (W := 0) (Nat.le_of_eq rfl) (by decide)) (fun v2 T2 L2 X2 q2 => ?_)
  obtain ⟨rfl, M2, e2⟩ := q2
  have N2 := Fr.app N0 M2
  refine g_ifYes X2 hx 188 (hb hby d16_9) ((if0 _ _).trans (teq ((by decide) : (0 : Int32) = (0 : Int32))).1) (by decide) (by decide) ?_
  refine g_aloadN X2 hx (hb hby d16_188) rfl rfl ?_
  refine g_getF X2 hx hZ hown (Wd35 hw) e2 O_a1.2.2.1 (hb hby d16_189) (fun T3 X3 e3 => ?_)
  refine g_iconst X3 hx (0 : Int32) (hb hby d16_192) (by decide) ?_
  refine g_call (own_callS X3 hx hZ (y := Y17) hown (Wd85 hw) (Wd86 hw) (Wd2 hw) (Wd87 hw) (by decide) (rm_setRed_60 l Z a0 hw a3 a6 a7 a2 h0 n0 Z0 O_a3 g_a3) e3 pd_14 (hb hby d16_193) (by rw [hml]; rfl) (argsL := [(.ref a3), (.int 0)]) (rest := []) rfl rfl rfl (W := 0) (Nat.le_of_eq rfl) (by decide)) (fun v4 T4 L4 X4 q4 => ?_)
  obtain ⟨rfl, M4, Kc4, Rk4_0⟩ := q4
  have N4 := Fr.app N2 M4
  have O_a1_4 := R_MP_keep O_a1 Kc4 (own_nin ne_a1_a3 List.not_mem_nil)
  have O_a2_4 := R_ND_keep O_a2 Kc4 (own_nin ne_a2_a3 List.not_mem_nil)
  have O_a4_4 := R_IN_keep O_a4 Kc4 (own_nin (Ne.symm ne_a3_a4) List.not_mem_nil)
  have O_a5_4 := R_IN_keep O_a5 Kc4 (own_nin (Ne.symm ne_a3_a5) List.not_mem_nil)
  have O_a6_4 := R_IN_keep O_a6 Kc4 (own_nin (Ne.symm ne_a3_a6) List.not_mem_nil)
  have K4 := Keep.trans K0 Kc4 (own_memc (Or.inl (List.mem_of_getElem? (i := 0) rfl)) own_memn)
  have Z4 : n0 ≤ T4.heap.size := Nat.le_trans Z0 Kc4.1
  exact own_retV X4 hx hret hlk (hb hby d16_196) (by decide) (by decide) (by rw [(rfl : T4.heap = T4.heap)]; exact ⟨rfl, N4, K4, Rk4_0⟩)
theorem d38_165 : decode prog_7_method_65_code 165 = .ok (.aload 9, 2) := by decide +kernel
theorem d38_179 : decode prog_7_method_65_code 179 = .ok (.aload 11, 2) := by decide +kernel
theorem d38_241 : decode prog_7_method_65_code 241 = .ok (.aload_n 3, 1) := by decide +kernel
theorem d38_242 : decode prog_7_method_65_code 242 = .ok (.aload 7, 2) := by decide +kernel
theorem d38_244 : decode prog_7_method_65_code 244 = .ok (.putfield 214, 3) := by decide +kernel
theorem rm_addIfAbsent_53 (l : Launch) (Z : State) (a0 : Array Value) (hw : HW a0 Z) (a1 : Addr) (a2 : Addr) (a3 : Addr) (a4 : Addr) (i1 : Int32) (i2 : Int32) (i3 : Int32) (a5 : Addr) (a6 : Addr) (i4 : Int32) (h0 : Heap) (n0 : Nat) (Z0 : n0 ≤ h0.size) (O_a1 : R_MP Z h0 a1 .null (.ref a4) (.int 1) (.int i1)) (O_a2 : R_IN Z h0 a2 (.int i2)) (O_a3 : R_IN Z h0 a3 (.int i3)) (O_a4 : R_ND Z h0 a4 (.ref a5) (.ref a6) .null .null .null (.int 0)) (O_a5 : R_IN Z h0 a5 (.int i4)) (ne_a1_a2 : a1 ≠ a2) (ne_a1_a3 : a1 ≠ a3) (ne_a1_a4 : a1 ≠ a4) (ne_a1_a5 : a1 ≠ a5) (ne_a2_a4 : a2 ≠ a4) (ne_a3_a4 : a3 ≠ a4) (ne_a4_a5 : a4 ≠ a5) (g_a1 : n0 ≤ a1) (g_a4 : n0 ≤ a4) (hk0 : ¬ (i2 < i4)) (hk1 : ¬ (i2 = i4)) :
    CtrH l Y18 prog_7_method_65_code 15 (some (FieldType.object "com/example/rosewood/rosewood/RosewoodMap$Node")) [(71, 122, 210, 0), (137, 195, 210, 0), (210, 212, 210, 0)] ({ frames := 4, cells := 1, slots := 6, locals := 53 } : Room) Z #[(.ref a1), (.ref a2), (.ref a3)] h0 (fun v h L => ∃ f1, v = some .null ∧ Fr n0 L ∧ Keep h0 h [a1, a4] ∧ h0.size ≤ f1 ∧ R_MP Z h a1 .null (.ref a4) (.int 2) (.int (i1 + (1 : Int32))) ∧ R_ND Z h a4 (.ref a5) (.ref a6) .null (.ref f1) .null (.int 0) ∧ R_ND Z h f1 (.ref a2) (.ref a3) .null .null (.ref a4) (.int (-2147483648))) := by
  refine own_enterH pn_2 (fun p e s m below meth c s₁ hx hby hml hown hnm hret hlk hZ X0 e0 => ?_)
  have N0 := Fr.nil n0
  have K0 := Keep.refl h0 [a1, a4]
  rw [ef_38_RRR m _ _ _]
  show Go p e below (s₁.setTop (mkF m 0 #[vr a1, vr a2, vr a3, vu, vu, vu, vu, vu, vu, vu, vu, vu, vu, vu, vu] [])) _
  refine g_aloadN X0 hx (hb hby d38_0) rfl rfl ?_
  refine g_getF X0 hx hZ hown (Wd35 hw) e0 O_a1.2.2.1 (hb hby d38_1) (fun T1 X1 e1 => ?_)
  refine g_nonnullYes X1 hx 50 (hb hby d38_4) (by decide) (by decide) ?_
  refine g_null X1 hx (hb hby d38_50) ?_
  refine g_astoreN X1 hx #[vr a1, vr a2, vr a3, vn, vu, vu, vu, vu, vu, vu, vu, vu, vu, vu, vu] (hb hby d38_51) rfl rfl ?_
  refine g_iconst X1 hx (0 : Int32) (hb hby d38_52) (by decide) ?_
  refine g_istore X1 hx #[vr a1, vr a2, vr a3, vn, vi 0, vu, vu, vu, vu, vu, vu, vu, vu, vu, vu] (hb hby d38_53) rfl ?_
  refine g_aloadN X1 hx (hb hby d38_55) rfl rfl ?_
  refine g_getF X1 hx hZ hown (Wd35 hw) e1 O_a1.2.2.1 (hb hby d38_56) (fun T2 X2 e2 => ?_)
  refine g_astore X2 hx #[vr a1, vr a2, vr a3, vn, vi 0, vr a4, vu, vu, vu, vu, vu, vu, vu, vu, vu] (hb hby d38_59) rfl rfl ?_
  refine g_aload X2 hx (hb hby d38_61) rfl rfl ?_
  refine g_getF X2 hx hZ hown (Wd94 hw) e2 O_a4.2.1 (hb hby d38_63) (fun T3 X3 e3 => ?_)
  refine g_astore X3 hx #[vr a1, vr a2, vr a3, vn, vi 0, vr a4, vr a5, vu, vu, vu, vu, vu, vu, vu, vu] (hb hby d38_66) rfl rfl ?_
  refine g_null X3 hx (hb hby d38_68) ?_
  refine g_astore X3 hx #[vr a1, vr a2, vr a3, vn, vi 0, vr a4, vr a5, vn, vu, vu, vu, vu, vu, vu, vu] (hb hby d38_69) rfl rfl ?_
  refine g_aload X3 hx (hb hby d38_71) rfl rfl ?_
  refine g_nullNo X3 hx (hb hby d38_73) ?_
  refine g_aload X3 hx (hb hby d38_76) rfl rfl ?_
  refine g_getF X3 hx hZ hown (Wd95 hw) e3 O_a4.2.2.2.1 (hb hby d38_78) (fun T4 X4 e4 => ?_)
  refine g_astore X4 hx #[vr a1, vr a2, vr a3, vn, vi 0, vr a4, vr a5, vn, vn, vu, vu, vu, vu, vu, vu] (hb hby d38_81) rfl rfl ?_
  refine g_aload X4 hx (hb hby d38_83) rfl rfl ?_
  refine g_getF X4 hx hZ hown (Wd97 hw) e4 O_a4.2.2.2.2.1 (hb hby d38_85) (fun T5 X5 e5 => ?_)
  refine g_astore X5 hx #[vr a1, vr a2, vr a3, vn, vi 0, vr a4, vr a5, vn, vn, vn, vu, vu, vu, vu, vu] (hb hby d38_88) rfl rfl ?_
  refine g_aload X5 hx (hb hby d38_90) rfl rfl ?_
  refine g_call (own_callS X5 hx hZ (y := Y7) hown (Wd99 hw) (Wd100 hw) (Wd2 hw) (Wd101 hw) (by decide) (rm_keyOf_9 l Z a0 hw  h0 n0 Z0 ) e5 pd_6 (hb hby d38_92) (by rw [hml]; rfl) (argsL := [.null]) (rest := []) rfl rfl rfl (W := 0) (Nat.le_of_eq rfl) (by decide)) (fun v6 T6 L6 X6 q6 => ?_)
  obtain ⟨rfl, M6, e6⟩ := q6
  have N6 := Fr.app N0 M6
  refine g_astore X6 hx #[vr a1, vr a2, vr a3, vn, vi 0, vr a4, vr a5, vn, vn, vn, vn, vu, vu, vu, vu] (hb hby d38_95) rfl rfl ?_
  refine g_aload X6 hx (hb hby d38_97) rfl rfl ?_
  refine g_call (own_callS X6 hx hZ (y := Y7) hown (Wd99 hw) (Wd100 hw) (Wd2 hw) (Wd101 hw) (by decide) (rm_keyOf_9 l Z a0 hw  h0 n0 Z0 ) e6 pd_6 (hb hby d38_99) (by rw [hml]; rfl) (argsL := [.null]) (rest := []) rfl rfl rfl (W := 0) (Nat.le_of_eq rfl) (by decide)) (fun v7 T7 L7 X7 q7 => ?_)
  obtain ⟨rfl, M7, e7⟩ := q7
  have N7 := Fr.app N6 M7
  refine g_astore X7 hx #[vr a1, vr a2, vr a3, vn, vi 0, vr a4, vr a5, vn, vn, vn, vn, vn, vu, vu, vu] (hb hby d38_102) rfl rfl ?_
  refine g_aloadN X7 hx (hb hby d38_104) rfl rfl ?_
  refine g_aloadN X7 hx (hb hby d38_105) rfl rfl ?_
  refine g_aload X7 hx (hb hby d38_106) rfl rfl ?_
  refine g_call (own_callV X7 hx hZ (y := Y13) hown (Wd37 hw) (Wd38 hw) (Wd40 hw) (Wd39 hw) (Wd41 hw) (Wd2 hw) (by decide) (rm_compare_54 l Z a0 hw a1 a2 a5 a4 i1 i2 i4 h0 n0 Z0 O_a1 O_a2 O_a5 hk0 hk1) e7 O_a1.1 pd_11 (hb hby d38_108) (by rw [hml]; rfl) (argsL := [(.ref a2), (.ref a5)]) (rest := []) rfl rfl rfl (W := 0) (Nat.le_of_eq rfl) (by decide)) (fun v8 T8 L8 X8 q8 => ?_)
  obtain ⟨rfl, M8, e8⟩ := q8
  have N8 := Fr.app N7 M8
  refine g_istore X8 hx #[vr a1, vr a2, vr a3, vn, vi 0, vr a4, vr a5, vn, vn, vn, vn, vn, vi 1, vu, vu] (hb hby d38_111) rfl ?_
  refine g_iload X8 hx (hb hby d38_113) rfl ?_
  refine g_ifYes X8 hx 137 (hb hby d38_115) ((if0 _ _).trans (feq ((by decide) : ¬ ((1 : Int32) = (0 : Int32)))).2) (by decide) (by decide) ?_
  refine g_aload X8 hx (hb hby d38_137) rfl rfl ?_
  refine g_astoreN X8 hx #[vr a1, vr a2, vr a3, vr a4, vi 0, vr a4, vr a5, vn, vn, vn, vn, vn, vi 1, vu, vu] (hb hby d38_139) rfl rfl ?_
  refine g_iload X8 hx (hb hby d38_140) rfl ?_
  refine g_istore X8 hx #[vr a1, vr a2, vr a3, vr a4, vi 1, vr a4, vr a5, vn, vn, vn, vn, vn, vi 1, vu, vu] (hb hby d38_142) rfl ?_
  refine g_iload X8 hx (hb hby d38_144) rfl ?_
  refine g_ifYes X8 hx 155 (hb hby d38_146) ((if0 _ _).trans (flt ((by decide) : ¬ ((1 : Int32) < (0 : Int32)))).2.1) (by decide) (by decide) ?_
  refine g_iload X8 hx (hb hby d38_155) rfl ?_
  refine g_ifYes X8 hx 165 (hb hby d38_157) ((if0 _ _).trans (flt ((by decide) : ¬ ((1 : Int32) < (0 : Int32)))).2.1) (by decide) (by decide) ?_
  refine g_aload X8 hx (hb hby d38_165) rfl rfl ?_
  refine g_astore X8 hx #[vr a1, vr a2, vr a3, vr a4, vi 1, vn, vr a5, vn, vn, vn, vn, vn, vi 1, vu, vu] (hb hby d38_167) rfl rfl ?_
  refine g_iload X8 hx (hb hby d38_169) rfl ?_
  refine g_ifYes X8 hx 179 (hb hby d38_171) ((if0 _ _).trans (flt ((by decide) : ¬ ((1 : Int32) < (0 : Int32)))).2.1) (by decide) (by decide) ?_
  refine g_aload X8 hx (hb hby d38_179) rfl rfl ?_
  refine g_astore X8 hx #[vr a1, vr a2, vr a3, vr a4, vi 1, vn, vn, vn, vn, vn, vn, vn, vi 1, vu, vu] (hb hby d38_181) rfl rfl ?_
  refine g_goto X8 hx 71 (hb hby d38_183) (by decide) (by decide) ?_
  refine g_aload X8 hx (hb hby d38_71) rfl rfl ?_
  refine g_nullYes X8 hx 186 (hb hby d38_73) (by decide) (by decide) ?_
  refine g_aloadN X8 hx (hb hby d38_186) rfl rfl ?_
  refine g_aloadN X8 hx (hb hby d38_187) rfl rfl ?_
  refine g_aloadN X8 hx (hb hby d38_188) rfl rfl ?_
  refine g_aloadN X8 hx (hb hby d38_189) rfl rfl ?_
  refine g_call (own_callV X8 hx hZ (y := Y16) hown (Wd64 hw) (Wd65 hw) (Wd67 hw) (Wd66 hw) (Wd68 hw) (Wd2 hw) (by decide) (rm_newNode_37 l Z a0 hw a1 a2 a3 a4 h0 n0 Z0 ) e8 O_a1.1 pd_13 (hb hby d38_190) (by rw [hml]; rfl) (argsL := [(.ref a2), (.ref a3), (.ref a4)]) (rest := []) rfl rfl rfl (W := 0) (Nat.le_of_eq rfl) (by decide)) (fun v9 T9 L9 X9 q9 => ?_)
  obtain ⟨b9_0, rfl, M9, Kc9, zb9_0, Rk9_0⟩ := q9
  have N9 := Fr.app N8 M9
  have ne_a1_b9_0 : a1 ≠ b9_0 := Nat.ne_of_lt (Nat.lt_of_lt_of_le O_a1.1.lt zb9_0)
  have ne_a2_b9_0 : a2 ≠ b9_0 := Nat.ne_of_lt (Nat.lt_of_lt_of_le O_a2.1.lt zb9_0)
  have ne_a3_b9_0 : a3 ≠ b9_0 := Nat.ne_of_lt (Nat.lt_of_lt_of_le O_a3.1.lt zb9_0)
  have ne_a4_b9_0 : a4 ≠ b9_0 := Nat.ne_of_lt (Nat.lt_of_lt_of_le O_a4.1.lt zb9_0)
  have ne_a5_b9_0 : a5 ≠ b9_0 := Nat.ne_of_lt (Nat.lt_of_lt_of_le O_a5.1.lt zb9_0)
  have g_b9_0 : n0 ≤ b9_0 := Nat.le_trans Z0 zb9_0
  have sz_b9_0 : h0.size ≤ b9_0 := Nat.le_trans K0.1 zb9_0
  have O_a1_9 := R_MP_keep O_a1 Kc9 List.not_mem_nil
  have O_a2_9 := R_IN_keep O_a2 Kc9 List.not_mem_nil
  have O_a3_9 := R_IN_keep O_a3 Kc9 List.not_mem_nil
  have O_a4_9 := R_ND_keep O_a4 Kc9 List.not_mem_nil
  have O_a5_9 := R_IN_keep O_a5 Kc9 List.not_mem_nil
  have K9 := Keep.trans K0 Kc9 own_memn
  have Z9 : n0 ≤ T9.heap.size := Nat.le_trans Z0 Kc9.1
  refine g_astore X9 hx #[vr a1, vr a2, vr a3, vr a4, vi 1, vn, vn, vr b9_0, vn, vn, vn, vn, vi 1, vu, vu] (hb hby d38_193) rfl rfl ?_
  refine g_aload X9 hx (hb hby d38_195) rfl rfl ?_
  refine g_nonnullYes X9 hx 227 (hb hby d38_197) (by decide) (by decide) ?_
  refine g_iload X9 hx (hb hby d38_227) rfl ?_
  refine g_ifYes X9 hx 241 (hb hby d38_229) ((if0 _ _).trans (flt ((by decide) : ¬ ((1 : Int32) < (0 : Int32)))).2.1) (by decide) (by decide) ?_
  refine g_aloadN X9 hx (hb hby d38_241) rfl rfl ?_
  refine g_aload X9 hx (hb hby d38_242) rfl rfl ?_
  refine g_putF X9 hx hZ hown (Wd97 hw) (rfl : T9.heap = T9.heap) O_a4_9.2.2.2.2.1 O_a4_9.1 (Or.inl (Wd98 hw)) (Wd70 hw) fd_2 rfl rfl (hb hby d38_244) (fun T10 h10 X10 e10 W10 => ?_)
  have N10 := Fr.snoc X10 N9 g_a4
  have O_a1_10 := R_MP_other W10 O_a1_9 ne_a1_a4
  have O_a2_10 := R_IN_other W10 O_a2_9 ne_a2_a4
  have O_a3_10 := R_IN_other W10 O_a3_9 ne_a3_a4
  have O_a4_10 := R_ND_set_right hw W10 O_a4_9
  have O_a5_10 := R_IN_other W10 O_a5_9 (Ne.symm ne_a4_a5)
  have O_b9_0_10 := R_ND_other W10 Rk9_0 (Ne.symm ne_a4_b9_0)
  have Z10 : n0 ≤ h10.size := Nat.le_trans Z9 (Nat.le_of_eq W10.size.symm)
  have K10 := Keep.wr K9 W10 (Or.inl (List.mem_of_getElem? (i := 1) rfl))
  refine g_aloadN X10 hx (hb hby d38_247) rfl rfl ?_
  refine g_dup X10 hx (hb hby d38_248) rfl ?_
  refine g_getF X10 hx hZ hown (Wd90 hw) e10 O_a1_10.2.2.2.1 (hb hby d38_249) (fun T11 X11 e11 => ?_)
  refine g_iconst X11 hx (1 : Int32) (hb hby d38_252) (by decide) ?_
  refine g_iadd X11 hx (hb hby d38_253) ?_
  show Go p e below (T11.setTop (mkF m 254 #[vr a1, vr a2, vr a3, vr a4, vi 1, vn, vn, vr b9_0, vn, vn, vn, vn, vi 1, vu, vu] [(.int ((1 : Int32) + (1 : Int32))), (.ref a1)])) _
  rw [show ((1 : Int32) + (1 : Int32)) = (2 : Int32) from by decide]
  refine g_putF X11 hx hZ hown (Wd90 hw) e11 O_a1_10.2.2.2.1 O_a1_10.1 (Or.inl (Wd91 hw)) (Wd1 hw) fd_0 rfl rfl (hb hby d38_254) (fun T12 h12 X12 e12 W12 => ?_)
  have N12 := Fr.snoc X12 N10 g_a1
  have O_a1_12 := R_MP_set_size hw W12 O_a1_10
  have O_a2_12 := R_IN_other W12 O_a2_10 (Ne.symm ne_a1_a2)
  have O_a3_12 := R_IN_other W12 O_a3_10 (Ne.symm ne_a1_a3)
  have O_a4_12 := R_ND_other W12 O_a4_10 (Ne.symm ne_a1_a4)
  have O_a5_12 := R_IN_other W12 O_a5_10 (Ne.symm ne_a1_a5)
  have O_b9_0_12 := R_ND_other W12 O_b9_0_10 (Ne.symm ne_a1_b9_0)
  have Z12 : n0 ≤ h12.size := Nat.le_trans Z10 (Nat.le_of_eq W12.size.symm)
  have K12 := Keep.wr K10 W12 (Or.inl (List.mem_of_getElem? (i := 0) rfl))
  refine g_aloadN X12 hx (hb hby d38_257) rfl rfl ?_
  refine g_aloadN X12 hx (hb hby d38_258) rfl rfl ?_
  refine g_call (own_callV X12 hx hZ (y := Y23) hown (Wd102 hw) (Wd103 hw) (Wd105 hw) (Wd104 hw) (Wd106 hw) (Wd2 hw) (by decide) (rm_refreshToRoot_39 l Z a0 hw a1 a4 h12 n0 Z12 ) e12 O_a1_12.1 pd_18 (hb hby d38_259) (by rw [hml]; rfl) (argsL := [(.ref a4)]) (rest := []) rfl rfl rfl (W := 0) (Nat.le_of_eq rfl) (by decide)) (fun v13 T13 L13 X13 q13 => ?_)
  obtain ⟨rfl, M13, e13⟩ := q13
  have N13 := Fr.app N12 M13
  refine g_aloadN X13 hx (hb hby d38_262) rfl rfl ?_
  refine g_aload X13 hx (hb hby d38_263) rfl rfl ?_
  refine g_call (own_callP X13 hx hZ (y := Y25) hown (Wd107 hw) (Wd108 hw) (Wd109 hw) (Wd1 hw) (Wd110 hw) (Wd2 hw) (by decide) (rm_balanceAfterInsert_58 l Z a0 hw a1 b9_0 a4 i1 a2 a3 a5 a6 i2 i3 i4 h12 n0 Z12 O_a1_12 O_b9_0_12 O_a4_12 O_a2_12 O_a3_12 O_a5_12 ne_a1_a4 (Ne.symm ne_a4_b9_0) (Ne.symm ne_a2_a4) (Ne.symm ne_a3_a4) ne_a4_a5 g_a4 hk0 hk1) e13 O_a1_12.1 pd_18 (hb hby d38_265) (by rw [hml]; rfl) (argsL := [(.ref b9_0)]) (rest := []) rfl rfl rfl (W := 0) (Nat.le_of_eq rfl) (by decide)) (fun v14 T14 L14 X14 q14 => ?_)
  obtain ⟨rfl, M14, Kc14, Rk14_0⟩ := q14
  have N14 := Fr.app N13 M14
  have O_a1_14 := R_MP_keep O_a1_12 Kc14 (own_nin ne_a1_a4 List.not_mem_nil)
  have O_a2_14 := R_IN_keep O_a2_12 Kc14 (own_nin ne_a2_a4 List.not_mem_nil)
  have O_a3_14 := R_IN_keep O_a3_12 Kc14 (own_nin ne_a3_a4 List.not_mem_nil)
  have O_a5_14 := R_IN_keep O_a5_12 Kc14 (own_nin (Ne.symm ne_a4_a5) List.not_mem_nil)
  have O_b9_0_14 := R_ND_keep O_b9_0_12 Kc14 (own_nin (Ne.symm ne_a4_b9_0) List.not_mem_nil)
  have K14 := Keep.trans K12 Kc14 (own_memc (Or.inl (List.mem_of_getElem? (i := 1) rfl)) own_memn)
  have Z14 : n0 ≤ T14.heap.size := Nat.le_trans Z12 Kc14.1
  refine g_aloadN X14 hx (hb hby d38_268) rfl rfl ?_
  refine g_dup X14 hx (hb hby d38_269) rfl ?_
  refine g_getF X14 hx hZ hown (Wd92 hw) (rfl : T14.heap = T14.heap) O_a1_14.2.2.2.2 (hb hby d38_270) (fun T15 X15 e15 => ?_)
  refine g_iconst X15 hx (1 : Int32) (hb hby d38_273) (by decide) ?_
  refine g_iadd X15 hx (hb hby d38_274) ?_
  refine g_putF X15 hx hZ hown (Wd92 hw) e15 O_a1_14.2.2.2.2 O_a1_14.1 (Or.inl (Wd93 hw)) (Wd1 hw) fd_0 rfl rfl (hb hby d38_275) (fun T16 h16 X16 e16 W16 => ?_)
  have N16 := Fr.snoc X16 N14 g_a1
  have O_a1_16 := R_MP_set_modCount hw W16 O_a1_14
  have O_a2_16 := R_IN_other W16 O_a2_14 (Ne.symm ne_a1_a2)
  have O_a3_16 := R_IN_other W16 O_a3_14 (Ne.symm ne_a1_a3)
  have O_a5_16 := R_IN_other W16 O_a5_14 (Ne.symm ne_a1_a5)
  have O_b9_0_16 := R_ND_other W16 O_b9_0_14 (Ne.symm ne_a1_b9_0)
  have O_a4_16 := R_ND_other W16 Rk14_0 (Ne.symm ne_a1_a4)
  have Z16 : n0 ≤ h16.size := Nat.le_trans Z14 (Nat.le_of_eq W16.size.symm)
  have K16 := Keep.wr K14 W16 (Or.inl (List.mem_of_getElem? (i := 0) rfl))
  refine g_null X16 hx (hb hby d38_278) ?_
  exact own_retA X16 hx hret hlk rfl rfl (hb hby d38_279) (by decide) (by decide) (by rw [e16]; exact ⟨b9_0, rfl, N16, K16, sz_b9_0, O_a1_16, O_a4_16, O_b9_0_16⟩)
theorem rm_put_52 (l : Launch) (Z : State) (a0 : Array Value) (hw : HW a0 Z) (a1 : Addr) (a2 : Addr) (a3 : Addr) (a4 : Addr) (i1 : Int32) (i2 : Int32) (i3 : Int32) (a5 : Addr) (a6 : Addr) (i4 : Int32) (h0 : Heap) (n0 : Nat) (Z0 : n0 ≤ h0.size) (O_a1 : R_MP Z h0 a1 .null (.ref a4) (.int 1) (.int i1)) (O_a2 : R_IN Z h0 a2 (.int i2)) (O_a3 : R_IN Z h0 a3 (.int i3)) (O_a4 : R_ND Z h0 a4 (.ref a5) (.ref a6) .null .null .null (.int 0)) (O_a5 : R_IN Z h0 a5 (.int i4)) (ne_a1_a2 : a1 ≠ a2) (ne_a1_a3 : a1 ≠ a3) (ne_a1_a4 : a1 ≠ a4) (ne_a1_a5 : a1 ≠ a5) (ne_a2_a4 : a2 ≠ a4) (ne_a3_a4 : a3 ≠ a4) (ne_a4_a5 : a4 ≠ a5) (g_a1 : n0 ≤ a1) (g_a4 : n0 ≤ a4) (hk0 : ¬ (i2 < i4)) (hk1 : ¬ (i2 = i4)) :
    Ctr l Y19 prog_7_method_8_code 4 (some (FieldType.object "java/lang/Object")) [] ({ frames := 5, cells := 1, slots := 6, locals := 79 } : Room) Z #[(.ref a1), (.ref a2), (.ref a3)] h0 (fun v h L => ∃ f1, v = some .null ∧ Fr n0 L ∧ Keep h0 h [a1, a4] ∧ h0.size ≤ f1 ∧ R_MP Z h a1 .null (.ref a4) (.int 2) (.int (i1 + (1 : Int32))) ∧ R_ND Z h a4 (.ref a5) (.ref a6) .null (.ref f1) .null (.int 0) ∧ R_ND Z h f1 (.ref a2) (.ref a3) .null .null (.ref a4) (.int (-2147483648))) := by
  refine own_enter pn_2 (fun p e s m below meth c s₁ hx hby hml hown hnm hret hlk hZ X0 e0 => ?_)
  have N0 := Fr.nil n0
  have K0 := Keep.refl h0 [a1, a4]
  rw [ef_6_RRR m _ _ _]
  show Go p e below (s₁.setTop (mkF m 0 #[vr a1, vr a2, vr a3, vu] [])) _
  refine g_aloadN X0 hx (hb hby d6_0) rfl rfl ?_
  refine g_aloadN X0 hx (hb hby d6_1) rfl rfl ?_
  refine g_aloadN X0 hx (hb hby d6_2) rfl rfl ?_
  refine g_call (own_callPH X0 hx hZ (y := Y18) hown (Wd31 hw) (Wd32 hw) (Wd33 hw) (Wd1 hw) (Wd34 hw) (Wd2 hw) (by decide) (rm_addIfAbsent_53 l Z a0 hw a1 a2 a3 a4 i1 i2 i3 a5 a6 i4 h0 n0 Z0 O_a1 O_a2 O_a3 O_a4 O_a5 ne_a1_a2 ne_a1_a3 ne_a1_a4 ne_a1_a5 ne_a2_a4 ne_a3_a4 ne_a4_a5 g_a1 g_a4 hk0 hk1) e0 O_a1.1 pd_15 (hb hby d6_3) (by rw [hml]; rfl) (argsL := [(.ref a2), (.ref a3)]) (rest := []) rfl rfl rfl (W := 0) (Nat.le_of_eq rfl) (by decide)) (fun v1 T1 L1 X1 q1 => ?_)
  obtain ⟨b1_0, rfl, M1, Kc1, zb1_0, Rk1_0, Rk1_1, Rk1_2⟩ := q1
  have N1 := Fr.app N0 M1
  have ne_a1_b1_0 : a1 ≠ b1_0 := Nat.ne_of_lt (Nat.lt_of_lt_of_le O_a1.1.lt zb1_0)
  have ne_a2_b1_0 : a2 ≠ b1_0 := Nat.ne_of_lt (Nat.lt_of_lt_of_le O_a2.1.lt zb1_0)
  have ne_a3_b1_0 : a3 ≠ b1_0 := Nat.ne_of_lt (Nat.lt_of_lt_of_le O_a3.1.lt zb1_0)
  have ne_a4_b1_0 : a4 ≠ b1_0 := Nat.ne_of_lt (Nat.lt_of_lt_of_le O_a4.1.lt zb1_0)
  have ne_a5_b1_0 : a5 ≠ b1_0 := Nat.ne_of_lt (Nat.lt_of_lt_of_le O_a5.1.lt zb1_0)
  have g_b1_0 : n0 ≤ b1_0 := Nat.le_trans Z0 zb1_0
  have sz_b1_0 : h0.size ≤ b1_0 := Nat.le_trans K0.1 zb1_0
  have O_a2_1 := R_IN_keep O_a2 Kc1 (own_nin (Ne.symm ne_a1_a2) (own_nin ne_a2_a4 List.not_mem_nil))
  have O_a3_1 := R_IN_keep O_a3 Kc1 (own_nin (Ne.symm ne_a1_a3) (own_nin ne_a3_a4 List.not_mem_nil))
  have O_a5_1 := R_IN_keep O_a5 Kc1 (own_nin (Ne.symm ne_a1_a5) (own_nin (Ne.symm ne_a4_a5) List.not_mem_nil))
  have K1 := Keep.trans K0 Kc1 (own_memc (Or.inl (List.mem_of_getElem? (i := 0) rfl)) (own_memc (Or.inl (List.mem_of_getElem? (i := 1) rfl)) own_memn))
  have Z1 : n0 ≤ T1.heap.size := Nat.le_trans Z0 Kc1.1
  refine g_astoreN X1 hx #[vr a1, vr a2, vr a3, vn] (hb hby d6_6) rfl rfl ?_
  refine g_aloadN X1 hx (hb hby d6_7) rfl rfl ?_
  refine g_nonnullNo X1 hx (hb hby d6_8) ?_
  refine g_null X1 hx (hb hby d6_11) ?_
  refine g_goto X1 hx 21 (hb hby d6_12) (by decide) (by decide) ?_
  exact own_retA X1 hx hret hlk rfl rfl (hb hby d6_21) (by decide) (by decide) (by rw [(rfl : T1.heap = T1.heap)]; exact ⟨b1_0, rfl, N1, K1, sz_b1_0, Rk1_0, Rk1_1, Rk1_2⟩)
theorem seg_57_1 (l : Launch) (Z : State) (a0 : Array Value) (hw : HW a0 Z) (wc : Addr) (clc : Cell) (p1 : Int32) (p2 : Int32) (p3 : Int32) (p4 : Int32) (p5 : Int32) (p6 : Int32) (n : Int32) (M : Addr) (mc : Int32) (r : Addr) (kx : Addr) (vx : Addr) (x : Int32) (h0 : Heap) (n0 : Nat) (Z0 : n0 ≤ h0.size) (hN : Z.heap.size ≤ n0) (C1 : Sta Z Z.heap "java/lang/Integer$IntegerCache" "high" "I" (.int 127)) (C2 : Sta Z Z.heap "java/lang/Integer$IntegerCache" "cache" "[Ljava/lang/Integer;" (.ref wc)) (BX : Bxs Z wc clc "java/lang/Integer" "I" (256 : Int32) (fun j => .int (j - (128 : Int32)))) (KO : Keep Z.heap h0 []) (O_M : R_MP Z h0 M .null (.ref r) (.int 1) (.int mc)) (O_r : R_ND Z h0 r (.ref kx) (.ref vx) .null .null .null (.int 0)) (O_kx : R_IN Z h0 kx (.int x)) (ne_M_r : M ≠ r) (ne_M_kx : M ≠ kx) (ne_r_kx : r ≠ kx) (g_M : n0 ≤ M) (g_r : n0 ≤ r) {p : Program} {e : Env} {s : State} {m : MethodId} {below : List Frame} {meth : Method} {c : Code} {args : Array Value} {s₁ : State} {lo : List Loc} (hx : p.tables.exec = Jvm.exec) (hby : c.code = code) (hml : c.maxLocals = maxLocals) (hown : s.vm.findClass "com/example/rosewood/rosewood/RosewoodMapClearPinLaw" = some m.cls) (hnm : meth.name = "law") (hret : meth.sig.returnType = ret) (hlk : meth.locks = false) (hZ : Z.Warmed39 s.vm) (X0 : Stand p l e room_1 s m args below meth c s₁ lo 7 23) (e0 : s₁.heap = h0) (N0 : Fr n0 lo) :
    Go p e below (s₁.setTop (mkF m 57 #[vi p1, vi p2, vi p3, vi p4, vi p5, vi p6, vi n, vr M, vu, vu, vu, vu, vu] [])) (FinE s room_1.cells room_1.slots (fun v h L => v = some (.int 1) ∧ Fr n0 L)) := by
  show Go p e below (s₁.setTop (mkF m 57 #[vi p1, vi p2, vi p3, vi p4, vi p5, vi p6, vi n, vr M, vu, vu, vu, vu, vu] [])) _
  refine g_iload X0 hx (hb hby at_57) rfl ?_
  refine g_iconst X0 hx (3 : Int32) (hb hby at_59) (by decide) ?_
  by_cases c60_1 : n < (3 : Int32)
  · refine g_icmpYes X0 hx 78 (hb hby at_60) (tlt c60_1).1 (by decide) (by decide) ?_
    show Go p e below (s₁.setTop (mkF m 78 #[vi p1, vi p2, vi p3, vi p4, vi p5, vi p6, vi n, vr M, vu, vu, vu, vu, vu] [])) _
    exact seg_78_N l Z a0 hw wc clc p1 p2 p3 p4 p5 p6 n M mc r (1 : Int32) h0 n0 Z0 hN C1 C2 BX KO O_M g_M hx hby hml hown hnm hret hlk hZ (Stand.more X0 (by decide) (by decide)) e0 N0
  · refine g_icmpNo X0 hx (hb hby at_60) (flt c60_1).1 ?_
    show Go p e below (s₁.setTop (mkF m 63 #[vi p1, vi p2, vi p3, vi p4, vi p5, vi p6, vi n, vr M, vu, vu, vu, vu, vu] [])) _
    rcases own_tri p3 x with t63_2 | ⟨t63_2, t63_2'⟩ | ⟨t63_2, t63_2'⟩
    · refine g_aload X0 hx (hb hby at_63) rfl rfl ?_
      refine g_iloadN X0 hx (hb hby at_65) rfl ?_
      refine g_call (own_callS X0 hx hZ (y := Y2) hown (Wd19 hw) (Wd20 hw) (Wd21 hw) (Wd22 hw) (by decide) (rm_valueOf l Z a0 hw wc clc p3 h0 n0 Z0 hN C1 C2 BX KO) e0 pd_4 (hb hby at_66) (by rw [hml]; rfl) (argsL := [(.int p3)]) (rest := [(.ref M)]) rfl rfl rfl (W := 1) (Nat.le_of_eq rfl) (by decide)) (fun v3 T3 L3 X3 q3 => ?_)
      obtain ⟨b3, rfl, M3, Kc3, O3⟩ := q3
      have N3 := Fr.app N0 M3
      have O_M_3 := R_MP_keep O_M Kc3 List.not_mem_nil
      have O_r_3 := R_ND_keep O_r Kc3 List.not_mem_nil
      have O_kx_3 := R_IN_keep O_kx Kc3 List.not_mem_nil
      have KO_3 := Keep.trans KO Kc3 own_memn
      have ne_M_b3 : M ≠ b3 := own_exane O_M_3.1 O3.1 (by decide)
      have ne_r_b3 : r ≠ b3 := own_exane O_r_3.1 O3.1 (by decide)
      have Z3 : n0 ≤ T3.heap.size := Nat.le_trans Z0 Kc3.1
      refine g_iload X3 hx (hb hby at_69) rfl ?_
      refine g_call (own_callS X3 hx hZ (y := Y2) hown (Wd19 hw) (Wd20 hw) (Wd21 hw) (Wd22 hw) (by decide) (rm_valueOf l Z a0 hw wc clc p5 T3.heap n0 Z3 hN C1 C2 BX KO_3) (rfl : T3.heap = T3.heap) pd_4 (hb hby at_71) (by rw [hml]; rfl) (argsL := [(.int p5)]) (rest := [(.ref b3), (.ref M)]) rfl rfl rfl (W := 2) (Nat.le_of_eq rfl) (by decide)) (fun v4 T4 L4 X4 q4 => ?_)
      obtain ⟨b4, rfl, M4, Kc4, O4⟩ := q4
      have N4 := Fr.app N3 M4
      have O_M_4 := R_MP_keep O_M_3 Kc4 List.not_mem_nil
      have O_r_4 := R_ND_keep O_r_3 Kc4 List.not_mem_nil
      have O_kx_4 := R_IN_keep O_kx_3 Kc4 List.not_mem_nil
      have KO_4 := Keep.trans KO_3 Kc4 own_memn
      have O_b3_4 := R_IN_keep O3 Kc4 List.not_mem_nil
      have ne_M_b4 : M ≠ b4 := own_exane O_M_4.1 O4.1 (by decide)
      have ne_r_b4 : r ≠ b4 := own_exane O_r_4.1 O4.1 (by decide)
      have Z4 : n0 ≤ T4.heap.size := Nat.le_trans Z3 Kc4.1
      refine g_call (own_callV X4 hx hZ (y := Y19) hown (Wd26 hw) (Wd27 hw) (Wd29 hw) (Wd28 hw) (Wd30 hw) (Wd2 hw) (by decide) (rm_put_30 l Z a0 hw M b3 b4 r mc p3 p5 kx vx x T4.heap n0 Z4 O_M_4 O_b3_4 O4 O_r_4 O_kx_4 ne_M_b3 ne_M_b4 ne_M_r ne_M_kx (Ne.symm ne_r_b3) (Ne.symm ne_r_b4) ne_r_kx g_M g_r t63_2) (rfl : T4.heap = T4.heap) O_M_4.1 pd_16 (hb hby at_74) (by rw [hml]; rfl) (argsL := [(.ref b3), (.ref b4)]) (rest := []) rfl rfl rfl (W := 0) (Nat.le_of_eq rfl) (by decide)) (fun v5 T5 L5 X5 q5 => ?_)
      obtain ⟨b5_0, rfl, M5, Kc5, zb5_0, Rk5_0, Rk5_1, Rk5_2⟩ := q5
      have N5 := Fr.app N4 M5
      have ne_M_b5_0 : M ≠ b5_0 := Nat.ne_of_lt (Nat.lt_of_lt_of_le O_M_4.1.lt zb5_0)
      have ne_r_b5_0 : r ≠ b5_0 := Nat.ne_of_lt (Nat.lt_of_lt_of_le O_r_4.1.lt zb5_0)
      have ne_kx_b5_0 : kx ≠ b5_0 := Nat.ne_of_lt (Nat.lt_of_lt_of_le O_kx_4.1.lt zb5_0)
      have ne_b3_b5_0 : b3 ≠ b5_0 := Nat.ne_of_lt (Nat.lt_of_lt_of_le O_b3_4.1.lt zb5_0)
      have ne_b4_b5_0 : b4 ≠ b5_0 := Nat.ne_of_lt (Nat.lt_of_lt_of_le O4.1.lt zb5_0)
      have g_b5_0 : n0 ≤ b5_0 := Nat.le_trans Z4 zb5_0
      have O_kx_5 := R_IN_keep O_kx_4 Kc5 (own_nin (Ne.symm ne_M_kx) (own_nin (Ne.symm ne_r_kx) List.not_mem_nil))
      have KO_5 := Keep.trans KO_4 Kc5 (own_memc (Or.inr (Nat.le_trans hN g_M)) (own_memc (Or.inr (Nat.le_trans hN g_r)) own_memn))
      have O_b3_5 := R_IN_keep O_b3_4 Kc5 (own_nin (Ne.symm ne_M_b3) (own_nin (Ne.symm ne_r_b3) List.not_mem_nil))
      have O_b4_5 := R_IN_keep O4 Kc5 (own_nin (Ne.symm ne_M_b4) (own_nin (Ne.symm ne_r_b4) List.not_mem_nil))
      have Z5 : n0 ≤ T5.heap.size := Nat.le_trans Z4 Kc5.1
      refine g_pop X5 hx (hb hby at_77) rfl ?_
      show Go p e below (T5.setTop (mkF m 78 #[vi p1, vi p2, vi p3, vi p4, vi p5, vi p6, vi n, vr M, vu, vu, vu, vu, vu] [])) _
      exact seg_78_N l Z a0 hw wc clc p1 p2 p3 p4 p5 p6 n M (mc + (1 : Int32)) r (2 : Int32) T5.heap n0 Z5 hN C1 C2 BX KO_5 Rk5_0 g_M hx hby hml hown hnm hret hlk hZ (Stand.more X5 (by decide) (by decide)) (rfl : T5.heap = T5.heap) N5
    · refine g_aload X0 hx (hb hby at_63) rfl rfl ?_
      refine g_iloadN X0 hx (hb hby at_65) rfl ?_
      refine g_call (own_callS X0 hx hZ (y := Y2) hown (Wd19 hw) (Wd20 hw) (Wd21 hw) (Wd22 hw) (by decide) (rm_valueOf l Z a0 hw wc clc p3 h0 n0 Z0 hN C1 C2 BX KO) e0 pd_4 (hb hby at_66) (by rw [hml]; rfl) (argsL := [(.int p3)]) (rest := [(.ref M)]) rfl rfl rfl (W := 1) (Nat.le_of_eq rfl) (by decide)) (fun v6 T6 L6 X6 q6 => ?_)
      obtain ⟨b6, rfl, M6, Kc6, O6⟩ := q6
      have N6 := Fr.app N0 M6
      have O_M_6 := R_MP_keep O_M Kc6 List.not_mem_nil
      have O_r_6 := R_ND_keep O_r Kc6 List.not_mem_nil
      have O_kx_6 := R_IN_keep O_kx Kc6 List.not_mem_nil
      have KO_6 := Keep.trans KO Kc6 own_memn
      have ne_M_b6 : M ≠ b6 := own_exane O_M_6.1 O6.1 (by decide)
      have ne_r_b6 : r ≠ b6 := own_exane O_r_6.1 O6.1 (by decide)
      have Z6 : n0 ≤ T6.heap.size := Nat.le_trans Z0 Kc6.1
      refine g_iload X6 hx (hb hby at_69) rfl ?_
      refine g_call (own_callS X6 hx hZ (y := Y2) hown (Wd19 hw) (Wd20 hw) (Wd21 hw) (Wd22 hw) (by decide) (rm_valueOf l Z a0 hw wc clc p5 T6.heap n0 Z6 hN C1 C2 BX KO_6) (rfl : T6.heap = T6.heap) pd_4 (hb hby at_71) (by rw [hml]; rfl) (argsL := [(.int p5)]) (rest := [(.ref b6), (.ref M)]) rfl rfl rfl (W := 2) (Nat.le_of_eq rfl) (by decide)) (fun v7 T7 L7 X7 q7 => ?_)
      obtain ⟨b7, rfl, M7, Kc7, O7⟩ := q7
      have N7 := Fr.app N6 M7
      have O_M_7 := R_MP_keep O_M_6 Kc7 List.not_mem_nil
      have O_r_7 := R_ND_keep O_r_6 Kc7 List.not_mem_nil
      have O_kx_7 := R_IN_keep O_kx_6 Kc7 List.not_mem_nil
      have KO_7 := Keep.trans KO_6 Kc7 own_memn
      have O_b6_7 := R_IN_keep O6 Kc7 List.not_mem_nil
      have ne_M_b7 : M ≠ b7 := own_exane O_M_7.1 O7.1 (by decide)
      have ne_r_b7 : r ≠ b7 := own_exane O_r_7.1 O7.1 (by decide)
      have Z7 : n0 ≤ T7.heap.size := Nat.le_trans Z6 Kc7.1
      refine g_call (own_callV X7 hx hZ (y := Y19) hown (Wd26 hw) (Wd27 hw) (Wd29 hw) (Wd28 hw) (Wd30 hw) (Wd2 hw) (by decide) (rm_put_43 l Z a0 hw M b6 b7 r mc p3 p5 kx vx x T7.heap n0 Z7 O_M_7 O_b6_7 O7 O_r_7 O_kx_7 ne_M_r (Ne.symm ne_r_b6) (Ne.symm ne_r_b7) ne_r_kx g_r t63_2 t63_2') (rfl : T7.heap = T7.heap) O_M_7.1 pd_16 (hb hby at_74) (by rw [hml]; rfl) (argsL := [(.ref b6), (.ref b7)]) (rest := []) rfl rfl rfl (W := 0) (Nat.le_of_eq rfl) (by decide)) (fun v8 T8 L8 X8 q8 => ?_)
      obtain ⟨rfl, M8, Kc8, Rk8_0⟩ := q8
      have N8 := Fr.app N7 M8
      have O_M_8 := R_MP_keep O_M_7 Kc8 (own_nin ne_M_r List.not_mem_nil)
      have O_kx_8 := R_IN_keep O_kx_7 Kc8 (own_nin (Ne.symm ne_r_kx) List.not_mem_nil)
      have KO_8 := Keep.trans KO_7 Kc8 (own_memc (Or.inr (Nat.le_trans hN g_r)) own_memn)
      have O_b6_8 := R_IN_keep O_b6_7 Kc8 (own_nin (Ne.symm ne_r_b6) List.not_mem_nil)
      have O_b7_8 := R_IN_keep O7 Kc8 (own_nin (Ne.symm ne_r_b7) List.not_mem_nil)
      have Z8 : n0 ≤ T8.heap.size := Nat.le_trans Z7 Kc8.1
      refine g_pop X8 hx (hb hby at_77) rfl ?_
      show Go p e below (T8.setTop (mkF m 78 #[vi p1, vi p2, vi p3, vi p4, vi p5, vi p6, vi n, vr M, vu, vu, vu, vu, vu] [])) _
      exact seg_78_N l Z a0 hw wc clc p1 p2 p3 p4 p5 p6 n M mc r (1 : Int32) T8.heap n0 Z8 hN C1 C2 BX KO_8 O_M_8 g_M hx hby hml hown hnm hret hlk hZ (Stand.more X8 (by decide) (by decide)) (rfl : T8.heap = T8.heap) N8
    · refine g_aload X0 hx (hb hby at_63) rfl rfl ?_
      refine g_iloadN X0 hx (hb hby at_65) rfl ?_
      refine g_call (own_callS X0 hx hZ (y := Y2) hown (Wd19 hw) (Wd20 hw) (Wd21 hw) (Wd22 hw) (by decide) (rm_valueOf l Z a0 hw wc clc p3 h0 n0 Z0 hN C1 C2 BX KO) e0 pd_4 (hb hby at_66) (by rw [hml]; rfl) (argsL := [(.int p3)]) (rest := [(.ref M)]) rfl rfl rfl (W := 1) (Nat.le_of_eq rfl) (by decide)) (fun v9 T9 L9 X9 q9 => ?_)
      obtain ⟨b9, rfl, M9, Kc9, O9⟩ := q9
      have N9 := Fr.app N0 M9
      have O_M_9 := R_MP_keep O_M Kc9 List.not_mem_nil
      have O_r_9 := R_ND_keep O_r Kc9 List.not_mem_nil
      have O_kx_9 := R_IN_keep O_kx Kc9 List.not_mem_nil
      have KO_9 := Keep.trans KO Kc9 own_memn
      have ne_M_b9 : M ≠ b9 := own_exane O_M_9.1 O9.1 (by decide)
      have ne_r_b9 : r ≠ b9 := own_exane O_r_9.1 O9.1 (by decide)
      have Z9 : n0 ≤ T9.heap.size := Nat.le_trans Z0 Kc9.1
      refine g_iload X9 hx (hb hby at_69) rfl ?_
      refine g_call (own_callS X9 hx hZ (y := Y2) hown (Wd19 hw) (Wd20 hw) (Wd21 hw) (Wd22 hw) (by decide) (rm_valueOf l Z a0 hw wc clc p5 T9.heap n0 Z9 hN C1 C2 BX KO_9) (rfl : T9.heap = T9.heap) pd_4 (hb hby at_71) (by rw [hml]; rfl) (argsL := [(.int p5)]) (rest := [(.ref b9), (.ref M)]) rfl rfl rfl (W := 2) (Nat.le_of_eq rfl) (by decide)) (fun v10 T10 L10 X10 q10 => ?_)
      obtain ⟨b10, rfl, M10, Kc10, O10⟩ := q10
      have N10 := Fr.app N9 M10
      have O_M_10 := R_MP_keep O_M_9 Kc10 List.not_mem_nil
      have O_r_10 := R_ND_keep O_r_9 Kc10 List.not_mem_nil
      have O_kx_10 := R_IN_keep O_kx_9 Kc10 List.not_mem_nil
      have KO_10 := Keep.trans KO_9 Kc10 own_memn
      have O_b9_10 := R_IN_keep O9 Kc10 List.not_mem_nil
      have ne_M_b10 : M ≠ b10 := own_exane O_M_10.1 O10.1 (by decide)
      have ne_r_b10 : r ≠ b10 := own_exane O_r_10.1 O10.1 (by decide)
      have Z10 : n0 ≤ T10.heap.size := Nat.le_trans Z9 Kc10.1
      refine g_call (own_callV X10 hx hZ (y := Y19) hown (Wd26 hw) (Wd27 hw) (Wd29 hw) (Wd28 hw) (Wd30 hw) (Wd2 hw) (by decide) (rm_put_52 l Z a0 hw M b9 b10 r mc p3 p5 kx vx x T10.heap n0 Z10 O_M_10 O_b9_10 O10 O_r_10 O_kx_10 ne_M_b9 ne_M_b10 ne_M_r ne_M_kx (Ne.symm ne_r_b9) (Ne.symm ne_r_b10) ne_r_kx g_M g_r t63_2 t63_2') (rfl : T10.heap = T10.heap) O_M_10.1 pd_16 (hb hby at_74) (by rw [hml]; rfl) (argsL := [(.ref b9), (.ref b10)]) (rest := []) rfl rfl rfl (W := 0) (Nat.le_of_eq rfl) (by decide)) (fun v11 T11 L11 X11 q11 => ?_)
      obtain ⟨b11_0, rfl, M11, Kc11, zb11_0, Rk11_0, Rk11_1, Rk11_2⟩ := q11
      have N11 := Fr.app N10 M11
      have ne_M_b11_0 : M ≠ b11_0 := Nat.ne_of_lt (Nat.lt_of_lt_of_le O_M_10.1.lt zb11_0)
      have ne_r_b11_0 : r ≠ b11_0 := Nat.ne_of_lt (Nat.lt_of_lt_of_le O_r_10.1.lt zb11_0)
      have ne_kx_b11_0 : kx ≠ b11_0 := Nat.ne_of_lt (Nat.lt_of_lt_of_le O_kx_10.1.lt zb11_0)
      have ne_b9_b11_0 : b9 ≠ b11_0 := Nat.ne_of_lt (Nat.lt_of_lt_of_le O_b9_10.1.lt zb11_0)
      have ne_b10_b11_0 : b10 ≠ b11_0 := Nat.ne_of_lt (Nat.lt_of_lt_of_le O10.1.lt zb11_0)
      have g_b11_0 : n0 ≤ b11_0 := Nat.le_trans Z10 zb11_0
      have O_kx_11 := R_IN_keep O_kx_10 Kc11 (own_nin (Ne.symm ne_M_kx) (own_nin (Ne.symm ne_r_kx) List.not_mem_nil))
      have KO_11 := Keep.trans KO_10 Kc11 (own_memc (Or.inr (Nat.le_trans hN g_M)) (own_memc (Or.inr (Nat.le_trans hN g_r)) own_memn))
      have O_b9_11 := R_IN_keep O_b9_10 Kc11 (own_nin (Ne.symm ne_M_b9) (own_nin (Ne.symm ne_r_b9) List.not_mem_nil))
      have O_b10_11 := R_IN_keep O10 Kc11 (own_nin (Ne.symm ne_M_b10) (own_nin (Ne.symm ne_r_b10) List.not_mem_nil))
      have Z11 : n0 ≤ T11.heap.size := Nat.le_trans Z10 Kc11.1
      refine g_pop X11 hx (hb hby at_77) rfl ?_
      show Go p e below (T11.setTop (mkF m 78 #[vi p1, vi p2, vi p3, vi p4, vi p5, vi p6, vi n, vr M, vu, vu, vu, vu, vu] [])) _
      exact seg_78_N l Z a0 hw wc clc p1 p2 p3 p4 p5 p6 n M (mc + (1 : Int32)) r (2 : Int32) T11.heap n0 Z11 hN C1 C2 BX KO_11 Rk11_0 g_M hx hby hml hown hnm hret hlk hZ (Stand.more X11 (by decide) (by decide)) (rfl : T11.heap = T11.heap) N11
theorem rm_keyOf_63 (l : Launch) (Z : State) (a0 : Array Value) (hw : HW a0 Z) (a1 : Addr) (a2 : Addr) (a3 : Addr) (a4 : Addr) (h0 : Heap) (n0 : Nat) (Z0 : n0 ≤ h0.size) (O_a1 : R_ND Z h0 a1 (.ref a2) (.ref a3) .null .null (.ref a4) (.int (-2147483648))) :
    Ctr l Y7 prog_7_method_76_code 1 (some (FieldType.object "java/lang/Object")) [] ({ frames := 0, cells := 0, slots := 0, locals := 0 } : Room) Z #[(.ref a1)] h0 (fun v h L => v = some (.ref a2) ∧ Fr n0 L ∧ h = h0) := by
  refine own_enter pn_2 (fun p e s m below meth c s₁ hx hby hml hown hnm hret hlk hZ X0 e0 => ?_)
  have N0 := Fr.nil n0
  have K0 := Keep.refl h0 []
  rw [ef_14_R m _]
  show Go p e below (s₁.setTop (mkF m 0 #[vr a1] [])) _
  refine g_aloadN X0 hx (hb hby d14_0) rfl rfl ?_
  refine g_nonnullYes X0 hx 8 (hb hby d14_1) (by decide) (by decide) ?_
  refine g_aloadN X0 hx (hb hby d14_8) rfl rfl ?_
  refine g_getF X0 hx hZ hown (Wd94 hw) e0 O_a1.2.1 (hb hby d14_9) (fun T1 X1 e1 => ?_)
  exact own_retA X1 hx hret hlk rfl rfl (hb hby d14_12) (by decide) (by decide) ⟨rfl, N0, e1⟩
theorem rm_compare_64 (l : Launch) (Z : State) (a0 : Array Value) (hw : HW a0 Z) (a1 : Addr) (a2 : Addr) (a3 : Addr) (a4 : Addr) (i1 : Int32) (i2 : Int32) (i3 : Int32) (h0 : Heap) (n0 : Nat) (Z0 : n0 ≤ h0.size) (O_a1 : R_MP Z h0 a1 .null (.ref a4) (.int 2) (.int i1)) (O_a2 : R_IN Z h0 a2 (.int i2)) (O_a3 : R_IN Z h0 a3 (.int i3)) (hk0 : i2 < i3) :
    Ctr l Y13 prog_7_method_72_code 3 (some FieldType.int) [] ({ frames := 3, cells := 0, slots := 0, locals := 39 } : Room) Z #[(.ref a1), (.ref a2), (.ref a3)] h0 (fun v h L => v = some (.int (-1)) ∧ Fr n0 L ∧ h = h0) := by
  refine own_enter pn_2 (fun p e s m below meth c s₁ hx hby hml hown hnm hret hlk hZ X0 e0 => ?_)
  have N0 := Fr.nil n0
  have K0 := Keep.refl h0 []
  rw [ef_7_RRR m _ _ _]
  show Go p e below (s₁.setTop (mkF m 0 #[vr a1, vr a2, vr a3] [])) _
  refine g_aloadN X0 hx (hb hby d7_0) rfl rfl ?_
  refine g_getF X0 hx hZ hown (Wd17 hw) e0 O_a1.2.1 (hb hby d7_1) (fun T1 X1 e1 => ?_)
  refine g_nonnullNo X1 hx (hb hby d7_4) ?_
  refine g_aloadN X1 hx (hb hby d7_7) rfl rfl ?_
  refine g_cast X1 hx hZ hown (Wd42 hw) e1 (Ins.of_exa O_a2.1 (Wd43 hw)) (hb hby d7_8) (fun T2 X2 e2 => ?_)
  refine g_aloadN X2 hx (hb hby d7_11) rfl rfl ?_
  refine g_call (own_callF X2 hx hZ (xi := Y14) (y := Y12) hown (Wd44 hw) (Wd45 hw) (mvT hZ (Wd46 hw)) (Wd47 hw) (Wd48 hw) (Wd49 hw) (Wd50 hw) (Wd43 hw) (Wd51 hw) (Wd21 hw) (by decide) (rm_compareTo_33 l Z a0 hw a2 a3 i2 i3 h0 n0 Z0 O_a2 O_a3 hk0) e2 O_a2.1 pd_10 (hb hby d7_12) (by rw [hml]; rfl) (argsL := [(.ref a3)]) (rest := []) rfl rfl rfl (W := 0) (Nat.le_of_eq rfl) (by decide)) (fun v3 T3 L3 X3 q3 => ?_)
  obtain ⟨rfl, M3, e3⟩ := q3
  have N3 := Fr.app N0 M3
  refine g_goto X3 hx 31 (hb hby d7_17) (by decide) (by decide) ?_
  exact own_retI X3 hx hret hlk (hb hby d7_31) (by decide) (by decide) ⟨rfl, N3, e3⟩
theorem rm_addToLeftCount_65 (l : Launch) (Z : State) (a0 : Array Value) (hw : HW a0 Z) (a1 : Addr) (a2 : Addr) (a3 : Addr) (a4 : Addr) (h0 : Heap) (n0 : Nat) (Z0 : n0 ≤ h0.size) (O_a1 : R_ND Z h0 a1 (.ref a2) (.ref a3) (.ref a4) .null .null (.int 1)) (g_a1 : n0 ≤ a1) :
    Ctr l Y22 prog_7_method_84_code 2 none [] ({ frames := 0, cells := 0, slots := 0, locals := 0 } : Room) Z #[(.ref a1), (.int 1)] h0 (fun v h L => v = none ∧ Fr n0 L ∧ Keep h0 h [a1] ∧ R_ND Z h a1 (.ref a2) (.ref a3) (.ref a4) .null .null (.int 2)) := by
  refine own_enter pn_2 (fun p e s m below meth c s₁ hx hby hml hown hnm hret hlk hZ X0 e0 => ?_)
  have N0 := Fr.nil n0
  have K0 := Keep.refl h0 [a1]
  rw [ef_18_RI m _ _]
  show Go p e below (s₁.setTop (mkF m 0 #[vr a1, vi 1] [])) _
  refine g_aloadN X0 hx (hb hby d18_0) rfl rfl ?_
  refine g_dup X0 hx (hb hby d18_1) rfl ?_
  refine g_getF X0 hx hZ hown (Wd88 hw) e0 O_a1.2.2.2.2.2.2 (hb hby d18_2) (fun T1 X1 e1 => ?_)
  refine g_iloadN X1 hx (hb hby d18_5) rfl ?_
  refine g_iadd X1 hx (hb hby d18_6) ?_
  show Go p e below (T1.setTop (mkF m 7 #[vr a1, vi 1] [(.int ((1 : Int32) + (1 : Int32))), (.ref a1)])) _
  rw [show ((1 : Int32) + (1 : Int32)) = (2 : Int32) from by decide]
  refine g_putF X1 hx hZ hown (Wd88 hw) e1 O_a1.2.2.2.2.2.2 O_a1.1 (Or.inl (Wd78 hw)) (Wd70 hw) fd_0 rfl rfl (hb hby d18_7) (fun T2 h2 X2 e2 W2 => ?_)
  have N2 := Fr.snoc X2 N0 g_a1
  have O_a1_2 := R_ND_set_redAndLeftCount hw W2 O_a1
  have Z2 : n0 ≤ h2.size := Nat.le_trans Z0 (Nat.le_of_eq W2.size.symm)
  have K2 := Keep.wr K0 W2 (Or.inl (List.mem_of_getElem? (i := 0) rfl))
  exact own_retV X2 hx hret hlk (hb hby d18_10) (by decide) (by decide) (by rw [e2]; exact ⟨rfl, N2, K2, O_a1_2⟩)
theorem rm_addToLeftCount_66 (l : Launch) (Z : State) (a0 : Array Value) (hw : HW a0 Z) (a1 : Addr) (a2 : Addr) (a3 : Addr) (a4 : Addr) (h0 : Heap) (n0 : Nat) (Z0 : n0 ≤ h0.size) (O_a1 : R_ND Z h0 a1 (.ref a2) (.ref a3) .null .null (.ref a4) (.int (-2147483648))) (g_a1 : n0 ≤ a1) :
    Ctr l Y22 prog_7_method_84_code 2 none [] ({ frames := 0, cells := 0, slots := 0, locals := 0 } : Room) Z #[(.ref a1), (.int 1)] h0 (fun v h L => v = none ∧ Fr n0 L ∧ Keep h0 h [a1] ∧ R_ND Z h a1 (.ref a2) (.ref a3) .null .null (.ref a4) (.int (-2147483647))) := by
  refine own_enter pn_2 (fun p e s m below meth c s₁ hx hby hml hown hnm hret hlk hZ X0 e0 => ?_)
  have N0 := Fr.nil n0
  have K0 := Keep.refl h0 [a1]
  rw [ef_18_RI m _ _]
  show Go p e below (s₁.setTop (mkF m 0 #[vr a1, vi 1] [])) _
  refine g_aloadN X0 hx (hb hby d18_0) rfl rfl ?_
  refine g_dup X0 hx (hb hby d18_1) rfl ?_
  refine g_getF X0 hx hZ hown (Wd88 hw) e0 O_a1.2.2.2.2.2.2 (hb hby d18_2) (fun T1 X1 e1 => ?_)
  refine g_iloadN X1 hx (hb hby d18_5) rfl ?_
  refine g_iadd X1 hx (hb hby d18_6) ?_
  show Go p e below (T1.setTop (mkF m 7 #[vr a1, vi 1] [(.int ((-2147483648 : Int32) + (1 : Int32))), (.ref a1)])) _
  rw [show ((-2147483648 : Int32) + (1 : Int32)) = (-2147483647 : Int32) from by decide]
  refine g_putF X1 hx hZ hown (Wd88 hw) e1 O_a1.2.2.2.2.2.2 O_a1.1 (Or.inl (Wd78 hw)) (Wd70 hw) fd_0 rfl rfl (hb hby d18_7) (fun T2 h2 X2 e2 W2 => ?_)
  have N2 := Fr.snoc X2 N0 g_a1
  have O_a1_2 := R_ND_set_redAndLeftCount hw W2 O_a1
  have Z2 : n0 ≤ h2.size := Nat.le_trans Z0 (Nat.le_of_eq W2.size.symm)
  have K2 := Keep.wr K0 W2 (Or.inl (List.mem_of_getElem? (i := 0) rfl))
  exact own_retV X2 hx hret hlk (hb hby d18_10) (by decide) (by decide) (by rw [e2]; exact ⟨rfl, N2, K2, O_a1_2⟩)
theorem d17_11 : decode prog_7_method_81_code 11 = .ok (.iconst 1, 1) := by decide +kernel
theorem d17_12 : decode prog_7_method_81_code 12 = .ok (.goto 4, 3) := by decide +kernel
theorem rm_isRed_68 (l : Launch) (Z : State) (a0 : Array Value) (hw : HW a0 Z) (a1 : Addr) (a2 : Addr) (a3 : Addr) (a4 : Addr) (a5 : Addr) (h0 : Heap) (n0 : Nat) (Z0 : n0 ≤ h0.size) (O_a1 : R_ND Z h0 a1 (.ref a2) (.ref a3) (.ref a4) .null (.ref a5) (.int (-2147483647))) :
    Ctr l Y24 prog_7_method_81_code 1 (some FieldType.boolean) [] ({ frames := 0, cells := 0, slots := 0, locals := 0 } : Room) Z #[(.ref a1)] h0 (fun v h L => v = some (.int 1) ∧ Fr n0 L ∧ h = h0) := by
  refine own_enter pn_2 (fun p e s m below meth c s₁ hx hby hml hown hnm hret hlk hZ X0 e0 => ?_)
  have N0 := Fr.nil n0
  have K0 := Keep.refl h0 []
  rw [ef_17_R m _]
  show Go p e below (s₁.setTop (mkF m 0 #[vr a1] [])) _
  refine g_aloadN X0 hx (hb hby d17_0) rfl rfl ?_
  refine g_nullNo X0 hx (hb hby d17_1) ?_
  refine g_aloadN X0 hx (hb hby d17_4) rfl rfl ?_
  refine g_getF X0 hx hZ hown (Wd88 hw) e0 O_a1.2.2.2.2.2.2 (hb hby d17_5) (fun T1 X1 e1 => ?_)
  refine g_ifNo X1 hx (hb hby d17_8) ((if0 _ _).trans (tlt ((by decide) : (-2147483647 : Int32) < (0 : Int32))).2.1) ?_
  refine g_iconst X1 hx (1 : Int32) (hb hby d17_11) (by decide) ?_
  refine g_goto X1 hx 16 (hb hby d17_12) (by decide) (by decide) ?_
  exact own_retZ X1 hx hret hlk (hb hby d17_16) (by decide) (by decide) (by decide) ⟨rfl, N0, e1⟩
theorem ef_17_n (m : MethodId)  : entryFrame m #[.null] 1 = mkF m 0 #[vn] [] := by first | (simp [entryFrame, mkF, argsToLocals, Value.category]; done) | rfl
theorem rm_isRed_69 (l : Launch) (Z : State) (a0 : Array Value) (hw : HW a0 Z)  (h0 : Heap) (n0 : Nat) (Z0 : n0 ≤ h0.size)  :
    Ctr l Y24 prog_7_method_81_code 1 (some FieldType.boolean) [] ({ frames := 0, cells := 0, slots := 0, locals := 0 } : Room) Z #[.null] h0 (fun v h L => v = some (.int 0) ∧ Fr n0 L ∧ h = h0) := by
  refine own_enter pn_2 (fun p e s m below meth c s₁ hx hby hml hown hnm hret hlk hZ X0 e0 => ?_)
  have N0 := Fr.nil n0
  have K0 := Keep.refl h0 []
  rw [ef_17_n m ]
  show Go p e below (s₁.setTop (mkF m 0 #[vn] [])) _
  refine g_aloadN X0 hx (hb hby d17_0) rfl rfl ?_
  refine g_nullYes X0 hx 15 (hb hby d17_1) (by decide) (by decide) ?_
  refine g_iconst X0 hx (0 : Int32) (hb hby d17_15) (by decide) ?_
  exact own_retZ X0 hx hret hlk (hb hby d17_16) (by decide) (by decide) (by decide) ⟨rfl, N0, e0⟩
theorem rm_setRed_70 (l : Launch) (Z : State) (a0 : Array Value) (hw : HW a0 Z) (a1 : Addr) (a2 : Addr) (a3 : Addr) (a4 : Addr) (a5 : Addr) (h0 : Heap) (n0 : Nat) (Z0 : n0 ≤ h0.size) (O_a1 : R_ND Z h0 a1 (.ref a2) (.ref a3) (.ref a4) .null (.ref a5) (.int (-2147483647))) (g_a1 : n0 ≤ a1) :
    Ctr l Y17 prog_7_method_82_code 2 none [] ({ frames := 0, cells := 0, slots := 0, locals := 0 } : Room) Z #[(.ref a1), (.int 0)] h0 (fun v h L => v = none ∧ Fr n0 L ∧ Keep h0 h [a1] ∧ R_ND Z h a1 (.ref a2) (.ref a3) (.ref a4) .null (.ref a5) (.int 1)) := by
  refine own_enter pn_2 (fun p e s m below meth c s₁ hx hby hml hown hnm hret hlk hZ X0 e0 => ?_)
  have N0 := Fr.nil n0
  have K0 := Keep.refl h0 [a1]
  rw [ef_13_RI m _ _]
  show Go p e below (s₁.setTop (mkF m 0 #[vr a1, vi 0] [])) _
  refine g_aloadN X0 hx (hb hby d13_0) rfl rfl ?_
  refine g_iloadN X0 hx (hb hby d13_1) rfl ?_
  refine g_ifYes X0 hx 16 (hb hby d13_2) ((if0 _ _).trans (teq ((by decide) : (0 : Int32) = (0 : Int32))).1) (by decide) (by decide) ?_
  refine g_aloadN X0 hx (hb hby d13_16) rfl rfl ?_
  refine g_getF X0 hx hZ hown (Wd88 hw) e0 O_a1.2.2.2.2.2.2 (hb hby d13_17) (fun T1 X1 e1 => ?_)
  refine g_ldcw X1 hx hZ hown (Wd89 hw) (hb hby d13_20) ?_
  refine g_iand X1 hx (hb hby d13_23) ?_
  show Go p e below (T1.setTop (mkF m 24 #[vr a1, vi 0] [(.int ((-2147483647 : Int32) &&& (2147483647 : Int32))), (.ref a1)])) _
  rw [show ((-2147483647 : Int32) &&& (2147483647 : Int32)) = (1 : Int32) from by decide]
  refine g_putF X1 hx hZ hown (Wd88 hw) e1 O_a1.2.2.2.2.2.2 O_a1.1 (Or.inl (Wd78 hw)) (Wd70 hw) fd_0 rfl rfl (hb hby d13_24) (fun T2 h2 X2 e2 W2 => ?_)
  have N2 := Fr.snoc X2 N0 g_a1
  have O_a1_2 := R_ND_set_redAndLeftCount hw W2 O_a1
  have Z2 : n0 ≤ h2.size := Nat.le_trans Z0 (Nat.le_of_eq W2.size.symm)
  have K2 := Keep.wr K0 W2 (Or.inl (List.mem_of_getElem? (i := 0) rfl))
  exact own_retV X2 hx hret hlk (hb hby d13_27) (by decide) (by decide) (by rw [e2]; exact ⟨rfl, N2, K2, O_a1_2⟩)
theorem d13_5 : decode prog_7_method_82_code 5 = .ok (.aload_n 0, 1) := by decide +kernel
theorem d13_6 : decode prog_7_method_82_code 6 = .ok (.getfield 285, 3) := by decide +kernel
theorem d13_9 : decode prog_7_method_82_code 9 = .ok (.ldc_w 288, 3) := by decide +kernel
theorem d13_12 : decode prog_7_method_82_code 12 = .ok (.ior, 1) := by decide +kernel
theorem d13_13 : decode prog_7_method_82_code 13 = .ok (.goto 11, 3) := by decide +kernel
theorem rm_setRed_71 (l : Launch) (Z : State) (a0 : Array Value) (hw : HW a0 Z) (a1 : Addr) (a2 : Addr) (a3 : Addr) (a4 : Addr) (h0 : Heap) (n0 : Nat) (Z0 : n0 ≤ h0.size) (O_a1 : R_ND Z h0 a1 (.ref a2) (.ref a3) (.ref a4) .null .null (.int 2)) (g_a1 : n0 ≤ a1) :
    Ctr l Y17 prog_7_method_82_code 2 none [] ({ frames := 0, cells := 0, slots := 0, locals := 0 } : Room) Z #[(.ref a1), (.int 1)] h0 (fun v h L => v = none ∧ Fr n0 L ∧ Keep h0 h [a1] ∧ R_ND Z h a1 (.ref a2) (.ref a3) (.ref a4) .null .null (.int (-2147483646))) := by
  refine own_enter pn_2 (fun p e s m below meth c s₁ hx hby hml hown hnm hret hlk hZ X0 e0 => ?_)
  have N0 := Fr.nil n0
  have K0 := Keep.refl h0 [a1]
  rw [ef_13_RI m _ _]
  show Go p e below (s₁.setTop (mkF m 0 #[vr a1, vi 1] [])) _
  refine g_aloadN X0 hx (hb hby d13_0) rfl rfl ?_
  refine g_iloadN X0 hx (hb hby d13_1) rfl ?_
  refine g_ifNo X0 hx (hb hby d13_2) ((if0 _ _).trans (feq ((by decide) : ¬ ((1 : Int32) = (0 : Int32)))).1) ?_
  refine g_aloadN X0 hx (hb hby d13_5) rfl rfl ?_
  refine g_getF X0 hx hZ hown (Wd88 hw) e0 O_a1.2.2.2.2.2.2 (hb hby d13_6) (fun T1 X1 e1 => ?_)
  refine g_ldcw X1 hx hZ hown (Wd134 hw) (hb hby d13_9) ?_
  refine g_ior X1 hx (hb hby d13_12) ?_
  show Go p e below (T1.setTop (mkF m 13 #[vr a1, vi 1] [(.int ((2 : Int32) ||| (-2147483648 : Int32))), (.ref a1)])) _
  rw [show ((2 : Int32) ||| (-2147483648 : Int32)) = (-2147483646 : Int32) from by decide]
  refine g_goto X1 hx 24 (hb hby d13_13) (by decide) (by decide) ?_
  refine g_putF X1 hx hZ hown (Wd88 hw) e1 O_a1.2.2.2.2.2.2 O_a1.1 (Or.inl (Wd78 hw)) (Wd70 hw) fd_0 rfl rfl (hb hby d13_24) (fun T2 h2 X2 e2 W2 => ?_)
  have N2 := Fr.snoc X2 N0 g_a1
  have O_a1_2 := R_ND_set_redAndLeftCount hw W2 O_a1
  have Z2 : n0 ≤ h2.size := Nat.le_trans Z0 (Nat.le_of_eq W2.size.symm)
  have K2 := Keep.wr K0 W2 (Or.inl (List.mem_of_getElem? (i := 0) rfl))
  exact own_retV X2 hx hret hlk (hb hby d13_27) (by decide) (by decide) (by rw [e2]; exact ⟨rfl, N2, K2, O_a1_2⟩)
theorem ef_20_RRR (m : MethodId) (x0 : Addr) (x1 : Addr) (x2 : Addr) : entryFrame m #[(.ref x0), (.ref x1), (.ref x2)] 4 = mkF m 0 #[vr x0, vr x1, vr x2, vu] [] := by first | (simp [entryFrame, mkF, argsToLocals, Value.category]; done) | rfl
theorem d20_0 : decode prog_7_method_87_code 0 = .ok (.aload_n 1, 1) := by decide +kernel
theorem d20_1 : decode prog_7_method_87_code 1 = .ok (.getfield 282, 3) := by decide +kernel
theorem d20_4 : decode prog_7_method_87_code 4 = .ok (.astore_n 3, 1) := by decide +kernel
theorem d20_5 : decode prog_7_method_87_code 5 = .ok (.aload_n 3, 1) := by decide +kernel
theorem d20_6 : decode prog_7_method_87_code 6 = .ok (.ifnonnull 11, 3) := by decide +kernel
theorem d20_9 : decode prog_7_method_87_code 9 = .ok (.aload_n 0, 1) := by decide +kernel
theorem d20_10 : decode prog_7_method_87_code 10 = .ok (.aload_n 2, 1) := by decide +kernel
theorem d20_11 : decode prog_7_method_87_code 11 = .ok (.putfield 22, 3) := by decide +kernel
theorem d20_14 : decode prog_7_method_87_code 14 = .ok (.goto 24, 3) := by decide +kernel
theorem d20_38 : decode prog_7_method_87_code 38 = .ok (.aload_n 2, 1) := by decide +kernel
theorem d20_39 : decode prog_7_method_87_code 39 = .ok (.ifnull 8, 3) := by decide +kernel
theorem d20_42 : decode prog_7_method_87_code 42 = .ok (.aload_n 2, 1) := by decide +kernel
theorem d20_43 : decode prog_7_method_87_code 43 = .ok (.aload_n 3, 1) := by decide +kernel
theorem d20_44 : decode prog_7_method_87_code 44 = .ok (.putfield 282, 3) := by decide +kernel
theorem d20_47 : decode prog_7_method_87_code 47 = .ok (.return_, 1) := by decide +kernel
theorem rm_replaceInParent_73 (l : Launch) (Z : State) (a0 : Array Value) (hw : HW a0 Z) (a1 : Addr) (a2 : Addr) (a3 : Addr) (i1 : Int32) (a4 : Addr) (a5 : Addr) (a6 : Addr) (a7 : Addr) (a8 : Addr) (i2 : Int32) (i3 : Int32) (a9 : Addr) (a10 : Addr) (i4 : Int32) (i5 : Int32) (h0 : Heap) (n0 : Nat) (Z0 : n0 ≤ h0.size) (O_a1 : R_MP Z h0 a1 .null (.ref a2) (.int 3) (.int i1)) (O_a2 : R_ND Z h0 a2 (.ref a4) (.ref a5) .null .null .null (.int (-2147483646))) (O_a3 : R_ND Z h0 a3 (.ref a6) (.ref a7) (.ref a8) .null (.ref a2) (.int 1)) (O_a4 : R_IN Z h0 a4 (.int i2)) (O_a6 : R_IN Z h0 a6 (.int i3)) (O_a8 : R_ND Z h0 a8 (.ref a9) (.ref a10) .null .null (.ref a3) (.int (-2147483648))) (O_a9 : R_IN Z h0 a9 (.int i4)) (O_a10 : R_IN Z h0 a10 (.int i5)) (ne_a1_a2 : a1 ≠ a2) (ne_a1_a3 : a1 ≠ a3) (ne_a1_a4 : a1 ≠ a4) (ne_a1_a6 : a1 ≠ a6) (ne_a1_a8 : a1 ≠ a8) (ne_a1_a9 : a1 ≠ a9) (ne_a1_a10 : a1 ≠ a10) (ne_a2_a3 : a2 ≠ a3) (ne_a3_a4 : a3 ≠ a4) (ne_a3_a6 : a3 ≠ a6) (ne_a3_a8 : a3 ≠ a8) (ne_a3_a9 : a3 ≠ a9) (ne_a3_a10 : a3 ≠ a10) (g_a1 : n0 ≤ a1) (g_a3 : n0 ≤ a3) (hk0 : i4 < i2) (hk1 : i4 < i3) :
    Ctr l Y29 prog_7_method_87_code 4 none [] ({ frames := 0, cells := 0, slots := 0, locals := 0 } : Room) Z #[(.ref a1), (.ref a2), (.ref a3)] h0 (fun v h L => v = none ∧ Fr n0 L ∧ Keep h0 h [a1, a3] ∧ R_MP Z h a1 .null (.ref a3) (.int 3) (.int i1) ∧ R_ND Z h a3 (.ref a6) (.ref a7) (.ref a8) .null .null (.int 1)) := by
  refine own_enter pn_2 (fun p e s m below meth c s₁ hx hby hml hown hnm hret hlk hZ X0 e0 => ?_)
  have N0 := Fr.nil n0
  have K0 := Keep.refl h0 [a1, a3]
  rw [ef_20_RRR m _ _ _]
  show Go p e below (s₁.setTop (mkF m 0 #[vr a1, vr a2, vr a3, vu] [])) _
  refine g_aloadN X0 hx (hb hby d20_0) rfl rfl ?_
  refine g_getF X0 hx hZ hown (Wd111 hw) e0 O_a2.2.2.2.2.2.1 (hb hby d20_1) (fun T1 X1 e1 => ?_)
  refine g_astoreN X1 hx #[vr a1, vr a2, vr a3, vn] (hb hby d20_4) rfl rfl ?_
  refine g_aloadN X1 hx (hb hby d20_5) rfl rfl ?_
  refine g_nonnullNo X1 hx (hb hby d20_6) ?_
  refine g_aloadN X1 hx (hb hby d20_9) rfl rfl ?_
  refine g_aloadN X1 hx (hb hby d20_10) rfl rfl ?_
  refine g_putF X1 hx hZ hown (Wd35 hw) e1 O_a1.2.2.1 O_a1.1 (Or.inl (Wd36 hw)) (Wd1 hw) fd_2 rfl rfl (hb hby d20_11) (fun T2 h2 X2 e2 W2 => ?_)
  have N2 := Fr.snoc X2 N0 g_a1
  have O_a1_2 := R_MP_set_root hw W2 O_a1
  have O_a2_2 := R_ND_other W2 O_a2 (Ne.symm ne_a1_a2)
  have O_a3_2 := R_ND_other W2 O_a3 (Ne.symm ne_a1_a3)
  have O_a4_2 := R_IN_other W2 O_a4 (Ne.symm ne_a1_a4)
  have O_a6_2 := R_IN_other W2 O_a6 (Ne.symm ne_a1_a6)
  have O_a8_2 := R_ND_other W2 O_a8 (Ne.symm ne_a1_a8)
  have O_a9_2 := R_IN_other W2 O_a9 (Ne.symm ne_a1_a9)
  have O_a10_2 := R_IN_other W2 O_a10 (Ne.symm ne_a1_a10)
  have Z2 : n0 ≤ h2.size := Nat.le_trans Z0 (Nat.le_of_eq W2.size.symm)
  have K2 := Keep.wr K0 W2 (Or.inl (List.mem_of_getElem? (i := 0) rfl))
  refine g_goto X2 hx 38 (hb hby d20_14) (by decide) (by decide) ?_
  refine g_aloadN X2 hx (hb hby d20_38) rfl rfl ?_
  refine g_nullNo X2 hx (hb hby d20_39) ?_
  refine g_aloadN X2 hx (hb hby d20_42) rfl rfl ?_
  refine g_aloadN X2 hx (hb hby d20_43) rfl rfl ?_
  refine g_putF X2 hx hZ hown (Wd111 hw) e2 O_a3_2.2.2.2.2.2.1 O_a3_2.1 (Or.inl (Wd84 hw)) (Wd70 hw) fd_2 rfl rfl (hb hby d20_44) (fun T3 h3 X3 e3 W3 => ?_)
  have N3 := Fr.snoc X3 N2 g_a3
  have O_a1_3 := R_MP_other W3 O_a1_2 ne_a1_a3
  have O_a2_3 := R_ND_other W3 O_a2_2 ne_a2_a3
  have O_a3_3 := R_ND_set_parent hw W3 O_a3_2
  have O_a4_3 := R_IN_other W3 O_a4_2 (Ne.symm ne_a3_a4)
  have O_a6_3 := R_IN_other W3 O_a6_2 (Ne.symm ne_a3_a6)
  have O_a8_3 := R_ND_other W3 O_a8_2 (Ne.symm ne_a3_a8)
  have O_a9_3 := R_IN_other W3 O_a9_2 (Ne.symm ne_a3_a9)
  have O_a10_3 := R_IN_other W3 O_a10_2 (Ne.symm ne_a3_a10)
  have Z3 : n0 ≤ h3.size := Nat.le_trans Z2 (Nat.le_of_eq W3.size.symm)
  have K3 := Keep.wr K2 W3 (Or.inl (List.mem_of_getElem? (i := 1) rfl))
  exact own_retV X3 hx hret hlk (hb hby d20_47) (by decide) (by decide) (by rw [e3]; exact ⟨rfl, N3, K3, O_a1_3, O_a3_3⟩)
theorem pd_22 : parseMethodDescriptor "(Lcom/example/rosewood/rosewood/RosewoodMap$Node;Lcom/example/rosewood/rosewood/RosewoodMap$Node;)V" = some ⟨[(FieldType.object "com/example/rosewood/rosewood/RosewoodMap$Node"), (FieldType.object "com/example/rosewood/rosewood/RosewoodMap$Node")], none⟩ := by decide +kernel
theorem ef_21_R (m : MethodId) (x0 : Addr) : entryFrame m #[(.ref x0)] 1 = mkF m 0 #[vr x0] [] := by first | (simp [entryFrame, mkF, argsToLocals, Value.category]; done) | rfl
theorem d21_0 : decode prog_7_method_83_code 0 = .ok (.aload_n 0, 1) := by decide +kernel
theorem d21_1 : decode prog_7_method_83_code 1 = .ok (.getfield 285, 3) := by decide +kernel
theorem d21_4 : decode prog_7_method_83_code 4 = .ok (.ldc_w 289, 3) := by decide +kernel
theorem d21_7 : decode prog_7_method_83_code 7 = .ok (.iand, 1) := by decide +kernel
theorem d21_8 : decode prog_7_method_83_code 8 = .ok (.ireturn, 1) := by decide +kernel
theorem rm_leftCount_74 (l : Launch) (Z : State) (a0 : Array Value) (hw : HW a0 Z) (a1 : Addr) (a2 : Addr) (a3 : Addr) (a4 : Addr) (a5 : Addr) (h0 : Heap) (n0 : Nat) (Z0 : n0 ≤ h0.size) (O_a1 : R_ND Z h0 a1 (.ref a2) (.ref a3) (.ref a4) (.ref a5) .null (.int 1)) :
    Ctr l Y30 prog_7_method_83_code 1 (some FieldType.int) [] ({ frames := 0, cells := 0, slots := 0, locals := 0 } : Room) Z #[(.ref a1)] h0 (fun v h L => v = some (.int 1) ∧ Fr n0 L ∧ h = h0) := by
  refine own_enter pn_2 (fun p e s m below meth c s₁ hx hby hml hown hnm hret hlk hZ X0 e0 => ?_)
  have N0 := Fr.nil n0
  have K0 := Keep.refl h0 []
  rw [ef_21_R m _]
  show Go p e below (s₁.setTop (mkF m 0 #[vr a1] [])) _
  refine g_aloadN X0 hx (hb hby d21_0) rfl rfl ?_
  refine g_getF X0 hx hZ hown (Wd88 hw) e0 O_a1.2.2.2.2.2.2 (hb hby d21_1) (fun T1 X1 e1 => ?_)
  refine g_ldcw X1 hx hZ hown (Wd89 hw) (hb hby d21_4) ?_
  refine g_iand X1 hx (hb hby d21_7) ?_
  show Go p e below (T1.setTop (mkF m 8 #[vr a1] [(.int ((1 : Int32) &&& (2147483647 : Int32)))])) _
  rw [show ((1 : Int32) &&& (2147483647 : Int32)) = (1 : Int32) from by decide]
  exact own_retI X1 hx hret hlk (hb hby d21_8) (by decide) (by decide) ⟨rfl, N0, e1⟩
theorem pd_23 : parseMethodDescriptor "(Lcom/example/rosewood/rosewood/RosewoodMap$Node;)I" = some ⟨[(FieldType.object "com/example/rosewood/rosewood/RosewoodMap$Node")], some FieldType.int⟩ := by decide +kernel
theorem rm_addToLeftCount_75 (l : Launch) (Z : State) (a0 : Array Value) (hw : HW a0 Z) (a1 : Addr) (a2 : Addr) (a3 : Addr) (a4 : Addr) (h0 : Heap) (n0 : Nat) (Z0 : n0 ≤ h0.size) (O_a1 : R_ND Z h0 a1 (.ref a2) (.ref a3) .null .null (.ref a4) (.int (-2147483646))) (g_a1 : n0 ≤ a1) :
    Ctr l Y22 prog_7_method_84_code 2 none [] ({ frames := 0, cells := 0, slots := 0, locals := 0 } : Room) Z #[(.ref a1), (.int (-2))] h0 (fun v h L => v = none ∧ Fr n0 L ∧ Keep h0 h [a1] ∧ R_ND Z h a1 (.ref a2) (.ref a3) .null .null (.ref a4) (.int (-2147483648))) := by
  refine own_enter pn_2 (fun p e s m below meth c s₁ hx hby hml hown hnm hret hlk hZ X0 e0 => ?_)
  have N0 := Fr.nil n0
  have K0 := Keep.refl h0 [a1]
  rw [ef_18_RI m _ _]
  show Go p e below (s₁.setTop (mkF m 0 #[vr a1, vi (-2)] [])) _
  refine g_aloadN X0 hx (hb hby d18_0) rfl rfl ?_
  refine g_dup X0 hx (hb hby d18_1) rfl ?_
  refine g_getF X0 hx hZ hown (Wd88 hw) e0 O_a1.2.2.2.2.2.2 (hb hby d18_2) (fun T1 X1 e1 => ?_)
  refine g_iloadN X1 hx (hb hby d18_5) rfl ?_
  refine g_iadd X1 hx (hb hby d18_6) ?_
  show Go p e below (T1.setTop (mkF m 7 #[vr a1, vi (-2)] [(.int ((-2147483646 : Int32) + (-2 : Int32))), (.ref a1)])) _
  rw [show ((-2147483646 : Int32) + (-2 : Int32)) = (-2147483648 : Int32) from by decide]
  refine g_putF X1 hx hZ hown (Wd88 hw) e1 O_a1.2.2.2.2.2.2 O_a1.1 (Or.inl (Wd78 hw)) (Wd70 hw) fd_0 rfl rfl (hb hby d18_7) (fun T2 h2 X2 e2 W2 => ?_)
  have N2 := Fr.snoc X2 N0 g_a1
  have O_a1_2 := R_ND_set_redAndLeftCount hw W2 O_a1
  have Z2 : n0 ≤ h2.size := Nat.le_trans Z0 (Nat.le_of_eq W2.size.symm)
  have K2 := Keep.wr K0 W2 (Or.inl (List.mem_of_getElem? (i := 0) rfl))
  exact own_retV X2 hx hret hlk (hb hby d18_10) (by decide) (by decide) (by rw [e2]; exact ⟨rfl, N2, K2, O_a1_2⟩)
theorem ef_22_RR (m : MethodId) (x0 : Addr) (x1 : Addr) : entryFrame m #[(.ref x0), (.ref x1)] 2 = mkF m 0 #[vr x0, vr x1] [] := by first | (simp [entryFrame, mkF, argsToLocals, Value.category]; done) | rfl
theorem d22_0 : decode prog_7_method_54_code 0 = .ok (.return_, 1) := by decide +kernel
theorem rm_refresh_76 (l : Launch) (Z : State) (a0 : Array Value) (hw : HW a0 Z) (a1 : Addr) (a2 : Addr) (h0 : Heap) (n0 : Nat) (Z0 : n0 ≤ h0.size)  :
    Ctr l Y31 prog_7_method_54_code 2 none [] ({ frames := 0, cells := 0, slots := 0, locals := 0 } : Room) Z #[(.ref a1), (.ref a2)] h0 (fun v h L => v = none ∧ Fr n0 L ∧ h = h0) := by
  refine own_enter pn_2 (fun p e s m below meth c s₁ hx hby hml hown hnm hret hlk hZ X0 e0 => ?_)
  have N0 := Fr.nil n0
  have K0 := Keep.refl h0 []
  rw [ef_22_RR m _ _]
  show Go p e below (s₁.setTop (mkF m 0 #[vr a1, vr a2] [])) _
  exact own_retV X0 hx hret hlk (hb hby d22_0) (by decide) (by decide) ⟨rfl, N0, e0⟩
theorem ef_19_RR (m : MethodId) (x0 : Addr) (x1 : Addr) : entryFrame m #[(.ref x0), (.ref x1)] 3 = mkF m 0 #[vr x0, vr x1, vu] [] := by first | (simp [entryFrame, mkF, argsToLocals, Value.category]; done) | rfl
theorem d19_0 : decode prog_7_method_89_code 0 = .ok (.aload_n 1, 1) := by decide +kernel
theorem d19_1 : decode prog_7_method_89_code 1 = .ok (.getfield 211, 3) := by decide +kernel
theorem d19_4 : decode prog_7_method_89_code 4 = .ok (.astore_n 2, 1) := by decide +kernel
theorem d19_5 : decode prog_7_method_89_code 5 = .ok (.aload_n 1, 1) := by decide +kernel
theorem d19_6 : decode prog_7_method_89_code 6 = .ok (.aload_n 2, 1) := by decide +kernel
theorem d19_7 : decode prog_7_method_89_code 7 = .ok (.getfield 214, 3) := by decide +kernel
theorem d19_10 : decode prog_7_method_89_code 10 = .ok (.putfield 211, 3) := by decide +kernel
theorem d19_13 : decode prog_7_method_89_code 13 = .ok (.aload_n 2, 1) := by decide +kernel
theorem d19_14 : decode prog_7_method_89_code 14 = .ok (.getfield 214, 3) := by decide +kernel
theorem d19_17 : decode prog_7_method_89_code 17 = .ok (.ifnull 11, 3) := by decide +kernel
theorem d19_28 : decode prog_7_method_89_code 28 = .ok (.aload_n 0, 1) := by decide +kernel
theorem d19_29 : decode prog_7_method_89_code 29 = .ok (.aload_n 1, 1) := by decide +kernel
theorem d19_30 : decode prog_7_method_89_code 30 = .ok (.aload_n 2, 1) := by decide +kernel
theorem d19_31 : decode prog_7_method_89_code 31 = .ok (.invokevirtual 293, 3) := by decide +kernel
theorem d19_34 : decode prog_7_method_89_code 34 = .ok (.aload_n 2, 1) := by decide +kernel
theorem d19_35 : decode prog_7_method_89_code 35 = .ok (.aload_n 1, 1) := by decide +kernel
theorem d19_36 : decode prog_7_method_89_code 36 = .ok (.putfield 214, 3) := by decide +kernel
theorem d19_39 : decode prog_7_method_89_code 39 = .ok (.aload_n 1, 1) := by decide +kernel
theorem d19_40 : decode prog_7_method_89_code 40 = .ok (.aload_n 2, 1) := by decide +kernel
theorem d19_41 : decode prog_7_method_89_code 41 = .ok (.putfield 282, 3) := by decide +kernel
theorem d19_44 : decode prog_7_method_89_code 44 = .ok (.aload_n 1, 1) := by decide +kernel
theorem d19_45 : decode prog_7_method_89_code 45 = .ok (.aload_n 2, 1) := by decide +kernel
theorem d19_46 : decode prog_7_method_89_code 46 = .ok (.invokestatic 229, 3) := by decide +kernel
theorem d19_49 : decode prog_7_method_89_code 49 = .ok (.ineg, 1) := by decide +kernel
theorem d19_50 : decode prog_7_method_89_code 50 = .ok (.iconst 1, 1) := by decide +kernel
theorem d19_51 : decode prog_7_method_89_code 51 = .ok (.isub, 1) := by decide +kernel
theorem d19_52 : decode prog_7_method_89_code 52 = .ok (.invokestatic 221, 3) := by decide +kernel
theorem d19_55 : decode prog_7_method_89_code 55 = .ok (.aload_n 0, 1) := by decide +kernel
theorem d19_56 : decode prog_7_method_89_code 56 = .ok (.aload_n 1, 1) := by decide +kernel
theorem d19_57 : decode prog_7_method_89_code 57 = .ok (.invokevirtual 297, 3) := by decide +kernel
theorem d19_60 : decode prog_7_method_89_code 60 = .ok (.aload_n 0, 1) := by decide +kernel
theorem d19_61 : decode prog_7_method_89_code 61 = .ok (.aload_n 2, 1) := by decide +kernel
theorem d19_62 : decode prog_7_method_89_code 62 = .ok (.invokevirtual 297, 3) := by decide +kernel
theorem d19_65 : decode prog_7_method_89_code 65 = .ok (.return_, 1) := by decide +kernel
theorem rm_rotateRight_72 (l : Launch) (Z : State) (a0 : Array Value) (hw : HW a0 Z) (a1 : Addr) (a2 : Addr) (i1 : Int32) (a3 : Addr) (a4 : Addr) (a5 : Addr) (i2 : Int32) (a6 : Addr) (a7 : Addr) (a8 : Addr) (i3 : Int32) (a9 : Addr) (a10 : Addr) (i4 : Int32) (i5 : Int32) (h0 : Heap) (n0 : Nat) (Z0 : n0 ≤ h0.size) (O_a1 : R_MP Z h0 a1 .null (.ref a2) (.int 3) (.int i1)) (O_a2 : R_ND Z h0 a2 (.ref a3) (.ref a4) (.ref a5) .null .null (.int (-2147483646))) (O_a3 : R_IN Z h0 a3 (.int i2)) (O_a5 : R_ND Z h0 a5 (.ref a6) (.ref a7) (.ref a8) .null (.ref a2) (.int 1)) (O_a6 : R_IN Z h0 a6 (.int i3)) (O_a8 : R_ND Z h0 a8 (.ref a9) (.ref a10) .null .null (.ref a5) (.int (-2147483648))) (O_a9 : R_IN Z h0 a9 (.int i4)) (O_a10 : R_IN Z h0 a10 (.int i5)) (ne_a1_a2 : a1 ≠ a2) (ne_a1_a3 : a1 ≠ a3) (ne_a1_a5 : a1 ≠ a5) (ne_a1_a6 : a1 ≠ a6) (ne_a1_a8 : a1 ≠ a8) (ne_a1_a9 : a1 ≠ a9) (ne_a1_a10 : a1 ≠ a10) (ne_a2_a3 : a2 ≠ a3) (ne_a2_a5 : a2 ≠ a5) (ne_a2_a6 : a2 ≠ a6) (ne_a2_a8 : a2 ≠ a8) (ne_a2_a9 : a2 ≠ a9) (ne_a2_a10 : a2 ≠ a10) (ne_a3_a5 : a3 ≠ a5) (ne_a5_a6 : a5 ≠ a6) (ne_a5_a8 : a5 ≠ a8) (ne_a5_a9 : a5 ≠ a9) (ne_a5_a10 : a5 ≠ a10) (g_a1 : n0 ≤ a1) (g_a2 : n0 ≤ a2) (g_a5 : n0 ≤ a5) (hk0 : i4 < i2) (hk1 : i4 < i3) :
    Ctr l Y32 prog_7_method_89_code 3 none [] ({ frames := 1, cells := 0, slots := 0, locals := 15 } : Room) Z #[(.ref a1), (.ref a2)] h0 (fun v h L => v = none ∧ Fr n0 L ∧ Keep h0 h [a1, a2, a5] ∧ R_MP Z h a1 .null (.ref a5) (.int 3) (.int i1) ∧ R_ND Z h a2 (.ref a3) (.ref a4) .null .null (.ref a5) (.int (-2147483648)) ∧ R_ND Z h a5 (.ref a6) (.ref a7) (.ref a8) (.ref a2) .null (.int 1)) := by
  refine own_enter pn_2 (fun p e s m below meth c s₁ hx hby hml hown hnm hret hlk hZ X0 e0 => ?_)
  have N0 := Fr.nil n0
  have K0 := Keep.refl h0 [a1, a2, a5]
  rw [ef_19_RR m _ _]
  show Go p e below (s₁.setTop (mkF m 0 #[vr a1, vr a2, vu] [])) _
  refine g_aloadN X0 hx (hb hby d19_0) rfl rfl ?_
  refine g_getF X0 hx hZ hown (Wd95 hw) e0 O_a2.2.2.2.1 (hb hby d19_1) (fun T1 X1 e1 => ?_)
  refine g_astoreN X1 hx #[vr a1, vr a2, vr a5] (hb hby d19_4) rfl rfl ?_
  refine g_aloadN X1 hx (hb hby d19_5) rfl rfl ?_
  refine g_aloadN X1 hx (hb hby d19_6) rfl rfl ?_
  refine g_getF X1 hx hZ hown (Wd97 hw) e1 O_a5.2.2.2.2.1 (hb hby d19_7) (fun T2 X2 e2 => ?_)
  refine g_putF X2 hx hZ hown (Wd95 hw) e2 O_a2.2.2.2.1 O_a2.1 (Or.inl (Wd96 hw)) (Wd70 hw) fd_2 rfl rfl (hb hby d19_10) (fun T3 h3 X3 e3 W3 => ?_)
  have N3 := Fr.snoc X3 N0 g_a2
  have O_a1_3 := R_MP_other W3 O_a1 ne_a1_a2
  have O_a2_3 := R_ND_set_left hw W3 O_a2
  have O_a3_3 := R_IN_other W3 O_a3 (Ne.symm ne_a2_a3)
  have O_a5_3 := R_ND_other W3 O_a5 (Ne.symm ne_a2_a5)
  have O_a6_3 := R_IN_other W3 O_a6 (Ne.symm ne_a2_a6)
  have O_a8_3 := R_ND_other W3 O_a8 (Ne.symm ne_a2_a8)
  have O_a9_3 := R_IN_other W3 O_a9 (Ne.symm ne_a2_a9)
  have O_a10_3 := R_IN_other W3 O_a10 (Ne.symm ne_a2_a10)
  have Z3 : n0 ≤ h3.size := Nat.le_trans Z0 (Nat.le_of_eq W3.size.symm)
  have K3 := Keep.wr K0 W3 (Or.inl (List.mem_of_getElem? (i := 1) rfl))
  refine g_aloadN X3 hx (hb hby d19_13) rfl rfl ?_
  refine g_getF X3 hx hZ hown (Wd97 hw) e3 O_a5_3.2.2.2.2.1 (hb hby d19_14) (fun T4 X4 e4 => ?_)
  refine g_nullYes X4 hx 28 (hb hby d19_17) (by decide) (by decide) ?_
  refine g_aloadN X4 hx (hb hby d19_28) rfl rfl ?_
  refine g_aloadN X4 hx (hb hby d19_29) rfl rfl ?_
  refine g_aloadN X4 hx (hb hby d19_30) rfl rfl ?_
  refine g_call (own_callP X4 hx hZ (y := Y29) hown (Wd122 hw) (Wd123 hw) (Wd124 hw) (Wd1 hw) (Wd125 hw) (Wd2 hw) (by decide) (rm_replaceInParent_73 l Z a0 hw a1 a2 a5 i1 a3 a4 a6 a7 a8 i2 i3 a9 a10 i4 i5 h3 n0 Z3 O_a1_3 O_a2_3 O_a5_3 O_a3_3 O_a6_3 O_a8_3 O_a9_3 O_a10_3 ne_a1_a2 ne_a1_a5 ne_a1_a3 ne_a1_a6 ne_a1_a8 ne_a1_a9 ne_a1_a10 ne_a2_a5 (Ne.symm ne_a3_a5) ne_a5_a6 ne_a5_a8 ne_a5_a9 ne_a5_a10 g_a1 g_a5 hk0 hk1) e4 O_a1_3.1 pd_22 (hb hby d19_31) (by rw [hml]; rfl) (argsL := [(.ref a2), (.ref a5)]) (rest := []) rfl rfl rfl (W := 0) (Nat.le_of_eq rfl) (by decide)) (fun v5 T5 L5 X5 q5 => ?_)
  obtain ⟨rfl, M5, Kc5, Rk5_0, Rk5_1⟩ := q5
  have N5 := Fr.app N3 M5
  have O_a2_5 := R_ND_keep O_a2_3 Kc5 (own_nin (Ne.symm ne_a1_a2) (own_nin ne_a2_a5 List.not_mem_nil))
  have O_a3_5 := R_IN_keep O_a3_3 Kc5 (own_nin (Ne.symm ne_a1_a3) (own_nin ne_a3_a5 List.not_mem_nil))
  have O_a6_5 := R_IN_keep O_a6_3 Kc5 (own_nin (Ne.symm ne_a1_a6) (own_nin (Ne.symm ne_a5_a6) List.not_mem_nil))
  have O_a8_5 := R_ND_keep O_a8_3 Kc5 (own_nin (Ne.symm ne_a1_a8) (own_nin (Ne.symm ne_a5_a8) List.not_mem_nil))
  have O_a9_5 := R_IN_keep O_a9_3 Kc5 (own_nin (Ne.symm ne_a1_a9) (own_nin (Ne.symm ne_a5_a9) List.not_mem_nil))
  have O_a10_5 := R_IN_keep O_a10_3 Kc5 (own_nin (Ne.symm ne_a1_a10) (own_nin (Ne.symm ne_a5_a10) List.not_mem_nil))
  have K5 := Keep.trans K3 Kc5 (own_memc (Or.inl (List.mem_of_getElem? (i := 0) rfl)) (own_memc (Or.inl (List.mem_of_getElem? (i := 2) rfl)) own_memn))
  have Z5 : n0 ≤ T5.heap.size := Nat.le_trans Z3 Kc5.1
  refine g_aloadN X5 hx (hb hby d19_34) rfl rfl ?_
  refine g_aloadN X5 hx (hb hby d19_35) rfl rfl ?_
  refine g_putF X5 hx hZ hown (Wd97 hw) (rfl : T5.heap = T5.heap) Rk5_1.2.2.2.2.1 Rk5_1.1 (Or.inl (Wd98 hw)) (Wd70 hw) fd_2 rfl rfl (hb hby d19_36) (fun T6 h6 X6 e6 W6 => ?_)
  have N6 := Fr.snoc X6 N5 g_a5
  have O_a2_6 := R_ND_other W6 O_a2_5 ne_a2_a5
  have O_a3_6 := R_IN_other W6 O_a3_5 ne_a3_a5
  have O_a6_6 := R_IN_other W6 O_a6_5 (Ne.symm ne_a5_a6)
  have O_a8_6 := R_ND_other W6 O_a8_5 (Ne.symm ne_a5_a8)
  have O_a9_6 := R_IN_other W6 O_a9_5 (Ne.symm ne_a5_a9)
  have O_a10_6 := R_IN_other W6 O_a10_5 (Ne.symm ne_a5_a10)
  have O_a1_6 := R_MP_other W6 Rk5_0 ne_a1_a5
  have O_a5_6 := R_ND_set_right hw W6 Rk5_1
  have Z6 : n0 ≤ h6.size := Nat.le_trans Z5 (Nat.le_of_eq W6.size.symm)
  have K6 := Keep.wr K5 W6 (Or.inl (List.mem_of_getElem? (i := 2) rfl))
  refine g_aloadN X6 hx (hb hby d19_39) rfl rfl ?_
  refine g_aloadN X6 hx (hb hby d19_40) rfl rfl ?_
  refine g_putF X6 hx hZ hown (Wd111 hw) e6 O_a2_6.2.2.2.2.2.1 O_a2_6.1 (Or.inl (Wd84 hw)) (Wd70 hw) fd_2 rfl rfl (hb hby d19_41) (fun T7 h7 X7 e7 W7 => ?_)
  have N7 := Fr.snoc X7 N6 g_a2
  have O_a2_7 := R_ND_set_parent hw W7 O_a2_6
  have O_a3_7 := R_IN_other W7 O_a3_6 (Ne.symm ne_a2_a3)
  have O_a6_7 := R_IN_other W7 O_a6_6 (Ne.symm ne_a2_a6)
  have O_a8_7 := R_ND_other W7 O_a8_6 (Ne.symm ne_a2_a8)
  have O_a9_7 := R_IN_other W7 O_a9_6 (Ne.symm ne_a2_a9)
  have O_a10_7 := R_IN_other W7 O_a10_6 (Ne.symm ne_a2_a10)
  have O_a1_7 := R_MP_other W7 O_a1_6 ne_a1_a2
  have O_a5_7 := R_ND_other W7 O_a5_6 (Ne.symm ne_a2_a5)
  have Z7 : n0 ≤ h7.size := Nat.le_trans Z6 (Nat.le_of_eq W7.size.symm)
  have K7 := Keep.wr K6 W7 (Or.inl (List.mem_of_getElem? (i := 1) rfl))
  refine g_aloadN X7 hx (hb hby d19_44) rfl rfl ?_
  refine g_aloadN X7 hx (hb hby d19_45) rfl rfl ?_
  refine g_call (own_callS X7 hx hZ (y := Y30) hown (Wd126 hw) (Wd127 hw) (Wd2 hw) (Wd128 hw) (by decide) (rm_leftCount_74 l Z a0 hw a5 a6 a7 a8 a2 h7 n0 Z7 O_a5_7) e7 pd_23 (hb hby d19_46) (by rw [hml]; rfl) (argsL := [(.ref a5)]) (rest := [(.ref a2)]) rfl rfl rfl (W := 1) (Nat.le_of_eq rfl) (by decide)) (fun v8 T8 L8 X8 q8 => ?_)
  obtain ⟨rfl, M8, e8⟩ := q8
  have N8 := Fr.app N7 M8
  refine Go.mp (fun _ k => XS.ineg X8.here hx rfl (hb hby d19_49) rfl k) ?_
  show Go p e below (T8.setTop (mkF m 50 #[vr a1, vr a2, vr a5] [(.int (-(1 : Int32))), (.ref a2)])) _
  refine g_iconst X8 hx (1 : Int32) (hb hby d19_50) (by decide) ?_
  refine g_isub X8 hx (hb hby d19_51) ?_
  show Go p e below (T8.setTop (mkF m 52 #[vr a1, vr a2, vr a5] [(.int ((-(1 : Int32)) - (1 : Int32))), (.ref a2)])) _
  rw [show ((-(1 : Int32)) - (1 : Int32)) = (-2 : Int32) from by decide]
  refine g_call (own_callS X8 hx hZ (y := Y22) hown (Wd115 hw) (Wd116 hw) (Wd2 hw) (Wd117 hw) (by decide) (rm_addToLeftCount_75 l Z a0 hw a2 a3 a4 a5 h7 n0 Z7 O_a2_7 g_a2) e8 pd_17 (hb hby d19_52) (by rw [hml]; rfl) (argsL := [(.ref a2), (.int (-2))]) (rest := []) rfl rfl rfl (W := 0) (Nat.le_of_eq rfl) (by decide)) (fun v9 T9 L9 X9 q9 => ?_)
  obtain ⟨rfl, M9, Kc9, Rk9_0⟩ := q9
  have N9 := Fr.app N8 M9
  have O_a3_9 := R_IN_keep O_a3_7 Kc9 (own_nin (Ne.symm ne_a2_a3) List.not_mem_nil)
  have O_a6_9 := R_IN_keep O_a6_7 Kc9 (own_nin (Ne.symm ne_a2_a6) List.not_mem_nil)
  have O_a8_9 := R_ND_keep O_a8_7 Kc9 (own_nin (Ne.symm ne_a2_a8) List.not_mem_nil)
  have O_a9_9 := R_IN_keep O_a9_7 Kc9 (own_nin (Ne.symm ne_a2_a9) List.not_mem_nil)
  have O_a10_9 := R_IN_keep O_a10_7 Kc9 (own_nin (Ne.symm ne_a2_a10) List.not_mem_nil)
  have O_a1_9 := R_MP_keep O_a1_7 Kc9 (own_nin ne_a1_a2 List.not_mem_nil)
  have O_a5_9 := R_ND_keep O_a5_7 Kc9 (own_nin (Ne.symm ne_a2_a5) List.not_mem_nil)
  have K9 := Keep.trans K7 Kc9 (own_memc (Or.inl (List.mem_of_getElem? (i := 1) rfl)) own_memn)
  have Z9 : n0 ≤ T9.heap.size := Nat.le_trans Z7 Kc9.1
  refine g_aloadN X9 hx (hb hby d19_55) rfl rfl ?_
  refine g_aloadN X9 hx (hb hby d19_56) rfl rfl ?_
  refine g_call (own_callV X9 hx hZ (y := Y31) hown (Wd129 hw) (Wd130 hw) (Wd132 hw) (Wd131 hw) (Wd133 hw) (Wd2 hw) (by decide) (rm_refresh_76 l Z a0 hw a1 a2 T9.heap n0 Z9 ) (rfl : T9.heap = T9.heap) O_a1_9.1 pd_18 (hb hby d19_57) (by rw [hml]; rfl) (argsL := [(.ref a2)]) (rest := []) rfl rfl rfl (W := 0) (Nat.le_of_eq rfl) (by decide)) (fun v10 T10 L10 X10 q10 => ?_)
  obtain ⟨rfl, M10, e10⟩ := q10
  have N10 := Fr.app N9 M10
  refine g_aloadN X10 hx (hb hby d19_60) rfl rfl ?_
  refine g_aloadN X10 hx (hb hby d19_61) rfl rfl ?_
  refine g_call (own_callV X10 hx hZ (y := Y31) hown (Wd129 hw) (Wd130 hw) (Wd132 hw) (Wd131 hw) (Wd133 hw) (Wd2 hw) (by decide) (rm_refresh_76 l Z a0 hw a1 a5 T9.heap n0 Z9 ) e10 O_a1_9.1 pd_18 (hb hby d19_62) (by rw [hml]; rfl) (argsL := [(.ref a5)]) (rest := []) rfl rfl rfl (W := 0) (Nat.le_of_eq rfl) (by decide)) (fun v11 T11 L11 X11 q11 => ?_)
  obtain ⟨rfl, M11, e11⟩ := q11
  have N11 := Fr.app N10 M11
  exact own_retV X11 hx hret hlk (hb hby d19_65) (by decide) (by decide) (by rw [e11]; exact ⟨rfl, N11, K9, O_a1_9, Rk9_0, O_a5_9⟩)
theorem rm_isRed_77 (l : Launch) (Z : State) (a0 : Array Value) (hw : HW a0 Z) (a1 : Addr) (a2 : Addr) (a3 : Addr) (a4 : Addr) (a5 : Addr) (h0 : Heap) (n0 : Nat) (Z0 : n0 ≤ h0.size) (O_a1 : R_ND Z h0 a1 (.ref a2) (.ref a3) (.ref a4) (.ref a5) .null (.int 1)) :
    Ctr l Y24 prog_7_method_81_code 1 (some FieldType.boolean) [] ({ frames := 0, cells := 0, slots := 0, locals := 0 } : Room) Z #[(.ref a1)] h0 (fun v h L => v = some (.int 0) ∧ Fr n0 L ∧ h = h0) := by
  refine own_enter pn_2 (fun p e s m below meth c s₁ hx hby hml hown hnm hret hlk hZ X0 e0 => ?_)
  have N0 := Fr.nil n0
  have K0 := Keep.refl h0 []
  rw [ef_17_R m _]
  show Go p e below (s₁.setTop (mkF m 0 #[vr a1] [])) _
  refine g_aloadN X0 hx (hb hby d17_0) rfl rfl ?_
  refine g_nullNo X0 hx (hb hby d17_1) ?_
  refine g_aloadN X0 hx (hb hby d17_4) rfl rfl ?_
  refine g_getF X0 hx hZ hown (Wd88 hw) e0 O_a1.2.2.2.2.2.2 (hb hby d17_5) (fun T1 X1 e1 => ?_)
  refine g_ifYes X1 hx 15 (hb hby d17_8) ((if0 _ _).trans (flt ((by decide) : ¬ ((1 : Int32) < (0 : Int32)))).2.1) (by decide) (by decide) ?_
  refine g_iconst X1 hx (0 : Int32) (hb hby d17_15) (by decide) ?_
  exact own_retZ X1 hx hret hlk (hb hby d17_16) (by decide) (by decide) (by decide) ⟨rfl, N0, e1⟩
theorem rm_setRed_78 (l : Launch) (Z : State) (a0 : Array Value) (hw : HW a0 Z) (a1 : Addr) (a2 : Addr) (a3 : Addr) (a4 : Addr) (a5 : Addr) (h0 : Heap) (n0 : Nat) (Z0 : n0 ≤ h0.size) (O_a1 : R_ND Z h0 a1 (.ref a2) (.ref a3) (.ref a4) (.ref a5) .null (.int 1)) (g_a1 : n0 ≤ a1) :
    Ctr l Y17 prog_7_method_82_code 2 none [] ({ frames := 0, cells := 0, slots := 0, locals := 0 } : Room) Z #[(.ref a1), (.int 0)] h0 (fun v h L => v = none ∧ Fr n0 L ∧ Keep h0 h [a1] ∧ R_ND Z h a1 (.ref a2) (.ref a3) (.ref a4) (.ref a5) .null (.int 1)) := by
  refine own_enter pn_2 (fun p e s m below meth c s₁ hx hby hml hown hnm hret hlk hZ X0 e0 => ?_)
  have N0 := Fr.nil n0
  have K0 := Keep.refl h0 [a1]
  rw [ef_13_RI m _ _]
  show Go p e below (s₁.setTop (mkF m 0 #[vr a1, vi 0] [])) _
  refine g_aloadN X0 hx (hb hby d13_0) rfl rfl ?_
  refine g_iloadN X0 hx (hb hby d13_1) rfl ?_
  refine g_ifYes X0 hx 16 (hb hby d13_2) ((if0 _ _).trans (teq ((by decide) : (0 : Int32) = (0 : Int32))).1) (by decide) (by decide) ?_
  refine g_aloadN X0 hx (hb hby d13_16) rfl rfl ?_
  refine g_getF X0 hx hZ hown (Wd88 hw) e0 O_a1.2.2.2.2.2.2 (hb hby d13_17) (fun T1 X1 e1 => ?_)
  refine g_ldcw X1 hx hZ hown (Wd89 hw) (hb hby d13_20) ?_
  refine g_iand X1 hx (hb hby d13_23) ?_
  show Go p e below (T1.setTop (mkF m 24 #[vr a1, vi 0] [(.int ((1 : Int32) &&& (2147483647 : Int32))), (.ref a1)])) _
  rw [show ((1 : Int32) &&& (2147483647 : Int32)) = (1 : Int32) from by decide]
  refine g_putF X1 hx hZ hown (Wd88 hw) e1 O_a1.2.2.2.2.2.2 O_a1.1 (Or.inl (Wd78 hw)) (Wd70 hw) fd_0 rfl rfl (hb hby d13_24) (fun T2 h2 X2 e2 W2 => ?_)
  have N2 := Fr.snoc X2 N0 g_a1
  have O_a1_2 := R_ND_set_redAndLeftCount hw W2 O_a1
  have Z2 : n0 ≤ h2.size := Nat.le_trans Z0 (Nat.le_of_eq W2.size.symm)
  have K2 := Keep.wr K0 W2 (Or.inl (List.mem_of_getElem? (i := 0) rfl))
  exact own_retV X2 hx hret hlk (hb hby d13_27) (by decide) (by decide) (by rw [e2]; exact ⟨rfl, N2, K2, O_a1_2⟩)
theorem d16_12 : decode prog_7_method_90_code 12 = .ok (.aload_n 2, 1) := by decide +kernel
theorem d16_13 : decode prog_7_method_90_code 13 = .ok (.getfield 282, 3) := by decide +kernel
theorem d16_16 : decode prog_7_method_90_code 16 = .ok (.astore_n 3, 1) := by decide +kernel
theorem d16_17 : decode prog_7_method_90_code 17 = .ok (.aload_n 3, 1) := by decide +kernel
theorem d16_18 : decode prog_7_method_90_code 18 = .ok (.getfield 282, 3) := by decide +kernel
theorem d16_21 : decode prog_7_method_90_code 21 = .ok (.astore 4, 2) := by decide +kernel
theorem d16_23 : decode prog_7_method_90_code 23 = .ok (.aload_n 3, 1) := by decide +kernel
theorem d16_24 : decode prog_7_method_90_code 24 = .ok (.aload 4, 2) := by decide +kernel
theorem d16_26 : decode prog_7_method_90_code 26 = .ok (.getfield 211, 3) := by decide +kernel
theorem d16_29 : decode prog_7_method_90_code 29 = .ok (.if_acmp .ne 81, 3) := by decide +kernel
theorem d16_32 : decode prog_7_method_90_code 32 = .ok (.aload 4, 2) := by decide +kernel
theorem d16_34 : decode prog_7_method_90_code 34 = .ok (.getfield 214, 3) := by decide +kernel
theorem d16_37 : decode prog_7_method_90_code 37 = .ok (.astore 5, 2) := by decide +kernel
theorem d16_39 : decode prog_7_method_90_code 39 = .ok (.aload 5, 2) := by decide +kernel
theorem d16_41 : decode prog_7_method_90_code 41 = .ok (.invokestatic 300, 3) := by decide +kernel
theorem d16_44 : decode prog_7_method_90_code 44 = .ok (.ifCond .eq 26, 3) := by decide +kernel
theorem d16_70 : decode prog_7_method_90_code 70 = .ok (.aload_n 2, 1) := by decide +kernel
theorem d16_71 : decode prog_7_method_90_code 71 = .ok (.aload_n 3, 1) := by decide +kernel
theorem d16_72 : decode prog_7_method_90_code 72 = .ok (.getfield 214, 3) := by decide +kernel
theorem d16_75 : decode prog_7_method_90_code 75 = .ok (.if_acmp .ne 15, 3) := by decide +kernel
theorem d16_90 : decode prog_7_method_90_code 90 = .ok (.aload_n 3, 1) := by decide +kernel
theorem d16_91 : decode prog_7_method_90_code 91 = .ok (.iconst 0, 1) := by decide +kernel
theorem d16_92 : decode prog_7_method_90_code 92 = .ok (.invokestatic 237, 3) := by decide +kernel
theorem d16_95 : decode prog_7_method_90_code 95 = .ok (.aload 4, 2) := by decide +kernel
theorem d16_97 : decode prog_7_method_90_code 97 = .ok (.iconst 1, 1) := by decide +kernel
theorem d16_98 : decode prog_7_method_90_code 98 = .ok (.invokestatic 237, 3) := by decide +kernel
theorem d16_101 : decode prog_7_method_90_code 101 = .ok (.aload_n 0, 1) := by decide +kernel
theorem d16_102 : decode prog_7_method_90_code 102 = .ok (.aload 4, 2) := by decide +kernel
theorem d16_104 : decode prog_7_method_90_code 104 = .ok (.invokevirtual 307, 3) := by decide +kernel
theorem d16_107 : decode prog_7_method_90_code 107 = .ok (.goto 78, 3) := by decide +kernel
theorem d16_185 : decode prog_7_method_90_code 185 = .ok (.goto (-183), 3) := by decide +kernel
theorem rm_balanceAfterInsert_67 (l : Launch) (Z : State) (a0 : Array Value) (hw : HW a0 Z) (a1 : Addr) (a2 : Addr) (a3 : Addr) (i1 : Int32) (a4 : Addr) (a5 : Addr) (a6 : Addr) (a7 : Addr) (a8 : Addr) (i2 : Int32) (i3 : Int32) (a9 : Addr) (a10 : Addr) (i4 : Int32) (i5 : Int32) (h0 : Heap) (n0 : Nat) (Z0 : n0 ≤ h0.size) (O_a1 : R_MP Z h0 a1 .null (.ref a3) (.int 3) (.int i1)) (O_a2 : R_ND Z h0 a2 (.ref a4) (.ref a5) .null .null (.ref a6) (.int (-2147483648))) (O_a3 : R_ND Z h0 a3 (.ref a7) (.ref a8) (.ref a6) .null .null (.int 2)) (O_a4 : R_IN Z h0 a4 (.int i2)) (O_a5 : R_IN Z h0 a5 (.int i3)) (O_a6 : R_ND Z h0 a6 (.ref a9) (.ref a10) (.ref a2) .null (.ref a3) (.int (-2147483647))) (O_a7 : R_IN Z h0 a7 (.int i4)) (O_a9 : R_IN Z h0 a9 (.int i5)) (ne_a1_a2 : a1 ≠ a2) (ne_a1_a3 : a1 ≠ a3) (ne_a1_a4 : a1 ≠ a4) (ne_a1_a5 : a1 ≠ a5) (ne_a1_a6 : a1 ≠ a6) (ne_a1_a7 : a1 ≠ a7) (ne_a1_a9 : a1 ≠ a9) (ne_a2_a3 : a2 ≠ a3) (ne_a2_a6 : a2 ≠ a6) (ne_a3_a4 : a3 ≠ a4) (ne_a3_a5 : a3 ≠ a5) (ne_a3_a6 : a3 ≠ a6) (ne_a3_a7 : a3 ≠ a7) (ne_a3_a9 : a3 ≠ a9) (ne_a4_a6 : a4 ≠ a6) (ne_a5_a6 : a5 ≠ a6) (ne_a6_a7 : a6 ≠ a7) (ne_a6_a9 : a6 ≠ a9) (g_a1 : n0 ≤ a1) (g_a3 : n0 ≤ a3) (g_a6 : n0 ≤ a6) (hk0 : i2 < i4) (hk1 : i2 < i5) :
    Ctr l Y25 prog_7_method_90_code 6 none [] ({ frames := 2, cells := 0, slots := 0, locals := 29 } : Room) Z #[(.ref a1), (.ref a2)] h0 (fun v h L => v = none ∧ Fr n0 L ∧ Keep h0 h [a1, a3, a6] ∧ R_MP Z h a1 .null (.ref a6) (.int 3) (.int i1) ∧ R_ND Z h a3 (.ref a7) (.ref a8) .null .null (.ref a6) (.int (-2147483648)) ∧ R_ND Z h a6 (.ref a9) (.ref a10) (.ref a2) (.ref a3) .null (.int 1)) := by
  refine own_enter pn_2 (fun p e s m below meth c s₁ hx hby hml hown hnm hret hlk hZ X0 e0 => ?_)
  have N0 := Fr.nil n0
  have K0 := Keep.refl h0 [a1, a3, a6]
  rw [ef_16_RR m _ _]
  show Go p e below (s₁.setTop (mkF m 0 #[vr a1, vr a2, vu, vu, vu, vu] [])) _
  refine g_aloadN X0 hx (hb hby d16_0) rfl rfl ?_
  refine g_astoreN X0 hx #[vr a1, vr a2, vr a2, vu, vu, vu] (hb hby d16_1) rfl rfl ?_
  refine g_aloadN X0 hx (hb hby d16_2) rfl rfl ?_
  refine g_getF X0 hx hZ hown (Wd111 hw) e0 O_a2.2.2.2.2.2.1 (hb hby d16_3) (fun T1 X1 e1 => ?_)
  refine g_call (own_callS X1 hx hZ (y := Y24) hown (Wd112 hw) (Wd113 hw) (Wd2 hw) (Wd114 hw) (by decide) (rm_isRed_68 l Z a0 hw a6 a9 a10 a2 a3 h0 n0 Z0 O_a6) e1 pd_19 (hb hby d16_6) (by rw [hml]; rfl) (argsL := [(.ref a6)]) (rest := []) rfl rfl rfl (W := 0) (Nat.le_of_eq rfl) (by decide)) (fun v2 T2 L2 X2 q2 => ?_)
  obtain ⟨rfl, M2, e2⟩ := q2
  have N2 := Fr.app N0 M2
  refine g_ifNo X2 hx (hb hby d16_9) ((if0 _ _).trans (feq ((by decide) : ¬ ((1 : Int32) = (0 : Int32)))).1) ?_
  refine g_aloadN X2 hx (hb hby d16_12) rfl rfl ?_
  refine g_getF X2 hx hZ hown (Wd111 hw) e2 O_a2.2.2.2.2.2.1 (hb hby d16_13) (fun T3 X3 e3 => ?_)
  refine g_astoreN X3 hx #[vr a1, vr a2, vr a2, vr a6, vu, vu] (hb hby d16_16) rfl rfl ?_
  refine g_aloadN X3 hx (hb hby d16_17) rfl rfl ?_
  refine g_getF X3 hx hZ hown (Wd111 hw) e3 O_a6.2.2.2.2.2.1 (hb hby d16_18) (fun T4 X4 e4 => ?_)
  refine g_astore X4 hx #[vr a1, vr a2, vr a2, vr a6, vr a3, vu] (hb hby d16_21) rfl rfl ?_
  refine g_aloadN X4 hx (hb hby d16_23) rfl rfl ?_
  refine g_aload X4 hx (hb hby d16_24) rfl rfl ?_
  refine g_getF X4 hx hZ hown (Wd95 hw) e4 O_a3.2.2.2.1 (hb hby d16_26) (fun T5 X5 e5 => ?_)
  have c29_0 : a6 = a6 := rfl
  refine g_acmp X5 hx 32 true rfl rfl (hb hby d16_29) (decide_eq_true (congrArg Value.ref c29_0)) (by decide) (by decide) ?_
  refine g_aload X5 hx (hb hby d16_32) rfl rfl ?_
  refine g_getF X5 hx hZ hown (Wd97 hw) e5 O_a3.2.2.2.2.1 (hb hby d16_34) (fun T6 X6 e6 => ?_)
  refine g_astore X6 hx #[vr a1, vr a2, vr a2, vr a6, vr a3, vn] (hb hby d16_37) rfl rfl ?_
  refine g_aload X6 hx (hb hby d16_39) rfl rfl ?_
  refine g_call (own_callS X6 hx hZ (y := Y24) hown (Wd112 hw) (Wd113 hw) (Wd2 hw) (Wd114 hw) (by decide) (rm_isRed_69 l Z a0 hw  h0 n0 Z0 ) e6 pd_19 (hb hby d16_41) (by rw [hml]; rfl) (argsL := [.null]) (rest := []) rfl rfl rfl (W := 0) (Nat.le_of_eq rfl) (by decide)) (fun v7 T7 L7 X7 q7 => ?_)
  obtain ⟨rfl, M7, e7⟩ := q7
  have N7 := Fr.app N2 M7
  refine g_ifYes X7 hx 70 (hb hby d16_44) ((if0 _ _).trans (teq ((by decide) : (0 : Int32) = (0 : Int32))).1) (by decide) (by decide) ?_
  refine g_aloadN X7 hx (hb hby d16_70) rfl rfl ?_
  refine g_aloadN X7 hx (hb hby d16_71) rfl rfl ?_
  refine g_getF X7 hx hZ hown (Wd97 hw) e7 O_a6.2.2.2.2.1 (hb hby d16_72) (fun T8 X8 e8 => ?_)
  refine g_acmp X8 hx 90 false rfl rfl (hb hby d16_75) (decide_eq_false nofun) (by decide) (by decide) ?_
  refine g_aloadN X8 hx (hb hby d16_90) rfl rfl ?_
  refine g_iconst X8 hx (0 : Int32) (hb hby d16_91) (by decide) ?_
  refine g_call (own_callS X8 hx hZ (y := Y17) hown (Wd85 hw) (Wd86 hw) (Wd2 hw) (Wd87 hw) (by decide) (rm_setRed_70 l Z a0 hw a6 a9 a10 a2 a3 h0 n0 Z0 O_a6 g_a6) e8 pd_14 (hb hby d16_92) (by rw [hml]; rfl) (argsL := [(.ref a6), (.int 0)]) (rest := []) rfl rfl rfl (W := 0) (Nat.le_of_eq rfl) (by decide)) (fun v9 T9 L9 X9 q9 => ?_)
  obtain ⟨rfl, M9, Kc9, Rk9_0⟩ := q9
  have N9 := Fr.app N7 M9
  have O_a1_9 := R_MP_keep O_a1 Kc9 (own_nin ne_a1_a6 List.not_mem_nil)
  have O_a2_9 := R_ND_keep O_a2 Kc9 (own_nin ne_a2_a6 List.not_mem_nil)
  have O_a3_9 := R_ND_keep O_a3 Kc9 (own_nin ne_a3_a6 List.not_mem_nil)
  have O_a4_9 := R_IN_keep O_a4 Kc9 (own_nin ne_a4_a6 List.not_mem_nil)
  have O_a5_9 := R_IN_keep O_a5 Kc9 (own_nin ne_a5_a6 List.not_mem_nil)
  have O_a7_9 := R_IN_keep O_a7 Kc9 (own_nin (Ne.symm ne_a6_a7) List.not_mem_nil)
  have O_a9_9 := R_IN_keep O_a9 Kc9 (own_nin (Ne.symm ne_a6_a9) List.not_mem_nil)
  have K9 := Keep.trans K0 Kc9 (own_memc (Or.inl (List.mem_of_getElem? (i := 2) rfl)) own_memn)
  have Z9 : n0 ≤ T9.heap.size := Nat.le_trans Z0 Kc9.1
  refine g_aload X9 hx (hb hby d16_95) rfl rfl ?_
  refine g_iconst X9 hx (1 : Int32) (hb hby d16_97) (by decide) ?_
  refine g_call (own_callS X9 hx hZ (y := Y17) hown (Wd85 hw) (Wd86 hw) (Wd2 hw) (Wd87 hw) (by decide) (rm_setRed_71 l Z a0 hw a3 a7 a8 a6 T9.heap n0 Z9 O_a3_9 g_a3) (rfl : T9.heap = T9.heap) pd_14 (hb hby d16_98) (by rw [hml]; rfl) (argsL := [(.ref a3), (.int 1)]) (rest := []) rfl rfl rfl (W := 0) (Nat.le_of_eq rfl) (by decide)) (fun v10 T10 L10 X10 q10 => ?_)
  obtain ⟨rfl, M10, Kc10, Rk10_0⟩ := q10
  have N10 := Fr.app N9 M10
  have O_a1_10 := R_MP_keep O_a1_9 Kc10 (own_nin ne_a1_a3 List.not_mem_nil)
  have O_a2_10 := R_ND_keep O_a2_9 Kc10 (own_nin ne_a2_a3 List.not_mem_nil)
  have O_a4_10 := R_IN_keep O_a4_9 Kc10 (own_nin (Ne.symm ne_a3_a4) List.not_mem_nil)
  have O_a5_10 := R_IN_keep O_a5_9 Kc10 (own_nin (Ne.symm ne_a3_a5) List.not_mem_nil)
  have O_a7_10 := R_IN_keep O_a7_9 Kc10 (own_nin (Ne.symm ne_a3_a7) List.not_mem_nil)
  have O_a9_10 := R_IN_keep O_a9_9 Kc10 (own_nin (Ne.symm ne_a3_a9) List.not_mem_nil)
  have O_a6_10 := R_ND_keep Rk9_0 Kc10 (own_nin (Ne.symm ne_a3_a6) List.not_mem_nil)
  have K10 := Keep.trans K9 Kc10 (own_memc (Or.inl (List.mem_of_getElem? (i := 1) rfl)) own_memn)
  have Z10 : n0 ≤ T10.heap.size := Nat.le_trans Z9 Kc10.1
  refine g_aloadN X10 hx (hb hby d16_101) rfl rfl ?_
  refine g_aload X10 hx (hb hby d16_102) rfl rfl ?_
  refine g_call (own_callP X10 hx hZ (y := Y32) hown (Wd118 hw) (Wd119 hw) (Wd120 hw) (Wd1 hw) (Wd121 hw) (Wd2 hw) (by decide) (rm_rotateRight_72 l Z a0 hw a1 a3 i1 a7 a8 a6 i4 a9 a10 a2 i5 a4 a5 i2 i3 T10.heap n0 Z10 O_a1_10 Rk10_0 O_a7_10 O_a6_10 O_a9_10 O_a2_10 O_a4_10 O_a5_10 ne_a1_a3 ne_a1_a7 ne_a1_a6 ne_a1_a9 ne_a1_a2 ne_a1_a4 ne_a1_a5 ne_a3_a7 ne_a3_a6 ne_a3_a9 (Ne.symm ne_a2_a3) ne_a3_a4 ne_a3_a5 (Ne.symm ne_a6_a7) ne_a6_a9 (Ne.symm ne_a2_a6) (Ne.symm ne_a4_a6) (Ne.symm ne_a5_a6) g_a1 g_a3 g_a6 hk0 hk1) (rfl : T10.heap = T10.heap) O_a1_10.1 pd_18 (hb hby d16_104) (by rw [hml]; rfl) (argsL := [(.ref a3)]) (rest := []) rfl rfl rfl (W := 0) (Nat.le_of_eq rfl) (by decide)) (fun v11 T11 L11 X11 q11 => ?_)
  obtain ⟨rfl, M11, Kc11, Rk11_0, Rk11_1, Rk11_2⟩ := q11
  have N11 := Fr.app N10 M11
  have O_a2_11 := R_ND_keep O_a2_10 Kc11 (own_nin (Ne.symm ne_a1_a2) (own_nin ne_a2_a3 (own_nin ne_a2_a6 List.not_mem_nil)))
  have O_a4_11 := R_IN_keep O_a4_10 Kc11 (own_nin (Ne.symm ne_a1_a4) (own_nin (Ne.symm ne_a3_a4) (own_nin ne_a4_a6 List.not_mem_nil)))
  have O_a5_11 := R_IN_keep O_a5_10 Kc11 (own_nin (Ne.symm ne_a1_a5) (own_nin (Ne.symm ne_a3_a5) (own_nin ne_a5_a6 List.not_mem_nil)))
  have O_a7_11 := R_IN_keep O_a7_10 Kc11 (own_nin (Ne.symm ne_a1_a7) (own_nin (Ne.symm ne_a3_a7) (own_nin (Ne.symm ne_a6_a7) List.not_mem_nil)))
  have O_a9_11 := R_IN_keep O_a9_10 Kc11 (own_nin (Ne.symm ne_a1_a9) (own_nin (Ne.symm ne_a3_a9) (own_nin (Ne.symm ne_a6_a9) List.not_mem_nil)))
  have K11 := Keep.trans K10 Kc11 (own_memc (Or.inl (List.mem_of_getElem? (i := 0) rfl)) (own_memc (Or.inl (List.mem_of_getElem? (i := 1) rfl)) (own_memc (Or.inl (List.mem_of_getElem? (i := 2) rfl)) own_memn)))
  have Z11 : n0 ≤ T11.heap.size := Nat.le_trans Z10 Kc11.1
  refine g_goto X11 hx 185 (hb hby d16_107) (by decide) (by decide) ?_
  refine g_goto X11 hx 2 (hb hby d16_185) (by decide) (by decide) ?_
  refine g_aloadN X11 hx (hb hby d16_2) rfl rfl ?_
  refine g_getF X11 hx hZ hown (Wd111 hw) (rfl : T11.heap = T11.heap) O_a2_11.2.2.2.2.2.1 (hb hby d16_3) (fun T12 X12 e12 => ?_)
  refine g_call (own_callS X12 hx hZ (y := Y24) hown (Wd112 hw) (Wd113 hw) (Wd2 hw) (Wd114 hw) (by decide) (rm_isRed_77 l Z a0 hw a6 a9 a10 a2 a3 T11.heap n0 Z11 Rk11_2) e12 pd_19 (hb hby d16_6) (by rw [hml]; rfl) (argsL := [(.ref a6)]) (rest := []) rfl rfl rfl (W := 0) (Nat.le_of_eq rfl) (by decide)) (fun v13 T13 L13 X13 q13 => ?_)
  obtain ⟨rfl, M13, e13⟩ := q13
  have N13 := Fr.app N11 M13
  refine g_ifYes X13 hx 188 (hb hby d16_9) ((if0 _ _).trans (teq ((by decide) : (0 : Int32) = (0 : Int32))).1) (by decide) (by decide) ?_
  refine g_aloadN X13 hx (hb hby d16_188) rfl rfl ?_
  refine g_getF X13 hx hZ hown (Wd35 hw) e13 Rk11_0.2.2.1 (hb hby d16_189) (fun T14 X14 e14 => ?_)
  refine g_iconst X14 hx (0 : Int32) (hb hby d16_192) (by decide) ?_
  refine g_call (own_callS X14 hx hZ (y := Y17) hown (Wd85 hw) (Wd86 hw) (Wd2 hw) (Wd87 hw) (by decide) (rm_setRed_78 l Z a0 hw a6 a9 a10 a2 a3 T11.heap n0 Z11 Rk11_2 g_a6) e14 pd_14 (hb hby d16_193) (by rw [hml]; rfl) (argsL := [(.ref a6), (.int 0)]) (rest := []) rfl rfl rfl (W := 0) (Nat.le_of_eq rfl) (by decide)) (fun v15 T15 L15 X15 q15 => ?_)
  obtain ⟨rfl, M15, Kc15, Rk15_0⟩ := q15
  have N15 := Fr.app N13 M15
  have O_a2_15 := R_ND_keep O_a2_11 Kc15 (own_nin ne_a2_a6 List.not_mem_nil)
  have O_a4_15 := R_IN_keep O_a4_11 Kc15 (own_nin ne_a4_a6 List.not_mem_nil)
  have O_a5_15 := R_IN_keep O_a5_11 Kc15 (own_nin ne_a5_a6 List.not_mem_nil)
  have O_a7_15 := R_IN_keep O_a7_11 Kc15 (own_nin (Ne.symm ne_a6_a7) List.not_mem_nil)
  have O_a9_15 := R_IN_keep O_a9_11 Kc15 (own_nin (Ne.symm ne_a6_a9) List.not_mem_nil)
  have O_a1_15 := R_MP_keep Rk11_0 Kc15 (own_nin ne_a1_a6 List.not_mem_nil)
  have O_a3_15 := R_ND_keep Rk11_1 Kc15 (own_nin ne_a3_a6 List.not_mem_nil)
  have K15 := Keep.trans K11 Kc15 (own_memc (Or.inl (List.mem_of_getElem? (i := 2) rfl)) own_memn)
  have Z15 : n0 ≤ T15.heap.size := Nat.le_trans Z11 Kc15.1
  exact own_retV X15 hx hret hlk (hb hby d16_196) (by decide) (by decide) (by rw [(rfl : T15.heap = T15.heap)]; exact ⟨rfl, N15, K15, O_a1_15, O_a3_15, Rk15_0⟩)
theorem rm_addIfAbsent_62 (l : Launch) (Z : State) (a0 : Array Value) (hw : HW a0 Z) (a1 : Addr) (a2 : Addr) (a3 : Addr) (a4 : Addr) (i1 : Int32) (i2 : Int32) (i3 : Int32) (a5 : Addr) (a6 : Addr) (a7 : Addr) (i4 : Int32) (a8 : Addr) (a9 : Addr) (i5 : Int32) (h0 : Heap) (n0 : Nat) (Z0 : n0 ≤ h0.size) (O_a1 : R_MP Z h0 a1 .null (.ref a4) (.int 2) (.int i1)) (O_a2 : R_IN Z h0 a2 (.int i2)) (O_a3 : R_IN Z h0 a3 (.int i3)) (O_a4 : R_ND Z h0 a4 (.ref a5) (.ref a6) (.ref a7) .null .null (.int 1)) (O_a5 : R_IN Z h0 a5 (.int i4)) (O_a7 : R_ND Z h0 a7 (.ref a8) (.ref a9) .null .null (.ref a4) (.int (-2147483648))) (O_a8 : R_IN Z h0 a8 (.int i5)) (ne_a1_a2 : a1 ≠ a2) (ne_a1_a3 : a1 ≠ a3) (ne_a1_a4 : a1 ≠ a4) (ne_a1_a5 : a1 ≠ a5) (ne_a1_a7 : a1 ≠ a7) (ne_a1_a8 : a1 ≠ a8) (ne_a2_a4 : a2 ≠ a4) (ne_a2_a7 : a2 ≠ a7) (ne_a3_a4 : a3 ≠ a4) (ne_a3_a7 : a3 ≠ a7) (ne_a4_a5 : a4 ≠ a5) (ne_a4_a7 : a4 ≠ a7) (ne_a4_a8 : a4 ≠ a8) (ne_a5_a7 : a5 ≠ a7) (ne_a7_a8 : a7 ≠ a8) (g_a1 : n0 ≤ a1) (g_a4 : n0 ≤ a4) (g_a7 : n0 ≤ a7) (hk0 : i2 < i4) (hk1 : i2 < i5) :
    CtrH l Y18 prog_7_method_65_code 15 (some (FieldType.object "com/example/rosewood/rosewood/RosewoodMap$Node")) [(71, 122, 210, 0), (137, 195, 210, 0), (210, 212, 210, 0)] ({ frames := 4, cells := 1, slots := 6, locals := 53 } : Room) Z #[(.ref a1), (.ref a2), (.ref a3)] h0 (fun v h L => ∃ f1, v = some .null ∧ Fr n0 L ∧ Keep h0 h [a1, a4, a7] ∧ h0.size ≤ f1 ∧ R_MP Z h a1 .null (.ref a7) (.int 3) (.int (i1 + (1 : Int32))) ∧ R_ND Z h a4 (.ref a5) (.ref a6) .null .null (.ref a7) (.int (-2147483648)) ∧ R_ND Z h a7 (.ref a8) (.ref a9) (.ref f1) (.ref a4) .null (.int 1) ∧ R_ND Z h f1 (.ref a2) (.ref a3) .null .null (.ref a7) (.int (-2147483648))) := by
  refine own_enterH pn_2 (fun p e s m below meth c s₁ hx hby hml hown hnm hret hlk hZ X0 e0 => ?_)
  have N0 := Fr.nil n0
  have K0 := Keep.refl h0 [a1, a4, a7]
  rw [ef_38_RRR m _ _ _]
  show Go p e below (s₁.setTop (mkF m 0 #[vr a1, vr a2, vr a3, vu, vu, vu, vu, vu, vu, vu, vu, vu, vu, vu, vu] [])) _
  refine g_aloadN X0 hx (hb hby d38_0) rfl rfl ?_
  refine g_getF X0 hx hZ hown (Wd35 hw) e0 O_a1.2.2.1 (hb hby d38_1) (fun T1 X1 e1 => ?_)
  refine g_nonnullYes X1 hx 50 (hb hby d38_4) (by decide) (by decide) ?_
  refine g_null X1 hx (hb hby d38_50) ?_
  refine g_astoreN X1 hx #[vr a1, vr a2, vr a3, vn, vu, vu, vu, vu, vu, vu, vu, vu, vu, vu, vu] (hb hby d38_51) rfl rfl ?_
  refine g_iconst X1 hx (0 : Int32) (hb hby d38_52) (by decide) ?_
  refine g_istore X1 hx #[vr a1, vr a2, vr a3, vn, vi 0, vu, vu, vu, vu, vu, vu, vu, vu, vu, vu] (hb hby d38_53) rfl ?_
  refine g_aloadN X1 hx (hb hby d38_55) rfl rfl ?_
  refine g_getF X1 hx hZ hown (Wd35 hw) e1 O_a1.2.2.1 (hb hby d38_56) (fun T2 X2 e2 => ?_)
  refine g_astore X2 hx #[vr a1, vr a2, vr a3, vn, vi 0, vr a4, vu, vu, vu, vu, vu, vu, vu, vu, vu] (hb hby d38_59) rfl rfl ?_
  refine g_aload X2 hx (hb hby d38_61) rfl rfl ?_
  refine g_getF X2 hx hZ hown (Wd94 hw) e2 O_a4.2.1 (hb hby d38_63) (fun T3 X3 e3 => ?_)
  refine g_astore X3 hx #[vr a1, vr a2, vr a3, vn, vi 0, vr a4, vr a5, vu, vu, vu, vu, vu, vu, vu, vu] (hb hby d38_66) rfl rfl ?_
  refine g_null X3 hx (hb hby d38_68) ?_
  refine g_astore X3 hx #[vr a1, vr a2, vr a3, vn, vi 0, vr a4, vr a5, vn, vu, vu, vu, vu, vu, vu, vu] (hb hby d38_69) rfl rfl ?_
  refine g_aload X3 hx (hb hby d38_71) rfl rfl ?_
  refine g_nullNo X3 hx (hb hby d38_73) ?_
  refine g_aload X3 hx (hb hby d38_76) rfl rfl ?_
  refine g_getF X3 hx hZ hown (Wd95 hw) e3 O_a4.2.2.2.1 (hb hby d38_78) (fun T4 X4 e4 => ?_)
  refine g_astore X4 hx #[vr a1, vr a2, vr a3, vn, vi 0, vr a4, vr a5, vn, vr a7, vu, vu, vu, vu, vu, vu] (hb hby d38_81) rfl rfl ?_
  refine g_aload X4 hx (hb hby d38_83) rfl rfl ?_
  refine g_getF X4 hx hZ hown (Wd97 hw) e4 O_a4.2.2.2.2.1 (hb hby d38_85) (fun T5 X5 e5 => ?_)
  refine g_astore X5 hx #[vr a1, vr a2, vr a3, vn, vi 0, vr a4, vr a5, vn, vr a7, vn, vu, vu, vu, vu, vu] (hb hby d38_88) rfl rfl ?_
  refine g_aload X5 hx (hb hby d38_90) rfl rfl ?_
  refine g_call (own_callS X5 hx hZ (y := Y7) hown (Wd99 hw) (Wd100 hw) (Wd2 hw) (Wd101 hw) (by decide) (rm_keyOf_63 l Z a0 hw a7 a8 a9 a4 h0 n0 Z0 O_a7) e5 pd_6 (hb hby d38_92) (by rw [hml]; rfl) (argsL := [(.ref a7)]) (rest := []) rfl rfl rfl (W := 0) (Nat.le_of_eq rfl) (by decide)) (fun v6 T6 L6 X6 q6 => ?_)
  obtain ⟨rfl, M6, e6⟩ := q6
  have N6 := Fr.app N0 M6
  refine g_astore X6 hx #[vr a1, vr a2, vr a3, vn, vi 0, vr a4, vr a5, vn, vr a7, vn, vr a8, vu, vu, vu, vu] (hb hby d38_95) rfl rfl ?_
  refine g_aload X6 hx (hb hby d38_97) rfl rfl ?_
  refine g_call (own_callS X6 hx hZ (y := Y7) hown (Wd99 hw) (Wd100 hw) (Wd2 hw) (Wd101 hw) (by decide) (rm_keyOf_9 l Z a0 hw  h0 n0 Z0 ) e6 pd_6 (hb hby d38_99) (by rw [hml]; rfl) (argsL := [.null]) (rest := []) rfl rfl rfl (W := 0) (Nat.le_of_eq rfl) (by decide)) (fun v7 T7 L7 X7 q7 => ?_)
  obtain ⟨rfl, M7, e7⟩ := q7
  have N7 := Fr.app N6 M7
  refine g_astore X7 hx #[vr a1, vr a2, vr a3, vn, vi 0, vr a4, vr a5, vn, vr a7, vn, vr a8, vn, vu, vu, vu] (hb hby d38_102) rfl rfl ?_
  refine g_aloadN X7 hx (hb hby d38_104) rfl rfl ?_
  refine g_aloadN X7 hx (hb hby d38_105) rfl rfl ?_
  refine g_aload X7 hx (hb hby d38_106) rfl rfl ?_
  refine g_call (own_callV X7 hx hZ (y := Y13) hown (Wd37 hw) (Wd38 hw) (Wd40 hw) (Wd39 hw) (Wd41 hw) (Wd2 hw) (by decide) (rm_compare_64 l Z a0 hw a1 a2 a5 a4 i1 i2 i4 h0 n0 Z0 O_a1 O_a2 O_a5 hk0) e7 O_a1.1 pd_11 (hb hby d38_108) (by rw [hml]; rfl) (argsL := [(.ref a2), (.ref a5)]) (rest := []) rfl rfl rfl (W := 0) (Nat.le_of_eq rfl) (by decide)) (fun v8 T8 L8 X8 q8 => ?_)
  obtain ⟨rfl, M8, e8⟩ := q8
  have N8 := Fr.app N7 M8
  refine g_istore X8 hx #[vr a1, vr a2, vr a3, vn, vi 0, vr a4, vr a5, vn, vr a7, vn, vr a8, vn, vi (-1), vu, vu] (hb hby d38_111) rfl ?_
  refine g_iload X8 hx (hb hby d38_113) rfl ?_
  refine g_ifYes X8 hx 137 (hb hby d38_115) ((if0 _ _).trans (feq ((by decide) : ¬ ((-1 : Int32) = (0 : Int32)))).2) (by decide) (by decide) ?_
  refine g_aload X8 hx (hb hby d38_137) rfl rfl ?_
  refine g_astoreN X8 hx #[vr a1, vr a2, vr a3, vr a4, vi 0, vr a4, vr a5, vn, vr a7, vn, vr a8, vn, vi (-1), vu, vu] (hb hby d38_139) rfl rfl ?_
  refine g_iload X8 hx (hb hby d38_140) rfl ?_
  refine g_istore X8 hx #[vr a1, vr a2, vr a3, vr a4, vi (-1), vr a4, vr a5, vn, vr a7, vn, vr a8, vn, vi (-1), vu, vu] (hb hby d38_142) rfl ?_
  refine g_iload X8 hx (hb hby d38_144) rfl ?_
  refine g_ifNo X8 hx (hb hby d38_146) ((if0 _ _).trans (tlt ((by decide) : (-1 : Int32) < (0 : Int32))).2.1) ?_
  refine g_aload X8 hx (hb hby d38_149) rfl rfl ?_
  refine g_iconst X8 hx (1 : Int32) (hb hby d38_151) (by decide) ?_
  refine g_call (own_callS X8 hx hZ (y := Y22) hown (Wd115 hw) (Wd116 hw) (Wd2 hw) (Wd117 hw) (by decide) (rm_addToLeftCount_65 l Z a0 hw a4 a5 a6 a7 h0 n0 Z0 O_a4 g_a4) e8 pd_17 (hb hby d38_152) (by rw [hml]; rfl) (argsL := [(.ref a4), (.int 1)]) (rest := []) rfl rfl rfl (W := 0) (Nat.le_of_eq rfl) (by decide)) (fun v9 T9 L9 X9 q9 => ?_)
  obtain ⟨rfl, M9, Kc9, Rk9_0⟩ := q9
  have N9 := Fr.app N8 M9
  have O_a1_9 := R_MP_keep O_a1 Kc9 (own_nin ne_a1_a4 List.not_mem_nil)
  have O_a2_9 := R_IN_keep O_a2 Kc9 (own_nin ne_a2_a4 List.not_mem_nil)
  have O_a3_9 := R_IN_keep O_a3 Kc9 (own_nin ne_a3_a4 List.not_mem_nil)
  have O_a5_9 := R_IN_keep O_a5 Kc9 (own_nin (Ne.symm ne_a4_a5) List.not_mem_nil)
  have O_a7_9 := R_ND_keep O_a7 Kc9 (own_nin (Ne.symm ne_a4_a7) List.not_mem_nil)
  have O_a8_9 := R_IN_keep O_a8 Kc9 (own_nin (Ne.symm ne_a4_a8) List.not_mem_nil)
  have K9 := Keep.trans K0 Kc9 (own_memc (Or.inl (List.mem_of_getElem? (i := 1) rfl)) own_memn)
  have Z9 : n0 ≤ T9.heap.size := Nat.le_trans Z0 Kc9.1
  refine g_iload X9 hx (hb hby d38_155) rfl ?_
  refine g_ifNo X9 hx (hb hby d38_157) ((if0 _ _).trans (tlt ((by decide) : (-1 : Int32) < (0 : Int32))).2.1) ?_
  refine g_aload X9 hx (hb hby d38_160) rfl rfl ?_
  refine g_goto X9 hx 167 (hb hby d38_162) (by decide) (by decide) ?_
  refine g_astore X9 hx #[vr a1, vr a2, vr a3, vr a4, vi (-1), vr a7, vr a5, vn, vr a7, vn, vr a8, vn, vi (-1), vu, vu] (hb hby d38_167) rfl rfl ?_
  refine g_iload X9 hx (hb hby d38_169) rfl ?_
  refine g_ifNo X9 hx (hb hby d38_171) ((if0 _ _).trans (tlt ((by decide) : (-1 : Int32) < (0 : Int32))).2.1) ?_
  refine g_aload X9 hx (hb hby d38_174) rfl rfl ?_
  refine g_goto X9 hx 181 (hb hby d38_176) (by decide) (by decide) ?_
  refine g_astore X9 hx #[vr a1, vr a2, vr a3, vr a4, vi (-1), vr a7, vr a8, vn, vr a7, vn, vr a8, vn, vi (-1), vu, vu] (hb hby d38_181) rfl rfl ?_
  refine g_goto X9 hx 71 (hb hby d38_183) (by decide) (by decide) ?_
  refine g_aload X9 hx (hb hby d38_71) rfl rfl ?_
  refine g_nullNo X9 hx (hb hby d38_73) ?_
  refine g_aload X9 hx (hb hby d38_76) rfl rfl ?_
  refine g_getF X9 hx hZ hown (Wd95 hw) (rfl : T9.heap = T9.heap) O_a7_9.2.2.2.1 (hb hby d38_78) (fun T10 X10 e10 => ?_)
  refine g_astore X10 hx #[vr a1, vr a2, vr a3, vr a4, vi (-1), vr a7, vr a8, vn, vn, vn, vr a8, vn, vi (-1), vu, vu] (hb hby d38_81) rfl rfl ?_
  refine g_aload X10 hx (hb hby d38_83) rfl rfl ?_
  refine g_getF X10 hx hZ hown (Wd97 hw) e10 O_a7_9.2.2.2.2.1 (hb hby d38_85) (fun T11 X11 e11 => ?_)
  refine g_astore X11 hx #[vr a1, vr a2, vr a3, vr a4, vi (-1), vr a7, vr a8, vn, vn, vn, vr a8, vn, vi (-1), vu, vu] (hb hby d38_88) rfl rfl ?_
  refine g_aload X11 hx (hb hby d38_90) rfl rfl ?_
  refine g_call (own_callS X11 hx hZ (y := Y7) hown (Wd99 hw) (Wd100 hw) (Wd2 hw) (Wd101 hw) (by decide) (rm_keyOf_9 l Z a0 hw  T9.heap n0 Z9 ) e11 pd_6 (hb hby d38_92) (by rw [hml]; rfl) (argsL := [.null]) (rest := []) rfl rfl rfl (W := 0) (Nat.le_of_eq rfl) (by decide)) (fun v12 T12 L12 X12 q12 => ?_)
  obtain ⟨rfl, M12, e12⟩ := q12
  have N12 := Fr.app N9 M12
  refine g_astore X12 hx #[vr a1, vr a2, vr a3, vr a4, vi (-1), vr a7, vr a8, vn, vn, vn, vn, vn, vi (-1), vu, vu] (hb hby d38_95) rfl rfl ?_
  refine g_aload X12 hx (hb hby d38_97) rfl rfl ?_
  refine g_call (own_callS X12 hx hZ (y := Y7) hown (Wd99 hw) (Wd100 hw) (Wd2 hw) (Wd101 hw) (by decide) (rm_keyOf_9 l Z a0 hw  T9.heap n0 Z9 ) e12 pd_6 (hb hby d38_99) (by rw [hml]; rfl) (argsL := [.null]) (rest := []) rfl rfl rfl (W := 0) (Nat.le_of_eq rfl) (by decide)) (fun v13 T13 L13 X13 q13 => ?_)
  obtain ⟨rfl, M13, e13⟩ := q13
  have N13 := Fr.app N12 M13
  refine g_astore X13 hx #[vr a1, vr a2, vr a3, vr a4, vi (-1), vr a7, vr a8, vn, vn, vn, vn, vn, vi (-1), vu, vu] (hb hby d38_102) rfl rfl ?_
  refine g_aloadN X13 hx (hb hby d38_104) rfl rfl ?_
  refine g_aloadN X13 hx (hb hby d38_105) rfl rfl ?_
  refine g_aload X13 hx (hb hby d38_106) rfl rfl ?_
  refine g_call (own_callV X13 hx hZ (y := Y13) hown (Wd37 hw) (Wd38 hw) (Wd40 hw) (Wd39 hw) (Wd41 hw) (Wd2 hw) (by decide) (rm_compare_64 l Z a0 hw a1 a2 a8 a4 i1 i2 i5 T9.heap n0 Z9 O_a1_9 O_a2_9 O_a8_9 hk1) e13 O_a1_9.1 pd_11 (hb hby d38_108) (by rw [hml]; rfl) (argsL := [(.ref a2), (.ref a8)]) (rest := []) rfl rfl rfl (W := 0) (Nat.le_of_eq rfl) (by decide)) (fun v14 T14 L14 X14 q14 => ?_)
  obtain ⟨rfl, M14, e14⟩ := q14
  have N14 := Fr.app N13 M14
  refine g_istore X14 hx #[vr a1, vr a2, vr a3, vr a4, vi (-1), vr a7, vr a8, vn, vn, vn, vn, vn, vi (-1), vu, vu] (hb hby d38_111) rfl ?_
  refine g_iload X14 hx (hb hby d38_113) rfl ?_
  refine g_ifYes X14 hx 137 (hb hby d38_115) ((if0 _ _).trans (feq ((by decide) : ¬ ((-1 : Int32) = (0 : Int32)))).2) (by decide) (by decide) ?_
  refine g_aload X14 hx (hb hby d38_137) rfl rfl ?_
  refine g_astoreN X14 hx #[vr a1, vr a2, vr a3, vr a7, vi (-1), vr a7, vr a8, vn, vn, vn, vn, vn, vi (-1), vu, vu] (hb hby d38_139) rfl rfl ?_
  refine g_iload X14 hx (hb hby d38_140) rfl ?_
  refine g_istore X14 hx #[vr a1, vr a2, vr a3, vr a7, vi (-1), vr a7, vr a8, vn, vn, vn, vn, vn, vi (-1), vu, vu] (hb hby d38_142) rfl ?_
  refine g_iload X14 hx (hb hby d38_144) rfl ?_
  refine g_ifNo X14 hx (hb hby d38_146) ((if0 _ _).trans (tlt ((by decide) : (-1 : Int32) < (0 : Int32))).2.1) ?_
  refine g_aload X14 hx (hb hby d38_149) rfl rfl ?_
  refine g_iconst X14 hx (1 : Int32) (hb hby d38_151) (by decide) ?_
  refine g_call (own_callS X14 hx hZ (y := Y22) hown (Wd115 hw) (Wd116 hw) (Wd2 hw) (Wd117 hw) (by decide) (rm_addToLeftCount_66 l Z a0 hw a7 a8 a9 a4 T9.heap n0 Z9 O_a7_9 g_a7) e14 pd_17 (hb hby d38_152) (by rw [hml]; rfl) (argsL := [(.ref a7), (.int 1)]) (rest := []) rfl rfl rfl (W := 0) (Nat.le_of_eq rfl) (by decide)) (fun v15 T15 L15 X15 q15 => ?_)
  obtain ⟨rfl, M15, Kc15, Rk15_0⟩ := q15
  have N15 := Fr.app N14 M15
  have O_a1_15 := R_MP_keep O_a1_9 Kc15 (own_nin ne_a1_a7 List.not_mem_nil)
  have O_a2_15 := R_IN_keep O_a2_9 Kc15 (own_nin ne_a2_a7 List.not_mem_nil)
  have O_a3_15 := R_IN_keep O_a3_9 Kc15 (own_nin ne_a3_a7 List.not_mem_nil)
  have O_a5_15 := R_IN_keep O_a5_9 Kc15 (own_nin ne_a5_a7 List.not_mem_nil)
  have O_a8_15 := R_IN_keep O_a8_9 Kc15 (own_nin (Ne.symm ne_a7_a8) List.not_mem_nil)
  have O_a4_15 := R_ND_keep Rk9_0 Kc15 (own_nin ne_a4_a7 List.not_mem_nil)
  have K15 := Keep.trans K9 Kc15 (own_memc (Or.inl (List.mem_of_getElem? (i := 2) rfl)) own_memn)
  have Z15 : n0 ≤ T15.heap.size := Nat.le_trans Z9 Kc15.1
  refine g_iload X15 hx (hb hby d38_155) rfl ?_
  refine g_ifNo X15 hx (hb hby d38_157) ((if0 _ _).trans (tlt ((by decide) : (-1 : Int32) < (0 : Int32))).2.1) ?_
  refine g_aload X15 hx (hb hby d38_160) rfl rfl ?_
  refine g_goto X15 hx 167 (hb hby d38_162) (by decide) (by decide) ?_
  refine g_astore X15 hx #[vr a1, vr a2, vr a3, vr a7, vi (-1), vn, vr a8, vn, vn, vn, vn, vn, vi (-1), vu, vu] (hb hby d38_167) rfl rfl ?_
  refine g_iload X15 hx (hb hby d38_169) rfl ?_
  refine g_ifNo X15 hx (hb hby d38_171) ((if0 _ _).trans (tlt ((by decide) : (-1 : Int32) < (0 : Int32))).2.1) ?_
  refine g_aload X15 hx (hb hby d38_174) rfl rfl ?_
  refine g_goto X15 hx 181 (hb hby d38_176) (by decide) (by decide) ?_
  refine g_astore X15 hx #[vr a1, vr a2, vr a3, vr a7, vi (-1), vn, vn, vn, vn, vn, vn, vn, vi (-1), vu, vu] (hb hby d38_181) rfl rfl ?_
  refine g_goto X15 hx 71 (hb hby d38_183) (by decide) (by decide) ?_
  refine g_aload X15 hx (hb hby d38_71) rfl rfl ?_
  refine g_nullYes X15 hx 186 (hb hby d38_73) (by decide) (by decide) ?_
  refine g_aloadN X15 hx (hb hby d38_186) rfl rfl ?_
  refine g_aloadN X15 hx (hb hby d38_187) rfl rfl ?_
  refine g_aloadN X15 hx (hb hby d38_188) rfl rfl ?_
  refine g_aloadN X15 hx (hb hby d38_189) rfl rfl ?_
  refine g_call (own_callV X15 hx hZ (y := Y16) hown (Wd64 hw) (Wd65 hw) (Wd67 hw) (Wd66 hw) (Wd68 hw) (Wd2 hw) (by decide) (rm_newNode_37 l Z a0 hw a1 a2 a3 a7 T15.heap n0 Z15 ) (rfl : T15.heap = T15.heap) O_a1_15.1 pd_13 (hb hby d38_190) (by rw [hml]; rfl) (argsL := [(.ref a2), (.ref a3), (.ref a7)]) (rest := []) rfl rfl rfl (W := 0) (Nat.le_of_eq rfl) (by decide)) (fun v16 T16 L16 X16 q16 => ?_)
  obtain ⟨b16_0, rfl, M16, Kc16, zb16_0, Rk16_0⟩ := q16
  have N16 := Fr.app N15 M16
  have ne_a1_b16_0 : a1 ≠ b16_0 := Nat.ne_of_lt (Nat.lt_of_lt_of_le O_a1_15.1.lt zb16_0)
  have ne_a2_b16_0 : a2 ≠ b16_0 := Nat.ne_of_lt (Nat.lt_of_lt_of_le O_a2_15.1.lt zb16_0)
  have ne_a3_b16_0 : a3 ≠ b16_0 := Nat.ne_of_lt (Nat.lt_of_lt_of_le O_a3_15.1.lt zb16_0)
  have ne_a5_b16_0 : a5 ≠ b16_0 := Nat.ne_of_lt (Nat.lt_of_lt_of_le O_a5_15.1.lt zb16_0)
  have ne_a8_b16_0 : a8 ≠ b16_0 := Nat.ne_of_lt (Nat.lt_of_lt_of_le O_a8_15.1.lt zb16_0)
  have ne_a4_b16_0 : a4 ≠ b16_0 := Nat.ne_of_lt (Nat.lt_of_lt_of_le O_a4_15.1.lt zb16_0)
  have ne_a7_b16_0 : a7 ≠ b16_0 := Nat.ne_of_lt (Nat.lt_of_lt_of_le Rk15_0.1.lt zb16_0)
  have g_b16_0 : n0 ≤ b16_0 := Nat.le_trans Z15 zb16_0
  have sz_b16_0 : h0.size ≤ b16_0 := Nat.le_trans K15.1 zb16_0
  have O_a1_16 := R_MP_keep O_a1_15 Kc16 List.not_mem_nil
  have O_a2_16 := R_IN_keep O_a2_15 Kc16 List.not_mem_nil
  have O_a3_16 := R_IN_keep O_a3_15 Kc16 List.not_mem_nil
  have O_a5_16 := R_IN_keep O_a5_15 Kc16 List.not_mem_nil
  have O_a8_16 := R_IN_keep O_a8_15 Kc16 List.not_mem_nil
  have O_a4_16 := R_ND_keep O_a4_15 Kc16 List.not_mem_nil
  have O_a7_16 := R_ND_keep Rk15_0 Kc16 List.not_mem_nil
  have K16 := Keep.trans K15 Kc16 own_memn
  have Z16 : n0 ≤ T16.heap.size := Nat.le_trans Z15 Kc16.1
  refine g_astore X16 hx #[vr a1, vr a2, vr a3, vr a7, vi (-1), vn, vn, vr b16_0, vn, vn, vn, vn, vi (-1), vu, vu] (hb hby d38_193) rfl rfl ?_
  refine g_aload X16 hx (hb hby d38_195) rfl rfl ?_
  refine g_nonnullYes X16 hx 227 (hb hby d38_197) (by decide) (by decide) ?_
  refine g_iload X16 hx (hb hby d38_227) rfl ?_
  refine g_ifNo X16 hx (hb hby d38_229) ((if0 _ _).trans (tlt ((by decide) : (-1 : Int32) < (0 : Int32))).2.1) ?_
  refine g_aloadN X16 hx (hb hby d38_232) rfl rfl ?_
  refine g_aload X16 hx (hb hby d38_233) rfl rfl ?_
  refine g_putF X16 hx hZ hown (Wd95 hw) (rfl : T16.heap = T16.heap) O_a7_16.2.2.2.1 O_a7_16.1 (Or.inl (Wd96 hw)) (Wd70 hw) fd_2 rfl rfl (hb hby d38_235) (fun T17 h17 X17 e17 W17 => ?_)
  have N17 := Fr.snoc X17 N16 g_a7
  have O_a1_17 := R_MP_other W17 O_a1_16 ne_a1_a7
  have O_a2_17 := R_IN_other W17 O_a2_16 ne_a2_a7
  have O_a3_17 := R_IN_other W17 O_a3_16 ne_a3_a7
  have O_a5_17 := R_IN_other W17 O_a5_16 ne_a5_a7
  have O_a8_17 := R_IN_other W17 O_a8_16 (Ne.symm ne_a7_a8)
  have O_a4_17 := R_ND_other W17 O_a4_16 ne_a4_a7
  have O_a7_17 := R_ND_set_left hw W17 O_a7_16
  have O_b16_0_17 := R_ND_other W17 Rk16_0 (Ne.symm ne_a7_b16_0)
  have Z17 : n0 ≤ h17.size := Nat.le_trans Z16 (Nat.le_of_eq W17.size.symm)
  have K17 := Keep.wr K16 W17 (Or.inl (List.mem_of_getElem? (i := 2) rfl))
  refine g_goto X17 hx 247 (hb hby d38_238) (by decide) (by decide) ?_
  refine g_aloadN X17 hx (hb hby d38_247) rfl rfl ?_
  refine g_dup X17 hx (hb hby d38_248) rfl ?_
  refine g_getF X17 hx hZ hown (Wd90 hw) e17 O_a1_17.2.2.2.1 (hb hby d38_249) (fun T18 X18 e18 => ?_)
  refine g_iconst X18 hx (1 : Int32) (hb hby d38_252) (by decide) ?_
  refine g_iadd X18 hx (hb hby d38_253) ?_
  show Go p e below (T18.setTop (mkF m 254 #[vr a1, vr a2, vr a3, vr a7, vi (-1), vn, vn, vr b16_0, vn, vn, vn, vn, vi (-1), vu, vu] [(.int ((2 : Int32) + (1 : Int32))), (.ref a1)])) _
  rw [show ((2 : Int32) + (1 : Int32)) = (3 : Int32) from by decide]
  refine g_putF X18 hx hZ hown (Wd90 hw) e18 O_a1_17.2.2.2.1 O_a1_17.1 (Or.inl (Wd91 hw)) (Wd1 hw) fd_0 rfl rfl (hb hby d38_254) (fun T19 h19 X19 e19 W19 => ?_)
  have N19 := Fr.snoc X19 N17 g_a1
  have O_a1_19 := R_MP_set_size hw W19 O_a1_17
  have O_a2_19 := R_IN_other W19 O_a2_17 (Ne.symm ne_a1_a2)
  have O_a3_19 := R_IN_other W19 O_a3_17 (Ne.symm ne_a1_a3)
  have O_a5_19 := R_IN_other W19 O_a5_17 (Ne.symm ne_a1_a5)
  have O_a8_19 := R_IN_other W19 O_a8_17 (Ne.symm ne_a1_a8)
  have O_a4_19 := R_ND_other W19 O_a4_17 (Ne.symm ne_a1_a4)
  have O_a7_19 := R_ND_other W19 O_a7_17 (Ne.symm ne_a1_a7)
  have O_b16_0_19 := R_ND_other W19 O_b16_0_17 (Ne.symm ne_a1_b16_0)
  have Z19 : n0 ≤ h19.size := Nat.le_trans Z17 (Nat.le_of_eq W19.size.symm)
  have K19 := Keep.wr K17 W19 (Or.inl (List.mem_of_getElem? (i := 0) rfl))
  refine g_aloadN X19 hx (hb hby d38_257) rfl rfl ?_
  refine g_aloadN X19 hx (hb hby d38_258) rfl rfl ?_
  refine g_call (own_callV X19 hx hZ (y := Y23) hown (Wd102 hw) (Wd103 hw) (Wd105 hw) (Wd104 hw) (Wd106 hw) (Wd2 hw) (by decide) (rm_refreshToRoot_39 l Z a0 hw a1 a7 h19 n0 Z19 ) e19 O_a1_19.1 pd_18 (hb hby d38_259) (by rw [hml]; rfl) (argsL := [(.ref a7)]) (rest := []) rfl rfl rfl (W := 0) (Nat.le_of_eq rfl) (by decide)) (fun v20 T20 L20 X20 q20 => ?_)
  obtain ⟨rfl, M20, e20⟩ := q20
  have N20 := Fr.app N19 M20
  refine g_aloadN X20 hx (hb hby d38_262) rfl rfl ?_
  refine g_aload X20 hx (hb hby d38_263) rfl rfl ?_
  refine g_call (own_callP X20 hx hZ (y := Y25) hown (Wd107 hw) (Wd108 hw) (Wd109 hw) (Wd1 hw) (Wd110 hw) (Wd2 hw) (by decide) (rm_balanceAfterInsert_67 l Z a0 hw a1 b16_0 a4 i1 a2 a3 a7 a5 a6 i2 i3 a8 a9 i4 i5 h19 n0 Z19 O_a1_19 O_b16_0_19 O_a4_19 O_a2_19 O_a3_19 O_a7_19 O_a5_19 O_a8_19 ne_a1_b16_0 ne_a1_a4 ne_a1_a2 ne_a1_a3 ne_a1_a7 ne_a1_a5 ne_a1_a8 (Ne.symm ne_a4_b16_0) (Ne.symm ne_a7_b16_0) (Ne.symm ne_a2_a4) (Ne.symm ne_a3_a4) ne_a4_a7 ne_a4_a5 ne_a4_a8 ne_a2_a7 ne_a3_a7 (Ne.symm ne_a5_a7) ne_a7_a8 g_a1 g_a4 g_a7 hk0 hk1) e20 O_a1_19.1 pd_18 (hb hby d38_265) (by rw [hml]; rfl) (argsL := [(.ref b16_0)]) (rest := []) rfl rfl rfl (W := 0) (Nat.le_of_eq rfl) (by decide)) (fun v21 T21 L21 X21 q21 => ?_)
  obtain ⟨rfl, M21, Kc21, Rk21_0, Rk21_1, Rk21_2⟩ := q21
  have N21 := Fr.app N20 M21
  have O_a2_21 := R_IN_keep O_a2_19 Kc21 (own_nin (Ne.symm ne_a1_a2) (own_nin ne_a2_a4 (own_nin ne_a2_a7 List.not_mem_nil)))
  have O_a3_21 := R_IN_keep O_a3_19 Kc21 (own_nin (Ne.symm ne_a1_a3) (own_nin ne_a3_a4 (own_nin ne_a3_a7 List.not_mem_nil)))
  have O_a5_21 := R_IN_keep O_a5_19 Kc21 (own_nin (Ne.symm ne_a1_a5) (own_nin (Ne.symm ne_a4_a5) (own_nin ne_a5_a7 List.not_mem_nil)))
  have O_a8_21 := R_IN_keep O_a8_19 Kc21 (own_nin (Ne.symm ne_a1_a8) (own_nin (Ne.symm ne_a4_a8) (own_nin (Ne.symm ne_a7_a8) List.not_mem_nil)))
  have O_b16_0_21 := R_ND_keep O_b16_0_19 Kc21 (own_nin (Ne.symm ne_a1_b16_0) (own_nin (Ne.symm ne_a4_b16_0) (own_nin (Ne.symm ne_a7_b16_0) List.not_mem_nil)))
  have K21 := Keep.trans K19 Kc21 (own_memc (Or.inl (List.mem_of_getElem? (i := 0) rfl)) (own_memc (Or.inl (List.mem_of_getElem? (i := 1) rfl)) (own_memc (Or.inl (List.mem_of_getElem? (i := 2) rfl)) own_memn)))
  have Z21 : n0 ≤ T21.heap.size := Nat.le_trans Z19 Kc21.1
  refine g_aloadN X21 hx (hb hby d38_268) rfl rfl ?_
  refine g_dup X21 hx (hb hby d38_269) rfl ?_
  refine g_getF X21 hx hZ hown (Wd92 hw) (rfl : T21.heap = T21.heap) Rk21_0.2.2.2.2 (hb hby d38_270) (fun T22 X22 e22 => ?_)
  refine g_iconst X22 hx (1 : Int32) (hb hby d38_273) (by decide) ?_
  refine g_iadd X22 hx (hb hby d38_274) ?_
  refine g_putF X22 hx hZ hown (Wd92 hw) e22 Rk21_0.2.2.2.2 Rk21_0.1 (Or.inl (Wd93 hw)) (Wd1 hw) fd_0 rfl rfl (hb hby d38_275) (fun T23 h23 X23 e23 W23 => ?_)
  have N23 := Fr.snoc X23 N21 g_a1
  have O_a2_23 := R_IN_other W23 O_a2_21 (Ne.symm ne_a1_a2)
  have O_a3_23 := R_IN_other W23 O_a3_21 (Ne.symm ne_a1_a3)
  have O_a5_23 := R_IN_other W23 O_a5_21 (Ne.symm ne_a1_a5)
  have O_a8_23 := R_IN_other W23 O_a8_21 (Ne.symm ne_a1_a8)
  have O_b16_0_23 := R_ND_other W23 O_b16_0_21 (Ne.symm ne_a1_b16_0)
  have O_a1_23 := R_MP_set_modCount hw W23 Rk21_0
  have O_a4_23 := R_ND_other W23 Rk21_1 (Ne.symm ne_a1_a4)
  have O_a7_23 := R_ND_other W23 Rk21_2 (Ne.symm ne_a1_a7)
  have Z23 : n0 ≤ h23.size := Nat.le_trans Z21 (Nat.le_of_eq W23.size.symm)
  have K23 := Keep.wr K21 W23 (Or.inl (List.mem_of_getElem? (i := 0) rfl))
  refine g_null X23 hx (hb hby d38_278) ?_
  exact own_retA X23 hx hret hlk rfl rfl (hb hby d38_279) (by decide) (by decide) (by rw [e23]; exact ⟨b16_0, rfl, N23, K23, sz_b16_0, O_a1_23, O_a4_23, O_a7_23, O_b16_0_23⟩)
theorem rm_put_61 (l : Launch) (Z : State) (a0 : Array Value) (hw : HW a0 Z) (a1 : Addr) (a2 : Addr) (a3 : Addr) (a4 : Addr) (i1 : Int32) (i2 : Int32) (i3 : Int32) (a5 : Addr) (a6 : Addr) (a7 : Addr) (i4 : Int32) (a8 : Addr) (a9 : Addr) (i5 : Int32) (h0 : Heap) (n0 : Nat) (Z0 : n0 ≤ h0.size) (O_a1 : R_MP Z h0 a1 .null (.ref a4) (.int 2) (.int i1)) (O_a2 : R_IN Z h0 a2 (.int i2)) (O_a3 : R_IN Z h0 a3 (.int i3)) (O_a4 : R_ND Z h0 a4 (.ref a5) (.ref a6) (.ref a7) .null .null (.int 1)) (O_a5 : R_IN Z h0 a5 (.int i4)) (O_a7 : R_ND Z h0 a7 (.ref a8) (.ref a9) .null .null (.ref a4) (.int (-2147483648))) (O_a8 : R_IN Z h0 a8 (.int i5)) (ne_a1_a2 : a1 ≠ a2) (ne_a1_a3 : a1 ≠ a3) (ne_a1_a4 : a1 ≠ a4) (ne_a1_a5 : a1 ≠ a5) (ne_a1_a7 : a1 ≠ a7) (ne_a1_a8 : a1 ≠ a8) (ne_a2_a4 : a2 ≠ a4) (ne_a2_a7 : a2 ≠ a7) (ne_a3_a4 : a3 ≠ a4) (ne_a3_a7 : a3 ≠ a7) (ne_a4_a5 : a4 ≠ a5) (ne_a4_a7 : a4 ≠ a7) (ne_a4_a8 : a4 ≠ a8) (ne_a5_a7 : a5 ≠ a7) (ne_a7_a8 : a7 ≠ a8) (g_a1 : n0 ≤ a1) (g_a4 : n0 ≤ a4) (g_a7 : n0 ≤ a7) (hk0 : i2 < i4) (hk1 : i2 < i5) :
    Ctr l Y19 prog_7_method_8_code 4 (some (FieldType.object "java/lang/Object")) [] ({ frames := 5, cells := 1, slots := 6, locals := 79 } : Room) Z #[(.ref a1), (.ref a2), (.ref a3)] h0 (fun v h L => ∃ f1, v = some .null ∧ Fr n0 L ∧ Keep h0 h [a1, a4, a7] ∧ h0.size ≤ f1 ∧ R_MP Z h a1 .null (.ref a7) (.int 3) (.int (i1 + (1 : Int32))) ∧ R_ND Z h a4 (.ref a5) (.ref a6) .null .null (.ref a7) (.int (-2147483648)) ∧ R_ND Z h a7 (.ref a8) (.ref a9) (.ref f1) (.ref a4) .null (.int 1) ∧ R_ND Z h f1 (.ref a2) (.ref a3) .null .null (.ref a7) (.int (-2147483648))) := by
  refine own_enter pn_2 (fun p e s m below meth c s₁ hx hby hml hown hnm hret hlk hZ X0 e0 => ?_)
  have N0 := Fr.nil n0
  have K0 := Keep.refl h0 [a1, a4, a7]
  rw [ef_6_RRR m _ _ _]
  show Go p e below (s₁.setTop (mkF m 0 #[vr a1, vr a2, vr a3, vu] [])) _
  refine g_aloadN X0 hx (hb hby d6_0) rfl rfl ?_
  refine g_aloadN X0 hx (hb hby d6_1) rfl rfl ?_
  refine g_aloadN X0 hx (hb hby d6_2) rfl rfl ?_
  refine g_call (own_callPH X0 hx hZ (y := Y18) hown (Wd31 hw) (Wd32 hw) (Wd33 hw) (Wd1 hw) (Wd34 hw) (Wd2 hw) (by decide) (rm_addIfAbsent_62 l Z a0 hw a1 a2 a3 a4 i1 i2 i3 a5 a6 a7 i4 a8 a9 i5 h0 n0 Z0 O_a1 O_a2 O_a3 O_a4 O_a5 O_a7 O_a8 ne_a1_a2 ne_a1_a3 ne_a1_a4 ne_a1_a5 ne_a1_a7 ne_a1_a8 ne_a2_a4 ne_a2_a7 ne_a3_a4 ne_a3_a7 ne_a4_a5 ne_a4_a7 ne_a4_a8 ne_a5_a7 ne_a7_a8 g_a1 g_a4 g_a7 hk0 hk1) e0 O_a1.1 pd_15 (hb hby d6_3) (by rw [hml]; rfl) (argsL := [(.ref a2), (.ref a3)]) (rest := []) rfl rfl rfl (W := 0) (Nat.le_of_eq rfl) (by decide)) (fun v1 T1 L1 X1 q1 => ?_)
  obtain ⟨b1_0, rfl, M1, Kc1, zb1_0, Rk1_0, Rk1_1, Rk1_2, Rk1_3⟩ := q1
  have N1 := Fr.app N0 M1
  have ne_a1_b1_0 : a1 ≠ b1_0 := Nat.ne_of_lt (Nat.lt_of_lt_of_le O_a1.1.lt zb1_0)
  have ne_a2_b1_0 : a2 ≠ b1_0 := Nat.ne_of_lt (Nat.lt_of_lt_of_le O_a2.1.lt zb1_0)
  have ne_a3_b1_0 : a3 ≠ b1_0 := Nat.ne_of_lt (Nat.lt_of_lt_of_le O_a3.1.lt zb1_0)
  have ne_a4_b1_0 : a4 ≠ b1_0 := Nat.ne_of_lt (Nat.lt_of_lt_of_le O_a4.1.lt zb1_0)
  have ne_a5_b1_0 : a5 ≠ b1_0 := Nat.ne_of_lt (Nat.lt_of_lt_of_le O_a5.1.lt zb1_0)
  have ne_a7_b1_0 : a7 ≠ b1_0 := Nat.ne_of_lt (Nat.lt_of_lt_of_le O_a7.1.lt zb1_0)
  have ne_a8_b1_0 : a8 ≠ b1_0 := Nat.ne_of_lt (Nat.lt_of_lt_of_le O_a8.1.lt zb1_0)
  have g_b1_0 : n0 ≤ b1_0 := Nat.le_trans Z0 zb1_0
  have sz_b1_0 : h0.size ≤ b1_0 := Nat.le_trans K0.1 zb1_0
  have O_a2_1 := R_IN_keep O_a2 Kc1 (own_nin (Ne.symm ne_a1_a2) (own_nin ne_a2_a4 (own_nin ne_a2_a7 List.not_mem_nil)))
  have O_a3_1 := R_IN_keep O_a3 Kc1 (own_nin (Ne.symm ne_a1_a3) (own_nin ne_a3_a4 (own_nin ne_a3_a7 List.not_mem_nil)))
  have O_a5_1 := R_IN_keep O_a5 Kc1 (own_nin (Ne.symm ne_a1_a5) (own_nin (Ne.symm ne_a4_a5) (own_nin ne_a5_a7 List.not_mem_nil)))
  have O_a8_1 := R_IN_keep O_a8 Kc1 (own_nin (Ne.symm ne_a1_a8) (own_nin (Ne.symm ne_a4_a8) (own_nin (Ne.symm ne_a7_a8) List.not_mem_nil)))
  have K1 := Keep.trans K0 Kc1 (own_memc (Or.inl (List.mem_of_getElem? (i := 0) rfl)) (own_memc (Or.inl (List.mem_of_getElem? (i := 1) rfl)) (own_memc (Or.inl (List.mem_of_getElem? (i := 2) rfl)) own_memn)))
  have Z1 : n0 ≤ T1.heap.size := Nat.le_trans Z0 Kc1.1
  refine g_astoreN X1 hx #[vr a1, vr a2, vr a3, vn] (hb hby d6_6) rfl rfl ?_
  refine g_aloadN X1 hx (hb hby d6_7) rfl rfl ?_
  refine g_nonnullNo X1 hx (hb hby d6_8) ?_
  refine g_null X1 hx (hb hby d6_11) ?_
  refine g_goto X1 hx 21 (hb hby d6_12) (by decide) (by decide) ?_
  exact own_retA X1 hx hret hlk rfl rfl (hb hby d6_21) (by decide) (by decide) (by rw [(rfl : T1.heap = T1.heap)]; exact ⟨b1_0, rfl, N1, K1, sz_b1_0, Rk1_0, Rk1_1, Rk1_2, Rk1_3⟩)
theorem rm_compare_81 (l : Launch) (Z : State) (a0 : Array Value) (hw : HW a0 Z) (a1 : Addr) (a2 : Addr) (a3 : Addr) (a4 : Addr) (i1 : Int32) (i2 : Int32) (i3 : Int32) (h0 : Heap) (n0 : Nat) (Z0 : n0 ≤ h0.size) (O_a1 : R_MP Z h0 a1 .null (.ref a4) (.int 2) (.int i1)) (O_a2 : R_IN Z h0 a2 (.int i2)) (O_a3 : R_IN Z h0 a3 (.int i3)) (hk0 : ¬ (i2 < i3)) (hk1 : i2 = i3) :
    Ctr l Y13 prog_7_method_72_code 3 (some FieldType.int) [] ({ frames := 3, cells := 0, slots := 0, locals := 39 } : Room) Z #[(.ref a1), (.ref a2), (.ref a3)] h0 (fun v h L => v = some (.int 0) ∧ Fr n0 L ∧ h = h0) := by
  refine own_enter pn_2 (fun p e s m below meth c s₁ hx hby hml hown hnm hret hlk hZ X0 e0 => ?_)
  have N0 := Fr.nil n0
  have K0 := Keep.refl h0 []
  rw [ef_7_RRR m _ _ _]
  show Go p e below (s₁.setTop (mkF m 0 #[vr a1, vr a2, vr a3] [])) _
  refine g_aloadN X0 hx (hb hby d7_0) rfl rfl ?_
  refine g_getF X0 hx hZ hown (Wd17 hw) e0 O_a1.2.1 (hb hby d7_1) (fun T1 X1 e1 => ?_)
  refine g_nonnullNo X1 hx (hb hby d7_4) ?_
  refine g_aloadN X1 hx (hb hby d7_7) rfl rfl ?_
  refine g_cast X1 hx hZ hown (Wd42 hw) e1 (Ins.of_exa O_a2.1 (Wd43 hw)) (hb hby d7_8) (fun T2 X2 e2 => ?_)
  refine g_aloadN X2 hx (hb hby d7_11) rfl rfl ?_
  refine g_call (own_callF X2 hx hZ (xi := Y14) (y := Y12) hown (Wd44 hw) (Wd45 hw) (mvT hZ (Wd46 hw)) (Wd47 hw) (Wd48 hw) (Wd49 hw) (Wd50 hw) (Wd43 hw) (Wd51 hw) (Wd21 hw) (by decide) (rm_compareTo_46 l Z a0 hw a2 a3 i2 i3 h0 n0 Z0 O_a2 O_a3 hk0 hk1) e2 O_a2.1 pd_10 (hb hby d7_12) (by rw [hml]; rfl) (argsL := [(.ref a3)]) (rest := []) rfl rfl rfl (W := 0) (Nat.le_of_eq rfl) (by decide)) (fun v3 T3 L3 X3 q3 => ?_)
  obtain ⟨rfl, M3, e3⟩ := q3
  have N3 := Fr.app N0 M3
  refine g_goto X3 hx 31 (hb hby d7_17) (by decide) (by decide) ?_
  exact own_retI X3 hx hret hlk (hb hby d7_31) (by decide) (by decide) ⟨rfl, N3, e3⟩
theorem rm_addToLeftCount_83 (l : Launch) (Z : State) (a0 : Array Value) (hw : HW a0 Z) (a1 : Addr) (a2 : Addr) (a3 : Addr) (a4 : Addr) (h0 : Heap) (n0 : Nat) (Z0 : n0 ≤ h0.size) (O_a1 : R_ND Z h0 a1 (.ref a2) (.ref a3) (.ref a4) .null .null (.int 2)) (g_a1 : n0 ≤ a1) :
    Ctr l Y22 prog_7_method_84_code 2 none [] ({ frames := 0, cells := 0, slots := 0, locals := 0 } : Room) Z #[(.ref a1), (.int (-1))] h0 (fun v h L => v = none ∧ Fr n0 L ∧ Keep h0 h [a1] ∧ R_ND Z h a1 (.ref a2) (.ref a3) (.ref a4) .null .null (.int 1)) := by
  refine own_enter pn_2 (fun p e s m below meth c s₁ hx hby hml hown hnm hret hlk hZ X0 e0 => ?_)
  have N0 := Fr.nil n0
  have K0 := Keep.refl h0 [a1]
  rw [ef_18_RI m _ _]
  show Go p e below (s₁.setTop (mkF m 0 #[vr a1, vi (-1)] [])) _
  refine g_aloadN X0 hx (hb hby d18_0) rfl rfl ?_
  refine g_dup X0 hx (hb hby d18_1) rfl ?_
  refine g_getF X0 hx hZ hown (Wd88 hw) e0 O_a1.2.2.2.2.2.2 (hb hby d18_2) (fun T1 X1 e1 => ?_)
  refine g_iloadN X1 hx (hb hby d18_5) rfl ?_
  refine g_iadd X1 hx (hb hby d18_6) ?_
  show Go p e below (T1.setTop (mkF m 7 #[vr a1, vi (-1)] [(.int ((2 : Int32) + (-1 : Int32))), (.ref a1)])) _
  rw [show ((2 : Int32) + (-1 : Int32)) = (1 : Int32) from by decide]
  refine g_putF X1 hx hZ hown (Wd88 hw) e1 O_a1.2.2.2.2.2.2 O_a1.1 (Or.inl (Wd78 hw)) (Wd70 hw) fd_0 rfl rfl (hb hby d18_7) (fun T2 h2 X2 e2 W2 => ?_)
  have N2 := Fr.snoc X2 N0 g_a1
  have O_a1_2 := R_ND_set_redAndLeftCount hw W2 O_a1
  have Z2 : n0 ≤ h2.size := Nat.le_trans Z0 (Nat.le_of_eq W2.size.symm)
  have K2 := Keep.wr K0 W2 (Or.inl (List.mem_of_getElem? (i := 0) rfl))
  exact own_retV X2 hx hret hlk (hb hby d18_10) (by decide) (by decide) (by rw [e2]; exact ⟨rfl, N2, K2, O_a1_2⟩)
theorem ef_37_RI (m : MethodId) (x0 : Addr) (x1 : Int32) : entryFrame m #[(.ref x0), (.int x1)] 4 = mkF m 0 #[vr x0, vi x1, vu, vu] [] := by first | (simp [entryFrame, mkF, argsToLocals, Value.category]; done) | rfl
theorem d37_0 : decode prog_7_method_85_code 0 = .ok (.aload_n 0, 1) := by decide +kernel
theorem d37_1 : decode prog_7_method_85_code 1 = .ok (.astore_n 2, 1) := by decide +kernel
theorem d37_2 : decode prog_7_method_85_code 2 = .ok (.aload_n 0, 1) := by decide +kernel
theorem d37_3 : decode prog_7_method_85_code 3 = .ok (.getfield 282, 3) := by decide +kernel
theorem d37_6 : decode prog_7_method_85_code 6 = .ok (.astore_n 3, 1) := by decide +kernel
theorem d37_7 : decode prog_7_method_85_code 7 = .ok (.aload_n 3, 1) := by decide +kernel
theorem d37_8 : decode prog_7_method_85_code 8 = .ok (.ifnull 26, 3) := by decide +kernel
theorem d37_34 : decode prog_7_method_85_code 34 = .ok (.return_, 1) := by decide +kernel
theorem rm_countAbove_84 (l : Launch) (Z : State) (a0 : Array Value) (hw : HW a0 Z) (a1 : Addr) (a2 : Addr) (a3 : Addr) (a4 : Addr) (i1 : Int32) (a5 : Addr) (a6 : Addr) (i2 : Int32) (h0 : Heap) (n0 : Nat) (Z0 : n0 ≤ h0.size) (O_a1 : R_ND Z h0 a1 (.ref a2) (.ref a3) (.ref a4) .null .null (.int 1)) (O_a2 : R_IN Z h0 a2 (.int i1)) (O_a4 : R_ND Z h0 a4 (.ref a5) (.ref a6) .null .null (.ref a1) (.int (-2147483648))) (O_a5 : R_IN Z h0 a5 (.int i2)) :
    Ctr l Y33 prog_7_method_85_code 4 none [] ({ frames := 0, cells := 0, slots := 0, locals := 0 } : Room) Z #[(.ref a1), (.int (-1))] h0 (fun v h L => v = none ∧ Fr n0 L ∧ h = h0) := by
  refine own_enter pn_2 (fun p e s m below meth c s₁ hx hby hml hown hnm hret hlk hZ X0 e0 => ?_)
  have N0 := Fr.nil n0
  have K0 := Keep.refl h0 []
  rw [ef_37_RI m _ _]
  show Go p e below (s₁.setTop (mkF m 0 #[vr a1, vi (-1), vu, vu] [])) _
  refine g_aloadN X0 hx (hb hby d37_0) rfl rfl ?_
  refine g_astoreN X0 hx #[vr a1, vi (-1), vr a1, vu] (hb hby d37_1) rfl rfl ?_
  refine g_aloadN X0 hx (hb hby d37_2) rfl rfl ?_
  refine g_getF X0 hx hZ hown (Wd111 hw) e0 O_a1.2.2.2.2.2.1 (hb hby d37_3) (fun T1 X1 e1 => ?_)
  refine g_astoreN X1 hx #[vr a1, vi (-1), vr a1, vn] (hb hby d37_6) rfl rfl ?_
  refine g_aloadN X1 hx (hb hby d37_7) rfl rfl ?_
  refine g_nullYes X1 hx 34 (hb hby d37_8) (by decide) (by decide) ?_
  exact own_retV X1 hx hret hlk (hb hby d37_34) (by decide) (by decide) ⟨rfl, N0, e1⟩
theorem ef_34_RII (m : MethodId) (x0 : Addr) (x1 : Int32) (x2 : Int32) : entryFrame m #[(.ref x0), (.int x1), (.int x2)] 3 = mkF m 0 #[vr x0, vi x1, vi x2] [] := by first | (simp [entryFrame, mkF, argsToLocals, Value.category]; done) | rfl
theorem d34_5 : decode prog_7_method_86_code 5 = .ok (.iload_n 1, 1) := by decide +kernel
theorem d34_6 : decode prog_7_method_86_code 6 = .ok (.ifCond .ge 8, 3) := by decide +kernel
theorem d34_9 : decode prog_7_method_86_code 9 = .ok (.aload_n 0, 1) := by decide +kernel
theorem d34_10 : decode prog_7_method_86_code 10 = .ok (.iload_n 2, 1) := by decide +kernel
theorem d34_11 : decode prog_7_method_86_code 11 = .ok (.invokestatic 221, 3) := by decide +kernel
theorem d34_14 : decode prog_7_method_86_code 14 = .ok (.aload_n 0, 1) := by decide +kernel
theorem d34_15 : decode prog_7_method_86_code 15 = .ok (.iload_n 2, 1) := by decide +kernel
theorem d34_16 : decode prog_7_method_86_code 16 = .ok (.invokestatic 290, 3) := by decide +kernel
theorem d34_19 : decode prog_7_method_86_code 19 = .ok (.return_, 1) := by decide +kernel
theorem rm_countPlace_82 (l : Launch) (Z : State) (a0 : Array Value) (hw : HW a0 Z) (a1 : Addr) (a2 : Addr) (a3 : Addr) (a4 : Addr) (i1 : Int32) (a5 : Addr) (a6 : Addr) (i2 : Int32) (h0 : Heap) (n0 : Nat) (Z0 : n0 ≤ h0.size) (O_a1 : R_ND Z h0 a1 (.ref a2) (.ref a3) (.ref a4) .null .null (.int 2)) (O_a2 : R_IN Z h0 a2 (.int i1)) (O_a4 : R_ND Z h0 a4 (.ref a5) (.ref a6) .null .null (.ref a1) (.int (-2147483648))) (O_a5 : R_IN Z h0 a5 (.int i2)) (ne_a1_a2 : a1 ≠ a2) (ne_a1_a4 : a1 ≠ a4) (ne_a1_a5 : a1 ≠ a5) (g_a1 : n0 ≤ a1) :
    Ctr l Y26 prog_7_method_86_code 3 none [] ({ frames := 1, cells := 0, slots := 0, locals := 15 } : Room) Z #[(.ref a1), (.int (-1)), (.int (-1))] h0 (fun v h L => v = none ∧ Fr n0 L ∧ Keep h0 h [a1] ∧ R_ND Z h a1 (.ref a2) (.ref a3) (.ref a4) .null .null (.int 1)) := by
  refine own_enter pn_2 (fun p e s m below meth c s₁ hx hby hml hown hnm hret hlk hZ X0 e0 => ?_)
  have N0 := Fr.nil n0
  have K0 := Keep.refl h0 [a1]
  rw [ef_34_RII m _ _ _]
  show Go p e below (s₁.setTop (mkF m 0 #[vr a1, vi (-1), vi (-1)] [])) _
  refine g_aloadN X0 hx (hb hby d34_0) rfl rfl ?_
  refine g_nonnullYes X0 hx 5 (hb hby d34_1) (by decide) (by decide) ?_
  refine g_iloadN X0 hx (hb hby d34_5) rfl ?_
  refine g_ifNo X0 hx (hb hby d34_6) ((if0 _ _).trans (tlt ((by decide) : (-1 : Int32) < (0 : Int32))).2.1) ?_
  refine g_aloadN X0 hx (hb hby d34_9) rfl rfl ?_
  refine g_iloadN X0 hx (hb hby d34_10) rfl ?_
  refine g_call (own_callS X0 hx hZ (y := Y22) hown (Wd115 hw) (Wd116 hw) (Wd2 hw) (Wd117 hw) (by decide) (rm_addToLeftCount_83 l Z a0 hw a1 a2 a3 a4 h0 n0 Z0 O_a1 g_a1) e0 pd_17 (hb hby d34_11) (by rw [hml]; rfl) (argsL := [(.ref a1), (.int (-1))]) (rest := []) rfl rfl rfl (W := 0) (Nat.le_of_eq rfl) (by decide)) (fun v1 T1 L1 X1 q1 => ?_)
  obtain ⟨rfl, M1, Kc1, Rk1_0⟩ := q1
  have N1 := Fr.app N0 M1
  have O_a2_1 := R_IN_keep O_a2 Kc1 (own_nin (Ne.symm ne_a1_a2) List.not_mem_nil)
  have O_a4_1 := R_ND_keep O_a4 Kc1 (own_nin (Ne.symm ne_a1_a4) List.not_mem_nil)
  have O_a5_1 := R_IN_keep O_a5 Kc1 (own_nin (Ne.symm ne_a1_a5) List.not_mem_nil)
  have K1 := Keep.trans K0 Kc1 (own_memc (Or.inl (List.mem_of_getElem? (i := 0) rfl)) own_memn)
  have Z1 : n0 ≤ T1.heap.size := Nat.le_trans Z0 Kc1.1
  refine g_aloadN X1 hx (hb hby d34_14) rfl rfl ?_
  refine g_iloadN X1 hx (hb hby d34_15) rfl ?_
  refine g_call (own_callS X1 hx hZ (y := Y33) hown (Wd203 hw) (Wd204 hw) (Wd2 hw) (Wd205 hw) (by decide) (rm_countAbove_84 l Z a0 hw a1 a2 a3 a4 i1 a5 a6 i2 T1.heap n0 Z1 Rk1_0 O_a2_1 O_a4_1 O_a5_1) (rfl : T1.heap = T1.heap) pd_17 (hb hby d34_16) (by rw [hml]; rfl) (argsL := [(.ref a1), (.int (-1))]) (rest := []) rfl rfl rfl (W := 0) (Nat.le_of_eq rfl) (by decide)) (fun v2 T2 L2 X2 q2 => ?_)
  obtain ⟨rfl, M2, e2⟩ := q2
  have N2 := Fr.app N1 M2
  exact own_retV X2 hx hret hlk (hb hby d34_19) (by decide) (by decide) (by rw [e2]; exact ⟨rfl, N2, K1, Rk1_0⟩)
theorem rm_addIfAbsent_80 (l : Launch) (Z : State) (a0 : Array Value) (hw : HW a0 Z) (a1 : Addr) (a2 : Addr) (a3 : Addr) (a4 : Addr) (i1 : Int32) (i2 : Int32) (i3 : Int32) (a5 : Addr) (a6 : Addr) (a7 : Addr) (i4 : Int32) (a8 : Addr) (a9 : Addr) (i5 : Int32) (h0 : Heap) (n0 : Nat) (Z0 : n0 ≤ h0.size) (O_a1 : R_MP Z h0 a1 .null (.ref a4) (.int 2) (.int i1)) (O_a2 : R_IN Z h0 a2 (.int i2)) (O_a3 : R_IN Z h0 a3 (.int i3)) (O_a4 : R_ND Z h0 a4 (.ref a5) (.ref a6) (.ref a7) .null .null (.int 1)) (O_a5 : R_IN Z h0 a5 (.int i4)) (O_a7 : R_ND Z h0 a7 (.ref a8) (.ref a9) .null .null (.ref a4) (.int (-2147483648))) (O_a8 : R_IN Z h0 a8 (.int i5)) (ne_a1_a4 : a1 ≠ a4) (ne_a2_a4 : a2 ≠ a4) (ne_a3_a4 : a3 ≠ a4) (ne_a4_a5 : a4 ≠ a5) (ne_a4_a7 : a4 ≠ a7) (ne_a4_a8 : a4 ≠ a8) (g_a4 : n0 ≤ a4) (hk0 : i2 < i4) (hk1 : ¬ (i2 < i5)) (hk2 : i2 = i5) :
    CtrH l Y18 prog_7_method_65_code 15 (some (FieldType.object "com/example/rosewood/rosewood/RosewoodMap$Node")) [(71, 122, 210, 0), (137, 195, 210, 0), (210, 212, 210, 0)] ({ frames := 4, cells := 0, slots := 0, locals := 53 } : Room) Z #[(.ref a1), (.ref a2), (.ref a3)] h0 (fun v h L => v = some (.ref a7) ∧ Fr n0 L ∧ Keep h0 h [a4] ∧ R_ND Z h a4 (.ref a5) (.ref a6) (.ref a7) .null .null (.int 1)) := by
  refine own_enterH pn_2 (fun p e s m below meth c s₁ hx hby hml hown hnm hret hlk hZ X0 e0 => ?_)
  have N0 := Fr.nil n0
  have K0 := Keep.refl h0 [a4]
  rw [ef_38_RRR m _ _ _]
  show Go p e below (s₁.setTop (mkF m 0 #[vr a1, vr a2, vr a3, vu, vu, vu, vu, vu, vu, vu, vu, vu, vu, vu, vu] [])) _
  refine g_aloadN X0 hx (hb hby d38_0) rfl rfl ?_
  refine g_getF X0 hx hZ hown (Wd35 hw) e0 O_a1.2.2.1 (hb hby d38_1) (fun T1 X1 e1 => ?_)
  refine g_nonnullYes X1 hx 50 (hb hby d38_4) (by decide) (by decide) ?_
  refine g_null X1 hx (hb hby d38_50) ?_
  refine g_astoreN X1 hx #[vr a1, vr a2, vr a3, vn, vu, vu, vu, vu, vu, vu, vu, vu, vu, vu, vu] (hb hby d38_51) rfl rfl ?_
  refine g_iconst X1 hx (0 : Int32) (hb hby d38_52) (by decide) ?_
  refine g_istore X1 hx #[vr a1, vr a2, vr a3, vn, vi 0, vu, vu, vu, vu, vu, vu, vu, vu, vu, vu] (hb hby d38_53) rfl ?_
  refine g_aloadN X1 hx (hb hby d38_55) rfl rfl ?_
  refine g_getF X1 hx hZ hown (Wd35 hw) e1 O_a1.2.2.1 (hb hby d38_56) (fun T2 X2 e2 => ?_)
  refine g_astore X2 hx #[vr a1, vr a2, vr a3, vn, vi 0, vr a4, vu, vu, vu, vu, vu, vu, vu, vu, vu] (hb hby d38_59) rfl rfl ?_
  refine g_aload X2 hx (hb hby d38_61) rfl rfl ?_
  refine g_getF X2 hx hZ hown (Wd94 hw) e2 O_a4.2.1 (hb hby d38_63) (fun T3 X3 e3 => ?_)
  refine g_astore X3 hx #[vr a1, vr a2, vr a3, vn, vi 0, vr a4, vr a5, vu, vu, vu, vu, vu, vu, vu, vu] (hb hby d38_66) rfl rfl ?_
  refine g_null X3 hx (hb hby d38_68) ?_
  refine g_astore X3 hx #[vr a1, vr a2, vr a3, vn, vi 0, vr a4, vr a5, vn, vu, vu, vu, vu, vu, vu, vu] (hb hby d38_69) rfl rfl ?_
  refine g_aload X3 hx (hb hby d38_71) rfl rfl ?_
  refine g_nullNo X3 hx (hb hby d38_73) ?_
  refine g_aload X3 hx (hb hby d38_76) rfl rfl ?_
  refine g_getF X3 hx hZ hown (Wd95 hw) e3 O_a4.2.2.2.1 (hb hby d38_78) (fun T4 X4 e4 => ?_)
  refine g_astore X4 hx #[vr a1, vr a2, vr a3, vn, vi 0, vr a4, vr a5, vn, vr a7, vu, vu, vu, vu, vu, vu] (hb hby d38_81) rfl rfl ?_
  refine g_aload X4 hx (hb hby d38_83) rfl rfl ?_
  refine g_getF X4 hx hZ hown (Wd97 hw) e4 O_a4.2.2.2.2.1 (hb hby d38_85) (fun T5 X5 e5 => ?_)
  refine g_astore X5 hx #[vr a1, vr a2, vr a3, vn, vi 0, vr a4, vr a5, vn, vr a7, vn, vu, vu, vu, vu, vu] (hb hby d38_88) rfl rfl ?_
  refine g_aload X5 hx (hb hby d38_90) rfl rfl ?_
  refine g_call (own_callS X5 hx hZ (y := Y7) hown (Wd99 hw) (Wd100 hw) (Wd2 hw) (Wd101 hw) (by decide) (rm_keyOf_63 l Z a0 hw a7 a8 a9 a4 h0 n0 Z0 O_a7) e5 pd_6 (hb hby d38_92) (by rw [hml]; rfl) (argsL := [(.ref a7)]) (rest := []) rfl rfl rfl (W := 0) (Nat.le_of_eq rfl) (by decide)) (fun v6 T6 L6 X6 q6 => ?_)
  obtain ⟨rfl, M6, e6⟩ := q6
  have N6 := Fr.app N0 M6
  refine g_astore X6 hx #[vr a1, vr a2, vr a3, vn, vi 0, vr a4, vr a5, vn, vr a7, vn, vr a8, vu, vu, vu, vu] (hb hby d38_95) rfl rfl ?_
  refine g_aload X6 hx (hb hby d38_97) rfl rfl ?_
  refine g_call (own_callS X6 hx hZ (y := Y7) hown (Wd99 hw) (Wd100 hw) (Wd2 hw) (Wd101 hw) (by decide) (rm_keyOf_9 l Z a0 hw  h0 n0 Z0 ) e6 pd_6 (hb hby d38_99) (by rw [hml]; rfl) (argsL := [.null]) (rest := []) rfl rfl rfl (W := 0) (Nat.le_of_eq rfl) (by decide)) (fun v7 T7 L7 X7 q7 => ?_)
  obtain ⟨rfl, M7, e7⟩ := q7
  have N7 := Fr.app N6 M7
  refine g_astore X7 hx #[vr a1, vr a2, vr a3, vn, vi 0, vr a4, vr a5, vn, vr a7, vn, vr a8, vn, vu, vu, vu] (hb hby d38_102) rfl rfl ?_
  refine g_aloadN X7 hx (hb hby d38_104) rfl rfl ?_
  refine g_aloadN X7 hx (hb hby d38_105) rfl rfl ?_
  refine g_aload X7 hx (hb hby d38_106) rfl rfl ?_
  refine g_call (own_callV X7 hx hZ (y := Y13) hown (Wd37 hw) (Wd38 hw) (Wd40 hw) (Wd39 hw) (Wd41 hw) (Wd2 hw) (by decide) (rm_compare_64 l Z a0 hw a1 a2 a5 a4 i1 i2 i4 h0 n0 Z0 O_a1 O_a2 O_a5 hk0) e7 O_a1.1 pd_11 (hb hby d38_108) (by rw [hml]; rfl) (argsL := [(.ref a2), (.ref a5)]) (rest := []) rfl rfl rfl (W := 0) (Nat.le_of_eq rfl) (by decide)) (fun v8 T8 L8 X8 q8 => ?_)
  obtain ⟨rfl, M8, e8⟩ := q8
  have N8 := Fr.app N7 M8
  refine g_istore X8 hx #[vr a1, vr a2, vr a3, vn, vi 0, vr a4, vr a5, vn, vr a7, vn, vr a8, vn, vi (-1), vu, vu] (hb hby d38_111) rfl ?_
  refine g_iload X8 hx (hb hby d38_113) rfl ?_
  refine g_ifYes X8 hx 137 (hb hby d38_115) ((if0 _ _).trans (feq ((by decide) : ¬ ((-1 : Int32) = (0 : Int32)))).2) (by decide) (by decide) ?_
  refine g_aload X8 hx (hb hby d38_137) rfl rfl ?_
  refine g_astoreN X8 hx #[vr a1, vr a2, vr a3, vr a4, vi 0, vr a4, vr a5, vn, vr a7, vn, vr a8, vn, vi (-1), vu, vu] (hb hby d38_139) rfl rfl ?_
  refine g_iload X8 hx (hb hby d38_140) rfl ?_
  refine g_istore X8 hx #[vr a1, vr a2, vr a3, vr a4, vi (-1), vr a4, vr a5, vn, vr a7, vn, vr a8, vn, vi (-1), vu, vu] (hb hby d38_142) rfl ?_
  refine g_iload X8 hx (hb hby d38_144) rfl ?_
  refine g_ifNo X8 hx (hb hby d38_146) ((if0 _ _).trans (tlt ((by decide) : (-1 : Int32) < (0 : Int32))).2.1) ?_
  refine g_aload X8 hx (hb hby d38_149) rfl rfl ?_
  refine g_iconst X8 hx (1 : Int32) (hb hby d38_151) (by decide) ?_
  refine g_call (own_callS X8 hx hZ (y := Y22) hown (Wd115 hw) (Wd116 hw) (Wd2 hw) (Wd117 hw) (by decide) (rm_addToLeftCount_65 l Z a0 hw a4 a5 a6 a7 h0 n0 Z0 O_a4 g_a4) e8 pd_17 (hb hby d38_152) (by rw [hml]; rfl) (argsL := [(.ref a4), (.int 1)]) (rest := []) rfl rfl rfl (W := 0) (Nat.le_of_eq rfl) (by decide)) (fun v9 T9 L9 X9 q9 => ?_)
  obtain ⟨rfl, M9, Kc9, Rk9_0⟩ := q9
  have N9 := Fr.app N8 M9
  have O_a1_9 := R_MP_keep O_a1 Kc9 (own_nin ne_a1_a4 List.not_mem_nil)
  have O_a2_9 := R_IN_keep O_a2 Kc9 (own_nin ne_a2_a4 List.not_mem_nil)
  have O_a3_9 := R_IN_keep O_a3 Kc9 (own_nin ne_a3_a4 List.not_mem_nil)
  have O_a5_9 := R_IN_keep O_a5 Kc9 (own_nin (Ne.symm ne_a4_a5) List.not_mem_nil)
  have O_a7_9 := R_ND_keep O_a7 Kc9 (own_nin (Ne.symm ne_a4_a7) List.not_mem_nil)
  have O_a8_9 := R_IN_keep O_a8 Kc9 (own_nin (Ne.symm ne_a4_a8) List.not_mem_nil)
  have K9 := Keep.trans K0 Kc9 (own_memc (Or.inl (List.mem_of_getElem? (i := 0) rfl)) own_memn)
  have Z9 : n0 ≤ T9.heap.size := Nat.le_trans Z0 Kc9.1
  refine g_iload X9 hx (hb hby d38_155) rfl ?_
  refine g_ifNo X9 hx (hb hby d38_157) ((if0 _ _).trans (tlt ((by decide) : (-1 : Int32) < (0 : Int32))).2.1) ?_
  refine g_aload X9 hx (hb hby d38_160) rfl rfl ?_
  refine g_goto X9 hx 167 (hb hby d38_162) (by decide) (by decide) ?_
  refine g_astore X9 hx #[vr a1, vr a2, vr a3, vr a4, vi (-1), vr a7, vr a5, vn, vr a7, vn, vr a8, vn, vi (-1), vu, vu] (hb hby d38_167) rfl rfl ?_
  refine g_iload X9 hx (hb hby d38_169) rfl ?_
  refine g_ifNo X9 hx (hb hby d38_171) ((if0 _ _).trans (tlt ((by decide) : (-1 : Int32) < (0 : Int32))).2.1) ?_
  refine g_aload X9 hx (hb hby d38_174) rfl rfl ?_
  refine g_goto X9 hx 181 (hb hby d38_176) (by decide) (by decide) ?_
  refine g_astore X9 hx #[vr a1, vr a2, vr a3, vr a4, vi (-1), vr a7, vr a8, vn, vr a7, vn, vr a8, vn, vi (-1), vu, vu] (hb hby d38_181) rfl rfl ?_
  refine g_goto X9 hx 71 (hb hby d38_183) (by decide) (by decide) ?_
  refine g_aload X9 hx (hb hby d38_71) rfl rfl ?_
  refine g_nullNo X9 hx (hb hby d38_73) ?_
  refine g_aload X9 hx (hb hby d38_76) rfl rfl ?_
  refine g_getF X9 hx hZ hown (Wd95 hw) (rfl : T9.heap = T9.heap) O_a7_9.2.2.2.1 (hb hby d38_78) (fun T10 X10 e10 => ?_)
  refine g_astore X10 hx #[vr a1, vr a2, vr a3, vr a4, vi (-1), vr a7, vr a8, vn, vn, vn, vr a8, vn, vi (-1), vu, vu] (hb hby d38_81) rfl rfl ?_
  refine g_aload X10 hx (hb hby d38_83) rfl rfl ?_
  refine g_getF X10 hx hZ hown (Wd97 hw) e10 O_a7_9.2.2.2.2.1 (hb hby d38_85) (fun T11 X11 e11 => ?_)
  refine g_astore X11 hx #[vr a1, vr a2, vr a3, vr a4, vi (-1), vr a7, vr a8, vn, vn, vn, vr a8, vn, vi (-1), vu, vu] (hb hby d38_88) rfl rfl ?_
  refine g_aload X11 hx (hb hby d38_90) rfl rfl ?_
  refine g_call (own_callS X11 hx hZ (y := Y7) hown (Wd99 hw) (Wd100 hw) (Wd2 hw) (Wd101 hw) (by decide) (rm_keyOf_9 l Z a0 hw  T9.heap n0 Z9 ) e11 pd_6 (hb hby d38_92) (by rw [hml]; rfl) (argsL := [.null]) (rest := []) rfl rfl rfl (W := 0) (Nat.le_of_eq rfl) (by decide)) (fun v12 T12 L12 X12 q12 => ?_)
  obtain ⟨rfl, M12, e12⟩ := q12
  have N12 := Fr.app N9 M12
  refine g_astore X12 hx #[vr a1, vr a2, vr a3, vr a4, vi (-1), vr a7, vr a8, vn, vn, vn, vn, vn, vi (-1), vu, vu] (hb hby d38_95) rfl rfl ?_
  refine g_aload X12 hx (hb hby d38_97) rfl rfl ?_
  refine g_call (own_callS X12 hx hZ (y := Y7) hown (Wd99 hw) (Wd100 hw) (Wd2 hw) (Wd101 hw) (by decide) (rm_keyOf_9 l Z a0 hw  T9.heap n0 Z9 ) e12 pd_6 (hb hby d38_99) (by rw [hml]; rfl) (argsL := [.null]) (rest := []) rfl rfl rfl (W := 0) (Nat.le_of_eq rfl) (by decide)) (fun v13 T13 L13 X13 q13 => ?_)
  obtain ⟨rfl, M13, e13⟩ := q13
  have N13 := Fr.app N12 M13
  refine g_astore X13 hx #[vr a1, vr a2, vr a3, vr a4, vi (-1), vr a7, vr a8, vn, vn, vn, vn, vn, vi (-1), vu, vu] (hb hby d38_102) rfl rfl ?_
  refine g_aloadN X13 hx (hb hby d38_104) rfl rfl ?_
  refine g_aloadN X13 hx (hb hby d38_105) rfl rfl ?_
  refine g_aload X13 hx (hb hby d38_106) rfl rfl ?_
  refine g_call (own_callV X13 hx hZ (y := Y13) hown (Wd37 hw) (Wd38 hw) (Wd40 hw) (Wd39 hw) (Wd41 hw) (Wd2 hw) (by decide) (rm_compare_81 l Z a0 hw a1 a2 a8 a4 i1 i2 i5 T9.heap n0 Z9 O_a1_9 O_a2_9 O_a8_9 hk1 hk2) e13 O_a1_9.1 pd_11 (hb hby d38_108) (by rw [hml]; rfl) (argsL := [(.ref a2), (.ref a8)]) (rest := []) rfl rfl rfl (W := 0) (Nat.le_of_eq rfl) (by decide)) (fun v14 T14 L14 X14 q14 => ?_)
  obtain ⟨rfl, M14, e14⟩ := q14
  have N14 := Fr.app N13 M14
  refine g_istore X14 hx #[vr a1, vr a2, vr a3, vr a4, vi (-1), vr a7, vr a8, vn, vn, vn, vn, vn, vi 0, vu, vu] (hb hby d38_111) rfl ?_
  refine g_iload X14 hx (hb hby d38_113) rfl ?_
  refine g_ifNo X14 hx (hb hby d38_115) ((if0 _ _).trans (teq ((by decide) : (0 : Int32) = (0 : Int32))).2) ?_
  refine g_aload X14 hx (hb hby d38_118) rfl rfl ?_
  refine g_astore X14 hx #[vr a1, vr a2, vr a3, vr a4, vi (-1), vr a7, vr a8, vn, vn, vn, vn, vn, vi 0, vr a7, vu] (hb hby d38_120) rfl rfl ?_
  refine g_aload X14 hx (hb hby d38_122) rfl rfl ?_
  refine g_nonnullNo X14 hx (hb hby d38_124) ?_
  refine g_aloadN X14 hx (hb hby d38_127) rfl rfl ?_
  refine g_iload X14 hx (hb hby d38_128) rfl ?_
  refine g_iconst X14 hx (-1 : Int32) (hb hby d38_130) (by decide) ?_
  refine g_call (own_callS X14 hx hZ (y := Y26) hown (Wd190 hw) (Wd191 hw) (Wd2 hw) (Wd192 hw) (by decide) (rm_countPlace_82 l Z a0 hw a4 a5 a6 a7 i4 a8 a9 i5 T9.heap n0 Z9 Rk9_0 O_a5_9 O_a7_9 O_a8_9 ne_a4_a5 ne_a4_a7 ne_a4_a8 g_a4) e14 pd_20 (hb hby d38_131) (by rw [hml]; rfl) (argsL := [(.ref a4), (.int (-1)), (.int (-1))]) (rest := []) rfl rfl rfl (W := 0) (Nat.le_of_eq rfl) (by decide)) (fun v15 T15 L15 X15 q15 => ?_)
  obtain ⟨rfl, M15, Kc15, Rk15_0⟩ := q15
  have N15 := Fr.app N14 M15
  have O_a1_15 := R_MP_keep O_a1_9 Kc15 (own_nin ne_a1_a4 List.not_mem_nil)
  have O_a2_15 := R_IN_keep O_a2_9 Kc15 (own_nin ne_a2_a4 List.not_mem_nil)
  have O_a3_15 := R_IN_keep O_a3_9 Kc15 (own_nin ne_a3_a4 List.not_mem_nil)
  have O_a5_15 := R_IN_keep O_a5_9 Kc15 (own_nin (Ne.symm ne_a4_a5) List.not_mem_nil)
  have O_a7_15 := R_ND_keep O_a7_9 Kc15 (own_nin (Ne.symm ne_a4_a7) List.not_mem_nil)
  have O_a8_15 := R_IN_keep O_a8_9 Kc15 (own_nin (Ne.symm ne_a4_a8) List.not_mem_nil)
  have K15 := Keep.trans K9 Kc15 (own_memc (Or.inl (List.mem_of_getElem? (i := 0) rfl)) own_memn)
  have Z15 : n0 ≤ T15.heap.size := Nat.le_trans Z9 Kc15.1
  refine g_aload X15 hx (hb hby d38_134) rfl rfl ?_
  exact own_retA X15 hx hret hlk rfl rfl (hb hby d38_136) (by decide) (by decide) (by rw [(rfl : T15.heap = T15.heap)]; exact ⟨rfl, N15, K15, Rk15_0⟩)
theorem rm_setValue_86 (l : Launch) (Z : State) (a0 : Array Value) (hw : HW a0 Z) (a1 : Addr) (a2 : Addr) (a3 : Addr) (a4 : Addr) (a5 : Addr) (h0 : Heap) (n0 : Nat) (Z0 : n0 ≤ h0.size) (O_a1 : R_ND Z h0 a1 (.ref a3) (.ref a4) .null .null (.ref a5) (.int (-2147483648))) (g_a1 : n0 ≤ a1) :
    Ctr l Y27 prog_8_method_4_code 3 (some (FieldType.object "java/lang/Object")) [] ({ frames := 0, cells := 0, slots := 0, locals := 0 } : Room) Z #[(.ref a1), (.ref a2)] h0 (fun v h L => v = some (.ref a4) ∧ Fr n0 L ∧ Keep h0 h [a1] ∧ R_ND Z h a1 (.ref a3) (.ref a2) .null .null (.ref a5) (.int (-2147483648))) := by
  refine own_enter pn_4 (fun p e s m below meth c s₁ hx hby hml hown hnm hret hlk hZ X0 e0 => ?_)
  have N0 := Fr.nil n0
  have K0 := Keep.refl h0 [a1]
  rw [ef_36_RR m _ _]
  show Go p e below (s₁.setTop (mkF m 0 #[vr a1, vr a2, vu] [])) _
  refine g_aloadN X0 hx (hb hby d36_0) rfl rfl ?_
  refine g_getF X0 hx hZ hown (Wd81 hw) e0 O_a1.2.2.1 (hb hby d36_1) (fun T1 X1 e1 => ?_)
  refine g_astoreN X1 hx #[vr a1, vr a2, vr a4] (hb hby d36_4) rfl rfl ?_
  refine g_aloadN X1 hx (hb hby d36_5) rfl rfl ?_
  refine g_aloadN X1 hx (hb hby d36_6) rfl rfl ?_
  refine g_putF X1 hx hZ hown (Wd81 hw) e1 O_a1.2.2.1 O_a1.1 (Or.inl (Wd82 hw)) (Wd70 hw) fd_1 rfl rfl (hb hby d36_7) (fun T2 h2 X2 e2 W2 => ?_)
  have N2 := Fr.snoc X2 N0 g_a1
  have O_a1_2 := R_ND_set_value hw W2 O_a1
  have Z2 : n0 ≤ h2.size := Nat.le_trans Z0 (Nat.le_of_eq W2.size.symm)
  have K2 := Keep.wr K0 W2 (Or.inl (List.mem_of_getElem? (i := 0) rfl))
  refine g_aloadN X2 hx (hb hby d36_10) rfl rfl ?_
  exact own_retA X2 hx hret hlk rfl rfl (hb hby d36_11) (by decide) (by decide) (by rw [e2]; exact ⟨rfl, N2, K2, O_a1_2⟩)
theorem rm_replaceValue_85 (l : Launch) (Z : State) (a0 : Array Value) (hw : HW a0 Z) (a1 : Addr) (a2 : Addr) (a3 : Addr) (a4 : Addr) (i1 : Int32) (i2 : Int32) (a5 : Addr) (a6 : Addr) (h0 : Heap) (n0 : Nat) (Z0 : n0 ≤ h0.size) (O_a1 : R_MP Z h0 a1 .null (.ref a4) (.int 2) (.int i1)) (O_a3 : R_IN Z h0 a3 (.int i2)) (O_a2 : R_ND Z h0 a2 (.ref a5) (.ref a6) .null .null (.ref a4) (.int (-2147483648))) (ne_a1_a2 : a1 ≠ a2) (ne_a3_a2 : a3 ≠ a2) (g_a2 : n0 ≤ a2) :
    Ctr l Y28 prog_7_method_52_code 3 (some (FieldType.object "java/lang/Object")) [] ({ frames := 1, cells := 0, slots := 0, locals := 14 } : Room) Z #[(.ref a1), (.ref a2), (.ref a3)] h0 (fun v h L => v = some (.ref a6) ∧ Fr n0 L ∧ Keep h0 h [a2] ∧ R_ND Z h a2 (.ref a5) (.ref a3) .null .null (.ref a4) (.int (-2147483648))) := by
  refine own_enter pn_2 (fun p e s m below meth c s₁ hx hby hml hown hnm hret hlk hZ X0 e0 => ?_)
  have N0 := Fr.nil n0
  have K0 := Keep.refl h0 [a2]
  rw [ef_35_RRR m _ _ _]
  show Go p e below (s₁.setTop (mkF m 0 #[vr a1, vr a2, vr a3] [])) _
  refine g_aloadN X0 hx (hb hby d35_0) rfl rfl ?_
  refine g_aloadN X0 hx (hb hby d35_1) rfl rfl ?_
  refine g_call (own_callV X0 hx hZ (y := Y27) hown (Wd198 hw) (Wd199 hw) (Wd201 hw) (Wd200 hw) (Wd202 hw) (Wd71 hw) (by decide) (rm_setValue_86 l Z a0 hw a2 a3 a5 a6 a4 h0 n0 Z0 O_a2 g_a2) e0 O_a2.1 pd_5 (hb hby d35_2) (by rw [hml]; rfl) (argsL := [(.ref a3)]) (rest := []) rfl rfl rfl (W := 0) (Nat.le_of_eq rfl) (by decide)) (fun v1 T1 L1 X1 q1 => ?_)
  obtain ⟨rfl, M1, Kc1, Rk1_0⟩ := q1
  have N1 := Fr.app N0 M1
  have O_a1_1 := R_MP_keep O_a1 Kc1 (own_nin ne_a1_a2 List.not_mem_nil)
  have O_a3_1 := R_IN_keep O_a3 Kc1 (own_nin ne_a3_a2 List.not_mem_nil)
  have K1 := Keep.trans K0 Kc1 (own_memc (Or.inl (List.mem_of_getElem? (i := 0) rfl)) own_memn)
  have Z1 : n0 ≤ T1.heap.size := Nat.le_trans Z0 Kc1.1
  exact own_retA X1 hx hret hlk rfl rfl (hb hby d35_5) (by decide) (by decide) (by rw [(rfl : T1.heap = T1.heap)]; exact ⟨rfl, N1, K1, Rk1_0⟩)
theorem rm_put_79 (l : Launch) (Z : State) (a0 : Array Value) (hw : HW a0 Z) (a1 : Addr) (a2 : Addr) (a3 : Addr) (a4 : Addr) (i1 : Int32) (i2 : Int32) (i3 : Int32) (a5 : Addr) (a6 : Addr) (a7 : Addr) (i4 : Int32) (a8 : Addr) (a9 : Addr) (i5 : Int32) (h0 : Heap) (n0 : Nat) (Z0 : n0 ≤ h0.size) (O_a1 : R_MP Z h0 a1 .null (.ref a4) (.int 2) (.int i1)) (O_a2 : R_IN Z h0 a2 (.int i2)) (O_a3 : R_IN Z h0 a3 (.int i3)) (O_a4 : R_ND Z h0 a4 (.ref a5) (.ref a6) (.ref a7) .null .null (.int 1)) (O_a5 : R_IN Z h0 a5 (.int i4)) (O_a7 : R_ND Z h0 a7 (.ref a8) (.ref a9) .null .null (.ref a4) (.int (-2147483648))) (O_a8 : R_IN Z h0 a8 (.int i5)) (ne_a1_a4 : a1 ≠ a4) (ne_a1_a7 : a1 ≠ a7) (ne_a2_a4 : a2 ≠ a4) (ne_a2_a7 : a2 ≠ a7) (ne_a3_a4 : a3 ≠ a4) (ne_a3_a7 : a3 ≠ a7) (ne_a4_a5 : a4 ≠ a5) (ne_a4_a7 : a4 ≠ a7) (ne_a4_a8 : a4 ≠ a8) (ne_a5_a7 : a5 ≠ a7) (ne_a7_a8 : a7 ≠ a8) (g_a4 : n0 ≤ a4) (g_a7 : n0 ≤ a7) (hk0 : i2 < i4) (hk1 : ¬ (i2 < i5)) (hk2 : i2 = i5) :
    Ctr l Y19 prog_7_method_8_code 4 (some (FieldType.object "java/lang/Object")) [] ({ frames := 5, cells := 0, slots := 0, locals := 79 } : Room) Z #[(.ref a1), (.ref a2), (.ref a3)] h0 (fun v h L => v = some (.ref a9) ∧ Fr n0 L ∧ Keep h0 h [a4, a7] ∧ R_ND Z h a4 (.ref a5) (.ref a6) (.ref a7) .null .null (.int 1) ∧ R_ND Z h a7 (.ref a8) (.ref a3) .null .null (.ref a4) (.int (-2147483648))) := by
  refine own_enter pn_2 (fun p e s m below meth c s₁ hx hby hml hown hnm hret hlk hZ X0 e0 => ?_)
  have N0 := Fr.nil n0
  have K0 := Keep.refl h0 [a4, a7]
  rw [ef_6_RRR m _ _ _]
  show Go p e below (s₁.setTop (mkF m 0 #[vr a1, vr a2, vr a3, vu] [])) _
  refine g_aloadN X0 hx (hb hby d6_0) rfl rfl ?_
  refine g_aloadN X0 hx (hb hby d6_1) rfl rfl ?_
  refine g_aloadN X0 hx (hb hby d6_2) rfl rfl ?_
  refine g_call (own_callPH X0 hx hZ (y := Y18) hown (Wd31 hw) (Wd32 hw) (Wd33 hw) (Wd1 hw) (Wd34 hw) (Wd2 hw) (by decide) (rm_addIfAbsent_80 l Z a0 hw a1 a2 a3 a4 i1 i2 i3 a5 a6 a7 i4 a8 a9 i5 h0 n0 Z0 O_a1 O_a2 O_a3 O_a4 O_a5 O_a7 O_a8 ne_a1_a4 ne_a2_a4 ne_a3_a4 ne_a4_a5 ne_a4_a7 ne_a4_a8 g_a4 hk0 hk1 hk2) e0 O_a1.1 pd_15 (hb hby d6_3) (by rw [hml]; rfl) (argsL := [(.ref a2), (.ref a3)]) (rest := []) rfl rfl rfl (W := 0) (Nat.le_of_eq rfl) (by decide)) (fun v1 T1 L1 X1 q1 => ?_)
  obtain ⟨rfl, M1, Kc1, Rk1_0⟩ := q1
  have N1 := Fr.app N0 M1
  have O_a1_1 := R_MP_keep O_a1 Kc1 (own_nin ne_a1_a4 List.not_mem_nil)
  have O_a2_1 := R_IN_keep O_a2 Kc1 (own_nin ne_a2_a4 List.not_mem_nil)
  have O_a3_1 := R_IN_keep O_a3 Kc1 (own_nin ne_a3_a4 List.not_mem_nil)
  have O_a5_1 := R_IN_keep O_a5 Kc1 (own_nin (Ne.symm ne_a4_a5) List.not_mem_nil)
  have O_a7_1 := R_ND_keep O_a7 Kc1 (own_nin (Ne.symm ne_a4_a7) List.not_mem_nil)
  have O_a8_1 := R_IN_keep O_a8 Kc1 (own_nin (Ne.symm ne_a4_a8) List.not_mem_nil)
  have K1 := Keep.trans K0 Kc1 (own_memc (Or.inl (List.mem_of_getElem? (i := 0) rfl)) own_memn)
  have Z1 : n0 ≤ T1.heap.size := Nat.le_trans Z0 Kc1.1
  refine g_astoreN X1 hx #[vr a1, vr a2, vr a3, vr a7] (hb hby d6_6) rfl rfl ?_
  refine g_aloadN X1 hx (hb hby d6_7) rfl rfl ?_
  refine g_nonnullYes X1 hx 15 (hb hby d6_8) (by decide) (by decide) ?_
  refine g_aloadN X1 hx (hb hby d6_15) rfl rfl ?_
  refine g_aloadN X1 hx (hb hby d6_16) rfl rfl ?_
  refine g_aloadN X1 hx (hb hby d6_17) rfl rfl ?_
  refine g_call (own_callV X1 hx hZ (y := Y28) hown (Wd193 hw) (Wd194 hw) (Wd196 hw) (Wd195 hw) (Wd197 hw) (Wd2 hw) (by decide) (rm_replaceValue_85 l Z a0 hw a1 a7 a3 a4 i1 i3 a8 a9 T1.heap n0 Z1 O_a1_1 O_a3_1 O_a7_1 ne_a1_a7 ne_a3_a7 g_a7) (rfl : T1.heap = T1.heap) O_a1_1.1 pd_21 (hb hby d6_18) (by rw [hml]; rfl) (argsL := [(.ref a7), (.ref a3)]) (rest := []) rfl rfl rfl (W := 0) (Nat.le_of_eq rfl) (by decide)) (fun v2 T2 L2 X2 q2 => ?_)
  obtain ⟨rfl, M2, Kc2, Rk2_0⟩ := q2
  have N2 := Fr.app N1 M2
  have O_a1_2 := R_MP_keep O_a1_1 Kc2 (own_nin ne_a1_a7 List.not_mem_nil)
  have O_a2_2 := R_IN_keep O_a2_1 Kc2 (own_nin ne_a2_a7 List.not_mem_nil)
  have O_a3_2 := R_IN_keep O_a3_1 Kc2 (own_nin ne_a3_a7 List.not_mem_nil)
  have O_a5_2 := R_IN_keep O_a5_1 Kc2 (own_nin ne_a5_a7 List.not_mem_nil)
  have O_a8_2 := R_IN_keep O_a8_1 Kc2 (own_nin (Ne.symm ne_a7_a8) List.not_mem_nil)
  have O_a4_2 := R_ND_keep Rk1_0 Kc2 (own_nin ne_a4_a7 List.not_mem_nil)
  have K2 := Keep.trans K1 Kc2 (own_memc (Or.inl (List.mem_of_getElem? (i := 1) rfl)) own_memn)
  have Z2 : n0 ≤ T2.heap.size := Nat.le_trans Z1 Kc2.1
  exact own_retA X2 hx hret hlk rfl rfl (hb hby d6_21) (by decide) (by decide) (by rw [(rfl : T2.heap = T2.heap)]; exact ⟨rfl, N2, K2, O_a4_2, Rk2_0⟩)
theorem rm_compare_89 (l : Launch) (Z : State) (a0 : Array Value) (hw : HW a0 Z) (a1 : Addr) (a2 : Addr) (a3 : Addr) (a4 : Addr) (i1 : Int32) (i2 : Int32) (i3 : Int32) (h0 : Heap) (n0 : Nat) (Z0 : n0 ≤ h0.size) (O_a1 : R_MP Z h0 a1 .null (.ref a4) (.int 2) (.int i1)) (O_a2 : R_IN Z h0 a2 (.int i2)) (O_a3 : R_IN Z h0 a3 (.int i3)) (hk0 : ¬ (i2 < i3)) (hk1 : ¬ (i2 = i3)) :
    Ctr l Y13 prog_7_method_72_code 3 (some FieldType.int) [] ({ frames := 3, cells := 0, slots := 0, locals := 39 } : Room) Z #[(.ref a1), (.ref a2), (.ref a3)] h0 (fun v h L => v = some (.int 1) ∧ Fr n0 L ∧ h = h0) := by
  refine own_enter pn_2 (fun p e s m below meth c s₁ hx hby hml hown hnm hret hlk hZ X0 e0 => ?_)
  have N0 := Fr.nil n0
  have K0 := Keep.refl h0 []
  rw [ef_7_RRR m _ _ _]
  show Go p e below (s₁.setTop (mkF m 0 #[vr a1, vr a2, vr a3] [])) _
  refine g_aloadN X0 hx (hb hby d7_0) rfl rfl ?_
  refine g_getF X0 hx hZ hown (Wd17 hw) e0 O_a1.2.1 (hb hby d7_1) (fun T1 X1 e1 => ?_)
  refine g_nonnullNo X1 hx (hb hby d7_4) ?_
  refine g_aloadN X1 hx (hb hby d7_7) rfl rfl ?_
  refine g_cast X1 hx hZ hown (Wd42 hw) e1 (Ins.of_exa O_a2.1 (Wd43 hw)) (hb hby d7_8) (fun T2 X2 e2 => ?_)
  refine g_aloadN X2 hx (hb hby d7_11) rfl rfl ?_
  refine g_call (own_callF X2 hx hZ (xi := Y14) (y := Y12) hown (Wd44 hw) (Wd45 hw) (mvT hZ (Wd46 hw)) (Wd47 hw) (Wd48 hw) (Wd49 hw) (Wd50 hw) (Wd43 hw) (Wd51 hw) (Wd21 hw) (by decide) (rm_compareTo_55 l Z a0 hw a2 a3 i2 i3 h0 n0 Z0 O_a2 O_a3 hk0 hk1) e2 O_a2.1 pd_10 (hb hby d7_12) (by rw [hml]; rfl) (argsL := [(.ref a3)]) (rest := []) rfl rfl rfl (W := 0) (Nat.le_of_eq rfl) (by decide)) (fun v3 T3 L3 X3 q3 => ?_)
  obtain ⟨rfl, M3, e3⟩ := q3
  have N3 := Fr.app N0 M3
  refine g_goto X3 hx 31 (hb hby d7_17) (by decide) (by decide) ?_
  exact own_retI X3 hx hret hlk (hb hby d7_31) (by decide) (by decide) ⟨rfl, N3, e3⟩
theorem rm_isRed_91 (l : Launch) (Z : State) (a0 : Array Value) (hw : HW a0 Z) (a1 : Addr) (a2 : Addr) (a3 : Addr) (a4 : Addr) (a5 : Addr) (h0 : Heap) (n0 : Nat) (Z0 : n0 ≤ h0.size) (O_a1 : R_ND Z h0 a1 (.ref a2) (.ref a3) .null (.ref a4) (.ref a5) (.int (-2147483648))) :
    Ctr l Y24 prog_7_method_81_code 1 (some FieldType.boolean) [] ({ frames := 0, cells := 0, slots := 0, locals := 0 } : Room) Z #[(.ref a1)] h0 (fun v h L => v = some (.int 1) ∧ Fr n0 L ∧ h = h0) := by
  refine own_enter pn_2 (fun p e s m below meth c s₁ hx hby hml hown hnm hret hlk hZ X0 e0 => ?_)
  have N0 := Fr.nil n0
  have K0 := Keep.refl h0 []
  rw [ef_17_R m _]
  show Go p e below (s₁.setTop (mkF m 0 #[vr a1] [])) _
  refine g_aloadN X0 hx (hb hby d17_0) rfl rfl ?_
  refine g_nullNo X0 hx (hb hby d17_1) ?_
  refine g_aloadN X0 hx (hb hby d17_4) rfl rfl ?_
  refine g_getF X0 hx hZ hown (Wd88 hw) e0 O_a1.2.2.2.2.2.2 (hb hby d17_5) (fun T1 X1 e1 => ?_)
  refine g_ifNo X1 hx (hb hby d17_8) ((if0 _ _).trans (tlt ((by decide) : (-2147483648 : Int32) < (0 : Int32))).2.1) ?_
  refine g_iconst X1 hx (1 : Int32) (hb hby d17_11) (by decide) ?_
  refine g_goto X1 hx 16 (hb hby d17_12) (by decide) (by decide) ?_
  exact own_retZ X1 hx hret hlk (hb hby d17_16) (by decide) (by decide) (by decide) ⟨rfl, N0, e1⟩
theorem d20_17 : decode prog_7_method_87_code 17 = .ok (.aload_n 1, 1) := by decide +kernel
theorem d20_18 : decode prog_7_method_87_code 18 = .ok (.aload_n 3, 1) := by decide +kernel
theorem d20_19 : decode prog_7_method_87_code 19 = .ok (.getfield 211, 3) := by decide +kernel
theorem d20_22 : decode prog_7_method_87_code 22 = .ok (.if_acmp .ne 11, 3) := by decide +kernel
theorem d20_25 : decode prog_7_method_87_code 25 = .ok (.aload_n 3, 1) := by decide +kernel
theorem d20_26 : decode prog_7_method_87_code 26 = .ok (.aload_n 2, 1) := by decide +kernel
theorem d20_27 : decode prog_7_method_87_code 27 = .ok (.putfield 211, 3) := by decide +kernel
theorem d20_30 : decode prog_7_method_87_code 30 = .ok (.goto 8, 3) := by decide +kernel
theorem rm_replaceInParent_93 (l : Launch) (Z : State) (a0 : Array Value) (hw : HW a0 Z) (a1 : Addr) (a2 : Addr) (a3 : Addr) (a4 : Addr) (i1 : Int32) (a5 : Addr) (a6 : Addr) (a7 : Addr) (a8 : Addr) (a9 : Addr) (a10 : Addr) (i2 : Int32) (i3 : Int32) (i4 : Int32) (i5 : Int32) (h0 : Heap) (n0 : Nat) (Z0 : n0 ≤ h0.size) (O_a1 : R_MP Z h0 a1 .null (.ref a4) (.int 3) (.int i1)) (O_a2 : R_ND Z h0 a2 (.ref a5) (.ref a6) .null .null (.ref a4) (.int (-2147483648))) (O_a3 : R_ND Z h0 a3 (.ref a7) (.ref a8) .null .null (.ref a2) (.int (-2147483648))) (O_a4 : R_ND Z h0 a4 (.ref a9) (.ref a10) (.ref a2) .null .null (.int 2)) (O_a5 : R_IN Z h0 a5 (.int i2)) (O_a7 : R_IN Z h0 a7 (.int i3)) (O_a8 : R_IN Z h0 a8 (.int i4)) (O_a9 : R_IN Z h0 a9 (.int i5)) (ne_a1_a3 : a1 ≠ a3) (ne_a1_a4 : a1 ≠ a4) (ne_a2_a3 : a2 ≠ a3) (ne_a2_a4 : a2 ≠ a4) (ne_a3_a4 : a3 ≠ a4) (ne_a3_a5 : a3 ≠ a5) (ne_a3_a7 : a3 ≠ a7) (ne_a3_a8 : a3 ≠ a8) (ne_a3_a9 : a3 ≠ a9) (ne_a4_a5 : a4 ≠ a5) (ne_a4_a7 : a4 ≠ a7) (ne_a4_a8 : a4 ≠ a8) (ne_a4_a9 : a4 ≠ a9) (g_a3 : n0 ≤ a3) (g_a4 : n0 ≤ a4) (hk0 : i3 < i5) (hk1 : ¬ (i3 < i2)) (hk2 : ¬ (i3 = i2)) :
    Ctr l Y29 prog_7_method_87_code 4 none [] ({ frames := 0, cells := 0, slots := 0, locals := 0 } : Room) Z #[(.ref a1), (.ref a2), (.ref a3)] h0 (fun v h L => v = none ∧ Fr n0 L ∧ Keep h0 h [a3, a4] ∧ R_ND Z h a3 (.ref a7) (.ref a8) .null .null (.ref a4) (.int (-2147483648)) ∧ R_ND Z h a4 (.ref a9) (.ref a10) (.ref a3) .null .null (.int 2)) := by
  refine own_enter pn_2 (fun p e s m below meth c s₁ hx hby hml hown hnm hret hlk hZ X0 e0 => ?_)
  have N0 := Fr.nil n0
  have K0 := Keep.refl h0 [a3, a4]
  rw [ef_20_RRR m _ _ _]
  show Go p e below (s₁.setTop (mkF m 0 #[vr a1, vr a2, vr a3, vu] [])) _
  refine g_aloadN X0 hx (hb hby d20_0) rfl rfl ?_
  refine g_getF X0 hx hZ hown (Wd111 hw) e0 O_a2.2.2.2.2.2.1 (hb hby d20_1) (fun T1 X1 e1 => ?_)
  refine g_astoreN X1 hx #[vr a1, vr a2, vr a3, vr a4] (hb hby d20_4) rfl rfl ?_
  refine g_aloadN X1 hx (hb hby d20_5) rfl rfl ?_
  refine g_nonnullYes X1 hx 17 (hb hby d20_6) (by decide) (by decide) ?_
  refine g_aloadN X1 hx (hb hby d20_17) rfl rfl ?_
  refine g_aloadN X1 hx (hb hby d20_18) rfl rfl ?_
  refine g_getF X1 hx hZ hown (Wd95 hw) e1 O_a4.2.2.2.1 (hb hby d20_19) (fun T2 X2 e2 => ?_)
  have c22_0 : a2 = a2 := rfl
  refine g_acmp X2 hx 25 true rfl rfl (hb hby d20_22) (decide_eq_true (congrArg Value.ref c22_0)) (by decide) (by decide) ?_
  refine g_aloadN X2 hx (hb hby d20_25) rfl rfl ?_
  refine g_aloadN X2 hx (hb hby d20_26) rfl rfl ?_
  refine g_putF X2 hx hZ hown (Wd95 hw) e2 O_a4.2.2.2.1 O_a4.1 (Or.inl (Wd96 hw)) (Wd70 hw) fd_2 rfl rfl (hb hby d20_27) (fun T3 h3 X3 e3 W3 => ?_)
  have N3 := Fr.snoc X3 N0 g_a4
  have O_a1_3 := R_MP_other W3 O_a1 ne_a1_a4
  have O_a2_3 := R_ND_other W3 O_a2 ne_a2_a4
  have O_a3_3 := R_ND_other W3 O_a3 ne_a3_a4
  have O_a4_3 := R_ND_set_left hw W3 O_a4
  have O_a5_3 := R_IN_other W3 O_a5 (Ne.symm ne_a4_a5)
  have O_a7_3 := R_IN_other W3 O_a7 (Ne.symm ne_a4_a7)
  have O_a8_3 := R_IN_other W3 O_a8 (Ne.symm ne_a4_a8)
  have O_a9_3 := R_IN_other W3 O_a9 (Ne.symm ne_a4_a9)
  have Z3 : n0 ≤ h3.size := Nat.le_trans Z0 (Nat.le_of_eq W3.size.symm)
  have K3 := Keep.wr K0 W3 (Or.inl (List.mem_of_getElem? (i := 1) rfl))
  refine g_goto X3 hx 38 (hb hby d20_30) (by decide) (by decide) ?_
  refine g_aloadN X3 hx (hb hby d20_38) rfl rfl ?_
  refine g_nullNo X3 hx (hb hby d20_39) ?_
  refine g_aloadN X3 hx (hb hby d20_42) rfl rfl ?_
  refine g_aloadN X3 hx (hb hby d20_43) rfl rfl ?_
  refine g_putF X3 hx hZ hown (Wd111 hw) e3 O_a3_3.2.2.2.2.2.1 O_a3_3.1 (Or.inl (Wd84 hw)) (Wd70 hw) fd_2 rfl rfl (hb hby d20_44) (fun T4 h4 X4 e4 W4 => ?_)
  have N4 := Fr.snoc X4 N3 g_a3
  have O_a1_4 := R_MP_other W4 O_a1_3 ne_a1_a3
  have O_a2_4 := R_ND_other W4 O_a2_3 ne_a2_a3
  have O_a3_4 := R_ND_set_parent hw W4 O_a3_3
  have O_a4_4 := R_ND_other W4 O_a4_3 (Ne.symm ne_a3_a4)
  have O_a5_4 := R_IN_other W4 O_a5_3 (Ne.symm ne_a3_a5)
  have O_a7_4 := R_IN_other W4 O_a7_3 (Ne.symm ne_a3_a7)
  have O_a8_4 := R_IN_other W4 O_a8_3 (Ne.symm ne_a3_a8)
  have O_a9_4 := R_IN_other W4 O_a9_3 (Ne.symm ne_a3_a9)
  have Z4 : n0 ≤ h4.size := Nat.le_trans Z3 (Nat.le_of_eq W4.size.symm)
  have K4 := Keep.wr K3 W4 (Or.inl (List.mem_of_getElem? (i := 0) rfl))
  exact own_retV X4 hx hret hlk (hb hby d20_47) (by decide) (by decide) (by rw [e4]; exact ⟨rfl, N4, K4, O_a3_4, O_a4_4⟩)
theorem rm_leftCount_94 (l : Launch) (Z : State) (a0 : Array Value) (hw : HW a0 Z) (a1 : Addr) (a2 : Addr) (a3 : Addr) (a4 : Addr) (h0 : Heap) (n0 : Nat) (Z0 : n0 ≤ h0.size) (O_a1 : R_ND Z h0 a1 (.ref a2) (.ref a3) .null .null (.ref a4) (.int (-2147483648))) :
    Ctr l Y30 prog_7_method_83_code 1 (some FieldType.int) [] ({ frames := 0, cells := 0, slots := 0, locals := 0 } : Room) Z #[(.ref a1)] h0 (fun v h L => v = some (.int 0) ∧ Fr n0 L ∧ h = h0) := by
  refine own_enter pn_2 (fun p e s m below meth c s₁ hx hby hml hown hnm hret hlk hZ X0 e0 => ?_)
  have N0 := Fr.nil n0
  have K0 := Keep.refl h0 []
  rw [ef_21_R m _]
  show Go p e below (s₁.setTop (mkF m 0 #[vr a1] [])) _
  refine g_aloadN X0 hx (hb hby d21_0) rfl rfl ?_
  refine g_getF X0 hx hZ hown (Wd88 hw) e0 O_a1.2.2.2.2.2.2 (hb hby d21_1) (fun T1 X1 e1 => ?_)
  refine g_ldcw X1 hx hZ hown (Wd89 hw) (hb hby d21_4) ?_
  refine g_iand X1 hx (hb hby d21_7) ?_
  show Go p e below (T1.setTop (mkF m 8 #[vr a1] [(.int ((-2147483648 : Int32) &&& (2147483647 : Int32)))])) _
  rw [show ((-2147483648 : Int32) &&& (2147483647 : Int32)) = (0 : Int32) from by decide]
  exact own_retI X1 hx hret hlk (hb hby d21_8) (by decide) (by decide) ⟨rfl, N0, e1⟩
theorem rm_addToLeftCount_95 (l : Launch) (Z : State) (a0 : Array Value) (hw : HW a0 Z) (a1 : Addr) (a2 : Addr) (a3 : Addr) (a4 : Addr) (a5 : Addr) (h0 : Heap) (n0 : Nat) (Z0 : n0 ≤ h0.size) (O_a1 : R_ND Z h0 a1 (.ref a2) (.ref a3) (.ref a4) .null (.ref a5) (.int (-2147483648))) (g_a1 : n0 ≤ a1) :
    Ctr l Y22 prog_7_method_84_code 2 none [] ({ frames := 0, cells := 0, slots := 0, locals := 0 } : Room) Z #[(.ref a1), (.int 1)] h0 (fun v h L => v = none ∧ Fr n0 L ∧ Keep h0 h [a1] ∧ R_ND Z h a1 (.ref a2) (.ref a3) (.ref a4) .null (.ref a5) (.int (-2147483647))) := by
  refine own_enter pn_2 (fun p e s m below meth c s₁ hx hby hml hown hnm hret hlk hZ X0 e0 => ?_)
  have N0 := Fr.nil n0
  have K0 := Keep.refl h0 [a1]
  rw [ef_18_RI m _ _]
  show Go p e below (s₁.setTop (mkF m 0 #[vr a1, vi 1] [])) _
  refine g_aloadN X0 hx (hb hby d18_0) rfl rfl ?_
  refine g_dup X0 hx (hb hby d18_1) rfl ?_
  refine g_getF X0 hx hZ hown (Wd88 hw) e0 O_a1.2.2.2.2.2.2 (hb hby d18_2) (fun T1 X1 e1 => ?_)
  refine g_iloadN X1 hx (hb hby d18_5) rfl ?_
  refine g_iadd X1 hx (hb hby d18_6) ?_
  show Go p e below (T1.setTop (mkF m 7 #[vr a1, vi 1] [(.int ((-2147483648 : Int32) + (1 : Int32))), (.ref a1)])) _
  rw [show ((-2147483648 : Int32) + (1 : Int32)) = (-2147483647 : Int32) from by decide]
  refine g_putF X1 hx hZ hown (Wd88 hw) e1 O_a1.2.2.2.2.2.2 O_a1.1 (Or.inl (Wd78 hw)) (Wd70 hw) fd_0 rfl rfl (hb hby d18_7) (fun T2 h2 X2 e2 W2 => ?_)
  have N2 := Fr.snoc X2 N0 g_a1
  have O_a1_2 := R_ND_set_redAndLeftCount hw W2 O_a1
  have Z2 : n0 ≤ h2.size := Nat.le_trans Z0 (Nat.le_of_eq W2.size.symm)
  have K2 := Keep.wr K0 W2 (Or.inl (List.mem_of_getElem? (i := 0) rfl))
  exact own_retV X2 hx hret hlk (hb hby d18_10) (by decide) (by decide) (by rw [e2]; exact ⟨rfl, N2, K2, O_a1_2⟩)
theorem ef_23_RR (m : MethodId) (x0 : Addr) (x1 : Addr) : entryFrame m #[(.ref x0), (.ref x1)] 3 = mkF m 0 #[vr x0, vr x1, vu] [] := by first | (simp [entryFrame, mkF, argsToLocals, Value.category]; done) | rfl
theorem d23_0 : decode prog_7_method_88_code 0 = .ok (.aload_n 1, 1) := by decide +kernel
theorem d23_1 : decode prog_7_method_88_code 1 = .ok (.getfield 214, 3) := by decide +kernel
theorem d23_4 : decode prog_7_method_88_code 4 = .ok (.astore_n 2, 1) := by decide +kernel
theorem d23_5 : decode prog_7_method_88_code 5 = .ok (.aload_n 1, 1) := by decide +kernel
theorem d23_6 : decode prog_7_method_88_code 6 = .ok (.aload_n 2, 1) := by decide +kernel
theorem d23_7 : decode prog_7_method_88_code 7 = .ok (.getfield 211, 3) := by decide +kernel
theorem d23_10 : decode prog_7_method_88_code 10 = .ok (.putfield 214, 3) := by decide +kernel
theorem d23_13 : decode prog_7_method_88_code 13 = .ok (.aload_n 2, 1) := by decide +kernel
theorem d23_14 : decode prog_7_method_88_code 14 = .ok (.getfield 211, 3) := by decide +kernel
theorem d23_17 : decode prog_7_method_88_code 17 = .ok (.ifnull 11, 3) := by decide +kernel
theorem d23_28 : decode prog_7_method_88_code 28 = .ok (.aload_n 0, 1) := by decide +kernel
theorem d23_29 : decode prog_7_method_88_code 29 = .ok (.aload_n 1, 1) := by decide +kernel
theorem d23_30 : decode prog_7_method_88_code 30 = .ok (.aload_n 2, 1) := by decide +kernel
theorem d23_31 : decode prog_7_method_88_code 31 = .ok (.invokevirtual 293, 3) := by decide +kernel
theorem d23_34 : decode prog_7_method_88_code 34 = .ok (.aload_n 2, 1) := by decide +kernel
theorem d23_35 : decode prog_7_method_88_code 35 = .ok (.aload_n 1, 1) := by decide +kernel
theorem d23_36 : decode prog_7_method_88_code 36 = .ok (.putfield 211, 3) := by decide +kernel
theorem d23_39 : decode prog_7_method_88_code 39 = .ok (.aload_n 1, 1) := by decide +kernel
theorem d23_40 : decode prog_7_method_88_code 40 = .ok (.aload_n 2, 1) := by decide +kernel
theorem d23_41 : decode prog_7_method_88_code 41 = .ok (.putfield 282, 3) := by decide +kernel
theorem d23_44 : decode prog_7_method_88_code 44 = .ok (.aload_n 2, 1) := by decide +kernel
theorem d23_45 : decode prog_7_method_88_code 45 = .ok (.aload_n 1, 1) := by decide +kernel
theorem d23_46 : decode prog_7_method_88_code 46 = .ok (.invokestatic 229, 3) := by decide +kernel
theorem d23_49 : decode prog_7_method_88_code 49 = .ok (.iconst 1, 1) := by decide +kernel
theorem d23_50 : decode prog_7_method_88_code 50 = .ok (.iadd, 1) := by decide +kernel
theorem d23_51 : decode prog_7_method_88_code 51 = .ok (.invokestatic 221, 3) := by decide +kernel
theorem d23_54 : decode prog_7_method_88_code 54 = .ok (.aload_n 0, 1) := by decide +kernel
theorem d23_55 : decode prog_7_method_88_code 55 = .ok (.aload_n 1, 1) := by decide +kernel
theorem d23_56 : decode prog_7_method_88_code 56 = .ok (.invokevirtual 297, 3) := by decide +kernel
theorem d23_59 : decode prog_7_method_88_code 59 = .ok (.aload_n 0, 1) := by decide +kernel
theorem d23_60 : decode prog_7_method_88_code 60 = .ok (.aload_n 2, 1) := by decide +kernel
theorem d23_61 : decode prog_7_method_88_code 61 = .ok (.invokevirtual 297, 3) := by decide +kernel
theorem d23_64 : decode prog_7_method_88_code 64 = .ok (.return_, 1) := by decide +kernel
theorem rm_rotateLeft_92 (l : Launch) (Z : State) (a0 : Array Value) (hw : HW a0 Z) (a1 : Addr) (a2 : Addr) (a3 : Addr) (i1 : Int32) (a4 : Addr) (a5 : Addr) (a6 : Addr) (a7 : Addr) (a8 : Addr) (i2 : Int32) (a9 : Addr) (a10 : Addr) (i3 : Int32) (i4 : Int32) (i5 : Int32) (h0 : Heap) (n0 : Nat) (Z0 : n0 ≤ h0.size) (O_a1 : R_MP Z h0 a1 .null (.ref a3) (.int 3) (.int i1)) (O_a2 : R_ND Z h0 a2 (.ref a4) (.ref a5) .null (.ref a6) (.ref a3) (.int (-2147483648))) (O_a3 : R_ND Z h0 a3 (.ref a7) (.ref a8) (.ref a2) .null .null (.int 2)) (O_a4 : R_IN Z h0 a4 (.int i2)) (O_a6 : R_ND Z h0 a6 (.ref a9) (.ref a10) .null .null (.ref a2) (.int (-2147483648))) (O_a7 : R_IN Z h0 a7 (.int i3)) (O_a9 : R_IN Z h0 a9 (.int i4)) (O_a10 : R_IN Z h0 a10 (.int i5)) (ne_a1_a2 : a1 ≠ a2) (ne_a1_a3 : a1 ≠ a3) (ne_a1_a6 : a1 ≠ a6) (ne_a2_a3 : a2 ≠ a3) (ne_a2_a4 : a2 ≠ a4) (ne_a2_a6 : a2 ≠ a6) (ne_a2_a7 : a2 ≠ a7) (ne_a2_a9 : a2 ≠ a9) (ne_a2_a10 : a2 ≠ a10) (ne_a3_a4 : a3 ≠ a4) (ne_a3_a6 : a3 ≠ a6) (ne_a3_a7 : a3 ≠ a7) (ne_a3_a9 : a3 ≠ a9) (ne_a3_a10 : a3 ≠ a10) (ne_a4_a6 : a4 ≠ a6) (ne_a6_a7 : a6 ≠ a7) (ne_a6_a9 : a6 ≠ a9) (ne_a6_a10 : a6 ≠ a10) (g_a2 : n0 ≤ a2) (g_a3 : n0 ≤ a3) (g_a6 : n0 ≤ a6) (hk0 : i4 < i3) (hk1 : ¬ (i4 < i2)) (hk2 : ¬ (i4 = i2)) :
    Ctr l Y34 prog_7_method_88_code 3 none [] ({ frames := 1, cells := 0, slots := 0, locals := 15 } : Room) Z #[(.ref a1), (.ref a2)] h0 (fun v h L => v = none ∧ Fr n0 L ∧ Keep h0 h [a2, a3, a6] ∧ R_ND Z h a2 (.ref a4) (.ref a5) .null .null (.ref a6) (.int (-2147483648)) ∧ R_ND Z h a3 (.ref a7) (.ref a8) (.ref a6) .null .null (.int 2) ∧ R_ND Z h a6 (.ref a9) (.ref a10) (.ref a2) .null (.ref a3) (.int (-2147483647))) := by
  refine own_enter pn_2 (fun p e s m below meth c s₁ hx hby hml hown hnm hret hlk hZ X0 e0 => ?_)
  have N0 := Fr.nil n0
  have K0 := Keep.refl h0 [a2, a3, a6]
  rw [ef_23_RR m _ _]
  show Go p e below (s₁.setTop (mkF m 0 #[vr a1, vr a2, vu] [])) _
  refine g_aloadN X0 hx (hb hby d23_0) rfl rfl ?_
  refine g_getF X0 hx hZ hown (Wd97 hw) e0 O_a2.2.2.2.2.1 (hb hby d23_1) (fun T1 X1 e1 => ?_)
  refine g_astoreN X1 hx #[vr a1, vr a2, vr a6] (hb hby d23_4) rfl rfl ?_
  refine g_aloadN X1 hx (hb hby d23_5) rfl rfl ?_
  refine g_aloadN X1 hx (hb hby d23_6) rfl rfl ?_
  refine g_getF X1 hx hZ hown (Wd95 hw) e1 O_a6.2.2.2.1 (hb hby d23_7) (fun T2 X2 e2 => ?_)
  refine g_putF X2 hx hZ hown (Wd97 hw) e2 O_a2.2.2.2.2.1 O_a2.1 (Or.inl (Wd98 hw)) (Wd70 hw) fd_2 rfl rfl (hb hby d23_10) (fun T3 h3 X3 e3 W3 => ?_)
  have N3 := Fr.snoc X3 N0 g_a2
  have O_a1_3 := R_MP_other W3 O_a1 ne_a1_a2
  have O_a2_3 := R_ND_set_right hw W3 O_a2
  have O_a3_3 := R_ND_other W3 O_a3 (Ne.symm ne_a2_a3)
  have O_a4_3 := R_IN_other W3 O_a4 (Ne.symm ne_a2_a4)
  have O_a6_3 := R_ND_other W3 O_a6 (Ne.symm ne_a2_a6)
  have O_a7_3 := R_IN_other W3 O_a7 (Ne.symm ne_a2_a7)
  have O_a9_3 := R_IN_other W3 O_a9 (Ne.symm ne_a2_a9)
  have O_a10_3 := R_IN_other W3 O_a10 (Ne.symm ne_a2_a10)
  have Z3 : n0 ≤ h3.size := Nat.le_trans Z0 (Nat.le_of_eq W3.size.symm)
  have K3 := Keep.wr K0 W3 (Or.inl (List.mem_of_getElem? (i := 0) rfl))
  refine g_aloadN X3 hx (hb hby d23_13) rfl rfl ?_
  refine g_getF X3 hx hZ hown (Wd95 hw) e3 O_a6_3.2.2.2.1 (hb hby d23_14) (fun T4 X4 e4 => ?_)
  refine g_nullYes X4 hx 28 (hb hby d23_17) (by decide) (by decide) ?_
  refine g_aloadN X4 hx (hb hby d23_28) rfl rfl ?_
  refine g_aloadN X4 hx (hb hby d23_29) rfl rfl ?_
  refine g_aloadN X4 hx (hb hby d23_30) rfl rfl ?_
  refine g_call (own_callP X4 hx hZ (y := Y29) hown (Wd122 hw) (Wd123 hw) (Wd124 hw) (Wd1 hw) (Wd125 hw) (Wd2 hw) (by decide) (rm_replaceInParent_93 l Z a0 hw a1 a2 a6 a3 i1 a4 a5 a9 a10 a7 a8 i2 i4 i5 i3 h3 n0 Z3 O_a1_3 O_a2_3 O_a6_3 O_a3_3 O_a4_3 O_a9_3 O_a10_3 O_a7_3 ne_a1_a6 ne_a1_a3 ne_a2_a6 ne_a2_a3 (Ne.symm ne_a3_a6) (Ne.symm ne_a4_a6) ne_a6_a9 ne_a6_a10 ne_a6_a7 ne_a3_a4 ne_a3_a9 ne_a3_a10 ne_a3_a7 g_a6 g_a3 hk0 hk1 hk2) e4 O_a1_3.1 pd_22 (hb hby d23_31) (by rw [hml]; rfl) (argsL := [(.ref a2), (.ref a6)]) (rest := []) rfl rfl rfl (W := 0) (Nat.le_of_eq rfl) (by decide)) (fun v5 T5 L5 X5 q5 => ?_)
  obtain ⟨rfl, M5, Kc5, Rk5_0, Rk5_1⟩ := q5
  have N5 := Fr.app N3 M5
  have O_a1_5 := R_MP_keep O_a1_3 Kc5 (own_nin ne_a1_a6 (own_nin ne_a1_a3 List.not_mem_nil))
  have O_a2_5 := R_ND_keep O_a2_3 Kc5 (own_nin ne_a2_a6 (own_nin ne_a2_a3 List.not_mem_nil))
  have O_a4_5 := R_IN_keep O_a4_3 Kc5 (own_nin ne_a4_a6 (own_nin (Ne.symm ne_a3_a4) List.not_mem_nil))
  have O_a7_5 := R_IN_keep O_a7_3 Kc5 (own_nin (Ne.symm ne_a6_a7) (own_nin (Ne.symm ne_a3_a7) List.not_mem_nil))
  have O_a9_5 := R_IN_keep O_a9_3 Kc5 (own_nin (Ne.symm ne_a6_a9) (own_nin (Ne.symm ne_a3_a9) List.not_mem_nil))
  have O_a10_5 := R_IN_keep O_a10_3 Kc5 (own_nin (Ne.symm ne_a6_a10) (own_nin (Ne.symm ne_a3_a10) List.not_mem_nil))
  have K5 := Keep.trans K3 Kc5 (own_memc (Or.inl (List.mem_of_getElem? (i := 2) rfl)) (own_memc (Or.inl (List.mem_of_getElem? (i := 1) rfl)) own_memn))
  have Z5 : n0 ≤ T5.heap.size := Nat.le_trans Z3 Kc5.1
  refine g_aloadN X5 hx (hb hby d23_34) rfl rfl ?_
  refine g_aloadN X5 hx (hb hby d23_35) rfl rfl ?_
  refine g_putF X5 hx hZ hown (Wd95 hw) (rfl : T5.heap = T5.heap) Rk5_0.2.2.2.1 Rk5_0.1 (Or.inl (Wd96 hw)) (Wd70 hw) fd_2 rfl rfl (hb hby d23_36) (fun T6 h6 X6 e6 W6 => ?_)
  have N6 := Fr.snoc X6 N5 g_a6
  have O_a1_6 := R_MP_other W6 O_a1_5 ne_a1_a6
  have O_a2_6 := R_ND_other W6 O_a2_5 ne_a2_a6
  have O_a4_6 := R_IN_other W6 O_a4_5 ne_a4_a6
  have O_a7_6 := R_IN_other W6 O_a7_5 (Ne.symm ne_a6_a7)
  have O_a9_6 := R_IN_other W6 O_a9_5 (Ne.symm ne_a6_a9)
  have O_a10_6 := R_IN_other W6 O_a10_5 (Ne.symm ne_a6_a10)
  have O_a6_6 := R_ND_set_left hw W6 Rk5_0
  have O_a3_6 := R_ND_other W6 Rk5_1 ne_a3_a6
  have Z6 : n0 ≤ h6.size := Nat.le_trans Z5 (Nat.le_of_eq W6.size.symm)
  have K6 := Keep.wr K5 W6 (Or.inl (List.mem_of_getElem? (i := 2) rfl))
  refine g_aloadN X6 hx (hb hby d23_39) rfl rfl ?_
  refine g_aloadN X6 hx (hb hby d23_40) rfl rfl ?_
  refine g_putF X6 hx hZ hown (Wd111 hw) e6 O_a2_6.2.2.2.2.2.1 O_a2_6.1 (Or.inl (Wd84 hw)) (Wd70 hw) fd_2 rfl rfl (hb hby d23_41) (fun T7 h7 X7 e7 W7 => ?_)
  have N7 := Fr.snoc X7 N6 g_a2
  have O_a1_7 := R_MP_other W7 O_a1_6 ne_a1_a2
  have O_a2_7 := R_ND_set_parent hw W7 O_a2_6
  have O_a4_7 := R_IN_other W7 O_a4_6 (Ne.symm ne_a2_a4)
  have O_a7_7 := R_IN_other W7 O_a7_6 (Ne.symm ne_a2_a7)
  have O_a9_7 := R_IN_other W7 O_a9_6 (Ne.symm ne_a2_a9)
  have O_a10_7 := R_IN_other W7 O_a10_6 (Ne.symm ne_a2_a10)
  have O_a6_7 := R_ND_other W7 O_a6_6 (Ne.symm ne_a2_a6)
  have O_a3_7 := R_ND_other W7 O_a3_6 (Ne.symm ne_a2_a3)
  have Z7 : n0 ≤ h7.size := Nat.le_trans Z6 (Nat.le_of_eq W7.size.symm)
  have K7 := Keep.wr K6 W7 (Or.inl (List.mem_of_getElem? (i := 0) rfl))
  refine g_aloadN X7 hx (hb hby d23_44) rfl rfl ?_
  refine g_aloadN X7 hx (hb hby d23_45) rfl rfl ?_
  refine g_call (own_callS X7 hx hZ (y := Y30) hown (Wd126 hw) (Wd127 hw) (Wd2 hw) (Wd128 hw) (by decide) (rm_leftCount_94 l Z a0 hw a2 a4 a5 a6 h7 n0 Z7 O_a2_7) e7 pd_23 (hb hby d23_46) (by rw [hml]; rfl) (argsL := [(.ref a2)]) (rest := [(.ref a6)]) rfl rfl rfl (W := 1) (Nat.le_of_eq rfl) (by decide)) (fun v8 T8 L8 X8 q8 => ?_)
  obtain ⟨rfl, M8, e8⟩ := q8
  have N8 := Fr.app N7 M8
  refine g_iconst X8 hx (1 : Int32) (hb hby d23_49) (by decide) ?_
  refine g_iadd X8 hx (hb hby d23_50) ?_
  show Go p e below (T8.setTop (mkF m 51 #[vr a1, vr a2, vr a6] [(.int ((0 : Int32) + (1 : Int32))), (.ref a6)])) _
  rw [show ((0 : Int32) + (1 : Int32)) = (1 : Int32) from by decide]
  refine g_call (own_callS X8 hx hZ (y := Y22) hown (Wd115 hw) (Wd116 hw) (Wd2 hw) (Wd117 hw) (by decide) (rm_addToLeftCount_95 l Z a0 hw a6 a9 a10 a2 a3 h7 n0 Z7 O_a6_7 g_a6) e8 pd_17 (hb hby d23_51) (by rw [hml]; rfl) (argsL := [(.ref a6), (.int 1)]) (rest := []) rfl rfl rfl (W := 0) (Nat.le_of_eq rfl) (by decide)) (fun v9 T9 L9 X9 q9 => ?_)
  obtain ⟨rfl, M9, Kc9, Rk9_0⟩ := q9
  have N9 := Fr.app N8 M9
  have O_a1_9 := R_MP_keep O_a1_7 Kc9 (own_nin ne_a1_a6 List.not_mem_nil)
  have O_a2_9 := R_ND_keep O_a2_7 Kc9 (own_nin ne_a2_a6 List.not_mem_nil)
  have O_a4_9 := R_IN_keep O_a4_7 Kc9 (own_nin ne_a4_a6 List.not_mem_nil)
  have O_a7_9 := R_IN_keep O_a7_7 Kc9 (own_nin (Ne.symm ne_a6_a7) List.not_mem_nil)
  have O_a9_9 := R_IN_keep O_a9_7 Kc9 (own_nin (Ne.symm ne_a6_a9) List.not_mem_nil)
  have O_a10_9 := R_IN_keep O_a10_7 Kc9 (own_nin (Ne.symm ne_a6_a10) List.not_mem_nil)
  have O_a3_9 := R_ND_keep O_a3_7 Kc9 (own_nin ne_a3_a6 List.not_mem_nil)
  have K9 := Keep.trans K7 Kc9 (own_memc (Or.inl (List.mem_of_getElem? (i := 2) rfl)) own_memn)
  have Z9 : n0 ≤ T9.heap.size := Nat.le_trans Z7 Kc9.1
  refine g_aloadN X9 hx (hb hby d23_54) rfl rfl ?_
  refine g_aloadN X9 hx (hb hby d23_55) rfl rfl ?_
  refine g_call (own_callV X9 hx hZ (y := Y31) hown (Wd129 hw) (Wd130 hw) (Wd132 hw) (Wd131 hw) (Wd133 hw) (Wd2 hw) (by decide) (rm_refresh_76 l Z a0 hw a1 a2 T9.heap n0 Z9 ) (rfl : T9.heap = T9.heap) O_a1_9.1 pd_18 (hb hby d23_56) (by rw [hml]; rfl) (argsL := [(.ref a2)]) (rest := []) rfl rfl rfl (W := 0) (Nat.le_of_eq rfl) (by decide)) (fun v10 T10 L10 X10 q10 => ?_)
  obtain ⟨rfl, M10, e10⟩ := q10
  have N10 := Fr.app N9 M10
  refine g_aloadN X10 hx (hb hby d23_59) rfl rfl ?_
  refine g_aloadN X10 hx (hb hby d23_60) rfl rfl ?_
  refine g_call (own_callV X10 hx hZ (y := Y31) hown (Wd129 hw) (Wd130 hw) (Wd132 hw) (Wd131 hw) (Wd133 hw) (Wd2 hw) (by decide) (rm_refresh_76 l Z a0 hw a1 a6 T9.heap n0 Z9 ) e10 O_a1_9.1 pd_18 (hb hby d23_61) (by rw [hml]; rfl) (argsL := [(.ref a6)]) (rest := []) rfl rfl rfl (W := 0) (Nat.le_of_eq rfl) (by decide)) (fun v11 T11 L11 X11 q11 => ?_)
  obtain ⟨rfl, M11, e11⟩ := q11
  have N11 := Fr.app N10 M11
  exact own_retV X11 hx hret hlk (hb hby d23_64) (by decide) (by decide) (by rw [e11]; exact ⟨rfl, N11, K9, O_a2_9, O_a3_9, Rk9_0⟩)
theorem rm_replaceInParent_97 (l : Launch) (Z : State) (a0 : Array Value) (hw : HW a0 Z) (a1 : Addr) (a2 : Addr) (a3 : Addr) (i1 : Int32) (a4 : Addr) (a5 : Addr) (a6 : Addr) (a7 : Addr) (a8 : Addr) (i2 : Int32) (i3 : Int32) (i4 : Int32) (a9 : Addr) (a10 : Addr) (i5 : Int32) (h0 : Heap) (n0 : Nat) (Z0 : n0 ≤ h0.size) (O_a1 : R_MP Z h0 a1 .null (.ref a2) (.int 3) (.int i1)) (O_a2 : R_ND Z h0 a2 (.ref a4) (.ref a5) .null .null .null (.int (-2147483646))) (O_a3 : R_ND Z h0 a3 (.ref a6) (.ref a7) (.ref a8) .null (.ref a2) (.int 1)) (O_a4 : R_IN Z h0 a4 (.int i2)) (O_a6 : R_IN Z h0 a6 (.int i3)) (O_a7 : R_IN Z h0 a7 (.int i4)) (O_a8 : R_ND Z h0 a8 (.ref a9) (.ref a10) .null .null (.ref a3) (.int (-2147483648))) (O_a9 : R_IN Z h0 a9 (.int i5)) (ne_a1_a2 : a1 ≠ a2) (ne_a1_a3 : a1 ≠ a3) (ne_a1_a4 : a1 ≠ a4) (ne_a1_a6 : a1 ≠ a6) (ne_a1_a7 : a1 ≠ a7) (ne_a1_a8 : a1 ≠ a8) (ne_a1_a9 : a1 ≠ a9) (ne_a2_a3 : a2 ≠ a3) (ne_a3_a4 : a3 ≠ a4) (ne_a3_a6 : a3 ≠ a6) (ne_a3_a7 : a3 ≠ a7) (ne_a3_a8 : a3 ≠ a8) (ne_a3_a9 : a3 ≠ a9) (g_a1 : n0 ≤ a1) (g_a3 : n0 ≤ a3) (hk0 : i3 < i2) (hk1 : ¬ (i3 < i5)) (hk2 : ¬ (i3 = i5)) :
    Ctr l Y29 prog_7_method_87_code 4 none [] ({ frames := 0, cells := 0, slots := 0, locals := 0 } : Room) Z #[(.ref a1), (.ref a2), (.ref a3)] h0 (fun v h L => v = none ∧ Fr n0 L ∧ Keep h0 h [a1, a3] ∧ R_MP Z h a1 .null (.ref a3) (.int 3) (.int i1) ∧ R_ND Z h a3 (.ref a6) (.ref a7) (.ref a8) .null .null (.int 1)) := by
  refine own_enter pn_2 (fun p e s m below meth c s₁ hx hby hml hown hnm hret hlk hZ X0 e0 => ?_)
  have N0 := Fr.nil n0
  have K0 := Keep.refl h0 [a1, a3]
  rw [ef_20_RRR m _ _ _]
  show Go p e below (s₁.setTop (mkF m 0 #[vr a1, vr a2, vr a3, vu] [])) _
  refine g_aloadN X0 hx (hb hby d20_0) rfl rfl ?_
  refine g_getF X0 hx hZ hown (Wd111 hw) e0 O_a2.2.2.2.2.2.1 (hb hby d20_1) (fun T1 X1 e1 => ?_)
  refine g_astoreN X1 hx #[vr a1, vr a2, vr a3, vn] (hb hby d20_4) rfl rfl ?_
  refine g_aloadN X1 hx (hb hby d20_5) rfl rfl ?_
  refine g_nonnullNo X1 hx (hb hby d20_6) ?_
  refine g_aloadN X1 hx (hb hby d20_9) rfl rfl ?_
  refine g_aloadN X1 hx (hb hby d20_10) rfl rfl ?_
  refine g_putF X1 hx hZ hown (Wd35 hw) e1 O_a1.2.2.1 O_a1.1 (Or.inl (Wd36 hw)) (Wd1 hw) fd_2 rfl rfl (hb hby d20_11) (fun T2 h2 X2 e2 W2 => ?_)
  have N2 := Fr.snoc X2 N0 g_a1
  have O_a1_2 := R_MP_set_root hw W2 O_a1
  have O_a2_2 := R_ND_other W2 O_a2 (Ne.symm ne_a1_a2)
  have O_a3_2 := R_ND_other W2 O_a3 (Ne.symm ne_a1_a3)
  have O_a4_2 := R_IN_other W2 O_a4 (Ne.symm ne_a1_a4)
  have O_a6_2 := R_IN_other W2 O_a6 (Ne.symm ne_a1_a6)
  have O_a7_2 := R_IN_other W2 O_a7 (Ne.symm ne_a1_a7)
  have O_a8_2 := R_ND_other W2 O_a8 (Ne.symm ne_a1_a8)
  have O_a9_2 := R_IN_other W2 O_a9 (Ne.symm ne_a1_a9)
  have Z2 : n0 ≤ h2.size := Nat.le_trans Z0 (Nat.le_of_eq W2.size.symm)
  have K2 := Keep.wr K0 W2 (Or.inl (List.mem_of_getElem? (i := 0) rfl))
  refine g_goto X2 hx 38 (hb hby d20_14) (by decide) (by decide) ?_
  refine g_aloadN X2 hx (hb hby d20_38) rfl rfl ?_
  refine g_nullNo X2 hx (hb hby d20_39) ?_
  refine g_aloadN X2 hx (hb hby d20_42) rfl rfl ?_
  refine g_aloadN X2 hx (hb hby d20_43) rfl rfl ?_
  refine g_putF X2 hx hZ hown (Wd111 hw) e2 O_a3_2.2.2.2.2.2.1 O_a3_2.1 (Or.inl (Wd84 hw)) (Wd70 hw) fd_2 rfl rfl (hb hby d20_44) (fun T3 h3 X3 e3 W3 => ?_)
  have N3 := Fr.snoc X3 N2 g_a3
  have O_a1_3 := R_MP_other W3 O_a1_2 ne_a1_a3
  have O_a2_3 := R_ND_other W3 O_a2_2 ne_a2_a3
  have O_a3_3 := R_ND_set_parent hw W3 O_a3_2
  have O_a4_3 := R_IN_other W3 O_a4_2 (Ne.symm ne_a3_a4)
  have O_a6_3 := R_IN_other W3 O_a6_2 (Ne.symm ne_a3_a6)
  have O_a7_3 := R_IN_other W3 O_a7_2 (Ne.symm ne_a3_a7)
  have O_a8_3 := R_ND_other W3 O_a8_2 (Ne.symm ne_a3_a8)
  have O_a9_3 := R_IN_other W3 O_a9_2 (Ne.symm ne_a3_a9)
  have Z3 : n0 ≤ h3.size := Nat.le_trans Z2 (Nat.le_of_eq W3.size.symm)
  have K3 := Keep.wr K2 W3 (Or.inl (List.mem_of_getElem? (i := 1) rfl))
  exact own_retV X3 hx hret hlk (hb hby d20_47) (by decide) (by decide) (by rw [e3]; exact ⟨rfl, N3, K3, O_a1_3, O_a3_3⟩)
theorem rm_rotateRight_96 (l : Launch) (Z : State) (a0 : Array Value) (hw : HW a0 Z) (a1 : Addr) (a2 : Addr) (i1 : Int32) (a3 : Addr) (a4 : Addr) (a5 : Addr) (i2 : Int32) (a6 : Addr) (a7 : Addr) (a8 : Addr) (i3 : Int32) (i4 : Int32) (a9 : Addr) (a10 : Addr) (i5 : Int32) (h0 : Heap) (n0 : Nat) (Z0 : n0 ≤ h0.size) (O_a1 : R_MP Z h0 a1 .null (.ref a2) (.int 3) (.int i1)) (O_a2 : R_ND Z h0 a2 (.ref a3) (.ref a4) (.ref a5) .null .null (.int (-2147483646))) (O_a3 : R_IN Z h0 a3 (.int i2)) (O_a5 : R_ND Z h0 a5 (.ref a6) (.ref a7) (.ref a8) .null (.ref a2) (.int 1)) (O_a6 : R_IN Z h0 a6 (.int i3)) (O_a7 : R_IN Z h0 a7 (.int i4)) (O_a8 : R_ND Z h0 a8 (.ref a9) (.ref a10) .null .null (.ref a5) (.int (-2147483648))) (O_a9 : R_IN Z h0 a9 (.int i5)) (ne_a1_a2 : a1 ≠ a2) (ne_a1_a3 : a1 ≠ a3) (ne_a1_a5 : a1 ≠ a5) (ne_a1_a6 : a1 ≠ a6) (ne_a1_a7 : a1 ≠ a7) (ne_a1_a8 : a1 ≠ a8) (ne_a1_a9 : a1 ≠ a9) (ne_a2_a3 : a2 ≠ a3) (ne_a2_a5 : a2 ≠ a5) (ne_a2_a6 : a2 ≠ a6) (ne_a2_a7 : a2 ≠ a7) (ne_a2_a8 : a2 ≠ a8) (ne_a2_a9 : a2 ≠ a9) (ne_a3_a5 : a3 ≠ a5) (ne_a5_a6 : a5 ≠ a6) (ne_a5_a7 : a5 ≠ a7) (ne_a5_a8 : a5 ≠ a8) (ne_a5_a9 : a5 ≠ a9) (g_a1 : n0 ≤ a1) (g_a2 : n0 ≤ a2) (g_a5 : n0 ≤ a5) (hk0 : i3 < i2) (hk1 : ¬ (i3 < i5)) (hk2 : ¬ (i3 = i5)) :
    Ctr l Y32 prog_7_method_89_code 3 none [] ({ frames := 1, cells := 0, slots := 0, locals := 15 } : Room) Z #[(.ref a1), (.ref a2)] h0 (fun v h L => v = none ∧ Fr n0 L ∧ Keep h0 h [a1, a2, a5] ∧ R_MP Z h a1 .null (.ref a5) (.int 3) (.int i1) ∧ R_ND Z h a2 (.ref a3) (.ref a4) .null .null (.ref a5) (.int (-2147483648)) ∧ R_ND Z h a5 (.ref a6) (.ref a7) (.ref a8) (.ref a2) .null (.int 1)) := by
  refine own_enter pn_2 (fun p e s m below meth c s₁ hx hby hml hown hnm hret hlk hZ X0 e0 => ?_)
  have N0 := Fr.nil n0
  have K0 := Keep.refl h0 [a1, a2, a5]
  rw [ef_19_RR m _ _]
  show Go p e below (s₁.setTop (mkF m 0 #[vr a1, vr a2, vu] [])) _
  refine g_aloadN X0 hx (hb hby d19_0) rfl rfl ?_
  refine g_getF X0 hx hZ hown (Wd95 hw) e0 O_a2.2.2.2.1 (hb hby d19_1) (fun T1 X1 e1 => ?_)
  refine g_astoreN X1 hx #[vr a1, vr a2, vr a5] (hb hby d19_4) rfl rfl ?_
  refine g_aloadN X1 hx (hb hby d19_5) rfl rfl ?_
  refine g_aloadN X1 hx (hb hby d19_6) rfl rfl ?_
  refine g_getF X1 hx hZ hown (Wd97 hw) e1 O_a5.2.2.2.2.1 (hb hby d19_7) (fun T2 X2 e2 => ?_)
  refine g_putF X2 hx hZ hown (Wd95 hw) e2 O_a2.2.2.2.1 O_a2.1 (Or.inl (Wd96 hw)) (Wd70 hw) fd_2 rfl rfl (hb hby d19_10) (fun T3 h3 X3 e3 W3 => ?_)
  have N3 := Fr.snoc X3 N0 g_a2
  have O_a1_3 := R_MP_other W3 O_a1 ne_a1_a2
  have O_a2_3 := R_ND_set_left hw W3 O_a2
  have O_a3_3 := R_IN_other W3 O_a3 (Ne.symm ne_a2_a3)
  have O_a5_3 := R_ND_other W3 O_a5 (Ne.symm ne_a2_a5)
  have O_a6_3 := R_IN_other W3 O_a6 (Ne.symm ne_a2_a6)
  have O_a7_3 := R_IN_other W3 O_a7 (Ne.symm ne_a2_a7)
  have O_a8_3 := R_ND_other W3 O_a8 (Ne.symm ne_a2_a8)
  have O_a9_3 := R_IN_other W3 O_a9 (Ne.symm ne_a2_a9)
  have Z3 : n0 ≤ h3.size := Nat.le_trans Z0 (Nat.le_of_eq W3.size.symm)
  have K3 := Keep.wr K0 W3 (Or.inl (List.mem_of_getElem? (i := 1) rfl))
  refine g_aloadN X3 hx (hb hby d19_13) rfl rfl ?_
  refine g_getF X3 hx hZ hown (Wd97 hw) e3 O_a5_3.2.2.2.2.1 (hb hby d19_14) (fun T4 X4 e4 => ?_)
  refine g_nullYes X4 hx 28 (hb hby d19_17) (by decide) (by decide) ?_
  refine g_aloadN X4 hx (hb hby d19_28) rfl rfl ?_
  refine g_aloadN X4 hx (hb hby d19_29) rfl rfl ?_
  refine g_aloadN X4 hx (hb hby d19_30) rfl rfl ?_
  refine g_call (own_callP X4 hx hZ (y := Y29) hown (Wd122 hw) (Wd123 hw) (Wd124 hw) (Wd1 hw) (Wd125 hw) (Wd2 hw) (by decide) (rm_replaceInParent_97 l Z a0 hw a1 a2 a5 i1 a3 a4 a6 a7 a8 i2 i3 i4 a9 a10 i5 h3 n0 Z3 O_a1_3 O_a2_3 O_a5_3 O_a3_3 O_a6_3 O_a7_3 O_a8_3 O_a9_3 ne_a1_a2 ne_a1_a5 ne_a1_a3 ne_a1_a6 ne_a1_a7 ne_a1_a8 ne_a1_a9 ne_a2_a5 (Ne.symm ne_a3_a5) ne_a5_a6 ne_a5_a7 ne_a5_a8 ne_a5_a9 g_a1 g_a5 hk0 hk1 hk2) e4 O_a1_3.1 pd_22 (hb hby d19_31) (by rw [hml]; rfl) (argsL := [(.ref a2), (.ref a5)]) (rest := []) rfl rfl rfl (W := 0) (Nat.le_of_eq rfl) (by decide)) (fun v5 T5 L5 X5 q5 => ?_)
  obtain ⟨rfl, M5, Kc5, Rk5_0, Rk5_1⟩ := q5
  have N5 := Fr.app N3 M5
  have O_a2_5 := R_ND_keep O_a2_3 Kc5 (own_nin (Ne.symm ne_a1_a2) (own_nin ne_a2_a5 List.not_mem_nil))
  have O_a3_5 := R_IN_keep O_a3_3 Kc5 (own_nin (Ne.symm ne_a1_a3) (own_nin ne_a3_a5 List.not_mem_nil))
  have O_a6_5 := R_IN_keep O_a6_3 Kc5 (own_nin (Ne.symm ne_a1_a6) (own_nin (Ne.symm ne_a5_a6) List.not_mem_nil))
  have O_a7_5 := R_IN_keep O_a7_3 Kc5 (own_nin (Ne.symm ne_a1_a7) (own_nin (Ne.symm ne_a5_a7) List.not_mem_nil))
  have O_a8_5 := R_ND_keep O_a8_3 Kc5 (own_nin (Ne.symm ne_a1_a8) (own_nin (Ne.symm ne_a5_a8) List.not_mem_nil))
  have O_a9_5 := R_IN_keep O_a9_3 Kc5 (own_nin (Ne.symm ne_a1_a9) (own_nin (Ne.symm ne_a5_a9) List.not_mem_nil))
  have K5 := Keep.trans K3 Kc5 (own_memc (Or.inl (List.mem_of_getElem? (i := 0) rfl)) (own_memc (Or.inl (List.mem_of_getElem? (i := 2) rfl)) own_memn))
  have Z5 : n0 ≤ T5.heap.size := Nat.le_trans Z3 Kc5.1
  refine g_aloadN X5 hx (hb hby d19_34) rfl rfl ?_
  refine g_aloadN X5 hx (hb hby d19_35) rfl rfl ?_
  refine g_putF X5 hx hZ hown (Wd97 hw) (rfl : T5.heap = T5.heap) Rk5_1.2.2.2.2.1 Rk5_1.1 (Or.inl (Wd98 hw)) (Wd70 hw) fd_2 rfl rfl (hb hby d19_36) (fun T6 h6 X6 e6 W6 => ?_)
  have N6 := Fr.snoc X6 N5 g_a5
  have O_a2_6 := R_ND_other W6 O_a2_5 ne_a2_a5
  have O_a3_6 := R_IN_other W6 O_a3_5 ne_a3_a5
  have O_a6_6 := R_IN_other W6 O_a6_5 (Ne.symm ne_a5_a6)
  have O_a7_6 := R_IN_other W6 O_a7_5 (Ne.symm ne_a5_a7)
  have O_a8_6 := R_ND_other W6 O_a8_5 (Ne.symm ne_a5_a8)
  have O_a9_6 := R_IN_other W6 O_a9_5 (Ne.symm ne_a5_a9)
  have O_a1_6 := R_MP_other W6 Rk5_0 ne_a1_a5
  have O_a5_6 := R_ND_set_right hw W6 Rk5_1
  have Z6 : n0 ≤ h6.size := Nat.le_trans Z5 (Nat.le_of_eq W6.size.symm)
  have K6 := Keep.wr K5 W6 (Or.inl (List.mem_of_getElem? (i := 2) rfl))
  refine g_aloadN X6 hx (hb hby d19_39) rfl rfl ?_
  refine g_aloadN X6 hx (hb hby d19_40) rfl rfl ?_
  refine g_putF X6 hx hZ hown (Wd111 hw) e6 O_a2_6.2.2.2.2.2.1 O_a2_6.1 (Or.inl (Wd84 hw)) (Wd70 hw) fd_2 rfl rfl (hb hby d19_41) (fun T7 h7 X7 e7 W7 => ?_)
  have N7 := Fr.snoc X7 N6 g_a2
  have O_a2_7 := R_ND_set_parent hw W7 O_a2_6
  have O_a3_7 := R_IN_other W7 O_a3_6 (Ne.symm ne_a2_a3)
  have O_a6_7 := R_IN_other W7 O_a6_6 (Ne.symm ne_a2_a6)
  have O_a7_7 := R_IN_other W7 O_a7_6 (Ne.symm ne_a2_a7)
  have O_a8_7 := R_ND_other W7 O_a8_6 (Ne.symm ne_a2_a8)
  have O_a9_7 := R_IN_other W7 O_a9_6 (Ne.symm ne_a2_a9)
  have O_a1_7 := R_MP_other W7 O_a1_6 ne_a1_a2
  have O_a5_7 := R_ND_other W7 O_a5_6 (Ne.symm ne_a2_a5)
  have Z7 : n0 ≤ h7.size := Nat.le_trans Z6 (Nat.le_of_eq W7.size.symm)
  have K7 := Keep.wr K6 W7 (Or.inl (List.mem_of_getElem? (i := 1) rfl))
  refine g_aloadN X7 hx (hb hby d19_44) rfl rfl ?_
  refine g_aloadN X7 hx (hb hby d19_45) rfl rfl ?_
  refine g_call (own_callS X7 hx hZ (y := Y30) hown (Wd126 hw) (Wd127 hw) (Wd2 hw) (Wd128 hw) (by decide) (rm_leftCount_74 l Z a0 hw a5 a6 a7 a8 a2 h7 n0 Z7 O_a5_7) e7 pd_23 (hb hby d19_46) (by rw [hml]; rfl) (argsL := [(.ref a5)]) (rest := [(.ref a2)]) rfl rfl rfl (W := 1) (Nat.le_of_eq rfl) (by decide)) (fun v8 T8 L8 X8 q8 => ?_)
  obtain ⟨rfl, M8, e8⟩ := q8
  have N8 := Fr.app N7 M8
  refine Go.mp (fun _ k => XS.ineg X8.here hx rfl (hb hby d19_49) rfl k) ?_
  show Go p e below (T8.setTop (mkF m 50 #[vr a1, vr a2, vr a5] [(.int (-(1 : Int32))), (.ref a2)])) _
  refine g_iconst X8 hx (1 : Int32) (hb hby d19_50) (by decide) ?_
  refine g_isub X8 hx (hb hby d19_51) ?_
  show Go p e below (T8.setTop (mkF m 52 #[vr a1, vr a2, vr a5] [(.int ((-(1 : Int32)) - (1 : Int32))), (.ref a2)])) _
  rw [show ((-(1 : Int32)) - (1 : Int32)) = (-2 : Int32) from by decide]
  refine g_call (own_callS X8 hx hZ (y := Y22) hown (Wd115 hw) (Wd116 hw) (Wd2 hw) (Wd117 hw) (by decide) (rm_addToLeftCount_75 l Z a0 hw a2 a3 a4 a5 h7 n0 Z7 O_a2_7 g_a2) e8 pd_17 (hb hby d19_52) (by rw [hml]; rfl) (argsL := [(.ref a2), (.int (-2))]) (rest := []) rfl rfl rfl (W := 0) (Nat.le_of_eq rfl) (by decide)) (fun v9 T9 L9 X9 q9 => ?_)
  obtain ⟨rfl, M9, Kc9, Rk9_0⟩ := q9
  have N9 := Fr.app N8 M9
  have O_a3_9 := R_IN_keep O_a3_7 Kc9 (own_nin (Ne.symm ne_a2_a3) List.not_mem_nil)
  have O_a6_9 := R_IN_keep O_a6_7 Kc9 (own_nin (Ne.symm ne_a2_a6) List.not_mem_nil)
  have O_a7_9 := R_IN_keep O_a7_7 Kc9 (own_nin (Ne.symm ne_a2_a7) List.not_mem_nil)
  have O_a8_9 := R_ND_keep O_a8_7 Kc9 (own_nin (Ne.symm ne_a2_a8) List.not_mem_nil)
  have O_a9_9 := R_IN_keep O_a9_7 Kc9 (own_nin (Ne.symm ne_a2_a9) List.not_mem_nil)
  have O_a1_9 := R_MP_keep O_a1_7 Kc9 (own_nin ne_a1_a2 List.not_mem_nil)
  have O_a5_9 := R_ND_keep O_a5_7 Kc9 (own_nin (Ne.symm ne_a2_a5) List.not_mem_nil)
  have K9 := Keep.trans K7 Kc9 (own_memc (Or.inl (List.mem_of_getElem? (i := 1) rfl)) own_memn)
  have Z9 : n0 ≤ T9.heap.size := Nat.le_trans Z7 Kc9.1
  refine g_aloadN X9 hx (hb hby d19_55) rfl rfl ?_
  refine g_aloadN X9 hx (hb hby d19_56) rfl rfl ?_
  refine g_call (own_callV X9 hx hZ (y := Y31) hown (Wd129 hw) (Wd130 hw) (Wd132 hw) (Wd131 hw) (Wd133 hw) (Wd2 hw) (by decide) (rm_refresh_76 l Z a0 hw a1 a2 T9.heap n0 Z9 ) (rfl : T9.heap = T9.heap) O_a1_9.1 pd_18 (hb hby d19_57) (by rw [hml]; rfl) (argsL := [(.ref a2)]) (rest := []) rfl rfl rfl (W := 0) (Nat.le_of_eq rfl) (by decide)) (fun v10 T10 L10 X10 q10 => ?_)
  obtain ⟨rfl, M10, e10⟩ := q10
  have N10 := Fr.app N9 M10
  refine g_aloadN X10 hx (hb hby d19_60) rfl rfl ?_
  refine g_aloadN X10 hx (hb hby d19_61) rfl rfl ?_
  refine g_call (own_callV X10 hx hZ (y := Y31) hown (Wd129 hw) (Wd130 hw) (Wd132 hw) (Wd131 hw) (Wd133 hw) (Wd2 hw) (by decide) (rm_refresh_76 l Z a0 hw a1 a5 T9.heap n0 Z9 ) e10 O_a1_9.1 pd_18 (hb hby d19_62) (by rw [hml]; rfl) (argsL := [(.ref a5)]) (rest := []) rfl rfl rfl (W := 0) (Nat.le_of_eq rfl) (by decide)) (fun v11 T11 L11 X11 q11 => ?_)
  obtain ⟨rfl, M11, e11⟩ := q11
  have N11 := Fr.app N10 M11
  exact own_retV X11 hx hret hlk (hb hby d19_65) (by decide) (by decide) (by rw [e11]; exact ⟨rfl, N11, K9, O_a1_9, Rk9_0, O_a5_9⟩)
theorem d16_78 : decode prog_7_method_90_code 78 = .ok (.aload_n 0, 1) := by decide +kernel
theorem d16_79 : decode prog_7_method_90_code 79 = .ok (.aload_n 3, 1) := by decide +kernel
theorem d16_80 : decode prog_7_method_90_code 80 = .ok (.invokevirtual 304, 3) := by decide +kernel
theorem d16_83 : decode prog_7_method_90_code 83 = .ok (.aload_n 3, 1) := by decide +kernel
theorem d16_84 : decode prog_7_method_90_code 84 = .ok (.astore_n 2, 1) := by decide +kernel
theorem d16_85 : decode prog_7_method_90_code 85 = .ok (.aload_n 2, 1) := by decide +kernel
theorem d16_86 : decode prog_7_method_90_code 86 = .ok (.getfield 282, 3) := by decide +kernel
theorem d16_89 : decode prog_7_method_90_code 89 = .ok (.astore_n 3, 1) := by decide +kernel
theorem rm_balanceAfterInsert_90 (l : Launch) (Z : State) (a0 : Array Value) (hw : HW a0 Z) (a1 : Addr) (a2 : Addr) (a3 : Addr) (i1 : Int32) (a4 : Addr) (a5 : Addr) (a6 : Addr) (a7 : Addr) (a8 : Addr) (i2 : Int32) (i3 : Int32) (a9 : Addr) (a10 : Addr) (i4 : Int32) (i5 : Int32) (h0 : Heap) (n0 : Nat) (Z0 : n0 ≤ h0.size) (O_a1 : R_MP Z h0 a1 .null (.ref a3) (.int 3) (.int i1)) (O_a2 : R_ND Z h0 a2 (.ref a4) (.ref a5) .null .null (.ref a6) (.int (-2147483648))) (O_a3 : R_ND Z h0 a3 (.ref a7) (.ref a8) (.ref a6) .null .null (.int 2)) (O_a4 : R_IN Z h0 a4 (.int i2)) (O_a5 : R_IN Z h0 a5 (.int i3)) (O_a6 : R_ND Z h0 a6 (.ref a9) (.ref a10) .null (.ref a2) (.ref a3) (.int (-2147483648))) (O_a7 : R_IN Z h0 a7 (.int i4)) (O_a9 : R_IN Z h0 a9 (.int i5)) (ne_a1_a2 : a1 ≠ a2) (ne_a1_a3 : a1 ≠ a3) (ne_a1_a4 : a1 ≠ a4) (ne_a1_a5 : a1 ≠ a5) (ne_a1_a6 : a1 ≠ a6) (ne_a1_a7 : a1 ≠ a7) (ne_a1_a9 : a1 ≠ a9) (ne_a2_a3 : a2 ≠ a3) (ne_a2_a4 : a2 ≠ a4) (ne_a2_a5 : a2 ≠ a5) (ne_a2_a6 : a2 ≠ a6) (ne_a2_a7 : a2 ≠ a7) (ne_a2_a9 : a2 ≠ a9) (ne_a3_a4 : a3 ≠ a4) (ne_a3_a5 : a3 ≠ a5) (ne_a3_a6 : a3 ≠ a6) (ne_a3_a7 : a3 ≠ a7) (ne_a3_a9 : a3 ≠ a9) (ne_a4_a6 : a4 ≠ a6) (ne_a5_a6 : a5 ≠ a6) (ne_a6_a7 : a6 ≠ a7) (ne_a6_a9 : a6 ≠ a9) (g_a1 : n0 ≤ a1) (g_a2 : n0 ≤ a2) (g_a3 : n0 ≤ a3) (g_a6 : n0 ≤ a6) (hk0 : i2 < i4) (hk1 : ¬ (i2 < i5)) (hk2 : ¬ (i2 = i5)) :
    Ctr l Y25 prog_7_method_90_code 6 none [] ({ frames := 2, cells := 0, slots := 0, locals := 29 } : Room) Z #[(.ref a1), (.ref a2)] h0 (fun v h L => v = none ∧ Fr n0 L ∧ Keep h0 h [a1, a2, a3, a6] ∧ R_MP Z h a1 .null (.ref a2) (.int 3) (.int i1) ∧ R_ND Z h a2 (.ref a4) (.ref a5) (.ref a6) (.ref a3) .null (.int 1) ∧ R_ND Z h a3 (.ref a7) (.ref a8) .null .null (.ref a2) (.int (-2147483648)) ∧ R_ND Z h a6 (.ref a9) (.ref a10) .null .null (.ref a2) (.int (-2147483648))) := by
  refine own_enter pn_2 (fun p e s m below meth c s₁ hx hby hml hown hnm hret hlk hZ X0 e0 => ?_)
  have N0 := Fr.nil n0
  have K0 := Keep.refl h0 [a1, a2, a3, a6]
  rw [ef_16_RR m _ _]
  show Go p e below (s₁.setTop (mkF m 0 #[vr a1, vr a2, vu, vu, vu, vu] [])) _
  refine g_aloadN X0 hx (hb hby d16_0) rfl rfl ?_
  refine g_astoreN X0 hx #[vr a1, vr a2, vr a2, vu, vu, vu] (hb hby d16_1) rfl rfl ?_
  refine g_aloadN X0 hx (hb hby d16_2) rfl rfl ?_
  refine g_getF X0 hx hZ hown (Wd111 hw) e0 O_a2.2.2.2.2.2.1 (hb hby d16_3) (fun T1 X1 e1 => ?_)
  refine g_call (own_callS X1 hx hZ (y := Y24) hown (Wd112 hw) (Wd113 hw) (Wd2 hw) (Wd114 hw) (by decide) (rm_isRed_91 l Z a0 hw a6 a9 a10 a2 a3 h0 n0 Z0 O_a6) e1 pd_19 (hb hby d16_6) (by rw [hml]; rfl) (argsL := [(.ref a6)]) (rest := []) rfl rfl rfl (W := 0) (Nat.le_of_eq rfl) (by decide)) (fun v2 T2 L2 X2 q2 => ?_)
  obtain ⟨rfl, M2, e2⟩ := q2
  have N2 := Fr.app N0 M2
  refine g_ifNo X2 hx (hb hby d16_9) ((if0 _ _).trans (feq ((by decide) : ¬ ((1 : Int32) = (0 : Int32)))).1) ?_
  refine g_aloadN X2 hx (hb hby d16_12) rfl rfl ?_
  refine g_getF X2 hx hZ hown (Wd111 hw) e2 O_a2.2.2.2.2.2.1 (hb hby d16_13) (fun T3 X3 e3 => ?_)
  refine g_astoreN X3 hx #[vr a1, vr a2, vr a2, vr a6, vu, vu] (hb hby d16_16) rfl rfl ?_
  refine g_aloadN X3 hx (hb hby d16_17) rfl rfl ?_
  refine g_getF X3 hx hZ hown (Wd111 hw) e3 O_a6.2.2.2.2.2.1 (hb hby d16_18) (fun T4 X4 e4 => ?_)
  refine g_astore X4 hx #[vr a1, vr a2, vr a2, vr a6, vr a3, vu] (hb hby d16_21) rfl rfl ?_
  refine g_aloadN X4 hx (hb hby d16_23) rfl rfl ?_
  refine g_aload X4 hx (hb hby d16_24) rfl rfl ?_
  refine g_getF X4 hx hZ hown (Wd95 hw) e4 O_a3.2.2.2.1 (hb hby d16_26) (fun T5 X5 e5 => ?_)
  have c29_0 : a6 = a6 := rfl
  refine g_acmp X5 hx 32 true rfl rfl (hb hby d16_29) (decide_eq_true (congrArg Value.ref c29_0)) (by decide) (by decide) ?_
  refine g_aload X5 hx (hb hby d16_32) rfl rfl ?_
  refine g_getF X5 hx hZ hown (Wd97 hw) e5 O_a3.2.2.2.2.1 (hb hby d16_34) (fun T6 X6 e6 => ?_)
  refine g_astore X6 hx #[vr a1, vr a2, vr a2, vr a6, vr a3, vn] (hb hby d16_37) rfl rfl ?_
  refine g_aload X6 hx (hb hby d16_39) rfl rfl ?_
  refine g_call (own_callS X6 hx hZ (y := Y24) hown (Wd112 hw) (Wd113 hw) (Wd2 hw) (Wd114 hw) (by decide) (rm_isRed_69 l Z a0 hw  h0 n0 Z0 ) e6 pd_19 (hb hby d16_41) (by rw [hml]; rfl) (argsL := [.null]) (rest := []) rfl rfl rfl (W := 0) (Nat.le_of_eq rfl) (by decide)) (fun v7 T7 L7 X7 q7 => ?_)
  obtain ⟨rfl, M7, e7⟩ := q7
  have N7 := Fr.app N2 M7
  refine g_ifYes X7 hx 70 (hb hby d16_44) ((if0 _ _).trans (teq ((by decide) : (0 : Int32) = (0 : Int32))).1) (by decide) (by decide) ?_
  refine g_aloadN X7 hx (hb hby d16_70) rfl rfl ?_
  refine g_aloadN X7 hx (hb hby d16_71) rfl rfl ?_
  refine g_getF X7 hx hZ hown (Wd97 hw) e7 O_a6.2.2.2.2.1 (hb hby d16_72) (fun T8 X8 e8 => ?_)
  have c75_0 : a2 = a2 := rfl
  refine g_acmp X8 hx 78 true rfl rfl (hb hby d16_75) (decide_eq_true (congrArg Value.ref c75_0)) (by decide) (by decide) ?_
  refine g_aloadN X8 hx (hb hby d16_78) rfl rfl ?_
  refine g_aloadN X8 hx (hb hby d16_79) rfl rfl ?_
  refine g_call (own_callP X8 hx hZ (y := Y34) hown (Wd135 hw) (Wd136 hw) (Wd137 hw) (Wd1 hw) (Wd138 hw) (Wd2 hw) (by decide) (rm_rotateLeft_92 l Z a0 hw a1 a6 a3 i1 a9 a10 a2 a7 a8 i5 a4 a5 i4 i2 i3 h0 n0 Z0 O_a1 O_a6 O_a3 O_a9 O_a2 O_a7 O_a4 O_a5 ne_a1_a6 ne_a1_a3 ne_a1_a2 (Ne.symm ne_a3_a6) ne_a6_a9 (Ne.symm ne_a2_a6) ne_a6_a7 (Ne.symm ne_a4_a6) (Ne.symm ne_a5_a6) ne_a3_a9 (Ne.symm ne_a2_a3) ne_a3_a7 ne_a3_a4 ne_a3_a5 (Ne.symm ne_a2_a9) ne_a2_a7 ne_a2_a4 ne_a2_a5 g_a6 g_a3 g_a2 hk0 hk1 hk2) e8 O_a1.1 pd_18 (hb hby d16_80) (by rw [hml]; rfl) (argsL := [(.ref a6)]) (rest := []) rfl rfl rfl (W := 0) (Nat.le_of_eq rfl) (by decide)) (fun v9 T9 L9 X9 q9 => ?_)
  obtain ⟨rfl, M9, Kc9, Rk9_0, Rk9_1, Rk9_2⟩ := q9
  have N9 := Fr.app N7 M9
  have O_a1_9 := R_MP_keep O_a1 Kc9 (own_nin ne_a1_a6 (own_nin ne_a1_a3 (own_nin ne_a1_a2 List.not_mem_nil)))
  have O_a4_9 := R_IN_keep O_a4 Kc9 (own_nin ne_a4_a6 (own_nin (Ne.symm ne_a3_a4) (own_nin (Ne.symm ne_a2_a4) List.not_mem_nil)))
  have O_a5_9 := R_IN_keep O_a5 Kc9 (own_nin ne_a5_a6 (own_nin (Ne.symm ne_a3_a5) (own_nin (Ne.symm ne_a2_a5) List.not_mem_nil)))
  have O_a7_9 := R_IN_keep O_a7 Kc9 (own_nin (Ne.symm ne_a6_a7) (own_nin (Ne.symm ne_a3_a7) (own_nin (Ne.symm ne_a2_a7) List.not_mem_nil)))
  have O_a9_9 := R_IN_keep O_a9 Kc9 (own_nin (Ne.symm ne_a6_a9) (own_nin (Ne.symm ne_a3_a9) (own_nin (Ne.symm ne_a2_a9) List.not_mem_nil)))
  have K9 := Keep.trans K0 Kc9 (own_memc (Or.inl (List.mem_of_getElem? (i := 3) rfl)) (own_memc (Or.inl (List.mem_of_getElem? (i := 2) rfl)) (own_memc (Or.inl (List.mem_of_getElem? (i := 1) rfl)) own_memn)))
  have Z9 : n0 ≤ T9.heap.size := Nat.le_trans Z0 Kc9.1
  refine g_aloadN X9 hx (hb hby d16_83) rfl rfl ?_
  refine g_astoreN X9 hx #[vr a1, vr a2, vr a6, vr a6, vr a3, vn] (hb hby d16_84) rfl rfl ?_
  refine g_aloadN X9 hx (hb hby d16_85) rfl rfl ?_
  refine g_getF X9 hx hZ hown (Wd111 hw) (rfl : T9.heap = T9.heap) Rk9_0.2.2.2.2.2.1 (hb hby d16_86) (fun T10 X10 e10 => ?_)
  refine g_astoreN X10 hx #[vr a1, vr a2, vr a6, vr a2, vr a3, vn] (hb hby d16_89) rfl rfl ?_
  refine g_aloadN X10 hx (hb hby d16_90) rfl rfl ?_
  refine g_iconst X10 hx (0 : Int32) (hb hby d16_91) (by decide) ?_
  refine g_call (own_callS X10 hx hZ (y := Y17) hown (Wd85 hw) (Wd86 hw) (Wd2 hw) (Wd87 hw) (by decide) (rm_setRed_70 l Z a0 hw a2 a4 a5 a6 a3 T9.heap n0 Z9 Rk9_2 g_a2) e10 pd_14 (hb hby d16_92) (by rw [hml]; rfl) (argsL := [(.ref a2), (.int 0)]) (rest := []) rfl rfl rfl (W := 0) (Nat.le_of_eq rfl) (by decide)) (fun v11 T11 L11 X11 q11 => ?_)
  obtain ⟨rfl, M11, Kc11, Rk11_0⟩ := q11
  have N11 := Fr.app N9 M11
  have O_a1_11 := R_MP_keep O_a1_9 Kc11 (own_nin ne_a1_a2 List.not_mem_nil)
  have O_a4_11 := R_IN_keep O_a4_9 Kc11 (own_nin (Ne.symm ne_a2_a4) List.not_mem_nil)
  have O_a5_11 := R_IN_keep O_a5_9 Kc11 (own_nin (Ne.symm ne_a2_a5) List.not_mem_nil)
  have O_a7_11 := R_IN_keep O_a7_9 Kc11 (own_nin (Ne.symm ne_a2_a7) List.not_mem_nil)
  have O_a9_11 := R_IN_keep O_a9_9 Kc11 (own_nin (Ne.symm ne_a2_a9) List.not_mem_nil)
  have O_a6_11 := R_ND_keep Rk9_0 Kc11 (own_nin (Ne.symm ne_a2_a6) List.not_mem_nil)
  have O_a3_11 := R_ND_keep Rk9_1 Kc11 (own_nin (Ne.symm ne_a2_a3) List.not_mem_nil)
  have K11 := Keep.trans K9 Kc11 (own_memc (Or.inl (List.mem_of_getElem? (i := 1) rfl)) own_memn)
  have Z11 : n0 ≤ T11.heap.size := Nat.le_trans Z9 Kc11.1
  refine g_aload X11 hx (hb hby d16_95) rfl rfl ?_
  refine g_iconst X11 hx (1 : Int32) (hb hby d16_97) (by decide) ?_
  refine g_call (own_callS X11 hx hZ (y := Y17) hown (Wd85 hw) (Wd86 hw) (Wd2 hw) (Wd87 hw) (by decide) (rm_setRed_71 l Z a0 hw a3 a7 a8 a2 T11.heap n0 Z11 O_a3_11 g_a3) (rfl : T11.heap = T11.heap) pd_14 (hb hby d16_98) (by rw [hml]; rfl) (argsL := [(.ref a3), (.int 1)]) (rest := []) rfl rfl rfl (W := 0) (Nat.le_of_eq rfl) (by decide)) (fun v12 T12 L12 X12 q12 => ?_)
  obtain ⟨rfl, M12, Kc12, Rk12_0⟩ := q12
  have N12 := Fr.app N11 M12
  have O_a1_12 := R_MP_keep O_a1_11 Kc12 (own_nin ne_a1_a3 List.not_mem_nil)
  have O_a4_12 := R_IN_keep O_a4_11 Kc12 (own_nin (Ne.symm ne_a3_a4) List.not_mem_nil)
  have O_a5_12 := R_IN_keep O_a5_11 Kc12 (own_nin (Ne.symm ne_a3_a5) List.not_mem_nil)
  have O_a7_12 := R_IN_keep O_a7_11 Kc12 (own_nin (Ne.symm ne_a3_a7) List.not_mem_nil)
  have O_a9_12 := R_IN_keep O_a9_11 Kc12 (own_nin (Ne.symm ne_a3_a9) List.not_mem_nil)
  have O_a6_12 := R_ND_keep O_a6_11 Kc12 (own_nin (Ne.symm ne_a3_a6) List.not_mem_nil)
  have O_a2_12 := R_ND_keep Rk11_0 Kc12 (own_nin ne_a2_a3 List.not_mem_nil)
  have K12 := Keep.trans K11 Kc12 (own_memc (Or.inl (List.mem_of_getElem? (i := 2) rfl)) own_memn)
  have Z12 : n0 ≤ T12.heap.size := Nat.le_trans Z11 Kc12.1
  refine g_aloadN X12 hx (hb hby d16_101) rfl rfl ?_
  refine g_aload X12 hx (hb hby d16_102) rfl rfl ?_
  refine g_call (own_callP X12 hx hZ (y := Y32) hown (Wd118 hw) (Wd119 hw) (Wd120 hw) (Wd1 hw) (Wd121 hw) (Wd2 hw) (by decide) (rm_rotateRight_96 l Z a0 hw a1 a3 i1 a7 a8 a2 i4 a4 a5 a6 i2 i3 a9 a10 i5 T12.heap n0 Z12 O_a1_12 Rk12_0 O_a7_12 O_a2_12 O_a4_12 O_a5_12 O_a6_12 O_a9_12 ne_a1_a3 ne_a1_a7 ne_a1_a2 ne_a1_a4 ne_a1_a5 ne_a1_a6 ne_a1_a9 ne_a3_a7 (Ne.symm ne_a2_a3) ne_a3_a4 ne_a3_a5 ne_a3_a6 ne_a3_a9 (Ne.symm ne_a2_a7) ne_a2_a4 ne_a2_a5 ne_a2_a6 ne_a2_a9 g_a1 g_a3 g_a2 hk0 hk1 hk2) (rfl : T12.heap = T12.heap) O_a1_12.1 pd_18 (hb hby d16_104) (by rw [hml]; rfl) (argsL := [(.ref a3)]) (rest := []) rfl rfl rfl (W := 0) (Nat.le_of_eq rfl) (by decide)) (fun v13 T13 L13 X13 q13 => ?_)
  obtain ⟨rfl, M13, Kc13, Rk13_0, Rk13_1, Rk13_2⟩ := q13
  have N13 := Fr.app N12 M13
  have O_a4_13 := R_IN_keep O_a4_12 Kc13 (own_nin (Ne.symm ne_a1_a4) (own_nin (Ne.symm ne_a3_a4) (own_nin (Ne.symm ne_a2_a4) List.not_mem_nil)))
  have O_a5_13 := R_IN_keep O_a5_12 Kc13 (own_nin (Ne.symm ne_a1_a5) (own_nin (Ne.symm ne_a3_a5) (own_nin (Ne.symm ne_a2_a5) List.not_mem_nil)))
  have O_a7_13 := R_IN_keep O_a7_12 Kc13 (own_nin (Ne.symm ne_a1_a7) (own_nin (Ne.symm ne_a3_a7) (own_nin (Ne.symm ne_a2_a7) List.not_mem_nil)))
  have O_a9_13 := R_IN_keep O_a9_12 Kc13 (own_nin (Ne.symm ne_a1_a9) (own_nin (Ne.symm ne_a3_a9) (own_nin (Ne.symm ne_a2_a9) List.not_mem_nil)))
  have O_a6_13 := R_ND_keep O_a6_12 Kc13 (own_nin (Ne.symm ne_a1_a6) (own_nin (Ne.symm ne_a3_a6) (own_nin (Ne.symm ne_a2_a6) List.not_mem_nil)))
  have K13 := Keep.trans K12 Kc13 (own_memc (Or.inl (List.mem_of_getElem? (i := 0) rfl)) (own_memc (Or.inl (List.mem_of_getElem? (i := 2) rfl)) (own_memc (Or.inl (List.mem_of_getElem? (i := 1) rfl)) own_memn)))
  have Z13 : n0 ≤ T13.heap.size := Nat.le_trans Z12 Kc13.1
  refine g_goto X13 hx 185 (hb hby d16_107) (by decide) (by decide) ?_
  refine g_goto X13 hx 2 (hb hby d16_185) (by decide) (by decide) ?_
  refine g_aloadN X13 hx (hb hby d16_2) rfl rfl ?_
  refine g_getF X13 hx hZ hown (Wd111 hw) (rfl : T13.heap = T13.heap) O_a6_13.2.2.2.2.2.1 (hb hby d16_3) (fun T14 X14 e14 => ?_)
  refine g_call (own_callS X14 hx hZ (y := Y24) hown (Wd112 hw) (Wd113 hw) (Wd2 hw) (Wd114 hw) (by decide) (rm_isRed_77 l Z a0 hw a2 a4 a5 a6 a3 T13.heap n0 Z13 Rk13_2) e14 pd_19 (hb hby d16_6) (by rw [hml]; rfl) (argsL := [(.ref a2)]) (rest := []) rfl rfl rfl (W := 0) (Nat.le_of_eq rfl) (by decide)) (fun v15 T15 L15 X15 q15 => ?_)
  obtain ⟨rfl, M15, e15⟩ := q15
  have N15 := Fr.app N13 M15
  refine g_ifYes X15 hx 188 (hb hby d16_9) ((if0 _ _).trans (teq ((by decide) : (0 : Int32) = (0 : Int32))).1) (by decide) (by decide) ?_
  refine g_aloadN X15 hx (hb hby d16_188) rfl rfl ?_
  refine g_getF X15 hx hZ hown (Wd35 hw) e15 Rk13_0.2.2.1 (hb hby d16_189) (fun T16 X16 e16 => ?_)
  refine g_iconst X16 hx (0 : Int32) (hb hby d16_192) (by decide) ?_
  refine g_call (own_callS X16 hx hZ (y := Y17) hown (Wd85 hw) (Wd86 hw) (Wd2 hw) (Wd87 hw) (by decide) (rm_setRed_78 l Z a0 hw a2 a4 a5 a6 a3 T13.heap n0 Z13 Rk13_2 g_a2) e16 pd_14 (hb hby d16_193) (by rw [hml]; rfl) (argsL := [(.ref a2), (.int 0)]) (rest := []) rfl rfl rfl (W := 0) (Nat.le_of_eq rfl) (by decide)) (fun v17 T17 L17 X17 q17 => ?_)
  obtain ⟨rfl, M17, Kc17, Rk17_0⟩ := q17
  have N17 := Fr.app N15 M17
  have O_a4_17 := R_IN_keep O_a4_13 Kc17 (own_nin (Ne.symm ne_a2_a4) List.not_mem_nil)
  have O_a5_17 := R_IN_keep O_a5_13 Kc17 (own_nin (Ne.symm ne_a2_a5) List.not_mem_nil)
  have O_a7_17 := R_IN_keep O_a7_13 Kc17 (own_nin (Ne.symm ne_a2_a7) List.not_mem_nil)
  have O_a9_17 := R_IN_keep O_a9_13 Kc17 (own_nin (Ne.symm ne_a2_a9) List.not_mem_nil)
  have O_a6_17 := R_ND_keep O_a6_13 Kc17 (own_nin (Ne.symm ne_a2_a6) List.not_mem_nil)
  have O_a1_17 := R_MP_keep Rk13_0 Kc17 (own_nin ne_a1_a2 List.not_mem_nil)
  have O_a3_17 := R_ND_keep Rk13_1 Kc17 (own_nin (Ne.symm ne_a2_a3) List.not_mem_nil)
  have K17 := Keep.trans K13 Kc17 (own_memc (Or.inl (List.mem_of_getElem? (i := 1) rfl)) own_memn)
  have Z17 : n0 ≤ T17.heap.size := Nat.le_trans Z13 Kc17.1
  exact own_retV X17 hx hret hlk (hb hby d16_196) (by decide) (by decide) (by rw [(rfl : T17.heap = T17.heap)]; exact ⟨rfl, N17, K17, O_a1_17, Rk17_0, O_a3_17, O_a6_17⟩)
theorem rm_addIfAbsent_88 (l : Launch) (Z : State) (a0 : Array Value) (hw : HW a0 Z) (a1 : Addr) (a2 : Addr) (a3 : Addr) (a4 : Addr) (i1 : Int32) (i2 : Int32) (i3 : Int32) (a5 : Addr) (a6 : Addr) (a7 : Addr) (i4 : Int32) (a8 : Addr) (a9 : Addr) (i5 : Int32) (h0 : Heap) (n0 : Nat) (Z0 : n0 ≤ h0.size) (O_a1 : R_MP Z h0 a1 .null (.ref a4) (.int 2) (.int i1)) (O_a2 : R_IN Z h0 a2 (.int i2)) (O_a3 : R_IN Z h0 a3 (.int i3)) (O_a4 : R_ND Z h0 a4 (.ref a5) (.ref a6) (.ref a7) .null .null (.int 1)) (O_a5 : R_IN Z h0 a5 (.int i4)) (O_a7 : R_ND Z h0 a7 (.ref a8) (.ref a9) .null .null (.ref a4) (.int (-2147483648))) (O_a8 : R_IN Z h0 a8 (.int i5)) (ne_a1_a2 : a1 ≠ a2) (ne_a1_a3 : a1 ≠ a3) (ne_a1_a4 : a1 ≠ a4) (ne_a1_a5 : a1 ≠ a5) (ne_a1_a7 : a1 ≠ a7) (ne_a1_a8 : a1 ≠ a8) (ne_a2_a4 : a2 ≠ a4) (ne_a2_a7 : a2 ≠ a7) (ne_a3_a4 : a3 ≠ a4) (ne_a3_a7 : a3 ≠ a7) (ne_a4_a5 : a4 ≠ a5) (ne_a4_a7 : a4 ≠ a7) (ne_a4_a8 : a4 ≠ a8) (ne_a5_a7 : a5 ≠ a7) (ne_a7_a8 : a7 ≠ a8) (g_a1 : n0 ≤ a1) (g_a4 : n0 ≤ a4) (g_a7 : n0 ≤ a7) (hk0 : i2 < i4) (hk1 : ¬ (i2 < i5)) (hk2 : ¬ (i2 = i5)) :
    CtrH l Y18 prog_7_method_65_code 15 (some (FieldType.object "com/example/rosewood/rosewood/RosewoodMap$Node")) [(71, 122, 210, 0), (137, 195, 210, 0), (210, 212, 210, 0)] ({ frames := 4, cells := 1, slots := 6, locals := 53 } : Room) Z #[(.ref a1), (.ref a2), (.ref a3)] h0 (fun v h L => ∃ f1, v = some .null ∧ Fr n0 L ∧ Keep h0 h [a1, a4, a7] ∧ h0.size ≤ f1 ∧ R_MP Z h a1 .null (.ref f1) (.int 3) (.int (i1 + (1 : Int32))) ∧ R_ND Z h a4 (.ref a5) (.ref a6) .null .null (.ref f1) (.int (-2147483648)) ∧ R_ND Z h a7 (.ref a8) (.ref a9) .null .null (.ref f1) (.int (-2147483648)) ∧ R_ND Z h f1 (.ref a2) (.ref a3) (.ref a7) (.ref a4) .null (.int 1)) := by
  refine own_enterH pn_2 (fun p e s m below meth c s₁ hx hby hml hown hnm hret hlk hZ X0 e0 => ?_)
  have N0 := Fr.nil n0
  have K0 := Keep.refl h0 [a1, a4, a7]
  rw [ef_38_RRR m _ _ _]
  show Go p e below (s₁.setTop (mkF m 0 #[vr a1, vr a2, vr a3, vu, vu, vu, vu, vu, vu, vu, vu, vu, vu, vu, vu] [])) _
  refine g_aloadN X0 hx (hb hby d38_0) rfl rfl ?_
  refine g_getF X0 hx hZ hown (Wd35 hw) e0 O_a1.2.2.1 (hb hby d38_1) (fun T1 X1 e1 => ?_)
  refine g_nonnullYes X1 hx 50 (hb hby d38_4) (by decide) (by decide) ?_
  refine g_null X1 hx (hb hby d38_50) ?_
  refine g_astoreN X1 hx #[vr a1, vr a2, vr a3, vn, vu, vu, vu, vu, vu, vu, vu, vu, vu, vu, vu] (hb hby d38_51) rfl rfl ?_
  refine g_iconst X1 hx (0 : Int32) (hb hby d38_52) (by decide) ?_
  refine g_istore X1 hx #[vr a1, vr a2, vr a3, vn, vi 0, vu, vu, vu, vu, vu, vu, vu, vu, vu, vu] (hb hby d38_53) rfl ?_
  refine g_aloadN X1 hx (hb hby d38_55) rfl rfl ?_
  refine g_getF X1 hx hZ hown (Wd35 hw) e1 O_a1.2.2.1 (hb hby d38_56) (fun T2 X2 e2 => ?_)
  refine g_astore X2 hx #[vr a1, vr a2, vr a3, vn, vi 0, vr a4, vu, vu, vu, vu, vu, vu, vu, vu, vu] (hb hby d38_59) rfl rfl ?_
  refine g_aload X2 hx (hb hby d38_61) rfl rfl ?_
  refine g_getF X2 hx hZ hown (Wd94 hw) e2 O_a4.2.1 (hb hby d38_63) (fun T3 X3 e3 => ?_)
  refine g_astore X3 hx #[vr a1, vr a2, vr a3, vn, vi 0, vr a4, vr a5, vu, vu, vu, vu, vu, vu, vu, vu] (hb hby d38_66) rfl rfl ?_
  refine g_null X3 hx (hb hby d38_68) ?_
  refine g_astore X3 hx #[vr a1, vr a2, vr a3, vn, vi 0, vr a4, vr a5, vn, vu, vu, vu, vu, vu, vu, vu] (hb hby d38_69) rfl rfl ?_
  refine g_aload X3 hx (hb hby d38_71) rfl rfl ?_
  refine g_nullNo X3 hx (hb hby d38_73) ?_
  refine g_aload X3 hx (hb hby d38_76) rfl rfl ?_
  refine g_getF X3 hx hZ hown (Wd95 hw) e3 O_a4.2.2.2.1 (hb hby d38_78) (fun T4 X4 e4 => ?_)
  refine g_astore X4 hx #[vr a1, vr a2, vr a3, vn, vi 0, vr a4, vr a5, vn, vr a7, vu, vu, vu, vu, vu, vu] (hb hby d38_81) rfl rfl ?_
  refine g_aload X4 hx (hb hby d38_83) rfl rfl ?_
  refine g_getF X4 hx hZ hown (Wd97 hw) e4 O_a4.2.2.2.2.1 (hb hby d38_85) (fun T5 X5 e5 => ?_)
  refine g_astore X5 hx #[vr a1, vr a2, vr a3, vn, vi 0, vr a4, vr a5, vn, vr a7, vn, vu, vu, vu, vu, vu] (hb hby d38_88) rfl rfl ?_
  refine g_aload X5 hx (hb hby d38_90) rfl rfl ?_
  refine g_call (own_callS X5 hx hZ (y := Y7) hown (Wd99 hw) (Wd100 hw) (Wd2 hw) (Wd101 hw) (by decide) (rm_keyOf_63 l Z a0 hw a7 a8 a9 a4 h0 n0 Z0 O_a7) e5 pd_6 (hb hby d38_92) (by rw [hml]; rfl) (argsL := [(.ref a7)]) (rest := []) rfl rfl rfl (W := 0) (Nat.le_of_eq rfl) (by decide)) (fun v6 T6 L6 X6 q6 => ?_)
  obtain ⟨rfl, M6, e6⟩ := q6
  have N6 := Fr.app N0 M6
  refine g_astore X6 hx #[vr a1, vr a2, vr a3, vn, vi 0, vr a4, vr a5, vn, vr a7, vn, vr a8, vu, vu, vu, vu] (hb hby d38_95) rfl rfl ?_
  refine g_aload X6 hx (hb hby d38_97) rfl rfl ?_
  refine g_call (own_callS X6 hx hZ (y := Y7) hown (Wd99 hw) (Wd100 hw) (Wd2 hw) (Wd101 hw) (by decide) (rm_keyOf_9 l Z a0 hw  h0 n0 Z0 ) e6 pd_6 (hb hby d38_99) (by rw [hml]; rfl) (argsL := [.null]) (rest := []) rfl rfl rfl (W := 0) (Nat.le_of_eq rfl) (by decide)) (fun v7 T7 L7 X7 q7 => ?_)
  obtain ⟨rfl, M7, e7⟩ := q7
  have N7 := Fr.app N6 M7
  refine g_astore X7 hx #[vr a1, vr a2, vr a3, vn, vi 0, vr a4, vr a5, vn, vr a7, vn, vr a8, vn, vu, vu, vu] (hb hby d38_102) rfl rfl ?_
  refine g_aloadN X7 hx (hb hby d38_104) rfl rfl ?_
  refine g_aloadN X7 hx (hb hby d38_105) rfl rfl ?_
  refine g_aload X7 hx (hb hby d38_106) rfl rfl ?_
  refine g_call (own_callV X7 hx hZ (y := Y13) hown (Wd37 hw) (Wd38 hw) (Wd40 hw) (Wd39 hw) (Wd41 hw) (Wd2 hw) (by decide) (rm_compare_64 l Z a0 hw a1 a2 a5 a4 i1 i2 i4 h0 n0 Z0 O_a1 O_a2 O_a5 hk0) e7 O_a1.1 pd_11 (hb hby d38_108) (by rw [hml]; rfl) (argsL := [(.ref a2), (.ref a5)]) (rest := []) rfl rfl rfl (W := 0) (Nat.le_of_eq rfl) (by decide)) (fun v8 T8 L8 X8 q8 => ?_)
  obtain ⟨rfl, M8, e8⟩ := q8
  have N8 := Fr.app N7 M8
  refine g_istore X8 hx #[vr a1, vr a2, vr a3, vn, vi 0, vr a4, vr a5, vn, vr a7, vn, vr a8, vn, vi (-1), vu, vu] (hb hby d38_111) rfl ?_
  refine g_iload X8 hx (hb hby d38_113) rfl ?_
  refine g_ifYes X8 hx 137 (hb hby d38_115) ((if0 _ _).trans (feq ((by decide) : ¬ ((-1 : Int32) = (0 : Int32)))).2) (by decide) (by decide) ?_
  refine g_aload X8 hx (hb hby d38_137) rfl rfl ?_
  refine g_astoreN X8 hx #[vr a1, vr a2, vr a3, vr a4, vi 0, vr a4, vr a5, vn, vr a7, vn, vr a8, vn, vi (-1), vu, vu] (hb hby d38_139) rfl rfl ?_
  refine g_iload X8 hx (hb hby d38_140) rfl ?_
  refine g_istore X8 hx #[vr a1, vr a2, vr a3, vr a4, vi (-1), vr a4, vr a5, vn, vr a7, vn, vr a8, vn, vi (-1), vu, vu] (hb hby d38_142) rfl ?_
  refine g_iload X8 hx (hb hby d38_144) rfl ?_
  refine g_ifNo X8 hx (hb hby d38_146) ((if0 _ _).trans (tlt ((by decide) : (-1 : Int32) < (0 : Int32))).2.1) ?_
  refine g_aload X8 hx (hb hby d38_149) rfl rfl ?_
  refine g_iconst X8 hx (1 : Int32) (hb hby d38_151) (by decide) ?_
  refine g_call (own_callS X8 hx hZ (y := Y22) hown (Wd115 hw) (Wd116 hw) (Wd2 hw) (Wd117 hw) (by decide) (rm_addToLeftCount_65 l Z a0 hw a4 a5 a6 a7 h0 n0 Z0 O_a4 g_a4) e8 pd_17 (hb hby d38_152) (by rw [hml]; rfl) (argsL := [(.ref a4), (.int 1)]) (rest := []) rfl rfl rfl (W := 0) (Nat.le_of_eq rfl) (by decide)) (fun v9 T9 L9 X9 q9 => ?_)
  obtain ⟨rfl, M9, Kc9, Rk9_0⟩ := q9
  have N9 := Fr.app N8 M9
  have O_a1_9 := R_MP_keep O_a1 Kc9 (own_nin ne_a1_a4 List.not_mem_nil)
  have O_a2_9 := R_IN_keep O_a2 Kc9 (own_nin ne_a2_a4 List.not_mem_nil)
  have O_a3_9 := R_IN_keep O_a3 Kc9 (own_nin ne_a3_a4 List.not_mem_nil)
  have O_a5_9 := R_IN_keep O_a5 Kc9 (own_nin (Ne.symm ne_a4_a5) List.not_mem_nil)
  have O_a7_9 := R_ND_keep O_a7 Kc9 (own_nin (Ne.symm ne_a4_a7) List.not_mem_nil)
  have O_a8_9 := R_IN_keep O_a8 Kc9 (own_nin (Ne.symm ne_a4_a8) List.not_mem_nil)
  have K9 := Keep.trans K0 Kc9 (own_memc (Or.inl (List.mem_of_getElem? (i := 1) rfl)) own_memn)
  have Z9 : n0 ≤ T9.heap.size := Nat.le_trans Z0 Kc9.1
  refine g_iload X9 hx (hb hby d38_155) rfl ?_
  refine g_ifNo X9 hx (hb hby d38_157) ((if0 _ _).trans (tlt ((by decide) : (-1 : Int32) < (0 : Int32))).2.1) ?_
  refine g_aload X9 hx (hb hby d38_160) rfl rfl ?_
  refine g_goto X9 hx 167 (hb hby d38_162) (by decide) (by decide) ?_
  refine g_astore X9 hx #[vr a1, vr a2, vr a3, vr a4, vi (-1), vr a7, vr a5, vn, vr a7, vn, vr a8, vn, vi (-1), vu, vu] (hb hby d38_167) rfl rfl ?_
  refine g_iload X9 hx (hb hby d38_169) rfl ?_
  refine g_ifNo X9 hx (hb hby d38_171) ((if0 _ _).trans (tlt ((by decide) : (-1 : Int32) < (0 : Int32))).2.1) ?_
  refine g_aload X9 hx (hb hby d38_174) rfl rfl ?_
  refine g_goto X9 hx 181 (hb hby d38_176) (by decide) (by decide) ?_
  refine g_astore X9 hx #[vr a1, vr a2, vr a3, vr a4, vi (-1), vr a7, vr a8, vn, vr a7, vn, vr a8, vn, vi (-1), vu, vu] (hb hby d38_181) rfl rfl ?_
  refine g_goto X9 hx 71 (hb hby d38_183) (by decide) (by decide) ?_
  refine g_aload X9 hx (hb hby d38_71) rfl rfl ?_
  refine g_nullNo X9 hx (hb hby d38_73) ?_
  refine g_aload X9 hx (hb hby d38_76) rfl rfl ?_
  refine g_getF X9 hx hZ hown (Wd95 hw) (rfl : T9.heap = T9.heap) O_a7_9.2.2.2.1 (hb hby d38_78) (fun T10 X10 e10 => ?_)
  refine g_astore X10 hx #[vr a1, vr a2, vr a3, vr a4, vi (-1), vr a7, vr a8, vn, vn, vn, vr a8, vn, vi (-1), vu, vu] (hb hby d38_81) rfl rfl ?_
  refine g_aload X10 hx (hb hby d38_83) rfl rfl ?_
  refine g_getF X10 hx hZ hown (Wd97 hw) e10 O_a7_9.2.2.2.2.1 (hb hby d38_85) (fun T11 X11 e11 => ?_)
  refine g_astore X11 hx #[vr a1, vr a2, vr a3, vr a4, vi (-1), vr a7, vr a8, vn, vn, vn, vr a8, vn, vi (-1), vu, vu] (hb hby d38_88) rfl rfl ?_
  refine g_aload X11 hx (hb hby d38_90) rfl rfl ?_
  refine g_call (own_callS X11 hx hZ (y := Y7) hown (Wd99 hw) (Wd100 hw) (Wd2 hw) (Wd101 hw) (by decide) (rm_keyOf_9 l Z a0 hw  T9.heap n0 Z9 ) e11 pd_6 (hb hby d38_92) (by rw [hml]; rfl) (argsL := [.null]) (rest := []) rfl rfl rfl (W := 0) (Nat.le_of_eq rfl) (by decide)) (fun v12 T12 L12 X12 q12 => ?_)
  obtain ⟨rfl, M12, e12⟩ := q12
  have N12 := Fr.app N9 M12
  refine g_astore X12 hx #[vr a1, vr a2, vr a3, vr a4, vi (-1), vr a7, vr a8, vn, vn, vn, vn, vn, vi (-1), vu, vu] (hb hby d38_95) rfl rfl ?_
  refine g_aload X12 hx (hb hby d38_97) rfl rfl ?_
  refine g_call (own_callS X12 hx hZ (y := Y7) hown (Wd99 hw) (Wd100 hw) (Wd2 hw) (Wd101 hw) (by decide) (rm_keyOf_9 l Z a0 hw  T9.heap n0 Z9 ) e12 pd_6 (hb hby d38_99) (by rw [hml]; rfl) (argsL := [.null]) (rest := []) rfl rfl rfl (W := 0) (Nat.le_of_eq rfl) (by decide)) (fun v13 T13 L13 X13 q13 => ?_)
  obtain ⟨rfl, M13, e13⟩ := q13
  have N13 := Fr.app N12 M13
  refine g_astore X13 hx #[vr a1, vr a2, vr a3, vr a4, vi (-1), vr a7, vr a8, vn, vn, vn, vn, vn, vi (-1), vu, vu] (hb hby d38_102) rfl rfl ?_
  refine g_aloadN X13 hx (hb hby d38_104) rfl rfl ?_
  refine g_aloadN X13 hx (hb hby d38_105) rfl rfl ?_
  refine g_aload X13 hx (hb hby d38_106) rfl rfl ?_
  refine g_call (own_callV X13 hx hZ (y := Y13) hown (Wd37 hw) (Wd38 hw) (Wd40 hw) (Wd39 hw) (Wd41 hw) (Wd2 hw) (by decide) (rm_compare_89 l Z a0 hw a1 a2 a8 a4 i1 i2 i5 T9.heap n0 Z9 O_a1_9 O_a2_9 O_a8_9 hk1 hk2) e13 O_a1_9.1 pd_11 (hb hby d38_108) (by rw [hml]; rfl) (argsL := [(.ref a2), (.ref a8)]) (rest := []) rfl rfl rfl (W := 0) (Nat.le_of_eq rfl) (by decide)) (fun v14 T14 L14 X14 q14 => ?_)
  obtain ⟨rfl, M14, e14⟩ := q14
  have N14 := Fr.app N13 M14
  refine g_istore X14 hx #[vr a1, vr a2, vr a3, vr a4, vi (-1), vr a7, vr a8, vn, vn, vn, vn, vn, vi 1, vu, vu] (hb hby d38_111) rfl ?_
  refine g_iload X14 hx (hb hby d38_113) rfl ?_
  refine g_ifYes X14 hx 137 (hb hby d38_115) ((if0 _ _).trans (feq ((by decide) : ¬ ((1 : Int32) = (0 : Int32)))).2) (by decide) (by decide) ?_
  refine g_aload X14 hx (hb hby d38_137) rfl rfl ?_
  refine g_astoreN X14 hx #[vr a1, vr a2, vr a3, vr a7, vi (-1), vr a7, vr a8, vn, vn, vn, vn, vn, vi 1, vu, vu] (hb hby d38_139) rfl rfl ?_
  refine g_iload X14 hx (hb hby d38_140) rfl ?_
  refine g_istore X14 hx #[vr a1, vr a2, vr a3, vr a7, vi 1, vr a7, vr a8, vn, vn, vn, vn, vn, vi 1, vu, vu] (hb hby d38_142) rfl ?_
  refine g_iload X14 hx (hb hby d38_144) rfl ?_
  refine g_ifYes X14 hx 155 (hb hby d38_146) ((if0 _ _).trans (flt ((by decide) : ¬ ((1 : Int32) < (0 : Int32)))).2.1) (by decide) (by decide) ?_
  refine g_iload X14 hx (hb hby d38_155) rfl ?_
  refine g_ifYes X14 hx 165 (hb hby d38_157) ((if0 _ _).trans (flt ((by decide) : ¬ ((1 : Int32) < (0 : Int32)))).2.1) (by decide) (by decide) ?_
  refine g_aload X14 hx (hb hby d38_165) rfl rfl ?_
  refine g_astore X14 hx #[vr a1, vr a2, vr a3, vr a7, vi 1, vn, vr a8, vn, vn, vn, vn, vn, vi 1, vu, vu] (hb hby d38_167) rfl rfl ?_
  refine g_iload X14 hx (hb hby d38_169) rfl ?_
  refine g_ifYes X14 hx 179 (hb hby d38_171) ((if0 _ _).trans (flt ((by decide) : ¬ ((1 : Int32) < (0 : Int32)))).2.1) (by decide) (by decide) ?_
  refine g_aload X14 hx (hb hby d38_179) rfl rfl ?_
  refine g_astore X14 hx #[vr a1, vr a2, vr a3, vr a7, vi 1, vn, vn, vn, vn, vn, vn, vn, vi 1, vu, vu] (hb hby d38_181) rfl rfl ?_
  refine g_goto X14 hx 71 (hb hby d38_183) (by decide) (by decide) ?_
  refine g_aload X14 hx (hb hby d38_71) rfl rfl ?_
  refine g_nullYes X14 hx 186 (hb hby d38_73) (by decide) (by decide) ?_
  refine g_aloadN X14 hx (hb hby d38_186) rfl rfl ?_
  refine g_aloadN X14 hx (hb hby d38_187) rfl rfl ?_
  refine g_aloadN X14 hx (hb hby d38_188) rfl rfl ?_
  refine g_aloadN X14 hx (hb hby d38_189) rfl rfl ?_
  refine g_call (own_callV X14 hx hZ (y := Y16) hown (Wd64 hw) (Wd65 hw) (Wd67 hw) (Wd66 hw) (Wd68 hw) (Wd2 hw) (by decide) (rm_newNode_37 l Z a0 hw a1 a2 a3 a7 T9.heap n0 Z9 ) e14 O_a1_9.1 pd_13 (hb hby d38_190) (by rw [hml]; rfl) (argsL := [(.ref a2), (.ref a3), (.ref a7)]) (rest := []) rfl rfl rfl (W := 0) (Nat.le_of_eq rfl) (by decide)) (fun v15 T15 L15 X15 q15 => ?_)
  obtain ⟨b15_0, rfl, M15, Kc15, zb15_0, Rk15_0⟩ := q15
  have N15 := Fr.app N14 M15
  have ne_a1_b15_0 : a1 ≠ b15_0 := Nat.ne_of_lt (Nat.lt_of_lt_of_le O_a1_9.1.lt zb15_0)
  have ne_a2_b15_0 : a2 ≠ b15_0 := Nat.ne_of_lt (Nat.lt_of_lt_of_le O_a2_9.1.lt zb15_0)
  have ne_a3_b15_0 : a3 ≠ b15_0 := Nat.ne_of_lt (Nat.lt_of_lt_of_le O_a3_9.1.lt zb15_0)
  have ne_a5_b15_0 : a5 ≠ b15_0 := Nat.ne_of_lt (Nat.lt_of_lt_of_le O_a5_9.1.lt zb15_0)
  have ne_a7_b15_0 : a7 ≠ b15_0 := Nat.ne_of_lt (Nat.lt_of_lt_of_le O_a7_9.1.lt zb15_0)
  have ne_a8_b15_0 : a8 ≠ b15_0 := Nat.ne_of_lt (Nat.lt_of_lt_of_le O_a8_9.1.lt zb15_0)
  have ne_a4_b15_0 : a4 ≠ b15_0 := Nat.ne_of_lt (Nat.lt_of_lt_of_le Rk9_0.1.lt zb15_0)
  have g_b15_0 : n0 ≤ b15_0 := Nat.le_trans Z9 zb15_0
  have sz_b15_0 : h0.size ≤ b15_0 := Nat.le_trans K9.1 zb15_0
  have O_a1_15 := R_MP_keep O_a1_9 Kc15 List.not_mem_nil
  have O_a2_15 := R_IN_keep O_a2_9 Kc15 List.not_mem_nil
  have O_a3_15 := R_IN_keep O_a3_9 Kc15 List.not_mem_nil
  have O_a5_15 := R_IN_keep O_a5_9 Kc15 List.not_mem_nil
  have O_a7_15 := R_ND_keep O_a7_9 Kc15 List.not_mem_nil
  have O_a8_15 := R_IN_keep O_a8_9 Kc15 List.not_mem_nil
  have O_a4_15 := R_ND_keep Rk9_0 Kc15 List.not_mem_nil
  have K15 := Keep.trans K9 Kc15 own_memn
  have Z15 : n0 ≤ T15.heap.size := Nat.le_trans Z9 Kc15.1
  refine g_astore X15 hx #[vr a1, vr a2, vr a3, vr a7, vi 1, vn, vn, vr b15_0, vn, vn, vn, vn, vi 1, vu, vu] (hb hby d38_193) rfl rfl ?_
  refine g_aload X15 hx (hb hby d38_195) rfl rfl ?_
  refine g_nonnullYes X15 hx 227 (hb hby d38_197) (by decide) (by decide) ?_
  refine g_iload X15 hx (hb hby d38_227) rfl ?_
  refine g_ifYes X15 hx 241 (hb hby d38_229) ((if0 _ _).trans (flt ((by decide) : ¬ ((1 : Int32) < (0 : Int32)))).2.1) (by decide) (by decide) ?_
  refine g_aloadN X15 hx (hb hby d38_241) rfl rfl ?_
  refine g_aload X15 hx (hb hby d38_242) rfl rfl ?_
  refine g_putF X15 hx hZ hown (Wd97 hw) (rfl : T15.heap = T15.heap) O_a7_15.2.2.2.2.1 O_a7_15.1 (Or.inl (Wd98 hw)) (Wd70 hw) fd_2 rfl rfl (hb hby d38_244) (fun T16 h16 X16 e16 W16 => ?_)
  have N16 := Fr.snoc X16 N15 g_a7
  have O_a1_16 := R_MP_other W16 O_a1_15 ne_a1_a7
  have O_a2_16 := R_IN_other W16 O_a2_15 ne_a2_a7
  have O_a3_16 := R_IN_other W16 O_a3_15 ne_a3_a7
  have O_a5_16 := R_IN_other W16 O_a5_15 ne_a5_a7
  have O_a7_16 := R_ND_set_right hw W16 O_a7_15
  have O_a8_16 := R_IN_other W16 O_a8_15 (Ne.symm ne_a7_a8)
  have O_a4_16 := R_ND_other W16 O_a4_15 ne_a4_a7
  have O_b15_0_16 := R_ND_other W16 Rk15_0 (Ne.symm ne_a7_b15_0)
  have Z16 : n0 ≤ h16.size := Nat.le_trans Z15 (Nat.le_of_eq W16.size.symm)
  have K16 := Keep.wr K15 W16 (Or.inl (List.mem_of_getElem? (i := 2) rfl))
  refine g_aloadN X16 hx (hb hby d38_247) rfl rfl ?_
  refine g_dup X16 hx (hb hby d38_248) rfl ?_
  refine g_getF X16 hx hZ hown (Wd90 hw) e16 O_a1_16.2.2.2.1 (hb hby d38_249) (fun T17 X17 e17 => ?_)
  refine g_iconst X17 hx (1 : Int32) (hb hby d38_252) (by decide) ?_
  refine g_iadd X17 hx (hb hby d38_253) ?_
  show Go p e below (T17.setTop (mkF m 254 #[vr a1, vr a2, vr a3, vr a7, vi 1, vn, vn, vr b15_0, vn, vn, vn, vn, vi 1, vu, vu] [(.int ((2 : Int32) + (1 : Int32))), (.ref a1)])) _
  rw [show ((2 : Int32) + (1 : Int32)) = (3 : Int32) from by decide]
  refine g_putF X17 hx hZ hown (Wd90 hw) e17 O_a1_16.2.2.2.1 O_a1_16.1 (Or.inl (Wd91 hw)) (Wd1 hw) fd_0 rfl rfl (hb hby d38_254) (fun T18 h18 X18 e18 W18 => ?_)
  have N18 := Fr.snoc X18 N16 g_a1
  have O_a1_18 := R_MP_set_size hw W18 O_a1_16
  have O_a2_18 := R_IN_other W18 O_a2_16 (Ne.symm ne_a1_a2)
  have O_a3_18 := R_IN_other W18 O_a3_16 (Ne.symm ne_a1_a3)
  have O_a5_18 := R_IN_other W18 O_a5_16 (Ne.symm ne_a1_a5)
  have O_a7_18 := R_ND_other W18 O_a7_16 (Ne.symm ne_a1_a7)
  have O_a8_18 := R_IN_other W18 O_a8_16 (Ne.symm ne_a1_a8)
  have O_a4_18 := R_ND_other W18 O_a4_16 (Ne.symm ne_a1_a4)
  have O_b15_0_18 := R_ND_other W18 O_b15_0_16 (Ne.symm ne_a1_b15_0)
  have Z18 : n0 ≤ h18.size := Nat.le_trans Z16 (Nat.le_of_eq W18.size.symm)
  have K18 := Keep.wr K16 W18 (Or.inl (List.mem_of_getElem? (i := 0) rfl))
  refine g_aloadN X18 hx (hb hby d38_257) rfl rfl ?_
  refine g_aloadN X18 hx (hb hby d38_258) rfl rfl ?_
  refine g_call (own_callV X18 hx hZ (y := Y23) hown (Wd102 hw) (Wd103 hw) (Wd105 hw) (Wd104 hw) (Wd106 hw) (Wd2 hw) (by decide) (rm_refreshToRoot_39 l Z a0 hw a1 a7 h18 n0 Z18 ) e18 O_a1_18.1 pd_18 (hb hby d38_259) (by rw [hml]; rfl) (argsL := [(.ref a7)]) (rest := []) rfl rfl rfl (W := 0) (Nat.le_of_eq rfl) (by decide)) (fun v19 T19 L19 X19 q19 => ?_)
  obtain ⟨rfl, M19, e19⟩ := q19
  have N19 := Fr.app N18 M19
  refine g_aloadN X19 hx (hb hby d38_262) rfl rfl ?_
  refine g_aload X19 hx (hb hby d38_263) rfl rfl ?_
  refine g_call (own_callP X19 hx hZ (y := Y25) hown (Wd107 hw) (Wd108 hw) (Wd109 hw) (Wd1 hw) (Wd110 hw) (Wd2 hw) (by decide) (rm_balanceAfterInsert_90 l Z a0 hw a1 b15_0 a4 i1 a2 a3 a7 a5 a6 i2 i3 a8 a9 i4 i5 h18 n0 Z18 O_a1_18 O_b15_0_18 O_a4_18 O_a2_18 O_a3_18 O_a7_18 O_a5_18 O_a8_18 ne_a1_b15_0 ne_a1_a4 ne_a1_a2 ne_a1_a3 ne_a1_a7 ne_a1_a5 ne_a1_a8 (Ne.symm ne_a4_b15_0) (Ne.symm ne_a2_b15_0) (Ne.symm ne_a3_b15_0) (Ne.symm ne_a7_b15_0) (Ne.symm ne_a5_b15_0) (Ne.symm ne_a8_b15_0) (Ne.symm ne_a2_a4) (Ne.symm ne_a3_a4) ne_a4_a7 ne_a4_a5 ne_a4_a8 ne_a2_a7 ne_a3_a7 (Ne.symm ne_a5_a7) ne_a7_a8 g_a1 g_b15_0 g_a4 g_a7 hk0 hk1 hk2) e19 O_a1_18.1 pd_18 (hb hby d38_265) (by rw [hml]; rfl) (argsL := [(.ref b15_0)]) (rest := []) rfl rfl rfl (W := 0) (Nat.le_of_eq rfl) (by decide)) (fun v20 T20 L20 X20 q20 => ?_)
  obtain ⟨rfl, M20, Kc20, Rk20_0, Rk20_1, Rk20_2, Rk20_3⟩ := q20
  have N20 := Fr.app N19 M20
  have O_a2_20 := R_IN_keep O_a2_18 Kc20 (own_nin (Ne.symm ne_a1_a2) (own_nin ne_a2_b15_0 (own_nin ne_a2_a4 (own_nin ne_a2_a7 List.not_mem_nil))))
  have O_a3_20 := R_IN_keep O_a3_18 Kc20 (own_nin (Ne.symm ne_a1_a3) (own_nin ne_a3_b15_0 (own_nin ne_a3_a4 (own_nin ne_a3_a7 List.not_mem_nil))))
  have O_a5_20 := R_IN_keep O_a5_18 Kc20 (own_nin (Ne.symm ne_a1_a5) (own_nin ne_a5_b15_0 (own_nin (Ne.symm ne_a4_a5) (own_nin ne_a5_a7 List.not_mem_nil))))
  have O_a8_20 := R_IN_keep O_a8_18 Kc20 (own_nin (Ne.symm ne_a1_a8) (own_nin ne_a8_b15_0 (own_nin (Ne.symm ne_a4_a8) (own_nin (Ne.symm ne_a7_a8) List.not_mem_nil))))
  have K20 := Keep.trans K18 Kc20 (own_memc (Or.inl (List.mem_of_getElem? (i := 0) rfl)) (own_memc (Or.inr sz_b15_0) (own_memc (Or.inl (List.mem_of_getElem? (i := 1) rfl)) (own_memc (Or.inl (List.mem_of_getElem? (i := 2) rfl)) own_memn))))
  have Z20 : n0 ≤ T20.heap.size := Nat.le_trans Z18 Kc20.1
  refine g_aloadN X20 hx (hb hby d38_268) rfl rfl ?_
  refine g_dup X20 hx (hb hby d38_269) rfl ?_
  refine g_getF X20 hx hZ hown (Wd92 hw) (rfl : T20.heap = T20.heap) Rk20_0.2.2.2.2 (hb hby d38_270) (fun T21 X21 e21 => ?_)
  refine g_iconst X21 hx (1 : Int32) (hb hby d38_273) (by decide) ?_
  refine g_iadd X21 hx (hb hby d38_274) ?_
  refine g_putF X21 hx hZ hown (Wd92 hw) e21 Rk20_0.2.2.2.2 Rk20_0.1 (Or.inl (Wd93 hw)) (Wd1 hw) fd_0 rfl rfl (hb hby d38_275) (fun T22 h22 X22 e22 W22 => ?_)
  have N22 := Fr.snoc X22 N20 g_a1
  have O_a2_22 := R_IN_other W22 O_a2_20 (Ne.symm ne_a1_a2)
  have O_a3_22 := R_IN_other W22 O_a3_20 (Ne.symm ne_a1_a3)
  have O_a5_22 := R_IN_other W22 O_a5_20 (Ne.symm ne_a1_a5)
  have O_a8_22 := R_IN_other W22 O_a8_20 (Ne.symm ne_a1_a8)
  have O_a1_22 := R_MP_set_modCount hw W22 Rk20_0
  have O_b15_0_22 := R_ND_other W22 Rk20_1 (Ne.symm ne_a1_b15_0)
  have O_a4_22 := R_ND_other W22 Rk20_2 (Ne.symm ne_a1_a4)
  have O_a7_22 := R_ND_other W22 Rk20_3 (Ne.symm ne_a1_a7)
  have Z22 : n0 ≤ h22.size := Nat.le_trans Z20 (Nat.le_of_eq W22.size.symm)
  have K22 := Keep.wr K20 W22 (Or.inl (List.mem_of_getElem? (i := 0) rfl))
  refine g_null X22 hx (hb hby d38_278) ?_
  exact own_retA X22 hx hret hlk rfl rfl (hb hby d38_279) (by decide) (by decide) (by rw [e22]; exact ⟨b15_0, rfl, N22, K22, sz_b15_0, O_a1_22, O_a4_22, O_a7_22, O_b15_0_22⟩)
theorem rm_put_87 (l : Launch) (Z : State) (a0 : Array Value) (hw : HW a0 Z) (a1 : Addr) (a2 : Addr) (a3 : Addr) (a4 : Addr) (i1 : Int32) (i2 : Int32) (i3 : Int32) (a5 : Addr) (a6 : Addr) (a7 : Addr) (i4 : Int32) (a8 : Addr) (a9 : Addr) (i5 : Int32) (h0 : Heap) (n0 : Nat) (Z0 : n0 ≤ h0.size) (O_a1 : R_MP Z h0 a1 .null (.ref a4) (.int 2) (.int i1)) (O_a2 : R_IN Z h0 a2 (.int i2)) (O_a3 : R_IN Z h0 a3 (.int i3)) (O_a4 : R_ND Z h0 a4 (.ref a5) (.ref a6) (.ref a7) .null .null (.int 1)) (O_a5 : R_IN Z h0 a5 (.int i4)) (O_a7 : R_ND Z h0 a7 (.ref a8) (.ref a9) .null .null (.ref a4) (.int (-2147483648))) (O_a8 : R_IN Z h0 a8 (.int i5)) (ne_a1_a2 : a1 ≠ a2) (ne_a1_a3 : a1 ≠ a3) (ne_a1_a4 : a1 ≠ a4) (ne_a1_a5 : a1 ≠ a5) (ne_a1_a7 : a1 ≠ a7) (ne_a1_a8 : a1 ≠ a8) (ne_a2_a4 : a2 ≠ a4) (ne_a2_a7 : a2 ≠ a7) (ne_a3_a4 : a3 ≠ a4) (ne_a3_a7 : a3 ≠ a7) (ne_a4_a5 : a4 ≠ a5) (ne_a4_a7 : a4 ≠ a7) (ne_a4_a8 : a4 ≠ a8) (ne_a5_a7 : a5 ≠ a7) (ne_a7_a8 : a7 ≠ a8) (g_a1 : n0 ≤ a1) (g_a4 : n0 ≤ a4) (g_a7 : n0 ≤ a7) (hk0 : i2 < i4) (hk1 : ¬ (i2 < i5)) (hk2 : ¬ (i2 = i5)) :
    Ctr l Y19 prog_7_method_8_code 4 (some (FieldType.object "java/lang/Object")) [] ({ frames := 5, cells := 1, slots := 6, locals := 79 } : Room) Z #[(.ref a1), (.ref a2), (.ref a3)] h0 (fun v h L => ∃ f1, v = some .null ∧ Fr n0 L ∧ Keep h0 h [a1, a4, a7] ∧ h0.size ≤ f1 ∧ R_MP Z h a1 .null (.ref f1) (.int 3) (.int (i1 + (1 : Int32))) ∧ R_ND Z h a4 (.ref a5) (.ref a6) .null .null (.ref f1) (.int (-2147483648)) ∧ R_ND Z h a7 (.ref a8) (.ref a9) .null .null (.ref f1) (.int (-2147483648)) ∧ R_ND Z h f1 (.ref a2) (.ref a3) (.ref a7) (.ref a4) .null (.int 1)) := by
  refine own_enter pn_2 (fun p e s m below meth c s₁ hx hby hml hown hnm hret hlk hZ X0 e0 => ?_)
  have N0 := Fr.nil n0
  have K0 := Keep.refl h0 [a1, a4, a7]
  rw [ef_6_RRR m _ _ _]
  show Go p e below (s₁.setTop (mkF m 0 #[vr a1, vr a2, vr a3, vu] [])) _
  refine g_aloadN X0 hx (hb hby d6_0) rfl rfl ?_
  refine g_aloadN X0 hx (hb hby d6_1) rfl rfl ?_
  refine g_aloadN X0 hx (hb hby d6_2) rfl rfl ?_
  refine g_call (own_callPH X0 hx hZ (y := Y18) hown (Wd31 hw) (Wd32 hw) (Wd33 hw) (Wd1 hw) (Wd34 hw) (Wd2 hw) (by decide) (rm_addIfAbsent_88 l Z a0 hw a1 a2 a3 a4 i1 i2 i3 a5 a6 a7 i4 a8 a9 i5 h0 n0 Z0 O_a1 O_a2 O_a3 O_a4 O_a5 O_a7 O_a8 ne_a1_a2 ne_a1_a3 ne_a1_a4 ne_a1_a5 ne_a1_a7 ne_a1_a8 ne_a2_a4 ne_a2_a7 ne_a3_a4 ne_a3_a7 ne_a4_a5 ne_a4_a7 ne_a4_a8 ne_a5_a7 ne_a7_a8 g_a1 g_a4 g_a7 hk0 hk1 hk2) e0 O_a1.1 pd_15 (hb hby d6_3) (by rw [hml]; rfl) (argsL := [(.ref a2), (.ref a3)]) (rest := []) rfl rfl rfl (W := 0) (Nat.le_of_eq rfl) (by decide)) (fun v1 T1 L1 X1 q1 => ?_)
  obtain ⟨b1_0, rfl, M1, Kc1, zb1_0, Rk1_0, Rk1_1, Rk1_2, Rk1_3⟩ := q1
  have N1 := Fr.app N0 M1
  have ne_a1_b1_0 : a1 ≠ b1_0 := Nat.ne_of_lt (Nat.lt_of_lt_of_le O_a1.1.lt zb1_0)
  have ne_a2_b1_0 : a2 ≠ b1_0 := Nat.ne_of_lt (Nat.lt_of_lt_of_le O_a2.1.lt zb1_0)
  have ne_a3_b1_0 : a3 ≠ b1_0 := Nat.ne_of_lt (Nat.lt_of_lt_of_le O_a3.1.lt zb1_0)
  have ne_a4_b1_0 : a4 ≠ b1_0 := Nat.ne_of_lt (Nat.lt_of_lt_of_le O_a4.1.lt zb1_0)
  have ne_a5_b1_0 : a5 ≠ b1_0 := Nat.ne_of_lt (Nat.lt_of_lt_of_le O_a5.1.lt zb1_0)
  have ne_a7_b1_0 : a7 ≠ b1_0 := Nat.ne_of_lt (Nat.lt_of_lt_of_le O_a7.1.lt zb1_0)
  have ne_a8_b1_0 : a8 ≠ b1_0 := Nat.ne_of_lt (Nat.lt_of_lt_of_le O_a8.1.lt zb1_0)
  have g_b1_0 : n0 ≤ b1_0 := Nat.le_trans Z0 zb1_0
  have sz_b1_0 : h0.size ≤ b1_0 := Nat.le_trans K0.1 zb1_0
  have O_a2_1 := R_IN_keep O_a2 Kc1 (own_nin (Ne.symm ne_a1_a2) (own_nin ne_a2_a4 (own_nin ne_a2_a7 List.not_mem_nil)))
  have O_a3_1 := R_IN_keep O_a3 Kc1 (own_nin (Ne.symm ne_a1_a3) (own_nin ne_a3_a4 (own_nin ne_a3_a7 List.not_mem_nil)))
  have O_a5_1 := R_IN_keep O_a5 Kc1 (own_nin (Ne.symm ne_a1_a5) (own_nin (Ne.symm ne_a4_a5) (own_nin ne_a5_a7 List.not_mem_nil)))
  have O_a8_1 := R_IN_keep O_a8 Kc1 (own_nin (Ne.symm ne_a1_a8) (own_nin (Ne.symm ne_a4_a8) (own_nin (Ne.symm ne_a7_a8) List.not_mem_nil)))
  have K1 := Keep.trans K0 Kc1 (own_memc (Or.inl (List.mem_of_getElem? (i := 0) rfl)) (own_memc (Or.inl (List.mem_of_getElem? (i := 1) rfl)) (own_memc (Or.inl (List.mem_of_getElem? (i := 2) rfl)) own_memn)))
  have Z1 : n0 ≤ T1.heap.size := Nat.le_trans Z0 Kc1.1
  refine g_astoreN X1 hx #[vr a1, vr a2, vr a3, vn] (hb hby d6_6) rfl rfl ?_
  refine g_aloadN X1 hx (hb hby d6_7) rfl rfl ?_
  refine g_nonnullNo X1 hx (hb hby d6_8) ?_
  refine g_null X1 hx (hb hby d6_11) ?_
  refine g_goto X1 hx 21 (hb hby d6_12) (by decide) (by decide) ?_
  exact own_retA X1 hx hret hlk rfl rfl (hb hby d6_21) (by decide) (by decide) (by rw [(rfl : T1.heap = T1.heap)]; exact ⟨b1_0, rfl, N1, K1, sz_b1_0, Rk1_0, Rk1_1, Rk1_2, Rk1_3⟩)
theorem rm_addIfAbsent_99 (l : Launch) (Z : State) (a0 : Array Value) (hw : HW a0 Z) (a1 : Addr) (a2 : Addr) (a3 : Addr) (a4 : Addr) (i1 : Int32) (i2 : Int32) (i3 : Int32) (a5 : Addr) (a6 : Addr) (a7 : Addr) (i4 : Int32) (a8 : Addr) (a9 : Addr) (i5 : Int32) (h0 : Heap) (n0 : Nat) (Z0 : n0 ≤ h0.size) (O_a1 : R_MP Z h0 a1 .null (.ref a4) (.int 2) (.int i1)) (O_a2 : R_IN Z h0 a2 (.int i2)) (O_a3 : R_IN Z h0 a3 (.int i3)) (O_a4 : R_ND Z h0 a4 (.ref a5) (.ref a6) (.ref a7) .null .null (.int 1)) (O_a5 : R_IN Z h0 a5 (.int i4)) (O_a7 : R_ND Z h0 a7 (.ref a8) (.ref a9) .null .null (.ref a4) (.int (-2147483648))) (O_a8 : R_IN Z h0 a8 (.int i5)) (hk0 : ¬ (i2 < i4)) (hk1 : i2 = i4) :
    CtrH l Y18 prog_7_method_65_code 15 (some (FieldType.object "com/example/rosewood/rosewood/RosewoodMap$Node")) [(71, 122, 210, 0), (137, 195, 210, 0), (210, 212, 210, 0)] ({ frames := 4, cells := 0, slots := 0, locals := 53 } : Room) Z #[(.ref a1), (.ref a2), (.ref a3)] h0 (fun v h L => v = some (.ref a4) ∧ Fr n0 L ∧ h = h0) := by
  refine own_enterH pn_2 (fun p e s m below meth c s₁ hx hby hml hown hnm hret hlk hZ X0 e0 => ?_)
  have N0 := Fr.nil n0
  have K0 := Keep.refl h0 []
  rw [ef_38_RRR m _ _ _]
  show Go p e below (s₁.setTop (mkF m 0 #[vr a1, vr a2, vr a3, vu, vu, vu, vu, vu, vu, vu, vu, vu, vu, vu, vu] [])) _
  refine g_aloadN X0 hx (hb hby d38_0) rfl rfl ?_
  refine g_getF X0 hx hZ hown (Wd35 hw) e0 O_a1.2.2.1 (hb hby d38_1) (fun T1 X1 e1 => ?_)
  refine g_nonnullYes X1 hx 50 (hb hby d38_4) (by decide) (by decide) ?_
  refine g_null X1 hx (hb hby d38_50) ?_
  refine g_astoreN X1 hx #[vr a1, vr a2, vr a3, vn, vu, vu, vu, vu, vu, vu, vu, vu, vu, vu, vu] (hb hby d38_51) rfl rfl ?_
  refine g_iconst X1 hx (0 : Int32) (hb hby d38_52) (by decide) ?_
  refine g_istore X1 hx #[vr a1, vr a2, vr a3, vn, vi 0, vu, vu, vu, vu, vu, vu, vu, vu, vu, vu] (hb hby d38_53) rfl ?_
  refine g_aloadN X1 hx (hb hby d38_55) rfl rfl ?_
  refine g_getF X1 hx hZ hown (Wd35 hw) e1 O_a1.2.2.1 (hb hby d38_56) (fun T2 X2 e2 => ?_)
  refine g_astore X2 hx #[vr a1, vr a2, vr a3, vn, vi 0, vr a4, vu, vu, vu, vu, vu, vu, vu, vu, vu] (hb hby d38_59) rfl rfl ?_
  refine g_aload X2 hx (hb hby d38_61) rfl rfl ?_
  refine g_getF X2 hx hZ hown (Wd94 hw) e2 O_a4.2.1 (hb hby d38_63) (fun T3 X3 e3 => ?_)
  refine g_astore X3 hx #[vr a1, vr a2, vr a3, vn, vi 0, vr a4, vr a5, vu, vu, vu, vu, vu, vu, vu, vu] (hb hby d38_66) rfl rfl ?_
  refine g_null X3 hx (hb hby d38_68) ?_
  refine g_astore X3 hx #[vr a1, vr a2, vr a3, vn, vi 0, vr a4, vr a5, vn, vu, vu, vu, vu, vu, vu, vu] (hb hby d38_69) rfl rfl ?_
  refine g_aload X3 hx (hb hby d38_71) rfl rfl ?_
  refine g_nullNo X3 hx (hb hby d38_73) ?_
  refine g_aload X3 hx (hb hby d38_76) rfl rfl ?_
  refine g_getF X3 hx hZ hown (Wd95 hw) e3 O_a4.2.2.2.1 (hb hby d38_78) (fun T4 X4 e4 => ?_)
  refine g_astore X4 hx #[vr a1, vr a2, vr a3, vn, vi 0, vr a4, vr a5, vn, vr a7, vu, vu, vu, vu, vu, vu] (hb hby d38_81) rfl rfl ?_
  refine g_aload X4 hx (hb hby d38_83) rfl rfl ?_
  refine g_getF X4 hx hZ hown (Wd97 hw) e4 O_a4.2.2.2.2.1 (hb hby d38_85) (fun T5 X5 e5 => ?_)
  refine g_astore X5 hx #[vr a1, vr a2, vr a3, vn, vi 0, vr a4, vr a5, vn, vr a7, vn, vu, vu, vu, vu, vu] (hb hby d38_88) rfl rfl ?_
  refine g_aload X5 hx (hb hby d38_90) rfl rfl ?_
  refine g_call (own_callS X5 hx hZ (y := Y7) hown (Wd99 hw) (Wd100 hw) (Wd2 hw) (Wd101 hw) (by decide) (rm_keyOf_63 l Z a0 hw a7 a8 a9 a4 h0 n0 Z0 O_a7) e5 pd_6 (hb hby d38_92) (by rw [hml]; rfl) (argsL := [(.ref a7)]) (rest := []) rfl rfl rfl (W := 0) (Nat.le_of_eq rfl) (by decide)) (fun v6 T6 L6 X6 q6 => ?_)
  obtain ⟨rfl, M6, e6⟩ := q6
  have N6 := Fr.app N0 M6
  refine g_astore X6 hx #[vr a1, vr a2, vr a3, vn, vi 0, vr a4, vr a5, vn, vr a7, vn, vr a8, vu, vu, vu, vu] (hb hby d38_95) rfl rfl ?_
  refine g_aload X6 hx (hb hby d38_97) rfl rfl ?_
  refine g_call (own_callS X6 hx hZ (y := Y7) hown (Wd99 hw) (Wd100 hw) (Wd2 hw) (Wd101 hw) (by decide) (rm_keyOf_9 l Z a0 hw  h0 n0 Z0 ) e6 pd_6 (hb hby d38_99) (by rw [hml]; rfl) (argsL := [.null]) (rest := []) rfl rfl rfl (W := 0) (Nat.le_of_eq rfl) (by decide)) (fun v7 T7 L7 X7 q7 => ?_)
  obtain ⟨rfl, M7, e7⟩ := q7
  have N7 := Fr.app N6 M7
  refine g_astore X7 hx #[vr a1, vr a2, vr a3, vn, vi 0, vr a4, vr a5, vn, vr a7, vn, vr a8, vn, vu, vu, vu] (hb hby d38_102) rfl rfl ?_
  refine g_aloadN X7 hx (hb hby d38_104) rfl rfl ?_
  refine g_aloadN X7 hx (hb hby d38_105) rfl rfl ?_
  refine g_aload X7 hx (hb hby d38_106) rfl rfl ?_
  refine g_call (own_callV X7 hx hZ (y := Y13) hown (Wd37 hw) (Wd38 hw) (Wd40 hw) (Wd39 hw) (Wd41 hw) (Wd2 hw) (by decide) (rm_compare_81 l Z a0 hw a1 a2 a5 a4 i1 i2 i4 h0 n0 Z0 O_a1 O_a2 O_a5 hk0 hk1) e7 O_a1.1 pd_11 (hb hby d38_108) (by rw [hml]; rfl) (argsL := [(.ref a2), (.ref a5)]) (rest := []) rfl rfl rfl (W := 0) (Nat.le_of_eq rfl) (by decide)) (fun v8 T8 L8 X8 q8 => ?_)
  obtain ⟨rfl, M8, e8⟩ := q8
  have N8 := Fr.app N7 M8
  refine g_istore X8 hx #[vr a1, vr a2, vr a3, vn, vi 0, vr a4, vr a5, vn, vr a7, vn, vr a8, vn, vi 0, vu, vu] (hb hby d38_111) rfl ?_
  refine g_iload X8 hx (hb hby d38_113) rfl ?_
  refine g_ifNo X8 hx (hb hby d38_115) ((if0 _ _).trans (teq ((by decide) : (0 : Int32) = (0 : Int32))).2) ?_
  refine g_aload X8 hx (hb hby d38_118) rfl rfl ?_
  refine g_astore X8 hx #[vr a1, vr a2, vr a3, vn, vi 0, vr a4, vr a5, vn, vr a7, vn, vr a8, vn, vi 0, vr a4, vu] (hb hby d38_120) rfl rfl ?_
  refine g_aload X8 hx (hb hby d38_122) rfl rfl ?_
  refine g_nonnullNo X8 hx (hb hby d38_124) ?_
  refine g_aloadN X8 hx (hb hby d38_127) rfl rfl ?_
  refine g_iload X8 hx (hb hby d38_128) rfl ?_
  refine g_iconst X8 hx (-1 : Int32) (hb hby d38_130) (by decide) ?_
  refine g_call (own_callS X8 hx hZ (y := Y26) hown (Wd190 hw) (Wd191 hw) (Wd2 hw) (Wd192 hw) (by decide) (rm_countPlace_49 l Z a0 hw  h0 n0 Z0 ) e8 pd_20 (hb hby d38_131) (by rw [hml]; rfl) (argsL := [.null, (.int 0), (.int (-1))]) (rest := []) rfl rfl rfl (W := 0) (Nat.le_of_eq rfl) (by decide)) (fun v9 T9 L9 X9 q9 => ?_)
  obtain ⟨rfl, M9, e9⟩ := q9
  have N9 := Fr.app N8 M9
  refine g_aload X9 hx (hb hby d38_134) rfl rfl ?_
  exact own_retA X9 hx hret hlk rfl rfl (hb hby d38_136) (by decide) (by decide) ⟨rfl, N9, e9⟩
theorem rm_setValue_101 (l : Launch) (Z : State) (a0 : Array Value) (hw : HW a0 Z) (a1 : Addr) (a2 : Addr) (a3 : Addr) (a4 : Addr) (a5 : Addr) (h0 : Heap) (n0 : Nat) (Z0 : n0 ≤ h0.size) (O_a1 : R_ND Z h0 a1 (.ref a3) (.ref a4) (.ref a5) .null .null (.int 1)) (g_a1 : n0 ≤ a1) :
    Ctr l Y27 prog_8_method_4_code 3 (some (FieldType.object "java/lang/Object")) [] ({ frames := 0, cells := 0, slots := 0, locals := 0 } : Room) Z #[(.ref a1), (.ref a2)] h0 (fun v h L => v = some (.ref a4) ∧ Fr n0 L ∧ Keep h0 h [a1] ∧ R_ND Z h a1 (.ref a3) (.ref a2) (.ref a5) .null .null (.int 1)) := by
  refine own_enter pn_4 (fun p e s m below meth c s₁ hx hby hml hown hnm hret hlk hZ X0 e0 => ?_)
  have N0 := Fr.nil n0
  have K0 := Keep.refl h0 [a1]
  rw [ef_36_RR m _ _]
  show Go p e below (s₁.setTop (mkF m 0 #[vr a1, vr a2, vu] [])) _
  refine g_aloadN X0 hx (hb hby d36_0) rfl rfl ?_
  refine g_getF X0 hx hZ hown (Wd81 hw) e0 O_a1.2.2.1 (hb hby d36_1) (fun T1 X1 e1 => ?_)
  refine g_astoreN X1 hx #[vr a1, vr a2, vr a4] (hb hby d36_4) rfl rfl ?_
  refine g_aloadN X1 hx (hb hby d36_5) rfl rfl ?_
  refine g_aloadN X1 hx (hb hby d36_6) rfl rfl ?_
  refine g_putF X1 hx hZ hown (Wd81 hw) e1 O_a1.2.2.1 O_a1.1 (Or.inl (Wd82 hw)) (Wd70 hw) fd_1 rfl rfl (hb hby d36_7) (fun T2 h2 X2 e2 W2 => ?_)
  have N2 := Fr.snoc X2 N0 g_a1
  have O_a1_2 := R_ND_set_value hw W2 O_a1
  have Z2 : n0 ≤ h2.size := Nat.le_trans Z0 (Nat.le_of_eq W2.size.symm)
  have K2 := Keep.wr K0 W2 (Or.inl (List.mem_of_getElem? (i := 0) rfl))
  refine g_aloadN X2 hx (hb hby d36_10) rfl rfl ?_
  exact own_retA X2 hx hret hlk rfl rfl (hb hby d36_11) (by decide) (by decide) (by rw [e2]; exact ⟨rfl, N2, K2, O_a1_2⟩)
theorem rm_replaceValue_100 (l : Launch) (Z : State) (a0 : Array Value) (hw : HW a0 Z) (a1 : Addr) (a2 : Addr) (a3 : Addr) (i1 : Int32) (i2 : Int32) (a4 : Addr) (a5 : Addr) (a6 : Addr) (h0 : Heap) (n0 : Nat) (Z0 : n0 ≤ h0.size) (O_a1 : R_MP Z h0 a1 .null (.ref a2) (.int 2) (.int i1)) (O_a3 : R_IN Z h0 a3 (.int i2)) (O_a2 : R_ND Z h0 a2 (.ref a4) (.ref a5) (.ref a6) .null .null (.int 1)) (ne_a1_a2 : a1 ≠ a2) (ne_a3_a2 : a3 ≠ a2) (g_a2 : n0 ≤ a2) :
    Ctr l Y28 prog_7_method_52_code 3 (some (FieldType.object "java/lang/Object")) [] ({ frames := 1, cells := 0, slots := 0, locals := 14 } : Room) Z #[(.ref a1), (.ref a2), (.ref a3)] h0 (fun v h L => v = some (.ref a5) ∧ Fr n0 L ∧ Keep h0 h [a2] ∧ R_ND Z h a2 (.ref a4) (.ref a3) (.ref a6) .null .null (.int 1)) := by
  refine own_enter pn_2 (fun p e s m below meth c s₁ hx hby hml hown hnm hret hlk hZ X0 e0 => ?_)
  have N0 := Fr.nil n0
  have K0 := Keep.refl h0 [a2]
  rw [ef_35_RRR m _ _ _]
  show Go p e below (s₁.setTop (mkF m 0 #[vr a1, vr a2, vr a3] [])) _
  refine g_aloadN X0 hx (hb hby d35_0) rfl rfl ?_
  refine g_aloadN X0 hx (hb hby d35_1) rfl rfl ?_
  refine g_call (own_callV X0 hx hZ (y := Y27) hown (Wd198 hw) (Wd199 hw) (Wd201 hw) (Wd200 hw) (Wd202 hw) (Wd71 hw) (by decide) (rm_setValue_101 l Z a0 hw a2 a3 a4 a5 a6 h0 n0 Z0 O_a2 g_a2) e0 O_a2.1 pd_5 (hb hby d35_2) (by rw [hml]; rfl) (argsL := [(.ref a3)]) (rest := []) rfl rfl rfl (W := 0) (Nat.le_of_eq rfl) (by decide)) (fun v1 T1 L1 X1 q1 => ?_)
  obtain ⟨rfl, M1, Kc1, Rk1_0⟩ := q1
  have N1 := Fr.app N0 M1
  have O_a1_1 := R_MP_keep O_a1 Kc1 (own_nin ne_a1_a2 List.not_mem_nil)
  have O_a3_1 := R_IN_keep O_a3 Kc1 (own_nin ne_a3_a2 List.not_mem_nil)
  have K1 := Keep.trans K0 Kc1 (own_memc (Or.inl (List.mem_of_getElem? (i := 0) rfl)) own_memn)
  have Z1 : n0 ≤ T1.heap.size := Nat.le_trans Z0 Kc1.1
  exact own_retA X1 hx hret hlk rfl rfl (hb hby d35_5) (by decide) (by decide) (by rw [(rfl : T1.heap = T1.heap)]; exact ⟨rfl, N1, K1, Rk1_0⟩)
theorem rm_put_98 (l : Launch) (Z : State) (a0 : Array Value) (hw : HW a0 Z) (a1 : Addr) (a2 : Addr) (a3 : Addr) (a4 : Addr) (i1 : Int32) (i2 : Int32) (i3 : Int32) (a5 : Addr) (a6 : Addr) (a7 : Addr) (i4 : Int32) (a8 : Addr) (a9 : Addr) (i5 : Int32) (h0 : Heap) (n0 : Nat) (Z0 : n0 ≤ h0.size) (O_a1 : R_MP Z h0 a1 .null (.ref a4) (.int 2) (.int i1)) (O_a2 : R_IN Z h0 a2 (.int i2)) (O_a3 : R_IN Z h0 a3 (.int i3)) (O_a4 : R_ND Z h0 a4 (.ref a5) (.ref a6) (.ref a7) .null .null (.int 1)) (O_a5 : R_IN Z h0 a5 (.int i4)) (O_a7 : R_ND Z h0 a7 (.ref a8) (.ref a9) .null .null (.ref a4) (.int (-2147483648))) (O_a8 : R_IN Z h0 a8 (.int i5)) (ne_a1_a4 : a1 ≠ a4) (ne_a2_a4 : a2 ≠ a4) (ne_a3_a4 : a3 ≠ a4) (ne_a4_a5 : a4 ≠ a5) (ne_a4_a7 : a4 ≠ a7) (ne_a4_a8 : a4 ≠ a8) (g_a4 : n0 ≤ a4) (hk0 : ¬ (i2 < i4)) (hk1 : i2 = i4) :
    Ctr l Y19 prog_7_method_8_code 4 (some (FieldType.object "java/lang/Object")) [] ({ frames := 5, cells := 0, slots := 0, locals := 79 } : Room) Z #[(.ref a1), (.ref a2), (.ref a3)] h0 (fun v h L => v = some (.ref a6) ∧ Fr n0 L ∧ Keep h0 h [a4] ∧ R_ND Z h a4 (.ref a5) (.ref a3) (.ref a7) .null .null (.int 1)) := by
  refine own_enter pn_2 (fun p e s m below meth c s₁ hx hby hml hown hnm hret hlk hZ X0 e0 => ?_)
  have N0 := Fr.nil n0
  have K0 := Keep.refl h0 [a4]
  rw [ef_6_RRR m _ _ _]
  show Go p e below (s₁.setTop (mkF m 0 #[vr a1, vr a2, vr a3, vu] [])) _
  refine g_aloadN X0 hx (hb hby d6_0) rfl rfl ?_
  refine g_aloadN X0 hx (hb hby d6_1) rfl rfl ?_
  refine g_aloadN X0 hx (hb hby d6_2) rfl rfl ?_
  refine g_call (own_callPH X0 hx hZ (y := Y18) hown (Wd31 hw) (Wd32 hw) (Wd33 hw) (Wd1 hw) (Wd34 hw) (Wd2 hw) (by decide) (rm_addIfAbsent_99 l Z a0 hw a1 a2 a3 a4 i1 i2 i3 a5 a6 a7 i4 a8 a9 i5 h0 n0 Z0 O_a1 O_a2 O_a3 O_a4 O_a5 O_a7 O_a8 hk0 hk1) e0 O_a1.1 pd_15 (hb hby d6_3) (by rw [hml]; rfl) (argsL := [(.ref a2), (.ref a3)]) (rest := []) rfl rfl rfl (W := 0) (Nat.le_of_eq rfl) (by decide)) (fun v1 T1 L1 X1 q1 => ?_)
  obtain ⟨rfl, M1, e1⟩ := q1
  have N1 := Fr.app N0 M1
  refine g_astoreN X1 hx #[vr a1, vr a2, vr a3, vr a4] (hb hby d6_6) rfl rfl ?_
  refine g_aloadN X1 hx (hb hby d6_7) rfl rfl ?_
  refine g_nonnullYes X1 hx 15 (hb hby d6_8) (by decide) (by decide) ?_
  refine g_aloadN X1 hx (hb hby d6_15) rfl rfl ?_
  refine g_aloadN X1 hx (hb hby d6_16) rfl rfl ?_
  refine g_aloadN X1 hx (hb hby d6_17) rfl rfl ?_
  refine g_call (own_callV X1 hx hZ (y := Y28) hown (Wd193 hw) (Wd194 hw) (Wd196 hw) (Wd195 hw) (Wd197 hw) (Wd2 hw) (by decide) (rm_replaceValue_100 l Z a0 hw a1 a4 a3 i1 i3 a5 a6 a7 h0 n0 Z0 O_a1 O_a3 O_a4 ne_a1_a4 ne_a3_a4 g_a4) e1 O_a1.1 pd_21 (hb hby d6_18) (by rw [hml]; rfl) (argsL := [(.ref a4), (.ref a3)]) (rest := []) rfl rfl rfl (W := 0) (Nat.le_of_eq rfl) (by decide)) (fun v2 T2 L2 X2 q2 => ?_)
  obtain ⟨rfl, M2, Kc2, Rk2_0⟩ := q2
  have N2 := Fr.app N1 M2
  have O_a1_2 := R_MP_keep O_a1 Kc2 (own_nin ne_a1_a4 List.not_mem_nil)
  have O_a2_2 := R_IN_keep O_a2 Kc2 (own_nin ne_a2_a4 List.not_mem_nil)
  have O_a3_2 := R_IN_keep O_a3 Kc2 (own_nin ne_a3_a4 List.not_mem_nil)
  have O_a5_2 := R_IN_keep O_a5 Kc2 (own_nin (Ne.symm ne_a4_a5) List.not_mem_nil)
  have O_a7_2 := R_ND_keep O_a7 Kc2 (own_nin (Ne.symm ne_a4_a7) List.not_mem_nil)
  have O_a8_2 := R_IN_keep O_a8 Kc2 (own_nin (Ne.symm ne_a4_a8) List.not_mem_nil)
  have K2 := Keep.trans K0 Kc2 (own_memc (Or.inl (List.mem_of_getElem? (i := 0) rfl)) own_memn)
  have Z2 : n0 ≤ T2.heap.size := Nat.le_trans Z0 Kc2.1
  exact own_retA X2 hx hret hlk rfl rfl (hb hby d6_21) (by decide) (by decide) (by rw [(rfl : T2.heap = T2.heap)]; exact ⟨rfl, N2, K2, Rk2_0⟩)
theorem rm_balanceAfterInsert_104 (l : Launch) (Z : State) (a0 : Array Value) (hw : HW a0 Z) (a1 : Addr) (a2 : Addr) (a3 : Addr) (i1 : Int32) (a4 : Addr) (a5 : Addr) (a6 : Addr) (a7 : Addr) (a8 : Addr) (i2 : Int32) (i3 : Int32) (i4 : Int32) (a9 : Addr) (a10 : Addr) (i5 : Int32) (h0 : Heap) (n0 : Nat) (Z0 : n0 ≤ h0.size) (O_a1 : R_MP Z h0 a1 .null (.ref a3) (.int 3) (.int i1)) (O_a2 : R_ND Z h0 a2 (.ref a4) (.ref a5) .null .null (.ref a3) (.int (-2147483648))) (O_a3 : R_ND Z h0 a3 (.ref a6) (.ref a7) (.ref a8) (.ref a2) .null (.int 1)) (O_a4 : R_IN Z h0 a4 (.int i2)) (O_a5 : R_IN Z h0 a5 (.int i3)) (O_a6 : R_IN Z h0 a6 (.int i4)) (O_a8 : R_ND Z h0 a8 (.ref a9) (.ref a10) .null .null (.ref a3) (.int (-2147483648))) (O_a9 : R_IN Z h0 a9 (.int i5)) (ne_a1_a3 : a1 ≠ a3) (ne_a2_a3 : a2 ≠ a3) (ne_a3_a4 : a3 ≠ a4) (ne_a3_a5 : a3 ≠ a5) (ne_a3_a6 : a3 ≠ a6) (ne_a3_a8 : a3 ≠ a8) (ne_a3_a9 : a3 ≠ a9) (g_a3 : n0 ≤ a3) (hk0 : ¬ (i2 < i4)) (hk1 : ¬ (i2 = i4)) :
    Ctr l Y25 prog_7_method_90_code 6 none [] ({ frames := 1, cells := 0, slots := 0, locals := 13 } : Room) Z #[(.ref a1), (.ref a2)] h0 (fun v h L => v = none ∧ Fr n0 L ∧ Keep h0 h [a3] ∧ R_ND Z h a3 (.ref a6) (.ref a7) (.ref a8) (.ref a2) .null (.int 1)) := by
  refine own_enter pn_2 (fun p e s m below meth c s₁ hx hby hml hown hnm hret hlk hZ X0 e0 => ?_)
  have N0 := Fr.nil n0
  have K0 := Keep.refl h0 [a3]
  rw [ef_16_RR m _ _]
  show Go p e below (s₁.setTop (mkF m 0 #[vr a1, vr a2, vu, vu, vu, vu] [])) _
  refine g_aloadN X0 hx (hb hby d16_0) rfl rfl ?_
  refine g_astoreN X0 hx #[vr a1, vr a2, vr a2, vu, vu, vu] (hb hby d16_1) rfl rfl ?_
  refine g_aloadN X0 hx (hb hby d16_2) rfl rfl ?_
  refine g_getF X0 hx hZ hown (Wd111 hw) e0 O_a2.2.2.2.2.2.1 (hb hby d16_3) (fun T1 X1 e1 => ?_)
  refine g_call (own_callS X1 hx hZ (y := Y24) hown (Wd112 hw) (Wd113 hw) (Wd2 hw) (Wd114 hw) (by decide) (rm_isRed_77 l Z a0 hw a3 a6 a7 a8 a2 h0 n0 Z0 O_a3) e1 pd_19 (hb hby d16_6) (by rw [hml]; rfl) (argsL := [(.ref a3)]) (rest := []) rfl rfl rfl (W := 0) (Nat.le_of_eq rfl) (by decide)) (fun v2 T2 L2 X2 q2 => ?_)
  obtain ⟨rfl, M2, e2⟩ := q2
  have N2 := Fr.app N0 M2
  refine g_ifYes X2 hx 188 (hb hby d16_9) ((if0 _ _).trans (teq ((by decide) : (0 : Int32) = (0 : Int32))).1) (by decide) (by decide) ?_
  refine g_aloadN X2 hx (hb hby d16_188) rfl rfl ?_
  refine g_getF X2 hx hZ hown (Wd35 hw) e2 O_a1.2.2.1 (hb hby d16_189) (fun T3 X3 e3 => ?_)
  refine g_iconst X3 hx (0 : Int32) (hb hby d16_192) (by decide) ?_
  refine g_call (own_callS X3 hx hZ (y := Y17) hown (Wd85 hw) (Wd86 hw) (Wd2 hw) (Wd87 hw) (by decide) (rm_setRed_78 l Z a0 hw a3 a6 a7 a8 a2 h0 n0 Z0 O_a3 g_a3) e3 pd_14 (hb hby d16_193) (by rw [hml]; rfl) (argsL := [(.ref a3), (.int 0)]) (rest := []) rfl rfl rfl (W := 0) (Nat.le_of_eq rfl) (by decide)) (fun v4 T4 L4 X4 q4 => ?_)
  obtain ⟨rfl, M4, Kc4, Rk4_0⟩ := q4
  have N4 := Fr.app N2 M4
  have O_a1_4 := R_MP_keep O_a1 Kc4 (own_nin ne_a1_a3 List.not_mem_nil)
  have O_a2_4 := R_ND_keep O_a2 Kc4 (own_nin ne_a2_a3 List.not_mem_nil)
  have O_a4_4 := R_IN_keep O_a4 Kc4 (own_nin (Ne.symm ne_a3_a4) List.not_mem_nil)
  have O_a5_4 := R_IN_keep O_a5 Kc4 (own_nin (Ne.symm ne_a3_a5) List.not_mem_nil)
  have O_a6_4 := R_IN_keep O_a6 Kc4 (own_nin (Ne.symm ne_a3_a6) List.not_mem_nil)
  have O_a8_4 := R_ND_keep O_a8 Kc4 (own_nin (Ne.symm ne_a3_a8) List.not_mem_nil)
  have O_a9_4 := R_IN_keep O_a9 Kc4 (own_nin (Ne.symm ne_a3_a9) List.not_mem_nil)
  have K4 := Keep.trans K0 Kc4 (own_memc (Or.inl (List.mem_of_getElem? (i := 0) rfl)) own_memn)
  have Z4 : n0 ≤ T4.heap.size := Nat.le_trans Z0 Kc4.1
  exact own_retV X4 hx hret hlk (hb hby d16_196) (by decide) (by decide) (by rw [(rfl : T4.heap = T4.heap)]; exact ⟨rfl, N4, K4, Rk4_0⟩)
theorem rm_addIfAbsent_103 (l : Launch) (Z : State) (a0 : Array Value) (hw : HW a0 Z) (a1 : Addr) (a2 : Addr) (a3 : Addr) (a4 : Addr) (i1 : Int32) (i2 : Int32) (i3 : Int32) (a5 : Addr) (a6 : Addr) (a7 : Addr) (i4 : Int32) (a8 : Addr) (a9 : Addr) (i5 : Int32) (h0 : Heap) (n0 : Nat) (Z0 : n0 ≤ h0.size) (O_a1 : R_MP Z h0 a1 .null (.ref a4) (.int 2) (.int i1)) (O_a2 : R_IN Z h0 a2 (.int i2)) (O_a3 : R_IN Z h0 a3 (.int i3)) (O_a4 : R_ND Z h0 a4 (.ref a5) (.ref a6) (.ref a7) .null .null (.int 1)) (O_a5 : R_IN Z h0 a5 (.int i4)) (O_a7 : R_ND Z h0 a7 (.ref a8) (.ref a9) .null .null (.ref a4) (.int (-2147483648))) (O_a8 : R_IN Z h0 a8 (.int i5)) (ne_a1_a2 : a1 ≠ a2) (ne_a1_a3 : a1 ≠ a3) (ne_a1_a4 : a1 ≠ a4) (ne_a1_a5 : a1 ≠ a5) (ne_a1_a7 : a1 ≠ a7) (ne_a1_a8 : a1 ≠ a8) (ne_a2_a4 : a2 ≠ a4) (ne_a3_a4 : a3 ≠ a4) (ne_a4_a5 : a4 ≠ a5) (ne_a4_a7 : a4 ≠ a7) (ne_a4_a8 : a4 ≠ a8) (g_a1 : n0 ≤ a1) (g_a4 : n0 ≤ a4) (hk0 : ¬ (i2 < i4)) (hk1 : ¬ (i2 = i4)) :
    CtrH l Y18 prog_7_method_65_code 15 (some (FieldType.object "com/example/rosewood/rosewood/RosewoodMap$Node")) [(71, 122, 210, 0), (137, 195, 210, 0), (210, 212, 210, 0)] ({ frames := 4, cells := 1, slots := 6, locals := 53 } : Room) Z #[(.ref a1), (.ref a2), (.ref a3)] h0 (fun v h L => ∃ f1, v = some .null ∧ Fr n0 L ∧ Keep h0 h [a1, a4] ∧ h0.size ≤ f1 ∧ R_MP Z h a1 .null (.ref a4) (.int 3) (.int (i1 + (1 : Int32))) ∧ R_ND Z h a4 (.ref a5) (.ref a6) (.ref a7) (.ref f1) .null (.int 1) ∧ R_ND Z h f1 (.ref a2) (.ref a3) .null .null (.ref a4) (.int (-2147483648))) := by
  refine own_enterH pn_2 (fun p e s m below meth c s₁ hx hby hml hown hnm hret hlk hZ X0 e0 => ?_)
  have N0 := Fr.nil n0
  have K0 := Keep.refl h0 [a1, a4]
  rw [ef_38_RRR m _ _ _]
  show Go p e below (s₁.setTop (mkF m 0 #[vr a1, vr a2, vr a3, vu, vu, vu, vu, vu, vu, vu, vu, vu, vu, vu, vu] [])) _
  refine g_aloadN X0 hx (hb hby d38_0) rfl rfl ?_
  refine g_getF X0 hx hZ hown (Wd35 hw) e0 O_a1.2.2.1 (hb hby d38_1) (fun T1 X1 e1 => ?_)
  refine g_nonnullYes X1 hx 50 (hb hby d38_4) (by decide) (by decide) ?_
  refine g_null X1 hx (hb hby d38_50) ?_
  refine g_astoreN X1 hx #[vr a1, vr a2, vr a3, vn, vu, vu, vu, vu, vu, vu, vu, vu, vu, vu, vu] (hb hby d38_51) rfl rfl ?_
  refine g_iconst X1 hx (0 : Int32) (hb hby d38_52) (by decide) ?_
  refine g_istore X1 hx #[vr a1, vr a2, vr a3, vn, vi 0, vu, vu, vu, vu, vu, vu, vu, vu, vu, vu] (hb hby d38_53) rfl ?_
  refine g_aloadN X1 hx (hb hby d38_55) rfl rfl ?_
  refine g_getF X1 hx hZ hown (Wd35 hw) e1 O_a1.2.2.1 (hb hby d38_56) (fun T2 X2 e2 => ?_)
  refine g_astore X2 hx #[vr a1, vr a2, vr a3, vn, vi 0, vr a4, vu, vu, vu, vu, vu, vu, vu, vu, vu] (hb hby d38_59) rfl rfl ?_
  refine g_aload X2 hx (hb hby d38_61) rfl rfl ?_
  refine g_getF X2 hx hZ hown (Wd94 hw) e2 O_a4.2.1 (hb hby d38_63) (fun T3 X3 e3 => ?_)
  refine g_astore X3 hx #[vr a1, vr a2, vr a3, vn, vi 0, vr a4, vr a5, vu, vu, vu, vu, vu, vu, vu, vu] (hb hby d38_66) rfl rfl ?_
  refine g_null X3 hx (hb hby d38_68) ?_
  refine g_astore X3 hx #[vr a1, vr a2, vr a3, vn, vi 0, vr a4, vr a5, vn, vu, vu, vu, vu, vu, vu, vu] (hb hby d38_69) rfl rfl ?_
  refine g_aload X3 hx (hb hby d38_71) rfl rfl ?_
  refine g_nullNo X3 hx (hb hby d38_73) ?_
  refine g_aload X3 hx (hb hby d38_76) rfl rfl ?_
  refine g_getF X3 hx hZ hown (Wd95 hw) e3 O_a4.2.2.2.1 (hb hby d38_78) (fun T4 X4 e4 => ?_)
  refine g_astore X4 hx #[vr a1, vr a2, vr a3, vn, vi 0, vr a4, vr a5, vn, vr a7, vu, vu, vu, vu, vu, vu] (hb hby d38_81) rfl rfl ?_
  refine g_aload X4 hx (hb hby d38_83) rfl rfl ?_
  refine g_getF X4 hx hZ hown (Wd97 hw) e4 O_a4.2.2.2.2.1 (hb hby d38_85) (fun T5 X5 e5 => ?_)
  refine g_astore X5 hx #[vr a1, vr a2, vr a3, vn, vi 0, vr a4, vr a5, vn, vr a7, vn, vu, vu, vu, vu, vu] (hb hby d38_88) rfl rfl ?_
  refine g_aload X5 hx (hb hby d38_90) rfl rfl ?_
  refine g_call (own_callS X5 hx hZ (y := Y7) hown (Wd99 hw) (Wd100 hw) (Wd2 hw) (Wd101 hw) (by decide) (rm_keyOf_63 l Z a0 hw a7 a8 a9 a4 h0 n0 Z0 O_a7) e5 pd_6 (hb hby d38_92) (by rw [hml]; rfl) (argsL := [(.ref a7)]) (rest := []) rfl rfl rfl (W := 0) (Nat.le_of_eq rfl) (by decide)) (fun v6 T6 L6 X6 q6 => ?_)
  obtain ⟨rfl, M6, e6⟩ := q6
  have N6 := Fr.app N0 M6
  refine g_astore X6 hx #[vr a1, vr a2, vr a3, vn, vi 0, vr a4, vr a5, vn, vr a7, vn, vr a8, vu, vu, vu, vu] (hb hby d38_95) rfl rfl ?_
  refine g_aload X6 hx (hb hby d38_97) rfl rfl ?_
  refine g_call (own_callS X6 hx hZ (y := Y7) hown (Wd99 hw) (Wd100 hw) (Wd2 hw) (Wd101 hw) (by decide) (rm_keyOf_9 l Z a0 hw  h0 n0 Z0 ) e6 pd_6 (hb hby d38_99) (by rw [hml]; rfl) (argsL := [.null]) (rest := []) rfl rfl rfl (W := 0) (Nat.le_of_eq rfl) (by decide)) (fun v7 T7 L7 X7 q7 => ?_)
  obtain ⟨rfl, M7, e7⟩ := q7
  have N7 := Fr.app N6 M7
  refine g_astore X7 hx #[vr a1, vr a2, vr a3, vn, vi 0, vr a4, vr a5, vn, vr a7, vn, vr a8, vn, vu, vu, vu] (hb hby d38_102) rfl rfl ?_
  refine g_aloadN X7 hx (hb hby d38_104) rfl rfl ?_
  refine g_aloadN X7 hx (hb hby d38_105) rfl rfl ?_
  refine g_aload X7 hx (hb hby d38_106) rfl rfl ?_
  refine g_call (own_callV X7 hx hZ (y := Y13) hown (Wd37 hw) (Wd38 hw) (Wd40 hw) (Wd39 hw) (Wd41 hw) (Wd2 hw) (by decide) (rm_compare_89 l Z a0 hw a1 a2 a5 a4 i1 i2 i4 h0 n0 Z0 O_a1 O_a2 O_a5 hk0 hk1) e7 O_a1.1 pd_11 (hb hby d38_108) (by rw [hml]; rfl) (argsL := [(.ref a2), (.ref a5)]) (rest := []) rfl rfl rfl (W := 0) (Nat.le_of_eq rfl) (by decide)) (fun v8 T8 L8 X8 q8 => ?_)
  obtain ⟨rfl, M8, e8⟩ := q8
  have N8 := Fr.app N7 M8
  refine g_istore X8 hx #[vr a1, vr a2, vr a3, vn, vi 0, vr a4, vr a5, vn, vr a7, vn, vr a8, vn, vi 1, vu, vu] (hb hby d38_111) rfl ?_
  refine g_iload X8 hx (hb hby d38_113) rfl ?_
  refine g_ifYes X8 hx 137 (hb hby d38_115) ((if0 _ _).trans (feq ((by decide) : ¬ ((1 : Int32) = (0 : Int32)))).2) (by decide) (by decide) ?_
  refine g_aload X8 hx (hb hby d38_137) rfl rfl ?_
  refine g_astoreN X8 hx #[vr a1, vr a2, vr a3, vr a4, vi 0, vr a4, vr a5, vn, vr a7, vn, vr a8, vn, vi 1, vu, vu] (hb hby d38_139) rfl rfl ?_
  refine g_iload X8 hx (hb hby d38_140) rfl ?_
  refine g_istore X8 hx #[vr a1, vr a2, vr a3, vr a4, vi 1, vr a4, vr a5, vn, vr a7, vn, vr a8, vn, vi 1, vu, vu] (hb hby d38_142) rfl ?_
  refine g_iload X8 hx (hb hby d38_144) rfl ?_
  refine g_ifYes X8 hx 155 (hb hby d38_146) ((if0 _ _).trans (flt ((by decide) : ¬ ((1 : Int32) < (0 : Int32)))).2.1) (by decide) (by decide) ?_
  refine g_iload X8 hx (hb hby d38_155) rfl ?_
  refine g_ifYes X8 hx 165 (hb hby d38_157) ((if0 _ _).trans (flt ((by decide) : ¬ ((1 : Int32) < (0 : Int32)))).2.1) (by decide) (by decide) ?_
  refine g_aload X8 hx (hb hby d38_165) rfl rfl ?_
  refine g_astore X8 hx #[vr a1, vr a2, vr a3, vr a4, vi 1, vn, vr a5, vn, vr a7, vn, vr a8, vn, vi 1, vu, vu] (hb hby d38_167) rfl rfl ?_
  refine g_iload X8 hx (hb hby d38_169) rfl ?_
  refine g_ifYes X8 hx 179 (hb hby d38_171) ((if0 _ _).trans (flt ((by decide) : ¬ ((1 : Int32) < (0 : Int32)))).2.1) (by decide) (by decide) ?_
  refine g_aload X8 hx (hb hby d38_179) rfl rfl ?_
  refine g_astore X8 hx #[vr a1, vr a2, vr a3, vr a4, vi 1, vn, vn, vn, vr a7, vn, vr a8, vn, vi 1, vu, vu] (hb hby d38_181) rfl rfl ?_
  refine g_goto X8 hx 71 (hb hby d38_183) (by decide) (by decide) ?_
  refine g_aload X8 hx (hb hby d38_71) rfl rfl ?_
  refine g_nullYes X8 hx 186 (hb hby d38_73) (by decide) (by decide) ?_
  refine g_aloadN X8 hx (hb hby d38_186) rfl rfl ?_
  refine g_aloadN X8 hx (hb hby d38_187) rfl rfl ?_
  refine g_aloadN X8 hx (hb hby d38_188) rfl rfl ?_
  refine g_aloadN X8 hx (hb hby d38_189) rfl rfl ?_
  refine g_call (own_callV X8 hx hZ (y := Y16) hown (Wd64 hw) (Wd65 hw) (Wd67 hw) (Wd66 hw) (Wd68 hw) (Wd2 hw) (by decide) (rm_newNode_37 l Z a0 hw a1 a2 a3 a4 h0 n0 Z0 ) e8 O_a1.1 pd_13 (hb hby d38_190) (by rw [hml]; rfl) (argsL := [(.ref a2), (.ref a3), (.ref a4)]) (rest := []) rfl rfl rfl (W := 0) (Nat.le_of_eq rfl) (by decide)) (fun v9 T9 L9 X9 q9 => ?_)
  obtain ⟨b9_0, rfl, M9, Kc9, zb9_0, Rk9_0⟩ := q9
  have N9 := Fr.app N8 M9
  have ne_a1_b9_0 : a1 ≠ b9_0 := Nat.ne_of_lt (Nat.lt_of_lt_of_le O_a1.1.lt zb9_0)
  have ne_a2_b9_0 : a2 ≠ b9_0 := Nat.ne_of_lt (Nat.lt_of_lt_of_le O_a2.1.lt zb9_0)
  have ne_a3_b9_0 : a3 ≠ b9_0 := Nat.ne_of_lt (Nat.lt_of_lt_of_le O_a3.1.lt zb9_0)
  have ne_a4_b9_0 : a4 ≠ b9_0 := Nat.ne_of_lt (Nat.lt_of_lt_of_le O_a4.1.lt zb9_0)
  have ne_a5_b9_0 : a5 ≠ b9_0 := Nat.ne_of_lt (Nat.lt_of_lt_of_le O_a5.1.lt zb9_0)
  have ne_a7_b9_0 : a7 ≠ b9_0 := Nat.ne_of_lt (Nat.lt_of_lt_of_le O_a7.1.lt zb9_0)
  have ne_a8_b9_0 : a8 ≠ b9_0 := Nat.ne_of_lt (Nat.lt_of_lt_of_le O_a8.1.lt zb9_0)
  have g_b9_0 : n0 ≤ b9_0 := Nat.le_trans Z0 zb9_0
  have sz_b9_0 : h0.size ≤ b9_0 := Nat.le_trans K0.1 zb9_0
  have O_a1_9 := R_MP_keep O_a1 Kc9 List.not_mem_nil
  have O_a2_9 := R_IN_keep O_a2 Kc9 List.not_mem_nil
  have O_a3_9 := R_IN_keep O_a3 Kc9 List.not_mem_nil
  have O_a4_9 := R_ND_keep O_a4 Kc9 List.not_mem_nil
  have O_a5_9 := R_IN_keep O_a5 Kc9 List.not_mem_nil
  have O_a7_9 := R_ND_keep O_a7 Kc9 List.not_mem_nil
  have O_a8_9 := R_IN_keep O_a8 Kc9 List.not_mem_nil
  have K9 := Keep.trans K0 Kc9 own_memn
  have Z9 : n0 ≤ T9.heap.size := Nat.le_trans Z0 Kc9.1
  refine g_astore X9 hx #[vr a1, vr a2, vr a3, vr a4, vi 1, vn, vn, vr b9_0, vr a7, vn, vr a8, vn, vi 1, vu, vu] (hb hby d38_193) rfl rfl ?_
  refine g_aload X9 hx (hb hby d38_195) rfl rfl ?_
  refine g_nonnullYes X9 hx 227 (hb hby d38_197) (by decide) (by decide) ?_
  refine g_iload X9 hx (hb hby d38_227) rfl ?_
  refine g_ifYes X9 hx 241 (hb hby d38_229) ((if0 _ _).trans (flt ((by decide) : ¬ ((1 : Int32) < (0 : Int32)))).2.1) (by decide) (by decide) ?_
  refine g_aloadN X9 hx (hb hby d38_241) rfl rfl ?_
  refine g_aload X9 hx (hb hby d38_242) rfl rfl ?_
  refine g_putF X9 hx hZ hown (Wd97 hw) (rfl : T9.heap = T9.heap) O_a4_9.2.2.2.2.1 O_a4_9.1 (Or.inl (Wd98 hw)) (Wd70 hw) fd_2 rfl rfl (hb hby d38_244) (fun T10 h10 X10 e10 W10 => ?_)
  have N10 := Fr.snoc X10 N9 g_a4
  have O_a1_10 := R_MP_other W10 O_a1_9 ne_a1_a4
  have O_a2_10 := R_IN_other W10 O_a2_9 ne_a2_a4
  have O_a3_10 := R_IN_other W10 O_a3_9 ne_a3_a4
  have O_a4_10 := R_ND_set_right hw W10 O_a4_9
  have O_a5_10 := R_IN_other W10 O_a5_9 (Ne.symm ne_a4_a5)
  have O_a7_10 := R_ND_other W10 O_a7_9 (Ne.symm ne_a4_a7)
  have O_a8_10 := R_IN_other W10 O_a8_9 (Ne.symm ne_a4_a8)
  have O_b9_0_10 := R_ND_other W10 Rk9_0 (Ne.symm ne_a4_b9_0)
  have Z10 : n0 ≤ h10.size := Nat.le_trans Z9 (Nat.le_of_eq W10.size.symm)
  have K10 := Keep.wr K9 W10 (Or.inl (List.mem_of_getElem? (i := 1) rfl))
  refine g_aloadN X10 hx (hb hby d38_247) rfl rfl ?_
  refine g_dup X10 hx (hb hby d38_248) rfl ?_
  refine g_getF X10 hx hZ hown (Wd90 hw) e10 O_a1_10.2.2.2.1 (hb hby d38_249) (fun T11 X11 e11 => ?_)
  refine g_iconst X11 hx (1 : Int32) (hb hby d38_252) (by decide) ?_
  refine g_iadd X11 hx (hb hby d38_253) ?_
  show Go p e below (T11.setTop (mkF m 254 #[vr a1, vr a2, vr a3, vr a4, vi 1, vn, vn, vr b9_0, vr a7, vn, vr a8, vn, vi 1, vu, vu] [(.int ((2 : Int32) + (1 : Int32))), (.ref a1)])) _
  rw [show ((2 : Int32) + (1 : Int32)) = (3 : Int32) from by decide]
  refine g_putF X11 hx hZ hown (Wd90 hw) e11 O_a1_10.2.2.2.1 O_a1_10.1 (Or.inl (Wd91 hw)) (Wd1 hw) fd_0 rfl rfl (hb hby d38_254) (fun T12 h12 X12 e12 W12 => ?_)
  have N12 := Fr.snoc X12 N10 g_a1
  have O_a1_12 := R_MP_set_size hw W12 O_a1_10
  have O_a2_12 := R_IN_other W12 O_a2_10 (Ne.symm ne_a1_a2)
  have O_a3_12 := R_IN_other W12 O_a3_10 (Ne.symm ne_a1_a3)
  have O_a4_12 := R_ND_other W12 O_a4_10 (Ne.symm ne_a1_a4)
  have O_a5_12 := R_IN_other W12 O_a5_10 (Ne.symm ne_a1_a5)
  have O_a7_12 := R_ND_other W12 O_a7_10 (Ne.symm ne_a1_a7)
  have O_a8_12 := R_IN_other W12 O_a8_10 (Ne.symm ne_a1_a8)
  have O_b9_0_12 := R_ND_other W12 O_b9_0_10 (Ne.symm ne_a1_b9_0)
  have Z12 : n0 ≤ h12.size := Nat.le_trans Z10 (Nat.le_of_eq W12.size.symm)
  have K12 := Keep.wr K10 W12 (Or.inl (List.mem_of_getElem? (i := 0) rfl))
  refine g_aloadN X12 hx (hb hby d38_257) rfl rfl ?_
  refine g_aloadN X12 hx (hb hby d38_258) rfl rfl ?_
  refine g_call (own_callV X12 hx hZ (y := Y23) hown (Wd102 hw) (Wd103 hw) (Wd105 hw) (Wd104 hw) (Wd106 hw) (Wd2 hw) (by decide) (rm_refreshToRoot_39 l Z a0 hw a1 a4 h12 n0 Z12 ) e12 O_a1_12.1 pd_18 (hb hby d38_259) (by rw [hml]; rfl) (argsL := [(.ref a4)]) (rest := []) rfl rfl rfl (W := 0) (Nat.le_of_eq rfl) (by decide)) (fun v13 T13 L13 X13 q13 => ?_)
  obtain ⟨rfl, M13, e13⟩ := q13
  have N13 := Fr.app N12 M13
  refine g_aloadN X13 hx (hb hby d38_262) rfl rfl ?_
  refine g_aload X13 hx (hb hby d38_263) rfl rfl ?_
  refine g_call (own_callP X13 hx hZ (y := Y25) hown (Wd107 hw) (Wd108 hw) (Wd109 hw) (Wd1 hw) (Wd110 hw) (Wd2 hw) (by decide) (rm_balanceAfterInsert_104 l Z a0 hw a1 b9_0 a4 i1 a2 a3 a5 a6 a7 i2 i3 i4 a8 a9 i5 h12 n0 Z12 O_a1_12 O_b9_0_12 O_a4_12 O_a2_12 O_a3_12 O_a5_12 O_a7_12 O_a8_12 ne_a1_a4 (Ne.symm ne_a4_b9_0) (Ne.symm ne_a2_a4) (Ne.symm ne_a3_a4) ne_a4_a5 ne_a4_a7 ne_a4_a8 g_a4 hk0 hk1) e13 O_a1_12.1 pd_18 (hb hby d38_265) (by rw [hml]; rfl) (argsL := [(.ref b9_0)]) (rest := []) rfl rfl rfl (W := 0) (Nat.le_of_eq rfl) (by decide)) (fun v14 T14 L14 X14 q14 => ?_)
  obtain ⟨rfl, M14, Kc14, Rk14_0⟩ := q14
  have N14 := Fr.app N13 M14
  have O_a1_14 := R_MP_keep O_a1_12 Kc14 (own_nin ne_a1_a4 List.not_mem_nil)
  have O_a2_14 := R_IN_keep O_a2_12 Kc14 (own_nin ne_a2_a4 List.not_mem_nil)
  have O_a3_14 := R_IN_keep O_a3_12 Kc14 (own_nin ne_a3_a4 List.not_mem_nil)
  have O_a5_14 := R_IN_keep O_a5_12 Kc14 (own_nin (Ne.symm ne_a4_a5) List.not_mem_nil)
  have O_a7_14 := R_ND_keep O_a7_12 Kc14 (own_nin (Ne.symm ne_a4_a7) List.not_mem_nil)
  have O_a8_14 := R_IN_keep O_a8_12 Kc14 (own_nin (Ne.symm ne_a4_a8) List.not_mem_nil)
  have O_b9_0_14 := R_ND_keep O_b9_0_12 Kc14 (own_nin (Ne.symm ne_a4_b9_0) List.not_mem_nil)
  have K14 := Keep.trans K12 Kc14 (own_memc (Or.inl (List.mem_of_getElem? (i := 1) rfl)) own_memn)
  have Z14 : n0 ≤ T14.heap.size := Nat.le_trans Z12 Kc14.1
  refine g_aloadN X14 hx (hb hby d38_268) rfl rfl ?_
  refine g_dup X14 hx (hb hby d38_269) rfl ?_
  refine g_getF X14 hx hZ hown (Wd92 hw) (rfl : T14.heap = T14.heap) O_a1_14.2.2.2.2 (hb hby d38_270) (fun T15 X15 e15 => ?_)
  refine g_iconst X15 hx (1 : Int32) (hb hby d38_273) (by decide) ?_
  refine g_iadd X15 hx (hb hby d38_274) ?_
  refine g_putF X15 hx hZ hown (Wd92 hw) e15 O_a1_14.2.2.2.2 O_a1_14.1 (Or.inl (Wd93 hw)) (Wd1 hw) fd_0 rfl rfl (hb hby d38_275) (fun T16 h16 X16 e16 W16 => ?_)
  have N16 := Fr.snoc X16 N14 g_a1
  have O_a1_16 := R_MP_set_modCount hw W16 O_a1_14
  have O_a2_16 := R_IN_other W16 O_a2_14 (Ne.symm ne_a1_a2)
  have O_a3_16 := R_IN_other W16 O_a3_14 (Ne.symm ne_a1_a3)
  have O_a5_16 := R_IN_other W16 O_a5_14 (Ne.symm ne_a1_a5)
  have O_a7_16 := R_ND_other W16 O_a7_14 (Ne.symm ne_a1_a7)
  have O_a8_16 := R_IN_other W16 O_a8_14 (Ne.symm ne_a1_a8)
  have O_b9_0_16 := R_ND_other W16 O_b9_0_14 (Ne.symm ne_a1_b9_0)
  have O_a4_16 := R_ND_other W16 Rk14_0 (Ne.symm ne_a1_a4)
  have Z16 : n0 ≤ h16.size := Nat.le_trans Z14 (Nat.le_of_eq W16.size.symm)
  have K16 := Keep.wr K14 W16 (Or.inl (List.mem_of_getElem? (i := 0) rfl))
  refine g_null X16 hx (hb hby d38_278) ?_
  exact own_retA X16 hx hret hlk rfl rfl (hb hby d38_279) (by decide) (by decide) (by rw [e16]; exact ⟨b9_0, rfl, N16, K16, sz_b9_0, O_a1_16, O_a4_16, O_b9_0_16⟩)
theorem rm_put_102 (l : Launch) (Z : State) (a0 : Array Value) (hw : HW a0 Z) (a1 : Addr) (a2 : Addr) (a3 : Addr) (a4 : Addr) (i1 : Int32) (i2 : Int32) (i3 : Int32) (a5 : Addr) (a6 : Addr) (a7 : Addr) (i4 : Int32) (a8 : Addr) (a9 : Addr) (i5 : Int32) (h0 : Heap) (n0 : Nat) (Z0 : n0 ≤ h0.size) (O_a1 : R_MP Z h0 a1 .null (.ref a4) (.int 2) (.int i1)) (O_a2 : R_IN Z h0 a2 (.int i2)) (O_a3 : R_IN Z h0 a3 (.int i3)) (O_a4 : R_ND Z h0 a4 (.ref a5) (.ref a6) (.ref a7) .null .null (.int 1)) (O_a5 : R_IN Z h0 a5 (.int i4)) (O_a7 : R_ND Z h0 a7 (.ref a8) (.ref a9) .null .null (.ref a4) (.int (-2147483648))) (O_a8 : R_IN Z h0 a8 (.int i5)) (ne_a1_a2 : a1 ≠ a2) (ne_a1_a3 : a1 ≠ a3) (ne_a1_a4 : a1 ≠ a4) (ne_a1_a5 : a1 ≠ a5) (ne_a1_a7 : a1 ≠ a7) (ne_a1_a8 : a1 ≠ a8) (ne_a2_a4 : a2 ≠ a4) (ne_a3_a4 : a3 ≠ a4) (ne_a4_a5 : a4 ≠ a5) (ne_a4_a7 : a4 ≠ a7) (ne_a4_a8 : a4 ≠ a8) (g_a1 : n0 ≤ a1) (g_a4 : n0 ≤ a4) (hk0 : ¬ (i2 < i4)) (hk1 : ¬ (i2 = i4)) :
    Ctr l Y19 prog_7_method_8_code 4 (some (FieldType.object "java/lang/Object")) [] ({ frames := 5, cells := 1, slots := 6, locals := 79 } : Room) Z #[(.ref a1), (.ref a2), (.ref a3)] h0 (fun v h L => ∃ f1, v = some .null ∧ Fr n0 L ∧ Keep h0 h [a1, a4] ∧ h0.size ≤ f1 ∧ R_MP Z h a1 .null (.ref a4) (.int 3) (.int (i1 + (1 : Int32))) ∧ R_ND Z h a4 (.ref a5) (.ref a6) (.ref a7) (.ref f1) .null (.int 1) ∧ R_ND Z h f1 (.ref a2) (.ref a3) .null .null (.ref a4) (.int (-2147483648))) := by
  refine own_enter pn_2 (fun p e s m below meth c s₁ hx hby hml hown hnm hret hlk hZ X0 e0 => ?_)
  have N0 := Fr.nil n0
  have K0 := Keep.refl h0 [a1, a4]
  rw [ef_6_RRR m _ _ _]
  show Go p e below (s₁.setTop (mkF m 0 #[vr a1, vr a2, vr a3, vu] [])) _
  refine g_aloadN X0 hx (hb hby d6_0) rfl rfl ?_
  refine g_aloadN X0 hx (hb hby d6_1) rfl rfl ?_
  refine g_aloadN X0 hx (hb hby d6_2) rfl rfl ?_
  refine g_call (own_callPH X0 hx hZ (y := Y18) hown (Wd31 hw) (Wd32 hw) (Wd33 hw) (Wd1 hw) (Wd34 hw) (Wd2 hw) (by decide) (rm_addIfAbsent_103 l Z a0 hw a1 a2 a3 a4 i1 i2 i3 a5 a6 a7 i4 a8 a9 i5 h0 n0 Z0 O_a1 O_a2 O_a3 O_a4 O_a5 O_a7 O_a8 ne_a1_a2 ne_a1_a3 ne_a1_a4 ne_a1_a5 ne_a1_a7 ne_a1_a8 ne_a2_a4 ne_a3_a4 ne_a4_a5 ne_a4_a7 ne_a4_a8 g_a1 g_a4 hk0 hk1) e0 O_a1.1 pd_15 (hb hby d6_3) (by rw [hml]; rfl) (argsL := [(.ref a2), (.ref a3)]) (rest := []) rfl rfl rfl (W := 0) (Nat.le_of_eq rfl) (by decide)) (fun v1 T1 L1 X1 q1 => ?_)
  obtain ⟨b1_0, rfl, M1, Kc1, zb1_0, Rk1_0, Rk1_1, Rk1_2⟩ := q1
  have N1 := Fr.app N0 M1
  have ne_a1_b1_0 : a1 ≠ b1_0 := Nat.ne_of_lt (Nat.lt_of_lt_of_le O_a1.1.lt zb1_0)
  have ne_a2_b1_0 : a2 ≠ b1_0 := Nat.ne_of_lt (Nat.lt_of_lt_of_le O_a2.1.lt zb1_0)
  have ne_a3_b1_0 : a3 ≠ b1_0 := Nat.ne_of_lt (Nat.lt_of_lt_of_le O_a3.1.lt zb1_0)
  have ne_a4_b1_0 : a4 ≠ b1_0 := Nat.ne_of_lt (Nat.lt_of_lt_of_le O_a4.1.lt zb1_0)
  have ne_a5_b1_0 : a5 ≠ b1_0 := Nat.ne_of_lt (Nat.lt_of_lt_of_le O_a5.1.lt zb1_0)
  have ne_a7_b1_0 : a7 ≠ b1_0 := Nat.ne_of_lt (Nat.lt_of_lt_of_le O_a7.1.lt zb1_0)
  have ne_a8_b1_0 : a8 ≠ b1_0 := Nat.ne_of_lt (Nat.lt_of_lt_of_le O_a8.1.lt zb1_0)
  have g_b1_0 : n0 ≤ b1_0 := Nat.le_trans Z0 zb1_0
  have sz_b1_0 : h0.size ≤ b1_0 := Nat.le_trans K0.1 zb1_0
  have O_a2_1 := R_IN_keep O_a2 Kc1 (own_nin (Ne.symm ne_a1_a2) (own_nin ne_a2_a4 List.not_mem_nil))
  have O_a3_1 := R_IN_keep O_a3 Kc1 (own_nin (Ne.symm ne_a1_a3) (own_nin ne_a3_a4 List.not_mem_nil))
  have O_a5_1 := R_IN_keep O_a5 Kc1 (own_nin (Ne.symm ne_a1_a5) (own_nin (Ne.symm ne_a4_a5) List.not_mem_nil))
  have O_a7_1 := R_ND_keep O_a7 Kc1 (own_nin (Ne.symm ne_a1_a7) (own_nin (Ne.symm ne_a4_a7) List.not_mem_nil))
  have O_a8_1 := R_IN_keep O_a8 Kc1 (own_nin (Ne.symm ne_a1_a8) (own_nin (Ne.symm ne_a4_a8) List.not_mem_nil))
  have K1 := Keep.trans K0 Kc1 (own_memc (Or.inl (List.mem_of_getElem? (i := 0) rfl)) (own_memc (Or.inl (List.mem_of_getElem? (i := 1) rfl)) own_memn))
  have Z1 : n0 ≤ T1.heap.size := Nat.le_trans Z0 Kc1.1
  refine g_astoreN X1 hx #[vr a1, vr a2, vr a3, vn] (hb hby d6_6) rfl rfl ?_
  refine g_aloadN X1 hx (hb hby d6_7) rfl rfl ?_
  refine g_nonnullNo X1 hx (hb hby d6_8) ?_
  refine g_null X1 hx (hb hby d6_11) ?_
  refine g_goto X1 hx 21 (hb hby d6_12) (by decide) (by decide) ?_
  exact own_retA X1 hx hret hlk rfl rfl (hb hby d6_21) (by decide) (by decide) (by rw [(rfl : T1.heap = T1.heap)]; exact ⟨b1_0, rfl, N1, K1, sz_b1_0, Rk1_0, Rk1_1, Rk1_2⟩)
theorem seg_57_2L (l : Launch) (Z : State) (a0 : Array Value) (hw : HW a0 Z) (wc : Addr) (clc : Cell) (p1 : Int32) (p2 : Int32) (p3 : Int32) (p4 : Int32) (p5 : Int32) (p6 : Int32) (n : Int32) (M : Addr) (mc : Int32) (r : Addr) (t : Addr) (kx : Addr) (vx : Addr) (x : Int32) (ky : Addr) (vy : Addr) (y : Int32) (h0 : Heap) (n0 : Nat) (Z0 : n0 ≤ h0.size) (hN : Z.heap.size ≤ n0) (C1 : Sta Z Z.heap "java/lang/Integer$IntegerCache" "high" "I" (.int 127)) (C2 : Sta Z Z.heap "java/lang/Integer$IntegerCache" "cache" "[Ljava/lang/Integer;" (.ref wc)) (BX : Bxs Z wc clc "java/lang/Integer" "I" (256 : Int32) (fun j => .int (j - (128 : Int32)))) (KO : Keep Z.heap h0 []) (O_M : R_MP Z h0 M .null (.ref r) (.int 2) (.int mc)) (O_r : R_ND Z h0 r (.ref kx) (.ref vx) (.ref t) .null .null (.int 1)) (O_t : R_ND Z h0 t (.ref ky) (.ref vy) .null .null (.ref r) (.int (-2147483648))) (O_kx : R_IN Z h0 kx (.int x)) (O_ky : R_IN Z h0 ky (.int y)) (ne_M_r : M ≠ r) (ne_M_t : M ≠ t) (ne_M_kx : M ≠ kx) (ne_M_ky : M ≠ ky) (ne_r_t : r ≠ t) (ne_r_kx : r ≠ kx) (ne_r_ky : r ≠ ky) (ne_t_kx : t ≠ kx) (ne_t_ky : t ≠ ky) (g_M : n0 ≤ M) (g_r : n0 ≤ r) (g_t : n0 ≤ t) {p : Program} {e : Env} {s : State} {m : MethodId} {below : List Frame} {meth : Method} {c : Code} {args : Array Value} {s₁ : State} {lo : List Loc} (hx : p.tables.exec = Jvm.exec) (hby : c.code = code) (hml : c.maxLocals = maxLocals) (hown : s.vm.findClass "com/example/rosewood/rosewood/RosewoodMapClearPinLaw" = some m.cls) (hnm : meth.name = "law") (hret : meth.sig.returnType = ret) (hlk : meth.locks = false) (hZ : Z.Warmed39 s.vm) (X0 : Stand p l e room_1 s m args below meth c s₁ lo 7 23) (e0 : s₁.heap = h0) (N0 : Fr n0 lo) :
    Go p e below (s₁.setTop (mkF m 57 #[vi p1, vi p2, vi p3, vi p4, vi p5, vi p6, vi n, vr M, vu, vu, vu, vu, vu] [])) (FinE s room_1.cells room_1.slots (fun v h L => v = some (.int 1) ∧ Fr n0 L)) := by
  show Go p e below (s₁.setTop (mkF m 57 #[vi p1, vi p2, vi p3, vi p4, vi p5, vi p6, vi n, vr M, vu, vu, vu, vu, vu] [])) _
  refine g_iload X0 hx (hb hby at_57) rfl ?_
  refine g_iconst X0 hx (3 : Int32) (hb hby at_59) (by decide) ?_
  by_cases c60_1 : n < (3 : Int32)
  · refine g_icmpYes X0 hx 78 (hb hby at_60) (tlt c60_1).1 (by decide) (by decide) ?_
    show Go p e below (s₁.setTop (mkF m 78 #[vi p1, vi p2, vi p3, vi p4, vi p5, vi p6, vi n, vr M, vu, vu, vu, vu, vu] [])) _
    exact seg_78_N l Z a0 hw wc clc p1 p2 p3 p4 p5 p6 n M mc r (2 : Int32) h0 n0 Z0 hN C1 C2 BX KO O_M g_M hx hby hml hown hnm hret hlk hZ (Stand.more X0 (by decide) (by decide)) e0 N0
  · refine g_icmpNo X0 hx (hb hby at_60) (flt c60_1).1 ?_
    show Go p e below (s₁.setTop (mkF m 63 #[vi p1, vi p2, vi p3, vi p4, vi p5, vi p6, vi n, vr M, vu, vu, vu, vu, vu] [])) _
    rcases own_tri p3 x with t63_2 | ⟨t63_2, t63_2'⟩ | ⟨t63_2, t63_2'⟩
    · refine g_aload X0 hx (hb hby at_63) rfl rfl ?_
      show Go p e below (s₁.setTop (mkF m 65 #[vi p1, vi p2, vi p3, vi p4, vi p5, vi p6, vi n, vr M, vu, vu, vu, vu, vu] [(.ref M)])) _
      rcases own_tri p3 y with t65_3 | ⟨t65_3, t65_3'⟩ | ⟨t65_3, t65_3'⟩
      · refine g_iloadN X0 hx (hb hby at_65) rfl ?_
        refine g_call (own_callS X0 hx hZ (y := Y2) hown (Wd19 hw) (Wd20 hw) (Wd21 hw) (Wd22 hw) (by decide) (rm_valueOf l Z a0 hw wc clc p3 h0 n0 Z0 hN C1 C2 BX KO) e0 pd_4 (hb hby at_66) (by rw [hml]; rfl) (argsL := [(.int p3)]) (rest := [(.ref M)]) rfl rfl rfl (W := 1) (Nat.le_of_eq rfl) (by decide)) (fun v4 T4 L4 X4 q4 => ?_)
        obtain ⟨b4, rfl, M4, Kc4, O4⟩ := q4
        have N4 := Fr.app N0 M4
        have O_M_4 := R_MP_keep O_M Kc4 List.not_mem_nil
        have O_r_4 := R_ND_keep O_r Kc4 List.not_mem_nil
        have O_t_4 := R_ND_keep O_t Kc4 List.not_mem_nil
        have O_kx_4 := R_IN_keep O_kx Kc4 List.not_mem_nil
        have O_ky_4 := R_IN_keep O_ky Kc4 List.not_mem_nil
        have KO_4 := Keep.trans KO Kc4 own_memn
        have ne_M_b4 : M ≠ b4 := own_exane O_M_4.1 O4.1 (by decide)
        have ne_r_b4 : r ≠ b4 := own_exane O_r_4.1 O4.1 (by decide)
        have ne_t_b4 : t ≠ b4 := own_exane O_t_4.1 O4.1 (by decide)
        have Z4 : n0 ≤ T4.heap.size := Nat.le_trans Z0 Kc4.1
        refine g_iload X4 hx (hb hby at_69) rfl ?_
        refine g_call (own_callS X4 hx hZ (y := Y2) hown (Wd19 hw) (Wd20 hw) (Wd21 hw) (Wd22 hw) (by decide) (rm_valueOf l Z a0 hw wc clc p5 T4.heap n0 Z4 hN C1 C2 BX KO_4) (rfl : T4.heap = T4.heap) pd_4 (hb hby at_71) (by rw [hml]; rfl) (argsL := [(.int p5)]) (rest := [(.ref b4), (.ref M)]) rfl rfl rfl (W := 2) (Nat.le_of_eq rfl) (by decide)) (fun v5 T5 L5 X5 q5 => ?_)
        obtain ⟨b5, rfl, M5, Kc5, O5⟩ := q5
        have N5 := Fr.app N4 M5
        have O_M_5 := R_MP_keep O_M_4 Kc5 List.not_mem_nil
        have O_r_5 := R_ND_keep O_r_4 Kc5 List.not_mem_nil
        have O_t_5 := R_ND_keep O_t_4 Kc5 List.not_mem_nil
        have O_kx_5 := R_IN_keep O_kx_4 Kc5 List.not_mem_nil
        have O_ky_5 := R_IN_keep O_ky_4 Kc5 List.not_mem_nil
        have KO_5 := Keep.trans KO_4 Kc5 own_memn
        have O_b4_5 := R_IN_keep O4 Kc5 List.not_mem_nil
        have ne_M_b5 : M ≠ b5 := own_exane O_M_5.1 O5.1 (by decide)
        have ne_r_b5 : r ≠ b5 := own_exane O_r_5.1 O5.1 (by decide)
        have ne_t_b5 : t ≠ b5 := own_exane O_t_5.1 O5.1 (by decide)
        have Z5 : n0 ≤ T5.heap.size := Nat.le_trans Z4 Kc5.1
        refine g_call (own_callV X5 hx hZ (y := Y19) hown (Wd26 hw) (Wd27 hw) (Wd29 hw) (Wd28 hw) (Wd30 hw) (Wd2 hw) (by decide) (rm_put_61 l Z a0 hw M b4 b5 r mc p3 p5 kx vx t x ky vy y T5.heap n0 Z5 O_M_5 O_b4_5 O5 O_r_5 O_kx_5 O_t_5 O_ky_5 ne_M_b4 ne_M_b5 ne_M_r ne_M_kx ne_M_t ne_M_ky (Ne.symm ne_r_b4) (Ne.symm ne_t_b4) (Ne.symm ne_r_b5) (Ne.symm ne_t_b5) ne_r_kx ne_r_t ne_r_ky (Ne.symm ne_t_kx) ne_t_ky g_M g_r g_t t63_2 t65_3) (rfl : T5.heap = T5.heap) O_M_5.1 pd_16 (hb hby at_74) (by rw [hml]; rfl) (argsL := [(.ref b4), (.ref b5)]) (rest := []) rfl rfl rfl (W := 0) (Nat.le_of_eq rfl) (by decide)) (fun v6 T6 L6 X6 q6 => ?_)
        obtain ⟨b6_0, rfl, M6, Kc6, zb6_0, Rk6_0, Rk6_1, Rk6_2, Rk6_3⟩ := q6
        have N6 := Fr.app N5 M6
        have ne_M_b6_0 : M ≠ b6_0 := Nat.ne_of_lt (Nat.lt_of_lt_of_le O_M_5.1.lt zb6_0)
        have ne_r_b6_0 : r ≠ b6_0 := Nat.ne_of_lt (Nat.lt_of_lt_of_le O_r_5.1.lt zb6_0)
        have ne_t_b6_0 : t ≠ b6_0 := Nat.ne_of_lt (Nat.lt_of_lt_of_le O_t_5.1.lt zb6_0)
        have ne_kx_b6_0 : kx ≠ b6_0 := Nat.ne_of_lt (Nat.lt_of_lt_of_le O_kx_5.1.lt zb6_0)
        have ne_ky_b6_0 : ky ≠ b6_0 := Nat.ne_of_lt (Nat.lt_of_lt_of_le O_ky_5.1.lt zb6_0)
        have ne_b4_b6_0 : b4 ≠ b6_0 := Nat.ne_of_lt (Nat.lt_of_lt_of_le O_b4_5.1.lt zb6_0)
        have ne_b5_b6_0 : b5 ≠ b6_0 := Nat.ne_of_lt (Nat.lt_of_lt_of_le O5.1.lt zb6_0)
        have g_b6_0 : n0 ≤ b6_0 := Nat.le_trans Z5 zb6_0
        have O_kx_6 := R_IN_keep O_kx_5 Kc6 (own_nin (Ne.symm ne_M_kx) (own_nin (Ne.symm ne_r_kx) (own_nin (Ne.symm ne_t_kx) List.not_mem_nil)))
        have O_ky_6 := R_IN_keep O_ky_5 Kc6 (own_nin (Ne.symm ne_M_ky) (own_nin (Ne.symm ne_r_ky) (own_nin (Ne.symm ne_t_ky) List.not_mem_nil)))
        have KO_6 := Keep.trans KO_5 Kc6 (own_memc (Or.inr (Nat.le_trans hN g_M)) (own_memc (Or.inr (Nat.le_trans hN g_r)) (own_memc (Or.inr (Nat.le_trans hN g_t)) own_memn)))
        have O_b4_6 := R_IN_keep O_b4_5 Kc6 (own_nin (Ne.symm ne_M_b4) (own_nin (Ne.symm ne_r_b4) (own_nin (Ne.symm ne_t_b4) List.not_mem_nil)))
        have O_b5_6 := R_IN_keep O5 Kc6 (own_nin (Ne.symm ne_M_b5) (own_nin (Ne.symm ne_r_b5) (own_nin (Ne.symm ne_t_b5) List.not_mem_nil)))
        have Z6 : n0 ≤ T6.heap.size := Nat.le_trans Z5 Kc6.1
        refine g_pop X6 hx (hb hby at_77) rfl ?_
        show Go p e below (T6.setTop (mkF m 78 #[vi p1, vi p2, vi p3, vi p4, vi p5, vi p6, vi n, vr M, vu, vu, vu, vu, vu] [])) _
        exact seg_78_N l Z a0 hw wc clc p1 p2 p3 p4 p5 p6 n M (mc + (1 : Int32)) t (3 : Int32) T6.heap n0 Z6 hN C1 C2 BX KO_6 Rk6_0 g_M hx hby hml hown hnm hret hlk hZ (Stand.more X6 (by decide) (by decide)) (rfl : T6.heap = T6.heap) N6
      · refine g_iloadN X0 hx (hb hby at_65) rfl ?_
        refine g_call (own_callS X0 hx hZ (y := Y2) hown (Wd19 hw) (Wd20 hw) (Wd21 hw) (Wd22 hw) (by decide) (rm_valueOf l Z a0 hw wc clc p3 h0 n0 Z0 hN C1 C2 BX KO) e0 pd_4 (hb hby at_66) (by rw [hml]; rfl) (argsL := [(.int p3)]) (rest := [(.ref M)]) rfl rfl rfl (W := 1) (Nat.le_of_eq rfl) (by decide)) (fun v7 T7 L7 X7 q7 => ?_)
        obtain ⟨b7, rfl, M7, Kc7, O7⟩ := q7
        have N7 := Fr.app N0 M7
        have O_M_7 := R_MP_keep O_M Kc7 List.not_mem_nil
        have O_r_7 := R_ND_keep O_r Kc7 List.not_mem_nil
        have O_t_7 := R_ND_keep O_t Kc7 List.not_mem_nil
        have O_kx_7 := R_IN_keep O_kx Kc7 List.not_mem_nil
        have O_ky_7 := R_IN_keep O_ky Kc7 List.not_mem_nil
        have KO_7 := Keep.trans KO Kc7 own_memn
        have ne_M_b7 : M ≠ b7 := own_exane O_M_7.1 O7.1 (by decide)
        have ne_r_b7 : r ≠ b7 := own_exane O_r_7.1 O7.1 (by decide)
        have ne_t_b7 : t ≠ b7 := own_exane O_t_7.1 O7.1 (by decide)
        have Z7 : n0 ≤ T7.heap.size := Nat.le_trans Z0 Kc7.1
        refine g_iload X7 hx (hb hby at_69) rfl ?_
        refine g_call (own_callS X7 hx hZ (y := Y2) hown (Wd19 hw) (Wd20 hw) (Wd21 hw) (Wd22 hw) (by decide) (rm_valueOf l Z a0 hw wc clc p5 T7.heap n0 Z7 hN C1 C2 BX KO_7) (rfl : T7.heap = T7.heap) pd_4 (hb hby at_71) (by rw [hml]; rfl) (argsL := [(.int p5)]) (rest := [(.ref b7), (.ref M)]) rfl rfl rfl (W := 2) (Nat.le_of_eq rfl) (by decide)) (fun v8 T8 L8 X8 q8 => ?_)
        obtain ⟨b8, rfl, M8, Kc8, O8⟩ := q8
        have N8 := Fr.app N7 M8
        have O_M_8 := R_MP_keep O_M_7 Kc8 List.not_mem_nil
        have O_r_8 := R_ND_keep O_r_7 Kc8 List.not_mem_nil
        have O_t_8 := R_ND_keep O_t_7 Kc8 List.not_mem_nil
        have O_kx_8 := R_IN_keep O_kx_7 Kc8 List.not_mem_nil
        have O_ky_8 := R_IN_keep O_ky_7 Kc8 List.not_mem_nil
        have KO_8 := Keep.trans KO_7 Kc8 own_memn
        have O_b7_8 := R_IN_keep O7 Kc8 List.not_mem_nil
        have ne_M_b8 : M ≠ b8 := own_exane O_M_8.1 O8.1 (by decide)
        have ne_r_b8 : r ≠ b8 := own_exane O_r_8.1 O8.1 (by decide)
        have ne_t_b8 : t ≠ b8 := own_exane O_t_8.1 O8.1 (by decide)
        have Z8 : n0 ≤ T8.heap.size := Nat.le_trans Z7 Kc8.1
        refine g_call (own_callV X8 hx hZ (y := Y19) hown (Wd26 hw) (Wd27 hw) (Wd29 hw) (Wd28 hw) (Wd30 hw) (Wd2 hw) (by decide) (rm_put_79 l Z a0 hw M b7 b8 r mc p3 p5 kx vx t x ky vy y T8.heap n0 Z8 O_M_8 O_b7_8 O8 O_r_8 O_kx_8 O_t_8 O_ky_8 ne_M_r ne_M_t (Ne.symm ne_r_b7) (Ne.symm ne_t_b7) (Ne.symm ne_r_b8) (Ne.symm ne_t_b8) ne_r_kx ne_r_t ne_r_ky (Ne.symm ne_t_kx) ne_t_ky g_r g_t t63_2 t65_3 t65_3') (rfl : T8.heap = T8.heap) O_M_8.1 pd_16 (hb hby at_74) (by rw [hml]; rfl) (argsL := [(.ref b7), (.ref b8)]) (rest := []) rfl rfl rfl (W := 0) (Nat.le_of_eq rfl) (by decide)) (fun v9 T9 L9 X9 q9 => ?_)
        obtain ⟨rfl, M9, Kc9, Rk9_0, Rk9_1⟩ := q9
        have N9 := Fr.app N8 M9
        have O_M_9 := R_MP_keep O_M_8 Kc9 (own_nin ne_M_r (own_nin ne_M_t List.not_mem_nil))
        have O_kx_9 := R_IN_keep O_kx_8 Kc9 (own_nin (Ne.symm ne_r_kx) (own_nin (Ne.symm ne_t_kx) List.not_mem_nil))
        have O_ky_9 := R_IN_keep O_ky_8 Kc9 (own_nin (Ne.symm ne_r_ky) (own_nin (Ne.symm ne_t_ky) List.not_mem_nil))
        have KO_9 := Keep.trans KO_8 Kc9 (own_memc (Or.inr (Nat.le_trans hN g_r)) (own_memc (Or.inr (Nat.le_trans hN g_t)) own_memn))
        have O_b7_9 := R_IN_keep O_b7_8 Kc9 (own_nin (Ne.symm ne_r_b7) (own_nin (Ne.symm ne_t_b7) List.not_mem_nil))
        have O_b8_9 := R_IN_keep O8 Kc9 (own_nin (Ne.symm ne_r_b8) (own_nin (Ne.symm ne_t_b8) List.not_mem_nil))
        have Z9 : n0 ≤ T9.heap.size := Nat.le_trans Z8 Kc9.1
        refine g_pop X9 hx (hb hby at_77) rfl ?_
        show Go p e below (T9.setTop (mkF m 78 #[vi p1, vi p2, vi p3, vi p4, vi p5, vi p6, vi n, vr M, vu, vu, vu, vu, vu] [])) _
        exact seg_78_N l Z a0 hw wc clc p1 p2 p3 p4 p5 p6 n M mc r (2 : Int32) T9.heap n0 Z9 hN C1 C2 BX KO_9 O_M_9 g_M hx hby hml hown hnm hret hlk hZ (Stand.more X9 (by decide) (by decide)) (rfl : T9.heap = T9.heap) N9
      · refine g_iloadN X0 hx (hb hby at_65) rfl ?_
        refine g_call (own_callS X0 hx hZ (y := Y2) hown (Wd19 hw) (Wd20 hw) (Wd21 hw) (Wd22 hw) (by decide) (rm_valueOf l Z a0 hw wc clc p3 h0 n0 Z0 hN C1 C2 BX KO) e0 pd_4 (hb hby at_66) (by rw [hml]; rfl) (argsL := [(.int p3)]) (rest := [(.ref M)]) rfl rfl rfl (W := 1) (Nat.le_of_eq rfl) (by decide)) (fun v10 T10 L10 X10 q10 => ?_)
        obtain ⟨b10, rfl, M10, Kc10, O10⟩ := q10
        have N10 := Fr.app N0 M10
        have O_M_10 := R_MP_keep O_M Kc10 List.not_mem_nil
        have O_r_10 := R_ND_keep O_r Kc10 List.not_mem_nil
        have O_t_10 := R_ND_keep O_t Kc10 List.not_mem_nil
        have O_kx_10 := R_IN_keep O_kx Kc10 List.not_mem_nil
        have O_ky_10 := R_IN_keep O_ky Kc10 List.not_mem_nil
        have KO_10 := Keep.trans KO Kc10 own_memn
        have ne_M_b10 : M ≠ b10 := own_exane O_M_10.1 O10.1 (by decide)
        have ne_r_b10 : r ≠ b10 := own_exane O_r_10.1 O10.1 (by decide)
        have ne_t_b10 : t ≠ b10 := own_exane O_t_10.1 O10.1 (by decide)
        have Z10 : n0 ≤ T10.heap.size := Nat.le_trans Z0 Kc10.1
        refine g_iload X10 hx (hb hby at_69) rfl ?_
        refine g_call (own_callS X10 hx hZ (y := Y2) hown (Wd19 hw) (Wd20 hw) (Wd21 hw) (Wd22 hw) (by decide) (rm_valueOf l Z a0 hw wc clc p5 T10.heap n0 Z10 hN C1 C2 BX KO_10) (rfl : T10.heap = T10.heap) pd_4 (hb hby at_71) (by rw [hml]; rfl) (argsL := [(.int p5)]) (rest := [(.ref b10), (.ref M)]) rfl rfl rfl (W := 2) (Nat.le_of_eq rfl) (by decide)) (fun v11 T11 L11 X11 q11 => ?_)
        obtain ⟨b11, rfl, M11, Kc11, O11⟩ := q11
        have N11 := Fr.app N10 M11
        have O_M_11 := R_MP_keep O_M_10 Kc11 List.not_mem_nil
        have O_r_11 := R_ND_keep O_r_10 Kc11 List.not_mem_nil
        have O_t_11 := R_ND_keep O_t_10 Kc11 List.not_mem_nil
        have O_kx_11 := R_IN_keep O_kx_10 Kc11 List.not_mem_nil
        have O_ky_11 := R_IN_keep O_ky_10 Kc11 List.not_mem_nil
        have KO_11 := Keep.trans KO_10 Kc11 own_memn
        have O_b10_11 := R_IN_keep O10 Kc11 List.not_mem_nil
        have ne_M_b11 : M ≠ b11 := own_exane O_M_11.1 O11.1 (by decide)
        have ne_r_b11 : r ≠ b11 := own_exane O_r_11.1 O11.1 (by decide)
        have ne_t_b11 : t ≠ b11 := own_exane O_t_11.1 O11.1 (by decide)
        have Z11 : n0 ≤ T11.heap.size := Nat.le_trans Z10 Kc11.1
        refine g_call (own_callV X11 hx hZ (y := Y19) hown (Wd26 hw) (Wd27 hw) (Wd29 hw) (Wd28 hw) (Wd30 hw) (Wd2 hw) (by decide) (rm_put_87 l Z a0 hw M b10 b11 r mc p3 p5 kx vx t x ky vy y T11.heap n0 Z11 O_M_11 O_b10_11 O11 O_r_11 O_kx_11 O_t_11 O_ky_11 ne_M_b10 ne_M_b11 ne_M_r ne_M_kx ne_M_t ne_M_ky (Ne.symm ne_r_b10) (Ne.symm ne_t_b10) (Ne.symm ne_r_b11) (Ne.symm ne_t_b11) ne_r_kx ne_r_t ne_r_ky (Ne.symm ne_t_kx) ne_t_ky g_M g_r g_t t63_2 t65_3 t65_3') (rfl : T11.heap = T11.heap) O_M_11.1 pd_16 (hb hby at_74) (by rw [hml]; rfl) (argsL := [(.ref b10), (.ref b11)]) (rest := []) rfl rfl rfl (W := 0) (Nat.le_of_eq rfl) (by decide)) (fun v12 T12 L12 X12 q12 => ?_)
        obtain ⟨b12_0, rfl, M12, Kc12, zb12_0, Rk12_0, Rk12_1, Rk12_2, Rk12_3⟩ := q12
        have N12 := Fr.app N11 M12
        have ne_M_b12_0 : M ≠ b12_0 := Nat.ne_of_lt (Nat.lt_of_lt_of_le O_M_11.1.lt zb12_0)
        have ne_r_b12_0 : r ≠ b12_0 := Nat.ne_of_lt (Nat.lt_of_lt_of_le O_r_11.1.lt zb12_0)
        have ne_t_b12_0 : t ≠ b12_0 := Nat.ne_of_lt (Nat.lt_of_lt_of_le O_t_11.1.lt zb12_0)
        have ne_kx_b12_0 : kx ≠ b12_0 := Nat.ne_of_lt (Nat.lt_of_lt_of_le O_kx_11.1.lt zb12_0)
        have ne_ky_b12_0 : ky ≠ b12_0 := Nat.ne_of_lt (Nat.lt_of_lt_of_le O_ky_11.1.lt zb12_0)
        have ne_b10_b12_0 : b10 ≠ b12_0 := Nat.ne_of_lt (Nat.lt_of_lt_of_le O_b10_11.1.lt zb12_0)
        have ne_b11_b12_0 : b11 ≠ b12_0 := Nat.ne_of_lt (Nat.lt_of_lt_of_le O11.1.lt zb12_0)
        have g_b12_0 : n0 ≤ b12_0 := Nat.le_trans Z11 zb12_0
        have O_kx_12 := R_IN_keep O_kx_11 Kc12 (own_nin (Ne.symm ne_M_kx) (own_nin (Ne.symm ne_r_kx) (own_nin (Ne.symm ne_t_kx) List.not_mem_nil)))
        have O_ky_12 := R_IN_keep O_ky_11 Kc12 (own_nin (Ne.symm ne_M_ky) (own_nin (Ne.symm ne_r_ky) (own_nin (Ne.symm ne_t_ky) List.not_mem_nil)))
        have KO_12 := Keep.trans KO_11 Kc12 (own_memc (Or.inr (Nat.le_trans hN g_M)) (own_memc (Or.inr (Nat.le_trans hN g_r)) (own_memc (Or.inr (Nat.le_trans hN g_t)) own_memn)))
        have O_b10_12 := R_IN_keep O_b10_11 Kc12 (own_nin (Ne.symm ne_M_b10) (own_nin (Ne.symm ne_r_b10) (own_nin (Ne.symm ne_t_b10) List.not_mem_nil)))
        have O_b11_12 := R_IN_keep O11 Kc12 (own_nin (Ne.symm ne_M_b11) (own_nin (Ne.symm ne_r_b11) (own_nin (Ne.symm ne_t_b11) List.not_mem_nil)))
        have Z12 : n0 ≤ T12.heap.size := Nat.le_trans Z11 Kc12.1
        refine g_pop X12 hx (hb hby at_77) rfl ?_
        show Go p e below (T12.setTop (mkF m 78 #[vi p1, vi p2, vi p3, vi p4, vi p5, vi p6, vi n, vr M, vu, vu, vu, vu, vu] [])) _
        exact seg_78_N l Z a0 hw wc clc p1 p2 p3 p4 p5 p6 n M (mc + (1 : Int32)) b12_0 (3 : Int32) T12.heap n0 Z12 hN C1 C2 BX KO_12 Rk12_0 g_M hx hby hml hown hnm hret hlk hZ (Stand.more X12 (by decide) (by decide)) (rfl : T12.heap = T12.heap) N12
    · refine g_aload X0 hx (hb hby at_63) rfl rfl ?_
      show Go p e below (s₁.setTop (mkF m 65 #[vi p1, vi p2, vi p3, vi p4, vi p5, vi p6, vi n, vr M, vu, vu, vu, vu, vu] [(.ref M)])) _
      refine g_iloadN X0 hx (hb hby at_65) rfl ?_
      refine g_call (own_callS X0 hx hZ (y := Y2) hown (Wd19 hw) (Wd20 hw) (Wd21 hw) (Wd22 hw) (by decide) (rm_valueOf l Z a0 hw wc clc p3 h0 n0 Z0 hN C1 C2 BX KO) e0 pd_4 (hb hby at_66) (by rw [hml]; rfl) (argsL := [(.int p3)]) (rest := [(.ref M)]) rfl rfl rfl (W := 1) (Nat.le_of_eq rfl) (by decide)) (fun v13 T13 L13 X13 q13 => ?_)
      obtain ⟨b13, rfl, M13, Kc13, O13⟩ := q13
      have N13 := Fr.app N0 M13
      have O_M_13 := R_MP_keep O_M Kc13 List.not_mem_nil
      have O_r_13 := R_ND_keep O_r Kc13 List.not_mem_nil
      have O_t_13 := R_ND_keep O_t Kc13 List.not_mem_nil
      have O_kx_13 := R_IN_keep O_kx Kc13 List.not_mem_nil
      have O_ky_13 := R_IN_keep O_ky Kc13 List.not_mem_nil
      have KO_13 := Keep.trans KO Kc13 own_memn
      have ne_M_b13 : M ≠ b13 := own_exane O_M_13.1 O13.1 (by decide)
      have ne_r_b13 : r ≠ b13 := own_exane O_r_13.1 O13.1 (by decide)
      have ne_t_b13 : t ≠ b13 := own_exane O_t_13.1 O13.1 (by decide)
      have Z13 : n0 ≤ T13.heap.size := Nat.le_trans Z0 Kc13.1
      refine g_iload X13 hx (hb hby at_69) rfl ?_
      refine g_call (own_callS X13 hx hZ (y := Y2) hown (Wd19 hw) (Wd20 hw) (Wd21 hw) (Wd22 hw) (by decide) (rm_valueOf l Z a0 hw wc clc p5 T13.heap n0 Z13 hN C1 C2 BX KO_13) (rfl : T13.heap = T13.heap) pd_4 (hb hby at_71) (by rw [hml]; rfl) (argsL := [(.int p5)]) (rest := [(.ref b13), (.ref M)]) rfl rfl rfl (W := 2) (Nat.le_of_eq rfl) (by decide)) (fun v14 T14 L14 X14 q14 => ?_)
      obtain ⟨b14, rfl, M14, Kc14, O14⟩ := q14
      have N14 := Fr.app N13 M14
      have O_M_14 := R_MP_keep O_M_13 Kc14 List.not_mem_nil
      have O_r_14 := R_ND_keep O_r_13 Kc14 List.not_mem_nil
      have O_t_14 := R_ND_keep O_t_13 Kc14 List.not_mem_nil
      have O_kx_14 := R_IN_keep O_kx_13 Kc14 List.not_mem_nil
      have O_ky_14 := R_IN_keep O_ky_13 Kc14 List.not_mem_nil
      have KO_14 := Keep.trans KO_13 Kc14 own_memn
      have O_b13_14 := R_IN_keep O13 Kc14 List.not_mem_nil
      have ne_M_b14 : M ≠ b14 := own_exane O_M_14.1 O14.1 (by decide)
      have ne_r_b14 : r ≠ b14 := own_exane O_r_14.1 O14.1 (by decide)
      have ne_t_b14 : t ≠ b14 := own_exane O_t_14.1 O14.1 (by decide)
      have Z14 : n0 ≤ T14.heap.size := Nat.le_trans Z13 Kc14.1
      refine g_call (own_callV X14 hx hZ (y := Y19) hown (Wd26 hw) (Wd27 hw) (Wd29 hw) (Wd28 hw) (Wd30 hw) (Wd2 hw) (by decide) (rm_put_98 l Z a0 hw M b13 b14 r mc p3 p5 kx vx t x ky vy y T14.heap n0 Z14 O_M_14 O_b13_14 O14 O_r_14 O_kx_14 O_t_14 O_ky_14 ne_M_r (Ne.symm ne_r_b13) (Ne.symm ne_r_b14) ne_r_kx ne_r_t ne_r_ky g_r t63_2 t63_2') (rfl : T14.heap = T14.heap) O_M_14.1 pd_16 (hb hby at_74) (by rw [hml]; rfl) (argsL := [(.ref b13), (.ref b14)]) (rest := []) rfl rfl rfl (W := 0) (Nat.le_of_eq rfl) (by decide)) (fun v15 T15 L15 X15 q15 => ?_)
      obtain ⟨rfl, M15, Kc15, Rk15_0⟩ := q15
      have N15 := Fr.app N14 M15
      have O_M_15 := R_MP_keep O_M_14 Kc15 (own_nin ne_M_r List.not_mem_nil)
      have O_t_15 := R_ND_keep O_t_14 Kc15 (own_nin (Ne.symm ne_r_t) List.not_mem_nil)
      have O_kx_15 := R_IN_keep O_kx_14 Kc15 (own_nin (Ne.symm ne_r_kx) List.not_mem_nil)
      have O_ky_15 := R_IN_keep O_ky_14 Kc15 (own_nin (Ne.symm ne_r_ky) List.not_mem_nil)
      have KO_15 := Keep.trans KO_14 Kc15 (own_memc (Or.inr (Nat.le_trans hN g_r)) own_memn)
      have O_b13_15 := R_IN_keep O_b13_14 Kc15 (own_nin (Ne.symm ne_r_b13) List.not_mem_nil)
      have O_b14_15 := R_IN_keep O14 Kc15 (own_nin (Ne.symm ne_r_b14) List.not_mem_nil)
      have Z15 : n0 ≤ T15.heap.size := Nat.le_trans Z14 Kc15.1
      refine g_pop X15 hx (hb hby at_77) rfl ?_
      show Go p e below (T15.setTop (mkF m 78 #[vi p1, vi p2, vi p3, vi p4, vi p5, vi p6, vi n, vr M, vu, vu, vu, vu, vu] [])) _
      exact seg_78_N l Z a0 hw wc clc p1 p2 p3 p4 p5 p6 n M mc r (2 : Int32) T15.heap n0 Z15 hN C1 C2 BX KO_15 O_M_15 g_M hx hby hml hown hnm hret hlk hZ (Stand.more X15 (by decide) (by decide)) (rfl : T15.heap = T15.heap) N15
    · refine g_aload X0 hx (hb hby at_63) rfl rfl ?_
      show Go p e below (s₁.setTop (mkF m 65 #[vi p1, vi p2, vi p3, vi p4, vi p5, vi p6, vi n, vr M, vu, vu, vu, vu, vu] [(.ref M)])) _
      refine g_iloadN X0 hx (hb hby at_65) rfl ?_
      refine g_call (own_callS X0 hx hZ (y := Y2) hown (Wd19 hw) (Wd20 hw) (Wd21 hw) (Wd22 hw) (by decide) (rm_valueOf l Z a0 hw wc clc p3 h0 n0 Z0 hN C1 C2 BX KO) e0 pd_4 (hb hby at_66) (by rw [hml]; rfl) (argsL := [(.int p3)]) (rest := [(.ref M)]) rfl rfl rfl (W := 1) (Nat.le_of_eq rfl) (by decide)) (fun v16 T16 L16 X16 q16 => ?_)
      obtain ⟨b16, rfl, M16, Kc16, O16⟩ := q16
      have N16 := Fr.app N0 M16
      have O_M_16 := R_MP_keep O_M Kc16 List.not_mem_nil
      have O_r_16 := R_ND_keep O_r Kc16 List.not_mem_nil
      have O_t_16 := R_ND_keep O_t Kc16 List.not_mem_nil
      have O_kx_16 := R_IN_keep O_kx Kc16 List.not_mem_nil
      have O_ky_16 := R_IN_keep O_ky Kc16 List.not_mem_nil
      have KO_16 := Keep.trans KO Kc16 own_memn
      have ne_M_b16 : M ≠ b16 := own_exane O_M_16.1 O16.1 (by decide)
      have ne_r_b16 : r ≠ b16 := own_exane O_r_16.1 O16.1 (by decide)
      have ne_t_b16 : t ≠ b16 := own_exane O_t_16.1 O16.1 (by decide)
      have Z16 : n0 ≤ T16.heap.size := Nat.le_trans Z0 Kc16.1
      refine g_iload X16 hx (hb hby at_69) rfl ?_
      refine g_call (own_callS X16 hx hZ (y := Y2) hown (Wd19 hw) (Wd20 hw) (Wd21 hw) (Wd22 hw) (by decide) (rm_valueOf l Z a0 hw wc clc p5 T16.heap n0 Z16 hN C1 C2 BX KO_16) (rfl : T16.heap = T16.heap) pd_4 (hb hby at_71) (by rw [hml]; rfl) (argsL := [(.int p5)]) (rest := [(.ref b16), (.ref M)]) rfl rfl rfl (W := 2) (Nat.le_of_eq rfl) (by decide)) (fun v17 T17 L17 X17 q17 => ?_)
      obtain ⟨b17, rfl, M17, Kc17, O17⟩ := q17
      have N17 := Fr.app N16 M17
      have O_M_17 := R_MP_keep O_M_16 Kc17 List.not_mem_nil
      have O_r_17 := R_ND_keep O_r_16 Kc17 List.not_mem_nil
      have O_t_17 := R_ND_keep O_t_16 Kc17 List.not_mem_nil
      have O_kx_17 := R_IN_keep O_kx_16 Kc17 List.not_mem_nil
      have O_ky_17 := R_IN_keep O_ky_16 Kc17 List.not_mem_nil
      have KO_17 := Keep.trans KO_16 Kc17 own_memn
      have O_b16_17 := R_IN_keep O16 Kc17 List.not_mem_nil
      have ne_M_b17 : M ≠ b17 := own_exane O_M_17.1 O17.1 (by decide)
      have ne_r_b17 : r ≠ b17 := own_exane O_r_17.1 O17.1 (by decide)
      have ne_t_b17 : t ≠ b17 := own_exane O_t_17.1 O17.1 (by decide)
      have Z17 : n0 ≤ T17.heap.size := Nat.le_trans Z16 Kc17.1
      refine g_call (own_callV X17 hx hZ (y := Y19) hown (Wd26 hw) (Wd27 hw) (Wd29 hw) (Wd28 hw) (Wd30 hw) (Wd2 hw) (by decide) (rm_put_102 l Z a0 hw M b16 b17 r mc p3 p5 kx vx t x ky vy y T17.heap n0 Z17 O_M_17 O_b16_17 O17 O_r_17 O_kx_17 O_t_17 O_ky_17 ne_M_b16 ne_M_b17 ne_M_r ne_M_kx ne_M_t ne_M_ky (Ne.symm ne_r_b16) (Ne.symm ne_r_b17) ne_r_kx ne_r_t ne_r_ky g_M g_r t63_2 t63_2') (rfl : T17.heap = T17.heap) O_M_17.1 pd_16 (hb hby at_74) (by rw [hml]; rfl) (argsL := [(.ref b16), (.ref b17)]) (rest := []) rfl rfl rfl (W := 0) (Nat.le_of_eq rfl) (by decide)) (fun v18 T18 L18 X18 q18 => ?_)
      obtain ⟨b18_0, rfl, M18, Kc18, zb18_0, Rk18_0, Rk18_1, Rk18_2⟩ := q18
      have N18 := Fr.app N17 M18
      have ne_M_b18_0 : M ≠ b18_0 := Nat.ne_of_lt (Nat.lt_of_lt_of_le O_M_17.1.lt zb18_0)
      have ne_r_b18_0 : r ≠ b18_0 := Nat.ne_of_lt (Nat.lt_of_lt_of_le O_r_17.1.lt zb18_0)
      have ne_t_b18_0 : t ≠ b18_0 := Nat.ne_of_lt (Nat.lt_of_lt_of_le O_t_17.1.lt zb18_0)
      have ne_kx_b18_0 : kx ≠ b18_0 := Nat.ne_of_lt (Nat.lt_of_lt_of_le O_kx_17.1.lt zb18_0)
      have ne_ky_b18_0 : ky ≠ b18_0 := Nat.ne_of_lt (Nat.lt_of_lt_of_le O_ky_17.1.lt zb18_0)
      have ne_b16_b18_0 : b16 ≠ b18_0 := Nat.ne_of_lt (Nat.lt_of_lt_of_le O_b16_17.1.lt zb18_0)
      have ne_b17_b18_0 : b17 ≠ b18_0 := Nat.ne_of_lt (Nat.lt_of_lt_of_le O17.1.lt zb18_0)
      have g_b18_0 : n0 ≤ b18_0 := Nat.le_trans Z17 zb18_0
      have O_t_18 := R_ND_keep O_t_17 Kc18 (own_nin (Ne.symm ne_M_t) (own_nin (Ne.symm ne_r_t) List.not_mem_nil))
      have O_kx_18 := R_IN_keep O_kx_17 Kc18 (own_nin (Ne.symm ne_M_kx) (own_nin (Ne.symm ne_r_kx) List.not_mem_nil))
      have O_ky_18 := R_IN_keep O_ky_17 Kc18 (own_nin (Ne.symm ne_M_ky) (own_nin (Ne.symm ne_r_ky) List.not_mem_nil))
      have KO_18 := Keep.trans KO_17 Kc18 (own_memc (Or.inr (Nat.le_trans hN g_M)) (own_memc (Or.inr (Nat.le_trans hN g_r)) own_memn))
      have O_b16_18 := R_IN_keep O_b16_17 Kc18 (own_nin (Ne.symm ne_M_b16) (own_nin (Ne.symm ne_r_b16) List.not_mem_nil))
      have O_b17_18 := R_IN_keep O17 Kc18 (own_nin (Ne.symm ne_M_b17) (own_nin (Ne.symm ne_r_b17) List.not_mem_nil))
      have Z18 : n0 ≤ T18.heap.size := Nat.le_trans Z17 Kc18.1
      refine g_pop X18 hx (hb hby at_77) rfl ?_
      show Go p e below (T18.setTop (mkF m 78 #[vi p1, vi p2, vi p3, vi p4, vi p5, vi p6, vi n, vr M, vu, vu, vu, vu, vu] [])) _
      exact seg_78_N l Z a0 hw wc clc p1 p2 p3 p4 p5 p6 n M (mc + (1 : Int32)) r (3 : Int32) T18.heap n0 Z18 hN C1 C2 BX KO_18 Rk18_0 g_M hx hby hml hown hnm hret hlk hZ (Stand.more X18 (by decide) (by decide)) (rfl : T18.heap = T18.heap) N18
theorem rm_addToLeftCount_107 (l : Launch) (Z : State) (a0 : Array Value) (hw : HW a0 Z) (a1 : Addr) (a2 : Addr) (a3 : Addr) (a4 : Addr) (h0 : Heap) (n0 : Nat) (Z0 : n0 ≤ h0.size) (O_a1 : R_ND Z h0 a1 (.ref a2) (.ref a3) .null (.ref a4) .null (.int 0)) (g_a1 : n0 ≤ a1) :
    Ctr l Y22 prog_7_method_84_code 2 none [] ({ frames := 0, cells := 0, slots := 0, locals := 0 } : Room) Z #[(.ref a1), (.int 1)] h0 (fun v h L => v = none ∧ Fr n0 L ∧ Keep h0 h [a1] ∧ R_ND Z h a1 (.ref a2) (.ref a3) .null (.ref a4) .null (.int 1)) := by
  refine own_enter pn_2 (fun p e s m below meth c s₁ hx hby hml hown hnm hret hlk hZ X0 e0 => ?_)
  have N0 := Fr.nil n0
  have K0 := Keep.refl h0 [a1]
  rw [ef_18_RI m _ _]
  show Go p e below (s₁.setTop (mkF m 0 #[vr a1, vi 1] [])) _
  refine g_aloadN X0 hx (hb hby d18_0) rfl rfl ?_
  refine g_dup X0 hx (hb hby d18_1) rfl ?_
  refine g_getF X0 hx hZ hown (Wd88 hw) e0 O_a1.2.2.2.2.2.2 (hb hby d18_2) (fun T1 X1 e1 => ?_)
  refine g_iloadN X1 hx (hb hby d18_5) rfl ?_
  refine g_iadd X1 hx (hb hby d18_6) ?_
  show Go p e below (T1.setTop (mkF m 7 #[vr a1, vi 1] [(.int ((0 : Int32) + (1 : Int32))), (.ref a1)])) _
  rw [show ((0 : Int32) + (1 : Int32)) = (1 : Int32) from by decide]
  refine g_putF X1 hx hZ hown (Wd88 hw) e1 O_a1.2.2.2.2.2.2 O_a1.1 (Or.inl (Wd78 hw)) (Wd70 hw) fd_0 rfl rfl (hb hby d18_7) (fun T2 h2 X2 e2 W2 => ?_)
  have N2 := Fr.snoc X2 N0 g_a1
  have O_a1_2 := R_ND_set_redAndLeftCount hw W2 O_a1
  have Z2 : n0 ≤ h2.size := Nat.le_trans Z0 (Nat.le_of_eq W2.size.symm)
  have K2 := Keep.wr K0 W2 (Or.inl (List.mem_of_getElem? (i := 0) rfl))
  exact own_retV X2 hx hret hlk (hb hby d18_10) (by decide) (by decide) (by rw [e2]; exact ⟨rfl, N2, K2, O_a1_2⟩)
theorem rm_balanceAfterInsert_108 (l : Launch) (Z : State) (a0 : Array Value) (hw : HW a0 Z) (a1 : Addr) (a2 : Addr) (a3 : Addr) (i1 : Int32) (a4 : Addr) (a5 : Addr) (a6 : Addr) (a7 : Addr) (a8 : Addr) (i2 : Int32) (i3 : Int32) (i4 : Int32) (a9 : Addr) (a10 : Addr) (i5 : Int32) (h0 : Heap) (n0 : Nat) (Z0 : n0 ≤ h0.size) (O_a1 : R_MP Z h0 a1 .null (.ref a3) (.int 3) (.int i1)) (O_a2 : R_ND Z h0 a2 (.ref a4) (.ref a5) .null .null (.ref a3) (.int (-2147483648))) (O_a3 : R_ND Z h0 a3 (.ref a6) (.ref a7) (.ref a2) (.ref a8) .null (.int 1)) (O_a4 : R_IN Z h0 a4 (.int i2)) (O_a5 : R_IN Z h0 a5 (.int i3)) (O_a6 : R_IN Z h0 a6 (.int i4)) (O_a8 : R_ND Z h0 a8 (.ref a9) (.ref a10) .null .null (.ref a3) (.int (-2147483648))) (O_a9 : R_IN Z h0 a9 (.int i5)) (ne_a1_a3 : a1 ≠ a3) (ne_a2_a3 : a2 ≠ a3) (ne_a3_a4 : a3 ≠ a4) (ne_a3_a5 : a3 ≠ a5) (ne_a3_a6 : a3 ≠ a6) (ne_a3_a8 : a3 ≠ a8) (ne_a3_a9 : a3 ≠ a9) (g_a3 : n0 ≤ a3) (hk0 : i2 < i4) :
    Ctr l Y25 prog_7_method_90_code 6 none [] ({ frames := 1, cells := 0, slots := 0, locals := 13 } : Room) Z #[(.ref a1), (.ref a2)] h0 (fun v h L => v = none ∧ Fr n0 L ∧ Keep h0 h [a3] ∧ R_ND Z h a3 (.ref a6) (.ref a7) (.ref a2) (.ref a8) .null (.int 1)) := by
  refine own_enter pn_2 (fun p e s m below meth c s₁ hx hby hml hown hnm hret hlk hZ X0 e0 => ?_)
  have N0 := Fr.nil n0
  have K0 := Keep.refl h0 [a3]
  rw [ef_16_RR m _ _]
  show Go p e below (s₁.setTop (mkF m 0 #[vr a1, vr a2, vu, vu, vu, vu] [])) _
  refine g_aloadN X0 hx (hb hby d16_0) rfl rfl ?_
  refine g_astoreN X0 hx #[vr a1, vr a2, vr a2, vu, vu, vu] (hb hby d16_1) rfl rfl ?_
  refine g_aloadN X0 hx (hb hby d16_2) rfl rfl ?_
  refine g_getF X0 hx hZ hown (Wd111 hw) e0 O_a2.2.2.2.2.2.1 (hb hby d16_3) (fun T1 X1 e1 => ?_)
  refine g_call (own_callS X1 hx hZ (y := Y24) hown (Wd112 hw) (Wd113 hw) (Wd2 hw) (Wd114 hw) (by decide) (rm_isRed_77 l Z a0 hw a3 a6 a7 a2 a8 h0 n0 Z0 O_a3) e1 pd_19 (hb hby d16_6) (by rw [hml]; rfl) (argsL := [(.ref a3)]) (rest := []) rfl rfl rfl (W := 0) (Nat.le_of_eq rfl) (by decide)) (fun v2 T2 L2 X2 q2 => ?_)
  obtain ⟨rfl, M2, e2⟩ := q2
  have N2 := Fr.app N0 M2
  refine g_ifYes X2 hx 188 (hb hby d16_9) ((if0 _ _).trans (teq ((by decide) : (0 : Int32) = (0 : Int32))).1) (by decide) (by decide) ?_
  refine g_aloadN X2 hx (hb hby d16_188) rfl rfl ?_
  refine g_getF X2 hx hZ hown (Wd35 hw) e2 O_a1.2.2.1 (hb hby d16_189) (fun T3 X3 e3 => ?_)
  refine g_iconst X3 hx (0 : Int32) (hb hby d16_192) (by decide) ?_
  refine g_call (own_callS X3 hx hZ (y := Y17) hown (Wd85 hw) (Wd86 hw) (Wd2 hw) (Wd87 hw) (by decide) (rm_setRed_78 l Z a0 hw a3 a6 a7 a2 a8 h0 n0 Z0 O_a3 g_a3) e3 pd_14 (hb hby d16_193) (by rw [hml]; rfl) (argsL := [(.ref a3), (.int 0)]) (rest := []) rfl rfl rfl (W := 0) (Nat.le_of_eq rfl) (by decide)) (fun v4 T4 L4 X4 q4 => ?_)
  obtain ⟨rfl, M4, Kc4, Rk4_0⟩ := q4
  have N4 := Fr.app N2 M4
  have O_a1_4 := R_MP_keep O_a1 Kc4 (own_nin ne_a1_a3 List.not_mem_nil)
  have O_a2_4 := R_ND_keep O_a2 Kc4 (own_nin ne_a2_a3 List.not_mem_nil)
  have O_a4_4 := R_IN_keep O_a4 Kc4 (own_nin (Ne.symm ne_a3_a4) List.not_mem_nil)
  have O_a5_4 := R_IN_keep O_a5 Kc4 (own_nin (Ne.symm ne_a3_a5) List.not_mem_nil)
  have O_a6_4 := R_IN_keep O_a6 Kc4 (own_nin (Ne.symm ne_a3_a6) List.not_mem_nil)
  have O_a8_4 := R_ND_keep O_a8 Kc4 (own_nin (Ne.symm ne_a3_a8) List.not_mem_nil)
  have O_a9_4 := R_IN_keep O_a9 Kc4 (own_nin (Ne.symm ne_a3_a9) List.not_mem_nil)
  have K4 := Keep.trans K0 Kc4 (own_memc (Or.inl (List.mem_of_getElem? (i := 0) rfl)) own_memn)
  have Z4 : n0 ≤ T4.heap.size := Nat.le_trans Z0 Kc4.1
  exact own_retV X4 hx hret hlk (hb hby d16_196) (by decide) (by decide) (by rw [(rfl : T4.heap = T4.heap)]; exact ⟨rfl, N4, K4, Rk4_0⟩)
theorem rm_addIfAbsent_106 (l : Launch) (Z : State) (a0 : Array Value) (hw : HW a0 Z) (a1 : Addr) (a2 : Addr) (a3 : Addr) (a4 : Addr) (i1 : Int32) (i2 : Int32) (i3 : Int32) (a5 : Addr) (a6 : Addr) (a7 : Addr) (i4 : Int32) (a8 : Addr) (a9 : Addr) (i5 : Int32) (h0 : Heap) (n0 : Nat) (Z0 : n0 ≤ h0.size) (O_a1 : R_MP Z h0 a1 .null (.ref a4) (.int 2) (.int i1)) (O_a2 : R_IN Z h0 a2 (.int i2)) (O_a3 : R_IN Z h0 a3 (.int i3)) (O_a4 : R_ND Z h0 a4 (.ref a5) (.ref a6) .null (.ref a7) .null (.int 0)) (O_a5 : R_IN Z h0 a5 (.int i4)) (O_a7 : R_ND Z h0 a7 (.ref a8) (.ref a9) .null .null (.ref a4) (.int (-2147483648))) (O_a8 : R_IN Z h0 a8 (.int i5)) (ne_a1_a2 : a1 ≠ a2) (ne_a1_a3 : a1 ≠ a3) (ne_a1_a4 : a1 ≠ a4) (ne_a1_a5 : a1 ≠ a5) (ne_a1_a7 : a1 ≠ a7) (ne_a1_a8 : a1 ≠ a8) (ne_a2_a4 : a2 ≠ a4) (ne_a3_a4 : a3 ≠ a4) (ne_a4_a5 : a4 ≠ a5) (ne_a4_a7 : a4 ≠ a7) (ne_a4_a8 : a4 ≠ a8) (g_a1 : n0 ≤ a1) (g_a4 : n0 ≤ a4) (hk0 : i2 < i4) :
    CtrH l Y18 prog_7_method_65_code 15 (some (FieldType.object "com/example/rosewood/rosewood/RosewoodMap$Node")) [(71, 122, 210, 0), (137, 195, 210, 0), (210, 212, 210, 0)] ({ frames := 4, cells := 1, slots := 6, locals := 53 } : Room) Z #[(.ref a1), (.ref a2), (.ref a3)] h0 (fun v h L => ∃ f1, v = some .null ∧ Fr n0 L ∧ Keep h0 h [a1, a4] ∧ h0.size ≤ f1 ∧ R_MP Z h a1 .null (.ref a4) (.int 3) (.int (i1 + (1 : Int32))) ∧ R_ND Z h a4 (.ref a5) (.ref a6) (.ref f1) (.ref a7) .null (.int 1) ∧ R_ND Z h f1 (.ref a2) (.ref a3) .null .null (.ref a4) (.int (-2147483648))) := by
  refine own_enterH pn_2 (fun p e s m below meth c s₁ hx hby hml hown hnm hret hlk hZ X0 e0 => ?_)
  have N0 := Fr.nil n0
  have K0 := Keep.refl h0 [a1, a4]
  rw [ef_38_RRR m _ _ _]
  show Go p e below (s₁.setTop (mkF m 0 #[vr a1, vr a2, vr a3, vu, vu, vu, vu, vu, vu, vu, vu, vu, vu, vu, vu] [])) _
  refine g_aloadN X0 hx (hb hby d38_0) rfl rfl ?_
  refine g_getF X0 hx hZ hown (Wd35 hw) e0 O_a1.2.2.1 (hb hby d38_1) (fun T1 X1 e1 => ?_)
  refine g_nonnullYes X1 hx 50 (hb hby d38_4) (by decide) (by decide) ?_
  refine g_null X1 hx (hb hby d38_50) ?_
  refine g_astoreN X1 hx #[vr a1, vr a2, vr a3, vn, vu, vu, vu, vu, vu, vu, vu, vu, vu, vu, vu] (hb hby d38_51) rfl rfl ?_
  refine g_iconst X1 hx (0 : Int32) (hb hby d38_52) (by decide) ?_
  refine g_istore X1 hx #[vr a1, vr a2, vr a3, vn, vi 0, vu, vu, vu, vu, vu, vu, vu, vu, vu, vu] (hb hby d38_53) rfl ?_
  refine g_aloadN X1 hx (hb hby d38_55) rfl rfl ?_
  refine g_getF X1 hx hZ hown (Wd35 hw) e1 O_a1.2.2.1 (hb hby d38_56) (fun T2 X2 e2 => ?_)
  refine g_astore X2 hx #[vr a1, vr a2, vr a3, vn, vi 0, vr a4, vu, vu, vu, vu, vu, vu, vu, vu, vu] (hb hby d38_59) rfl rfl ?_
  refine g_aload X2 hx (hb hby d38_61) rfl rfl ?_
  refine g_getF X2 hx hZ hown (Wd94 hw) e2 O_a4.2.1 (hb hby d38_63) (fun T3 X3 e3 => ?_)
  refine g_astore X3 hx #[vr a1, vr a2, vr a3, vn, vi 0, vr a4, vr a5, vu, vu, vu, vu, vu, vu, vu, vu] (hb hby d38_66) rfl rfl ?_
  refine g_null X3 hx (hb hby d38_68) ?_
  refine g_astore X3 hx #[vr a1, vr a2, vr a3, vn, vi 0, vr a4, vr a5, vn, vu, vu, vu, vu, vu, vu, vu] (hb hby d38_69) rfl rfl ?_
  refine g_aload X3 hx (hb hby d38_71) rfl rfl ?_
  refine g_nullNo X3 hx (hb hby d38_73) ?_
  refine g_aload X3 hx (hb hby d38_76) rfl rfl ?_
  refine g_getF X3 hx hZ hown (Wd95 hw) e3 O_a4.2.2.2.1 (hb hby d38_78) (fun T4 X4 e4 => ?_)
  refine g_astore X4 hx #[vr a1, vr a2, vr a3, vn, vi 0, vr a4, vr a5, vn, vn, vu, vu, vu, vu, vu, vu] (hb hby d38_81) rfl rfl ?_
  refine g_aload X4 hx (hb hby d38_83) rfl rfl ?_
  refine g_getF X4 hx hZ hown (Wd97 hw) e4 O_a4.2.2.2.2.1 (hb hby d38_85) (fun T5 X5 e5 => ?_)
  refine g_astore X5 hx #[vr a1, vr a2, vr a3, vn, vi 0, vr a4, vr a5, vn, vn, vr a7, vu, vu, vu, vu, vu] (hb hby d38_88) rfl rfl ?_
  refine g_aload X5 hx (hb hby d38_90) rfl rfl ?_
  refine g_call (own_callS X5 hx hZ (y := Y7) hown (Wd99 hw) (Wd100 hw) (Wd2 hw) (Wd101 hw) (by decide) (rm_keyOf_9 l Z a0 hw  h0 n0 Z0 ) e5 pd_6 (hb hby d38_92) (by rw [hml]; rfl) (argsL := [.null]) (rest := []) rfl rfl rfl (W := 0) (Nat.le_of_eq rfl) (by decide)) (fun v6 T6 L6 X6 q6 => ?_)
  obtain ⟨rfl, M6, e6⟩ := q6
  have N6 := Fr.app N0 M6
  refine g_astore X6 hx #[vr a1, vr a2, vr a3, vn, vi 0, vr a4, vr a5, vn, vn, vr a7, vn, vu, vu, vu, vu] (hb hby d38_95) rfl rfl ?_
  refine g_aload X6 hx (hb hby d38_97) rfl rfl ?_
  refine g_call (own_callS X6 hx hZ (y := Y7) hown (Wd99 hw) (Wd100 hw) (Wd2 hw) (Wd101 hw) (by decide) (rm_keyOf_63 l Z a0 hw a7 a8 a9 a4 h0 n0 Z0 O_a7) e6 pd_6 (hb hby d38_99) (by rw [hml]; rfl) (argsL := [(.ref a7)]) (rest := []) rfl rfl rfl (W := 0) (Nat.le_of_eq rfl) (by decide)) (fun v7 T7 L7 X7 q7 => ?_)
  obtain ⟨rfl, M7, e7⟩ := q7
  have N7 := Fr.app N6 M7
  refine g_astore X7 hx #[vr a1, vr a2, vr a3, vn, vi 0, vr a4, vr a5, vn, vn, vr a7, vn, vr a8, vu, vu, vu] (hb hby d38_102) rfl rfl ?_
  refine g_aloadN X7 hx (hb hby d38_104) rfl rfl ?_
  refine g_aloadN X7 hx (hb hby d38_105) rfl rfl ?_
  refine g_aload X7 hx (hb hby d38_106) rfl rfl ?_
  refine g_call (own_callV X7 hx hZ (y := Y13) hown (Wd37 hw) (Wd38 hw) (Wd40 hw) (Wd39 hw) (Wd41 hw) (Wd2 hw) (by decide) (rm_compare_64 l Z a0 hw a1 a2 a5 a4 i1 i2 i4 h0 n0 Z0 O_a1 O_a2 O_a5 hk0) e7 O_a1.1 pd_11 (hb hby d38_108) (by rw [hml]; rfl) (argsL := [(.ref a2), (.ref a5)]) (rest := []) rfl rfl rfl (W := 0) (Nat.le_of_eq rfl) (by decide)) (fun v8 T8 L8 X8 q8 => ?_)
  obtain ⟨rfl, M8, e8⟩ := q8
  have N8 := Fr.app N7 M8
  refine g_istore X8 hx #[vr a1, vr a2, vr a3, vn, vi 0, vr a4, vr a5, vn, vn, vr a7, vn, vr a8, vi (-1), vu, vu] (hb hby d38_111) rfl ?_
  refine g_iload X8 hx (hb hby d38_113) rfl ?_
  refine g_ifYes X8 hx 137 (hb hby d38_115) ((if0 _ _).trans (feq ((by decide) : ¬ ((-1 : Int32) = (0 : Int32)))).2) (by decide) (by decide) ?_
  refine g_aload X8 hx (hb hby d38_137) rfl rfl ?_
  refine g_astoreN X8 hx #[vr a1, vr a2, vr a3, vr a4, vi 0, vr a4, vr a5, vn, vn, vr a7, vn, vr a8, vi (-1), vu, vu] (hb hby d38_139) rfl rfl ?_
  refine g_iload X8 hx (hb hby d38_140) rfl ?_
  refine g_istore X8 hx #[vr a1, vr a2, vr a3, vr a4, vi (-1), vr a4, vr a5, vn, vn, vr a7, vn, vr a8, vi (-1), vu, vu] (hb hby d38_142) rfl ?_
  refine g_iload X8 hx (hb hby d38_144) rfl ?_
  refine g_ifNo X8 hx (hb hby d38_146) ((if0 _ _).trans (tlt ((by decide) : (-1 : Int32) < (0 : Int32))).2.1) ?_
  refine g_aload X8 hx (hb hby d38_149) rfl rfl ?_
  refine g_iconst X8 hx (1 : Int32) (hb hby d38_151) (by decide) ?_
  refine g_call (own_callS X8 hx hZ (y := Y22) hown (Wd115 hw) (Wd116 hw) (Wd2 hw) (Wd117 hw) (by decide) (rm_addToLeftCount_107 l Z a0 hw a4 a5 a6 a7 h0 n0 Z0 O_a4 g_a4) e8 pd_17 (hb hby d38_152) (by rw [hml]; rfl) (argsL := [(.ref a4), (.int 1)]) (rest := []) rfl rfl rfl (W := 0) (Nat.le_of_eq rfl) (by decide)) (fun v9 T9 L9 X9 q9 => ?_)
  obtain ⟨rfl, M9, Kc9, Rk9_0⟩ := q9
  have N9 := Fr.app N8 M9
  have O_a1_9 := R_MP_keep O_a1 Kc9 (own_nin ne_a1_a4 List.not_mem_nil)
  have O_a2_9 := R_IN_keep O_a2 Kc9 (own_nin ne_a2_a4 List.not_mem_nil)
  have O_a3_9 := R_IN_keep O_a3 Kc9 (own_nin ne_a3_a4 List.not_mem_nil)
  have O_a5_9 := R_IN_keep O_a5 Kc9 (own_nin (Ne.symm ne_a4_a5) List.not_mem_nil)
  have O_a7_9 := R_ND_keep O_a7 Kc9 (own_nin (Ne.symm ne_a4_a7) List.not_mem_nil)
  have O_a8_9 := R_IN_keep O_a8 Kc9 (own_nin (Ne.symm ne_a4_a8) List.not_mem_nil)
  have K9 := Keep.trans K0 Kc9 (own_memc (Or.inl (List.mem_of_getElem? (i := 1) rfl)) own_memn)
  have Z9 : n0 ≤ T9.heap.size := Nat.le_trans Z0 Kc9.1
  refine g_iload X9 hx (hb hby d38_155) rfl ?_
  refine g_ifNo X9 hx (hb hby d38_157) ((if0 _ _).trans (tlt ((by decide) : (-1 : Int32) < (0 : Int32))).2.1) ?_
  refine g_aload X9 hx (hb hby d38_160) rfl rfl ?_
  refine g_goto X9 hx 167 (hb hby d38_162) (by decide) (by decide) ?_
  refine g_astore X9 hx #[vr a1, vr a2, vr a3, vr a4, vi (-1), vn, vr a5, vn, vn, vr a7, vn, vr a8, vi (-1), vu, vu] (hb hby d38_167) rfl rfl ?_
  refine g_iload X9 hx (hb hby d38_169) rfl ?_
  refine g_ifNo X9 hx (hb hby d38_171) ((if0 _ _).trans (tlt ((by decide) : (-1 : Int32) < (0 : Int32))).2.1) ?_
  refine g_aload X9 hx (hb hby d38_174) rfl rfl ?_
  refine g_goto X9 hx 181 (hb hby d38_176) (by decide) (by decide) ?_
  refine g_astore X9 hx #[vr a1, vr a2, vr a3, vr a4, vi (-1), vn, vn, vn, vn, vr a7, vn, vr a8, vi (-1), vu, vu] (hb hby d38_181) rfl rfl ?_
  refine g_goto X9 hx 71 (hb hby d38_183) (by decide) (by decide) ?_
  refine g_aload X9 hx (hb hby d38_71) rfl rfl ?_
  refine g_nullYes X9 hx 186 (hb hby d38_73) (by decide) (by decide) ?_
  refine g_aloadN X9 hx (hb hby d38_186) rfl rfl ?_
  refine g_aloadN X9 hx (hb hby d38_187) rfl rfl ?_
  refine g_aloadN X9 hx (hb hby d38_188) rfl rfl ?_
  refine g_aloadN X9 hx (hb hby d38_189) rfl rfl ?_
  refine g_call (own_callV X9 hx hZ (y := Y16) hown (Wd64 hw) (Wd65 hw) (Wd67 hw) (Wd66 hw) (Wd68 hw) (Wd2 hw) (by decide) (rm_newNode_37 l Z a0 hw a1 a2 a3 a4 T9.heap n0 Z9 ) (rfl : T9.heap = T9.heap) O_a1_9.1 pd_13 (hb hby d38_190) (by rw [hml]; rfl) (argsL := [(.ref a2), (.ref a3), (.ref a4)]) (rest := []) rfl rfl rfl (W := 0) (Nat.le_of_eq rfl) (by decide)) (fun v10 T10 L10 X10 q10 => ?_)
  obtain ⟨b10_0, rfl, M10, Kc10, zb10_0, Rk10_0⟩ := q10
  have N10 := Fr.app N9 M10
  have ne_a1_b10_0 : a1 ≠ b10_0 := Nat.ne_of_lt (Nat.lt_of_lt_of_le O_a1_9.1.lt zb10_0)
  have ne_a2_b10_0 : a2 ≠ b10_0 := Nat.ne_of_lt (Nat.lt_of_lt_of_le O_a2_9.1.lt zb10_0)
  have ne_a3_b10_0 : a3 ≠ b10_0 := Nat.ne_of_lt (Nat.lt_of_lt_of_le O_a3_9.1.lt zb10_0)
  have ne_a5_b10_0 : a5 ≠ b10_0 := Nat.ne_of_lt (Nat.lt_of_lt_of_le O_a5_9.1.lt zb10_0)
  have ne_a7_b10_0 : a7 ≠ b10_0 := Nat.ne_of_lt (Nat.lt_of_lt_of_le O_a7_9.1.lt zb10_0)
  have ne_a8_b10_0 : a8 ≠ b10_0 := Nat.ne_of_lt (Nat.lt_of_lt_of_le O_a8_9.1.lt zb10_0)
  have ne_a4_b10_0 : a4 ≠ b10_0 := Nat.ne_of_lt (Nat.lt_of_lt_of_le Rk9_0.1.lt zb10_0)
  have g_b10_0 : n0 ≤ b10_0 := Nat.le_trans Z9 zb10_0
  have sz_b10_0 : h0.size ≤ b10_0 := Nat.le_trans K9.1 zb10_0
  have O_a1_10 := R_MP_keep O_a1_9 Kc10 List.not_mem_nil
  have O_a2_10 := R_IN_keep O_a2_9 Kc10 List.not_mem_nil
  have O_a3_10 := R_IN_keep O_a3_9 Kc10 List.not_mem_nil
  have O_a5_10 := R_IN_keep O_a5_9 Kc10 List.not_mem_nil
  have O_a7_10 := R_ND_keep O_a7_9 Kc10 List.not_mem_nil
  have O_a8_10 := R_IN_keep O_a8_9 Kc10 List.not_mem_nil
  have O_a4_10 := R_ND_keep Rk9_0 Kc10 List.not_mem_nil
  have K10 := Keep.trans K9 Kc10 own_memn
  have Z10 : n0 ≤ T10.heap.size := Nat.le_trans Z9 Kc10.1
  refine g_astore X10 hx #[vr a1, vr a2, vr a3, vr a4, vi (-1), vn, vn, vr b10_0, vn, vr a7, vn, vr a8, vi (-1), vu, vu] (hb hby d38_193) rfl rfl ?_
  refine g_aload X10 hx (hb hby d38_195) rfl rfl ?_
  refine g_nonnullYes X10 hx 227 (hb hby d38_197) (by decide) (by decide) ?_
  refine g_iload X10 hx (hb hby d38_227) rfl ?_
  refine g_ifNo X10 hx (hb hby d38_229) ((if0 _ _).trans (tlt ((by decide) : (-1 : Int32) < (0 : Int32))).2.1) ?_
  refine g_aloadN X10 hx (hb hby d38_232) rfl rfl ?_
  refine g_aload X10 hx (hb hby d38_233) rfl rfl ?_
  refine g_putF X10 hx hZ hown (Wd95 hw) (rfl : T10.heap = T10.heap) O_a4_10.2.2.2.1 O_a4_10.1 (Or.inl (Wd96 hw)) (Wd70 hw) fd_2 rfl rfl (hb hby d38_235) (fun T11 h11 X11 e11 W11 => ?_)
  have N11 := Fr.snoc X11 N10 g_a4
  have O_a1_11 := R_MP_other W11 O_a1_10 ne_a1_a4
  have O_a2_11 := R_IN_other W11 O_a2_10 ne_a2_a4
  have O_a3_11 := R_IN_other W11 O_a3_10 ne_a3_a4
  have O_a5_11 := R_IN_other W11 O_a5_10 (Ne.symm ne_a4_a5)
  have O_a7_11 := R_ND_other W11 O_a7_10 (Ne.symm ne_a4_a7)
  have O_a8_11 := R_IN_other W11 O_a8_10 (Ne.symm ne_a4_a8)
  have O_a4_11 := R_ND_set_left hw W11 O_a4_10
  have O_b10_0_11 := R_ND_other W11 Rk10_0 (Ne.symm ne_a4_b10_0)
  have Z11 : n0 ≤ h11.size := Nat.le_trans Z10 (Nat.le_of_eq W11.size.symm)
  have K11 := Keep.wr K10 W11 (Or.inl (List.mem_of_getElem? (i := 1) rfl))
  refine g_goto X11 hx 247 (hb hby d38_238) (by decide) (by decide) ?_
  refine g_aloadN X11 hx (hb hby d38_247) rfl rfl ?_
  refine g_dup X11 hx (hb hby d38_248) rfl ?_
  refine g_getF X11 hx hZ hown (Wd90 hw) e11 O_a1_11.2.2.2.1 (hb hby d38_249) (fun T12 X12 e12 => ?_)
  refine g_iconst X12 hx (1 : Int32) (hb hby d38_252) (by decide) ?_
  refine g_iadd X12 hx (hb hby d38_253) ?_
  show Go p e below (T12.setTop (mkF m 254 #[vr a1, vr a2, vr a3, vr a4, vi (-1), vn, vn, vr b10_0, vn, vr a7, vn, vr a8, vi (-1), vu, vu] [(.int ((2 : Int32) + (1 : Int32))), (.ref a1)])) _
  rw [show ((2 : Int32) + (1 : Int32)) = (3 : Int32) from by decide]
  refine g_putF X12 hx hZ hown (Wd90 hw) e12 O_a1_11.2.2.2.1 O_a1_11.1 (Or.inl (Wd91 hw)) (Wd1 hw) fd_0 rfl rfl (hb hby d38_254) (fun T13 h13 X13 e13 W13 => ?_)
  have N13 := Fr.snoc X13 N11 g_a1
  have O_a1_13 := R_MP_set_size hw W13 O_a1_11
  have O_a2_13 := R_IN_other W13 O_a2_11 (Ne.symm ne_a1_a2)
  have O_a3_13 := R_IN_other W13 O_a3_11 (Ne.symm ne_a1_a3)
  have O_a5_13 := R_IN_other W13 O_a5_11 (Ne.symm ne_a1_a5)
  have O_a7_13 := R_ND_other W13 O_a7_11 (Ne.symm ne_a1_a7)
  have O_a8_13 := R_IN_other W13 O_a8_11 (Ne.symm ne_a1_a8)
  have O_a4_13 := R_ND_other W13 O_a4_11 (Ne.symm ne_a1_a4)
  have O_b10_0_13 := R_ND_other W13 O_b10_0_11 (Ne.symm ne_a1_b10_0)
  have Z13 : n0 ≤ h13.size := Nat.le_trans Z11 (Nat.le_of_eq W13.size.symm)
  have K13 := Keep.wr K11 W13 (Or.inl (List.mem_of_getElem? (i := 0) rfl))
  refine g_aloadN X13 hx (hb hby d38_257) rfl rfl ?_
  refine g_aloadN X13 hx (hb hby d38_258) rfl rfl ?_
  refine g_call (own_callV X13 hx hZ (y := Y23) hown (Wd102 hw) (Wd103 hw) (Wd105 hw) (Wd104 hw) (Wd106 hw) (Wd2 hw) (by decide) (rm_refreshToRoot_39 l Z a0 hw a1 a4 h13 n0 Z13 ) e13 O_a1_13.1 pd_18 (hb hby d38_259) (by rw [hml]; rfl) (argsL := [(.ref a4)]) (rest := []) rfl rfl rfl (W := 0) (Nat.le_of_eq rfl) (by decide)) (fun v14 T14 L14 X14 q14 => ?_)
  obtain ⟨rfl, M14, e14⟩ := q14
  have N14 := Fr.app N13 M14
  refine g_aloadN X14 hx (hb hby d38_262) rfl rfl ?_
  refine g_aload X14 hx (hb hby d38_263) rfl rfl ?_
  refine g_call (own_callP X14 hx hZ (y := Y25) hown (Wd107 hw) (Wd108 hw) (Wd109 hw) (Wd1 hw) (Wd110 hw) (Wd2 hw) (by decide) (rm_balanceAfterInsert_108 l Z a0 hw a1 b10_0 a4 i1 a2 a3 a5 a6 a7 i2 i3 i4 a8 a9 i5 h13 n0 Z13 O_a1_13 O_b10_0_13 O_a4_13 O_a2_13 O_a3_13 O_a5_13 O_a7_13 O_a8_13 ne_a1_a4 (Ne.symm ne_a4_b10_0) (Ne.symm ne_a2_a4) (Ne.symm ne_a3_a4) ne_a4_a5 ne_a4_a7 ne_a4_a8 g_a4 hk0) e14 O_a1_13.1 pd_18 (hb hby d38_265) (by rw [hml]; rfl) (argsL := [(.ref b10_0)]) (rest := []) rfl rfl rfl (W := 0) (Nat.le_of_eq rfl) (by decide)) (fun v15 T15 L15 X15 q15 => ?_)
  obtain ⟨rfl, M15, Kc15, Rk15_0⟩ := q15
  have N15 := Fr.app N14 M15
  have O_a1_15 := R_MP_keep O_a1_13 Kc15 (own_nin ne_a1_a4 List.not_mem_nil)
  have O_a2_15 := R_IN_keep O_a2_13 Kc15 (own_nin ne_a2_a4 List.not_mem_nil)
  have O_a3_15 := R_IN_keep O_a3_13 Kc15 (own_nin ne_a3_a4 List.not_mem_nil)
  have O_a5_15 := R_IN_keep O_a5_13 Kc15 (own_nin (Ne.symm ne_a4_a5) List.not_mem_nil)
  have O_a7_15 := R_ND_keep O_a7_13 Kc15 (own_nin (Ne.symm ne_a4_a7) List.not_mem_nil)
  have O_a8_15 := R_IN_keep O_a8_13 Kc15 (own_nin (Ne.symm ne_a4_a8) List.not_mem_nil)
  have O_b10_0_15 := R_ND_keep O_b10_0_13 Kc15 (own_nin (Ne.symm ne_a4_b10_0) List.not_mem_nil)
  have K15 := Keep.trans K13 Kc15 (own_memc (Or.inl (List.mem_of_getElem? (i := 1) rfl)) own_memn)
  have Z15 : n0 ≤ T15.heap.size := Nat.le_trans Z13 Kc15.1
  refine g_aloadN X15 hx (hb hby d38_268) rfl rfl ?_
  refine g_dup X15 hx (hb hby d38_269) rfl ?_
  refine g_getF X15 hx hZ hown (Wd92 hw) (rfl : T15.heap = T15.heap) O_a1_15.2.2.2.2 (hb hby d38_270) (fun T16 X16 e16 => ?_)
  refine g_iconst X16 hx (1 : Int32) (hb hby d38_273) (by decide) ?_
  refine g_iadd X16 hx (hb hby d38_274) ?_
  refine g_putF X16 hx hZ hown (Wd92 hw) e16 O_a1_15.2.2.2.2 O_a1_15.1 (Or.inl (Wd93 hw)) (Wd1 hw) fd_0 rfl rfl (hb hby d38_275) (fun T17 h17 X17 e17 W17 => ?_)
  have N17 := Fr.snoc X17 N15 g_a1
  have O_a1_17 := R_MP_set_modCount hw W17 O_a1_15
  have O_a2_17 := R_IN_other W17 O_a2_15 (Ne.symm ne_a1_a2)
  have O_a3_17 := R_IN_other W17 O_a3_15 (Ne.symm ne_a1_a3)
  have O_a5_17 := R_IN_other W17 O_a5_15 (Ne.symm ne_a1_a5)
  have O_a7_17 := R_ND_other W17 O_a7_15 (Ne.symm ne_a1_a7)
  have O_a8_17 := R_IN_other W17 O_a8_15 (Ne.symm ne_a1_a8)
  have O_b10_0_17 := R_ND_other W17 O_b10_0_15 (Ne.symm ne_a1_b10_0)
  have O_a4_17 := R_ND_other W17 Rk15_0 (Ne.symm ne_a1_a4)
  have Z17 : n0 ≤ h17.size := Nat.le_trans Z15 (Nat.le_of_eq W17.size.symm)
  have K17 := Keep.wr K15 W17 (Or.inl (List.mem_of_getElem? (i := 0) rfl))
  refine g_null X17 hx (hb hby d38_278) ?_
  exact own_retA X17 hx hret hlk rfl rfl (hb hby d38_279) (by decide) (by decide) (by rw [e17]; exact ⟨b10_0, rfl, N17, K17, sz_b10_0, O_a1_17, O_a4_17, O_b10_0_17⟩)
theorem rm_put_105 (l : Launch) (Z : State) (a0 : Array Value) (hw : HW a0 Z) (a1 : Addr) (a2 : Addr) (a3 : Addr) (a4 : Addr) (i1 : Int32) (i2 : Int32) (i3 : Int32) (a5 : Addr) (a6 : Addr) (a7 : Addr) (i4 : Int32) (a8 : Addr) (a9 : Addr) (i5 : Int32) (h0 : Heap) (n0 : Nat) (Z0 : n0 ≤ h0.size) (O_a1 : R_MP Z h0 a1 .null (.ref a4) (.int 2) (.int i1)) (O_a2 : R_IN Z h0 a2 (.int i2)) (O_a3 : R_IN Z h0 a3 (.int i3)) (O_a4 : R_ND Z h0 a4 (.ref a5) (.ref a6) .null (.ref a7) .null (.int 0)) (O_a5 : R_IN Z h0 a5 (.int i4)) (O_a7 : R_ND Z h0 a7 (.ref a8) (.ref a9) .null .null (.ref a4) (.int (-2147483648))) (O_a8 : R_IN Z h0 a8 (.int i5)) (ne_a1_a2 : a1 ≠ a2) (ne_a1_a3 : a1 ≠ a3) (ne_a1_a4 : a1 ≠ a4) (ne_a1_a5 : a1 ≠ a5) (ne_a1_a7 : a1 ≠ a7) (ne_a1_a8 : a1 ≠ a8) (ne_a2_a4 : a2 ≠ a4) (ne_a3_a4 : a3 ≠ a4) (ne_a4_a5 : a4 ≠ a5) (ne_a4_a7 : a4 ≠ a7) (ne_a4_a8 : a4 ≠ a8) (g_a1 : n0 ≤ a1) (g_a4 : n0 ≤ a4) (hk0 : i2 < i4) :
    Ctr l Y19 prog_7_method_8_code 4 (some (FieldType.object "java/lang/Object")) [] ({ frames := 5, cells := 1, slots := 6, locals := 79 } : Room) Z #[(.ref a1), (.ref a2), (.ref a3)] h0 (fun v h L => ∃ f1, v = some .null ∧ Fr n0 L ∧ Keep h0 h [a1, a4] ∧ h0.size ≤ f1 ∧ R_MP Z h a1 .null (.ref a4) (.int 3) (.int (i1 + (1 : Int32))) ∧ R_ND Z h a4 (.ref a5) (.ref a6) (.ref f1) (.ref a7) .null (.int 1) ∧ R_ND Z h f1 (.ref a2) (.ref a3) .null .null (.ref a4) (.int (-2147483648))) := by
  refine own_enter pn_2 (fun p e s m below meth c s₁ hx hby hml hown hnm hret hlk hZ X0 e0 => ?_)
  have N0 := Fr.nil n0
  have K0 := Keep.refl h0 [a1, a4]
  rw [ef_6_RRR m _ _ _]
  show Go p e below (s₁.setTop (mkF m 0 #[vr a1, vr a2, vr a3, vu] [])) _
  refine g_aloadN X0 hx (hb hby d6_0) rfl rfl ?_
  refine g_aloadN X0 hx (hb hby d6_1) rfl rfl ?_
  refine g_aloadN X0 hx (hb hby d6_2) rfl rfl ?_
  refine g_call (own_callPH X0 hx hZ (y := Y18) hown (Wd31 hw) (Wd32 hw) (Wd33 hw) (Wd1 hw) (Wd34 hw) (Wd2 hw) (by decide) (rm_addIfAbsent_106 l Z a0 hw a1 a2 a3 a4 i1 i2 i3 a5 a6 a7 i4 a8 a9 i5 h0 n0 Z0 O_a1 O_a2 O_a3 O_a4 O_a5 O_a7 O_a8 ne_a1_a2 ne_a1_a3 ne_a1_a4 ne_a1_a5 ne_a1_a7 ne_a1_a8 ne_a2_a4 ne_a3_a4 ne_a4_a5 ne_a4_a7 ne_a4_a8 g_a1 g_a4 hk0) e0 O_a1.1 pd_15 (hb hby d6_3) (by rw [hml]; rfl) (argsL := [(.ref a2), (.ref a3)]) (rest := []) rfl rfl rfl (W := 0) (Nat.le_of_eq rfl) (by decide)) (fun v1 T1 L1 X1 q1 => ?_)
  obtain ⟨b1_0, rfl, M1, Kc1, zb1_0, Rk1_0, Rk1_1, Rk1_2⟩ := q1
  have N1 := Fr.app N0 M1
  have ne_a1_b1_0 : a1 ≠ b1_0 := Nat.ne_of_lt (Nat.lt_of_lt_of_le O_a1.1.lt zb1_0)
  have ne_a2_b1_0 : a2 ≠ b1_0 := Nat.ne_of_lt (Nat.lt_of_lt_of_le O_a2.1.lt zb1_0)
  have ne_a3_b1_0 : a3 ≠ b1_0 := Nat.ne_of_lt (Nat.lt_of_lt_of_le O_a3.1.lt zb1_0)
  have ne_a4_b1_0 : a4 ≠ b1_0 := Nat.ne_of_lt (Nat.lt_of_lt_of_le O_a4.1.lt zb1_0)
  have ne_a5_b1_0 : a5 ≠ b1_0 := Nat.ne_of_lt (Nat.lt_of_lt_of_le O_a5.1.lt zb1_0)
  have ne_a7_b1_0 : a7 ≠ b1_0 := Nat.ne_of_lt (Nat.lt_of_lt_of_le O_a7.1.lt zb1_0)
  have ne_a8_b1_0 : a8 ≠ b1_0 := Nat.ne_of_lt (Nat.lt_of_lt_of_le O_a8.1.lt zb1_0)
  have g_b1_0 : n0 ≤ b1_0 := Nat.le_trans Z0 zb1_0
  have sz_b1_0 : h0.size ≤ b1_0 := Nat.le_trans K0.1 zb1_0
  have O_a2_1 := R_IN_keep O_a2 Kc1 (own_nin (Ne.symm ne_a1_a2) (own_nin ne_a2_a4 List.not_mem_nil))
  have O_a3_1 := R_IN_keep O_a3 Kc1 (own_nin (Ne.symm ne_a1_a3) (own_nin ne_a3_a4 List.not_mem_nil))
  have O_a5_1 := R_IN_keep O_a5 Kc1 (own_nin (Ne.symm ne_a1_a5) (own_nin (Ne.symm ne_a4_a5) List.not_mem_nil))
  have O_a7_1 := R_ND_keep O_a7 Kc1 (own_nin (Ne.symm ne_a1_a7) (own_nin (Ne.symm ne_a4_a7) List.not_mem_nil))
  have O_a8_1 := R_IN_keep O_a8 Kc1 (own_nin (Ne.symm ne_a1_a8) (own_nin (Ne.symm ne_a4_a8) List.not_mem_nil))
  have K1 := Keep.trans K0 Kc1 (own_memc (Or.inl (List.mem_of_getElem? (i := 0) rfl)) (own_memc (Or.inl (List.mem_of_getElem? (i := 1) rfl)) own_memn))
  have Z1 : n0 ≤ T1.heap.size := Nat.le_trans Z0 Kc1.1
  refine g_astoreN X1 hx #[vr a1, vr a2, vr a3, vn] (hb hby d6_6) rfl rfl ?_
  refine g_aloadN X1 hx (hb hby d6_7) rfl rfl ?_
  refine g_nonnullNo X1 hx (hb hby d6_8) ?_
  refine g_null X1 hx (hb hby d6_11) ?_
  refine g_goto X1 hx 21 (hb hby d6_12) (by decide) (by decide) ?_
  exact own_retA X1 hx hret hlk rfl rfl (hb hby d6_21) (by decide) (by decide) (by rw [(rfl : T1.heap = T1.heap)]; exact ⟨b1_0, rfl, N1, K1, sz_b1_0, Rk1_0, Rk1_1, Rk1_2⟩)
theorem rm_addIfAbsent_110 (l : Launch) (Z : State) (a0 : Array Value) (hw : HW a0 Z) (a1 : Addr) (a2 : Addr) (a3 : Addr) (a4 : Addr) (i1 : Int32) (i2 : Int32) (i3 : Int32) (a5 : Addr) (a6 : Addr) (a7 : Addr) (i4 : Int32) (a8 : Addr) (a9 : Addr) (i5 : Int32) (h0 : Heap) (n0 : Nat) (Z0 : n0 ≤ h0.size) (O_a1 : R_MP Z h0 a1 .null (.ref a4) (.int 2) (.int i1)) (O_a2 : R_IN Z h0 a2 (.int i2)) (O_a3 : R_IN Z h0 a3 (.int i3)) (O_a4 : R_ND Z h0 a4 (.ref a5) (.ref a6) .null (.ref a7) .null (.int 0)) (O_a5 : R_IN Z h0 a5 (.int i4)) (O_a7 : R_ND Z h0 a7 (.ref a8) (.ref a9) .null .null (.ref a4) (.int (-2147483648))) (O_a8 : R_IN Z h0 a8 (.int i5)) (hk0 : ¬ (i2 < i4)) (hk1 : i2 = i4) :
    CtrH l Y18 prog_7_method_65_code 15 (some (FieldType.object "com/example/rosewood/rosewood/RosewoodMap$Node")) [(71, 122, 210, 0), (137, 195, 210, 0), (210, 212, 210, 0)] ({ frames := 4, cells := 0, slots := 0, locals := 53 } : Room) Z #[(.ref a1), (.ref a2), (.ref a3)] h0 (fun v h L => v = some (.ref a4) ∧ Fr n0 L ∧ h = h0) := by
  refine own_enterH pn_2 (fun p e s m below meth c s₁ hx hby hml hown hnm hret hlk hZ X0 e0 => ?_)
  have N0 := Fr.nil n0
  have K0 := Keep.refl h0 []
  rw [ef_38_RRR m _ _ _]
  show Go p e below (s₁.setTop (mkF m 0 #[vr a1, vr a2, vr a3, vu, vu, vu, vu, vu, vu, vu, vu, vu, vu, vu, vu] [])) _
  refine g_aloadN X0 hx (hb hby d38_0) rfl rfl ?_
  refine g_getF X0 hx hZ hown (Wd35 hw) e0 O_a1.2.2.1 (hb hby d38_1) (fun T1 X1 e1 => ?_)
  refine g_nonnullYes X1 hx 50 (hb hby d38_4) (by decide) (by decide) ?_
  refine g_null X1 hx (hb hby d38_50) ?_
  refine g_astoreN X1 hx #[vr a1, vr a2, vr a3, vn, vu, vu, vu, vu, vu, vu, vu, vu, vu, vu, vu] (hb hby d38_51) rfl rfl ?_
  refine g_iconst X1 hx (0 : Int32) (hb hby d38_52) (by decide) ?_
  refine g_istore X1 hx #[vr a1, vr a2, vr a3, vn, vi 0, vu, vu, vu, vu, vu, vu, vu, vu, vu, vu] (hb hby d38_53) rfl ?_
  refine g_aloadN X1 hx (hb hby d38_55) rfl rfl ?_
  refine g_getF X1 hx hZ hown (Wd35 hw) e1 O_a1.2.2.1 (hb hby d38_56) (fun T2 X2 e2 => ?_)
  refine g_astore X2 hx #[vr a1, vr a2, vr a3, vn, vi 0, vr a4, vu, vu, vu, vu, vu, vu, vu, vu, vu] (hb hby d38_59) rfl rfl ?_
  refine g_aload X2 hx (hb hby d38_61) rfl rfl ?_
  refine g_getF X2 hx hZ hown (Wd94 hw) e2 O_a4.2.1 (hb hby d38_63) (fun T3 X3 e3 => ?_)
  refine g_astore X3 hx #[vr a1, vr a2, vr a3, vn, vi 0, vr a4, vr a5, vu, vu, vu, vu, vu, vu, vu, vu] (hb hby d38_66) rfl rfl ?_
  refine g_null X3 hx (hb hby d38_68) ?_
  refine g_astore X3 hx #[vr a1, vr a2, vr a3, vn, vi 0, vr a4, vr a5, vn, vu, vu, vu, vu, vu, vu, vu] (hb hby d38_69) rfl rfl ?_
  refine g_aload X3 hx (hb hby d38_71) rfl rfl ?_
  refine g_nullNo X3 hx (hb hby d38_73) ?_
  refine g_aload X3 hx (hb hby d38_76) rfl rfl ?_
  refine g_getF X3 hx hZ hown (Wd95 hw) e3 O_a4.2.2.2.1 (hb hby d38_78) (fun T4 X4 e4 => ?_)
  refine g_astore X4 hx #[vr a1, vr a2, vr a3, vn, vi 0, vr a4, vr a5, vn, vn, vu, vu, vu, vu, vu, vu] (hb hby d38_81) rfl rfl ?_
  refine g_aload X4 hx (hb hby d38_83) rfl rfl ?_
  refine g_getF X4 hx hZ hown (Wd97 hw) e4 O_a4.2.2.2.2.1 (hb hby d38_85) (fun T5 X5 e5 => ?_)
  refine g_astore X5 hx #[vr a1, vr a2, vr a3, vn, vi 0, vr a4, vr a5, vn, vn, vr a7, vu, vu, vu, vu, vu] (hb hby d38_88) rfl rfl ?_
  refine g_aload X5 hx (hb hby d38_90) rfl rfl ?_
  refine g_call (own_callS X5 hx hZ (y := Y7) hown (Wd99 hw) (Wd100 hw) (Wd2 hw) (Wd101 hw) (by decide) (rm_keyOf_9 l Z a0 hw  h0 n0 Z0 ) e5 pd_6 (hb hby d38_92) (by rw [hml]; rfl) (argsL := [.null]) (rest := []) rfl rfl rfl (W := 0) (Nat.le_of_eq rfl) (by decide)) (fun v6 T6 L6 X6 q6 => ?_)
  obtain ⟨rfl, M6, e6⟩ := q6
  have N6 := Fr.app N0 M6
  refine g_astore X6 hx #[vr a1, vr a2, vr a3, vn, vi 0, vr a4, vr a5, vn, vn, vr a7, vn, vu, vu, vu, vu] (hb hby d38_95) rfl rfl ?_
  refine g_aload X6 hx (hb hby d38_97) rfl rfl ?_
  refine g_call (own_callS X6 hx hZ (y := Y7) hown (Wd99 hw) (Wd100 hw) (Wd2 hw) (Wd101 hw) (by decide) (rm_keyOf_63 l Z a0 hw a7 a8 a9 a4 h0 n0 Z0 O_a7) e6 pd_6 (hb hby d38_99) (by rw [hml]; rfl) (argsL := [(.ref a7)]) (rest := []) rfl rfl rfl (W := 0) (Nat.le_of_eq rfl) (by decide)) (fun v7 T7 L7 X7 q7 => ?_)
  obtain ⟨rfl, M7, e7⟩ := q7
  have N7 := Fr.app N6 M7
  refine g_astore X7 hx #[vr a1, vr a2, vr a3, vn, vi 0, vr a4, vr a5, vn, vn, vr a7, vn, vr a8, vu, vu, vu] (hb hby d38_102) rfl rfl ?_
  refine g_aloadN X7 hx (hb hby d38_104) rfl rfl ?_
  refine g_aloadN X7 hx (hb hby d38_105) rfl rfl ?_
  refine g_aload X7 hx (hb hby d38_106) rfl rfl ?_
  refine g_call (own_callV X7 hx hZ (y := Y13) hown (Wd37 hw) (Wd38 hw) (Wd40 hw) (Wd39 hw) (Wd41 hw) (Wd2 hw) (by decide) (rm_compare_81 l Z a0 hw a1 a2 a5 a4 i1 i2 i4 h0 n0 Z0 O_a1 O_a2 O_a5 hk0 hk1) e7 O_a1.1 pd_11 (hb hby d38_108) (by rw [hml]; rfl) (argsL := [(.ref a2), (.ref a5)]) (rest := []) rfl rfl rfl (W := 0) (Nat.le_of_eq rfl) (by decide)) (fun v8 T8 L8 X8 q8 => ?_)
  obtain ⟨rfl, M8, e8⟩ := q8
  have N8 := Fr.app N7 M8
  refine g_istore X8 hx #[vr a1, vr a2, vr a3, vn, vi 0, vr a4, vr a5, vn, vn, vr a7, vn, vr a8, vi 0, vu, vu] (hb hby d38_111) rfl ?_
  refine g_iload X8 hx (hb hby d38_113) rfl ?_
  refine g_ifNo X8 hx (hb hby d38_115) ((if0 _ _).trans (teq ((by decide) : (0 : Int32) = (0 : Int32))).2) ?_
  refine g_aload X8 hx (hb hby d38_118) rfl rfl ?_
  refine g_astore X8 hx #[vr a1, vr a2, vr a3, vn, vi 0, vr a4, vr a5, vn, vn, vr a7, vn, vr a8, vi 0, vr a4, vu] (hb hby d38_120) rfl rfl ?_
  refine g_aload X8 hx (hb hby d38_122) rfl rfl ?_
  refine g_nonnullNo X8 hx (hb hby d38_124) ?_
  refine g_aloadN X8 hx (hb hby d38_127) rfl rfl ?_
  refine g_iload X8 hx (hb hby d38_128) rfl ?_
  refine g_iconst X8 hx (-1 : Int32) (hb hby d38_130) (by decide) ?_
  refine g_call (own_callS X8 hx hZ (y := Y26) hown (Wd190 hw) (Wd191 hw) (Wd2 hw) (Wd192 hw) (by decide) (rm_countPlace_49 l Z a0 hw  h0 n0 Z0 ) e8 pd_20 (hb hby d38_131) (by rw [hml]; rfl) (argsL := [.null, (.int 0), (.int (-1))]) (rest := []) rfl rfl rfl (W := 0) (Nat.le_of_eq rfl) (by decide)) (fun v9 T9 L9 X9 q9 => ?_)
  obtain ⟨rfl, M9, e9⟩ := q9
  have N9 := Fr.app N8 M9
  refine g_aload X9 hx (hb hby d38_134) rfl rfl ?_
  exact own_retA X9 hx hret hlk rfl rfl (hb hby d38_136) (by decide) (by decide) ⟨rfl, N9, e9⟩
theorem rm_setValue_112 (l : Launch) (Z : State) (a0 : Array Value) (hw : HW a0 Z) (a1 : Addr) (a2 : Addr) (a3 : Addr) (a4 : Addr) (a5 : Addr) (h0 : Heap) (n0 : Nat) (Z0 : n0 ≤ h0.size) (O_a1 : R_ND Z h0 a1 (.ref a3) (.ref a4) .null (.ref a5) .null (.int 0)) (g_a1 : n0 ≤ a1) :
    Ctr l Y27 prog_8_method_4_code 3 (some (FieldType.object "java/lang/Object")) [] ({ frames := 0, cells := 0, slots := 0, locals := 0 } : Room) Z #[(.ref a1), (.ref a2)] h0 (fun v h L => v = some (.ref a4) ∧ Fr n0 L ∧ Keep h0 h [a1] ∧ R_ND Z h a1 (.ref a3) (.ref a2) .null (.ref a5) .null (.int 0)) := by
  refine own_enter pn_4 (fun p e s m below meth c s₁ hx hby hml hown hnm hret hlk hZ X0 e0 => ?_)
  have N0 := Fr.nil n0
  have K0 := Keep.refl h0 [a1]
  rw [ef_36_RR m _ _]
  show Go p e below (s₁.setTop (mkF m 0 #[vr a1, vr a2, vu] [])) _
  refine g_aloadN X0 hx (hb hby d36_0) rfl rfl ?_
  refine g_getF X0 hx hZ hown (Wd81 hw) e0 O_a1.2.2.1 (hb hby d36_1) (fun T1 X1 e1 => ?_)
  refine g_astoreN X1 hx #[vr a1, vr a2, vr a4] (hb hby d36_4) rfl rfl ?_
  refine g_aloadN X1 hx (hb hby d36_5) rfl rfl ?_
  refine g_aloadN X1 hx (hb hby d36_6) rfl rfl ?_
  refine g_putF X1 hx hZ hown (Wd81 hw) e1 O_a1.2.2.1 O_a1.1 (Or.inl (Wd82 hw)) (Wd70 hw) fd_1 rfl rfl (hb hby d36_7) (fun T2 h2 X2 e2 W2 => ?_)
  have N2 := Fr.snoc X2 N0 g_a1
  have O_a1_2 := R_ND_set_value hw W2 O_a1
  have Z2 : n0 ≤ h2.size := Nat.le_trans Z0 (Nat.le_of_eq W2.size.symm)
  have K2 := Keep.wr K0 W2 (Or.inl (List.mem_of_getElem? (i := 0) rfl))
  refine g_aloadN X2 hx (hb hby d36_10) rfl rfl ?_
  exact own_retA X2 hx hret hlk rfl rfl (hb hby d36_11) (by decide) (by decide) (by rw [e2]; exact ⟨rfl, N2, K2, O_a1_2⟩)
theorem rm_replaceValue_111 (l : Launch) (Z : State) (a0 : Array Value) (hw : HW a0 Z) (a1 : Addr) (a2 : Addr) (a3 : Addr) (i1 : Int32) (i2 : Int32) (a4 : Addr) (a5 : Addr) (a6 : Addr) (h0 : Heap) (n0 : Nat) (Z0 : n0 ≤ h0.size) (O_a1 : R_MP Z h0 a1 .null (.ref a2) (.int 2) (.int i1)) (O_a3 : R_IN Z h0 a3 (.int i2)) (O_a2 : R_ND Z h0 a2 (.ref a4) (.ref a5) .null (.ref a6) .null (.int 0)) (ne_a1_a2 : a1 ≠ a2) (ne_a3_a2 : a3 ≠ a2) (g_a2 : n0 ≤ a2) :
    Ctr l Y28 prog_7_method_52_code 3 (some (FieldType.object "java/lang/Object")) [] ({ frames := 1, cells := 0, slots := 0, locals := 14 } : Room) Z #[(.ref a1), (.ref a2), (.ref a3)] h0 (fun v h L => v = some (.ref a5) ∧ Fr n0 L ∧ Keep h0 h [a2] ∧ R_ND Z h a2 (.ref a4) (.ref a3) .null (.ref a6) .null (.int 0)) := by
  refine own_enter pn_2 (fun p e s m below meth c s₁ hx hby hml hown hnm hret hlk hZ X0 e0 => ?_)
  have N0 := Fr.nil n0
  have K0 := Keep.refl h0 [a2]
  rw [ef_35_RRR m _ _ _]
  show Go p e below (s₁.setTop (mkF m 0 #[vr a1, vr a2, vr a3] [])) _
  refine g_aloadN X0 hx (hb hby d35_0) rfl rfl ?_
  refine g_aloadN X0 hx (hb hby d35_1) rfl rfl ?_
  refine g_call (own_callV X0 hx hZ (y := Y27) hown (Wd198 hw) (Wd199 hw) (Wd201 hw) (Wd200 hw) (Wd202 hw) (Wd71 hw) (by decide) (rm_setValue_112 l Z a0 hw a2 a3 a4 a5 a6 h0 n0 Z0 O_a2 g_a2) e0 O_a2.1 pd_5 (hb hby d35_2) (by rw [hml]; rfl) (argsL := [(.ref a3)]) (rest := []) rfl rfl rfl (W := 0) (Nat.le_of_eq rfl) (by decide)) (fun v1 T1 L1 X1 q1 => ?_)
  obtain ⟨rfl, M1, Kc1, Rk1_0⟩ := q1
  have N1 := Fr.app N0 M1
  have O_a1_1 := R_MP_keep O_a1 Kc1 (own_nin ne_a1_a2 List.not_mem_nil)
  have O_a3_1 := R_IN_keep O_a3 Kc1 (own_nin ne_a3_a2 List.not_mem_nil)
  have K1 := Keep.trans K0 Kc1 (own_memc (Or.inl (List.mem_of_getElem? (i := 0) rfl)) own_memn)
  have Z1 : n0 ≤ T1.heap.size := Nat.le_trans Z0 Kc1.1
  exact own_retA X1 hx hret hlk rfl rfl (hb hby d35_5) (by decide) (by decide) (by rw [(rfl : T1.heap = T1.heap)]; exact ⟨rfl, N1, K1, Rk1_0⟩)
theorem rm_put_109 (l : Launch) (Z : State) (a0 : Array Value) (hw : HW a0 Z) (a1 : Addr) (a2 : Addr) (a3 : Addr) (a4 : Addr) (i1 : Int32) (i2 : Int32) (i3 : Int32) (a5 : Addr) (a6 : Addr) (a7 : Addr) (i4 : Int32) (a8 : Addr) (a9 : Addr) (i5 : Int32) (h0 : Heap) (n0 : Nat) (Z0 : n0 ≤ h0.size) (O_a1 : R_MP Z h0 a1 .null (.ref a4) (.int 2) (.int i1)) (O_a2 : R_IN Z h0 a2 (.int i2)) (O_a3 : R_IN Z h0 a3 (.int i3)) (O_a4 : R_ND Z h0 a4 (.ref a5) (.ref a6) .null (.ref a7) .null (.int 0)) (O_a5 : R_IN Z h0 a5 (.int i4)) (O_a7 : R_ND Z h0 a7 (.ref a8) (.ref a9) .null .null (.ref a4) (.int (-2147483648))) (O_a8 : R_IN Z h0 a8 (.int i5)) (ne_a1_a4 : a1 ≠ a4) (ne_a2_a4 : a2 ≠ a4) (ne_a3_a4 : a3 ≠ a4) (ne_a4_a5 : a4 ≠ a5) (ne_a4_a7 : a4 ≠ a7) (ne_a4_a8 : a4 ≠ a8) (g_a4 : n0 ≤ a4) (hk0 : ¬ (i2 < i4)) (hk1 : i2 = i4) :
    Ctr l Y19 prog_7_method_8_code 4 (some (FieldType.object "java/lang/Object")) [] ({ frames := 5, cells := 0, slots := 0, locals := 79 } : Room) Z #[(.ref a1), (.ref a2), (.ref a3)] h0 (fun v h L => v = some (.ref a6) ∧ Fr n0 L ∧ Keep h0 h [a4] ∧ R_ND Z h a4 (.ref a5) (.ref a3) .null (.ref a7) .null (.int 0)) := by
  refine own_enter pn_2 (fun p e s m below meth c s₁ hx hby hml hown hnm hret hlk hZ X0 e0 => ?_)
  have N0 := Fr.nil n0
  have K0 := Keep.refl h0 [a4]
  rw [ef_6_RRR m _ _ _]
  show Go p e below (s₁.setTop (mkF m 0 #[vr a1, vr a2, vr a3, vu] [])) _
  refine g_aloadN X0 hx (hb hby d6_0) rfl rfl ?_
  refine g_aloadN X0 hx (hb hby d6_1) rfl rfl ?_
  refine g_aloadN X0 hx (hb hby d6_2) rfl rfl ?_
  refine g_call (own_callPH X0 hx hZ (y := Y18) hown (Wd31 hw) (Wd32 hw) (Wd33 hw) (Wd1 hw) (Wd34 hw) (Wd2 hw) (by decide) (rm_addIfAbsent_110 l Z a0 hw a1 a2 a3 a4 i1 i2 i3 a5 a6 a7 i4 a8 a9 i5 h0 n0 Z0 O_a1 O_a2 O_a3 O_a4 O_a5 O_a7 O_a8 hk0 hk1) e0 O_a1.1 pd_15 (hb hby d6_3) (by rw [hml]; rfl) (argsL := [(.ref a2), (.ref a3)]) (rest := []) rfl rfl rfl (W := 0) (Nat.le_of_eq rfl) (by decide)) (fun v1 T1 L1 X1 q1 => ?_)
  obtain ⟨rfl, M1, e1⟩ := q1
  have N1 := Fr.app N0 M1
  refine g_astoreN X1 hx #[vr a1, vr a2, vr a3, vr a4] (hb hby d6_6) rfl rfl ?_
  refine g_aloadN X1 hx (hb hby d6_7) rfl rfl ?_
  refine g_nonnullYes X1 hx 15 (hb hby d6_8) (by decide) (by decide) ?_
  refine g_aloadN X1 hx (hb hby d6_15) rfl rfl ?_
  refine g_aloadN X1 hx (hb hby d6_16) rfl rfl ?_
  refine g_aloadN X1 hx (hb hby d6_17) rfl rfl ?_
  refine g_call (own_callV X1 hx hZ (y := Y28) hown (Wd193 hw) (Wd194 hw) (Wd196 hw) (Wd195 hw) (Wd197 hw) (Wd2 hw) (by decide) (rm_replaceValue_111 l Z a0 hw a1 a4 a3 i1 i3 a5 a6 a7 h0 n0 Z0 O_a1 O_a3 O_a4 ne_a1_a4 ne_a3_a4 g_a4) e1 O_a1.1 pd_21 (hb hby d6_18) (by rw [hml]; rfl) (argsL := [(.ref a4), (.ref a3)]) (rest := []) rfl rfl rfl (W := 0) (Nat.le_of_eq rfl) (by decide)) (fun v2 T2 L2 X2 q2 => ?_)
  obtain ⟨rfl, M2, Kc2, Rk2_0⟩ := q2
  have N2 := Fr.app N1 M2
  have O_a1_2 := R_MP_keep O_a1 Kc2 (own_nin ne_a1_a4 List.not_mem_nil)
  have O_a2_2 := R_IN_keep O_a2 Kc2 (own_nin ne_a2_a4 List.not_mem_nil)
  have O_a3_2 := R_IN_keep O_a3 Kc2 (own_nin ne_a3_a4 List.not_mem_nil)
  have O_a5_2 := R_IN_keep O_a5 Kc2 (own_nin (Ne.symm ne_a4_a5) List.not_mem_nil)
  have O_a7_2 := R_ND_keep O_a7 Kc2 (own_nin (Ne.symm ne_a4_a7) List.not_mem_nil)
  have O_a8_2 := R_IN_keep O_a8 Kc2 (own_nin (Ne.symm ne_a4_a8) List.not_mem_nil)
  have K2 := Keep.trans K0 Kc2 (own_memc (Or.inl (List.mem_of_getElem? (i := 0) rfl)) own_memn)
  have Z2 : n0 ≤ T2.heap.size := Nat.le_trans Z0 Kc2.1
  exact own_retA X2 hx hret hlk rfl rfl (hb hby d6_21) (by decide) (by decide) (by rw [(rfl : T2.heap = T2.heap)]; exact ⟨rfl, N2, K2, Rk2_0⟩)
theorem d20_33 : decode prog_7_method_87_code 33 = .ok (.aload_n 3, 1) := by decide +kernel
theorem d20_34 : decode prog_7_method_87_code 34 = .ok (.aload_n 2, 1) := by decide +kernel
theorem d20_35 : decode prog_7_method_87_code 35 = .ok (.putfield 214, 3) := by decide +kernel
theorem rm_replaceInParent_117 (l : Launch) (Z : State) (a0 : Array Value) (hw : HW a0 Z) (a1 : Addr) (a2 : Addr) (a3 : Addr) (a4 : Addr) (i1 : Int32) (a5 : Addr) (a6 : Addr) (a7 : Addr) (a8 : Addr) (a9 : Addr) (a10 : Addr) (i2 : Int32) (i3 : Int32) (i4 : Int32) (i5 : Int32) (h0 : Heap) (n0 : Nat) (Z0 : n0 ≤ h0.size) (O_a1 : R_MP Z h0 a1 .null (.ref a4) (.int 3) (.int i1)) (O_a2 : R_ND Z h0 a2 (.ref a5) (.ref a6) .null .null (.ref a4) (.int (-2147483647))) (O_a3 : R_ND Z h0 a3 (.ref a7) (.ref a8) .null .null (.ref a2) (.int (-2147483648))) (O_a4 : R_ND Z h0 a4 (.ref a9) (.ref a10) .null (.ref a2) .null (.int 0)) (O_a5 : R_IN Z h0 a5 (.int i2)) (O_a7 : R_IN Z h0 a7 (.int i3)) (O_a8 : R_IN Z h0 a8 (.int i4)) (O_a9 : R_IN Z h0 a9 (.int i5)) (ne_a1_a3 : a1 ≠ a3) (ne_a1_a4 : a1 ≠ a4) (ne_a2_a3 : a2 ≠ a3) (ne_a2_a4 : a2 ≠ a4) (ne_a3_a4 : a3 ≠ a4) (ne_a3_a5 : a3 ≠ a5) (ne_a3_a7 : a3 ≠ a7) (ne_a3_a8 : a3 ≠ a8) (ne_a3_a9 : a3 ≠ a9) (ne_a4_a5 : a4 ≠ a5) (ne_a4_a7 : a4 ≠ a7) (ne_a4_a8 : a4 ≠ a8) (ne_a4_a9 : a4 ≠ a9) (g_a3 : n0 ≤ a3) (g_a4 : n0 ≤ a4) (hk0 : ¬ (i3 < i5)) (hk1 : ¬ (i3 = i5)) (hk2 : i3 < i2) :
    Ctr l Y29 prog_7_method_87_code 4 none [] ({ frames := 0, cells := 0, slots := 0, locals := 0 } : Room) Z #[(.ref a1), (.ref a2), (.ref a3)] h0 (fun v h L => v = none ∧ Fr n0 L ∧ Keep h0 h [a3, a4] ∧ R_ND Z h a3 (.ref a7) (.ref a8) .null .null (.ref a4) (.int (-2147483648)) ∧ R_ND Z h a4 (.ref a9) (.ref a10) .null (.ref a3) .null (.int 0)) := by
  refine own_enter pn_2 (fun p e s m below meth c s₁ hx hby hml hown hnm hret hlk hZ X0 e0 => ?_)
  have N0 := Fr.nil n0
  have K0 := Keep.refl h0 [a3, a4]
  rw [ef_20_RRR m _ _ _]
  show Go p e below (s₁.setTop (mkF m 0 #[vr a1, vr a2, vr a3, vu] [])) _
  refine g_aloadN X0 hx (hb hby d20_0) rfl rfl ?_
  refine g_getF X0 hx hZ hown (Wd111 hw) e0 O_a2.2.2.2.2.2.1 (hb hby d20_1) (fun T1 X1 e1 => ?_)
  refine g_astoreN X1 hx #[vr a1, vr a2, vr a3, vr a4] (hb hby d20_4) rfl rfl ?_
  refine g_aloadN X1 hx (hb hby d20_5) rfl rfl ?_
  refine g_nonnullYes X1 hx 17 (hb hby d20_6) (by decide) (by decide) ?_
  refine g_aloadN X1 hx (hb hby d20_17) rfl rfl ?_
  refine g_aloadN X1 hx (hb hby d20_18) rfl rfl ?_
  refine g_getF X1 hx hZ hown (Wd95 hw) e1 O_a4.2.2.2.1 (hb hby d20_19) (fun T2 X2 e2 => ?_)
  refine g_acmp X2 hx 33 false rfl rfl (hb hby d20_22) (decide_eq_false nofun) (by decide) (by decide) ?_
  refine g_aloadN X2 hx (hb hby d20_33) rfl rfl ?_
  refine g_aloadN X2 hx (hb hby d20_34) rfl rfl ?_
  refine g_putF X2 hx hZ hown (Wd97 hw) e2 O_a4.2.2.2.2.1 O_a4.1 (Or.inl (Wd98 hw)) (Wd70 hw) fd_2 rfl rfl (hb hby d20_35) (fun T3 h3 X3 e3 W3 => ?_)
  have N3 := Fr.snoc X3 N0 g_a4
  have O_a1_3 := R_MP_other W3 O_a1 ne_a1_a4
  have O_a2_3 := R_ND_other W3 O_a2 ne_a2_a4
  have O_a3_3 := R_ND_other W3 O_a3 ne_a3_a4
  have O_a4_3 := R_ND_set_right hw W3 O_a4
  have O_a5_3 := R_IN_other W3 O_a5 (Ne.symm ne_a4_a5)
  have O_a7_3 := R_IN_other W3 O_a7 (Ne.symm ne_a4_a7)
  have O_a8_3 := R_IN_other W3 O_a8 (Ne.symm ne_a4_a8)
  have O_a9_3 := R_IN_other W3 O_a9 (Ne.symm ne_a4_a9)
  have Z3 : n0 ≤ h3.size := Nat.le_trans Z0 (Nat.le_of_eq W3.size.symm)
  have K3 := Keep.wr K0 W3 (Or.inl (List.mem_of_getElem? (i := 1) rfl))
  refine g_aloadN X3 hx (hb hby d20_38) rfl rfl ?_
  refine g_nullNo X3 hx (hb hby d20_39) ?_
  refine g_aloadN X3 hx (hb hby d20_42) rfl rfl ?_
  refine g_aloadN X3 hx (hb hby d20_43) rfl rfl ?_
  refine g_putF X3 hx hZ hown (Wd111 hw) e3 O_a3_3.2.2.2.2.2.1 O_a3_3.1 (Or.inl (Wd84 hw)) (Wd70 hw) fd_2 rfl rfl (hb hby d20_44) (fun T4 h4 X4 e4 W4 => ?_)
  have N4 := Fr.snoc X4 N3 g_a3
  have O_a1_4 := R_MP_other W4 O_a1_3 ne_a1_a3
  have O_a2_4 := R_ND_other W4 O_a2_3 ne_a2_a3
  have O_a3_4 := R_ND_set_parent hw W4 O_a3_3
  have O_a4_4 := R_ND_other W4 O_a4_3 (Ne.symm ne_a3_a4)
  have O_a5_4 := R_IN_other W4 O_a5_3 (Ne.symm ne_a3_a5)
  have O_a7_4 := R_IN_other W4 O_a7_3 (Ne.symm ne_a3_a7)
  have O_a8_4 := R_IN_other W4 O_a8_3 (Ne.symm ne_a3_a8)
  have O_a9_4 := R_IN_other W4 O_a9_3 (Ne.symm ne_a3_a9)
  have Z4 : n0 ≤ h4.size := Nat.le_trans Z3 (Nat.le_of_eq W4.size.symm)
  have K4 := Keep.wr K3 W4 (Or.inl (List.mem_of_getElem? (i := 0) rfl))
  exact own_retV X4 hx hret hlk (hb hby d20_47) (by decide) (by decide) (by rw [e4]; exact ⟨rfl, N4, K4, O_a3_4, O_a4_4⟩)
theorem rm_leftCount_118 (l : Launch) (Z : State) (a0 : Array Value) (hw : HW a0 Z) (a1 : Addr) (a2 : Addr) (a3 : Addr) (a4 : Addr) (a5 : Addr) (h0 : Heap) (n0 : Nat) (Z0 : n0 ≤ h0.size) (O_a1 : R_ND Z h0 a1 (.ref a2) (.ref a3) .null (.ref a4) (.ref a5) (.int (-2147483648))) :
    Ctr l Y30 prog_7_method_83_code 1 (some FieldType.int) [] ({ frames := 0, cells := 0, slots := 0, locals := 0 } : Room) Z #[(.ref a1)] h0 (fun v h L => v = some (.int 0) ∧ Fr n0 L ∧ h = h0) := by
  refine own_enter pn_2 (fun p e s m below meth c s₁ hx hby hml hown hnm hret hlk hZ X0 e0 => ?_)
  have N0 := Fr.nil n0
  have K0 := Keep.refl h0 []
  rw [ef_21_R m _]
  show Go p e below (s₁.setTop (mkF m 0 #[vr a1] [])) _
  refine g_aloadN X0 hx (hb hby d21_0) rfl rfl ?_
  refine g_getF X0 hx hZ hown (Wd88 hw) e0 O_a1.2.2.2.2.2.2 (hb hby d21_1) (fun T1 X1 e1 => ?_)
  refine g_ldcw X1 hx hZ hown (Wd89 hw) (hb hby d21_4) ?_
  refine g_iand X1 hx (hb hby d21_7) ?_
  show Go p e below (T1.setTop (mkF m 8 #[vr a1] [(.int ((-2147483648 : Int32) &&& (2147483647 : Int32)))])) _
  rw [show ((-2147483648 : Int32) &&& (2147483647 : Int32)) = (0 : Int32) from by decide]
  exact own_retI X1 hx hret hlk (hb hby d21_8) (by decide) (by decide) ⟨rfl, N0, e1⟩
theorem rm_addToLeftCount_119 (l : Launch) (Z : State) (a0 : Array Value) (hw : HW a0 Z) (a1 : Addr) (a2 : Addr) (a3 : Addr) (a4 : Addr) (h0 : Heap) (n0 : Nat) (Z0 : n0 ≤ h0.size) (O_a1 : R_ND Z h0 a1 (.ref a2) (.ref a3) .null .null (.ref a4) (.int (-2147483647))) (g_a1 : n0 ≤ a1) :
    Ctr l Y22 prog_7_method_84_code 2 none [] ({ frames := 0, cells := 0, slots := 0, locals := 0 } : Room) Z #[(.ref a1), (.int (-1))] h0 (fun v h L => v = none ∧ Fr n0 L ∧ Keep h0 h [a1] ∧ R_ND Z h a1 (.ref a2) (.ref a3) .null .null (.ref a4) (.int (-2147483648))) := by
  refine own_enter pn_2 (fun p e s m below meth c s₁ hx hby hml hown hnm hret hlk hZ X0 e0 => ?_)
  have N0 := Fr.nil n0
  have K0 := Keep.refl h0 [a1]
  rw [ef_18_RI m _ _]
  show Go p e below (s₁.setTop (mkF m 0 #[vr a1, vi (-1)] [])) _
  refine g_aloadN X0 hx (hb hby d18_0) rfl rfl ?_
  refine g_dup X0 hx (hb hby d18_1) rfl ?_
  refine g_getF X0 hx hZ hown (Wd88 hw) e0 O_a1.2.2.2.2.2.2 (hb hby d18_2) (fun T1 X1 e1 => ?_)
  refine g_iloadN X1 hx (hb hby d18_5) rfl ?_
  refine g_iadd X1 hx (hb hby d18_6) ?_
  show Go p e below (T1.setTop (mkF m 7 #[vr a1, vi (-1)] [(.int ((-2147483647 : Int32) + (-1 : Int32))), (.ref a1)])) _
  rw [show ((-2147483647 : Int32) + (-1 : Int32)) = (-2147483648 : Int32) from by decide]
  refine g_putF X1 hx hZ hown (Wd88 hw) e1 O_a1.2.2.2.2.2.2 O_a1.1 (Or.inl (Wd78 hw)) (Wd70 hw) fd_0 rfl rfl (hb hby d18_7) (fun T2 h2 X2 e2 W2 => ?_)
  have N2 := Fr.snoc X2 N0 g_a1
  have O_a1_2 := R_ND_set_redAndLeftCount hw W2 O_a1
  have Z2 : n0 ≤ h2.size := Nat.le_trans Z0 (Nat.le_of_eq W2.size.symm)
  have K2 := Keep.wr K0 W2 (Or.inl (List.mem_of_getElem? (i := 0) rfl))
  exact own_retV X2 hx hret hlk (hb hby d18_10) (by decide) (by decide) (by rw [e2]; exact ⟨rfl, N2, K2, O_a1_2⟩)
theorem rm_rotateRight_116 (l : Launch) (Z : State) (a0 : Array Value) (hw : HW a0 Z) (a1 : Addr) (a2 : Addr) (a3 : Addr) (i1 : Int32) (a4 : Addr) (a5 : Addr) (a6 : Addr) (a7 : Addr) (a8 : Addr) (i2 : Int32) (a9 : Addr) (a10 : Addr) (i3 : Int32) (i4 : Int32) (i5 : Int32) (h0 : Heap) (n0 : Nat) (Z0 : n0 ≤ h0.size) (O_a1 : R_MP Z h0 a1 .null (.ref a3) (.int 3) (.int i1)) (O_a2 : R_ND Z h0 a2 (.ref a4) (.ref a5) (.ref a6) .null (.ref a3) (.int (-2147483647))) (O_a3 : R_ND Z h0 a3 (.ref a7) (.ref a8) .null (.ref a2) .null (.int 0)) (O_a4 : R_IN Z h0 a4 (.int i2)) (O_a6 : R_ND Z h0 a6 (.ref a9) (.ref a10) .null .null (.ref a2) (.int (-2147483648))) (O_a7 : R_IN Z h0 a7 (.int i3)) (O_a9 : R_IN Z h0 a9 (.int i4)) (O_a10 : R_IN Z h0 a10 (.int i5)) (ne_a1_a2 : a1 ≠ a2) (ne_a1_a3 : a1 ≠ a3) (ne_a1_a6 : a1 ≠ a6) (ne_a2_a3 : a2 ≠ a3) (ne_a2_a4 : a2 ≠ a4) (ne_a2_a6 : a2 ≠ a6) (ne_a2_a7 : a2 ≠ a7) (ne_a2_a9 : a2 ≠ a9) (ne_a2_a10 : a2 ≠ a10) (ne_a3_a4 : a3 ≠ a4) (ne_a3_a6 : a3 ≠ a6) (ne_a3_a7 : a3 ≠ a7) (ne_a3_a9 : a3 ≠ a9) (ne_a3_a10 : a3 ≠ a10) (ne_a4_a6 : a4 ≠ a6) (ne_a6_a7 : a6 ≠ a7) (ne_a6_a9 : a6 ≠ a9) (ne_a6_a10 : a6 ≠ a10) (g_a2 : n0 ≤ a2) (g_a3 : n0 ≤ a3) (g_a6 : n0 ≤ a6) (hk0 : ¬ (i4 < i3)) (hk1 : ¬ (i4 = i3)) (hk2 : i4 < i2) :
    Ctr l Y32 prog_7_method_89_code 3 none [] ({ frames := 1, cells := 0, slots := 0, locals := 15 } : Room) Z #[(.ref a1), (.ref a2)] h0 (fun v h L => v = none ∧ Fr n0 L ∧ Keep h0 h [a2, a3, a6] ∧ R_ND Z h a2 (.ref a4) (.ref a5) .null .null (.ref a6) (.int (-2147483648)) ∧ R_ND Z h a3 (.ref a7) (.ref a8) .null (.ref a6) .null (.int 0) ∧ R_ND Z h a6 (.ref a9) (.ref a10) .null (.ref a2) (.ref a3) (.int (-2147483648))) := by
  refine own_enter pn_2 (fun p e s m below meth c s₁ hx hby hml hown hnm hret hlk hZ X0 e0 => ?_)
  have N0 := Fr.nil n0
  have K0 := Keep.refl h0 [a2, a3, a6]
  rw [ef_19_RR m _ _]
  show Go p e below (s₁.setTop (mkF m 0 #[vr a1, vr a2, vu] [])) _
  refine g_aloadN X0 hx (hb hby d19_0) rfl rfl ?_
  refine g_getF X0 hx hZ hown (Wd95 hw) e0 O_a2.2.2.2.1 (hb hby d19_1) (fun T1 X1 e1 => ?_)
  refine g_astoreN X1 hx #[vr a1, vr a2, vr a6] (hb hby d19_4) rfl rfl ?_
  refine g_aloadN X1 hx (hb hby d19_5) rfl rfl ?_
  refine g_aloadN X1 hx (hb hby d19_6) rfl rfl ?_
  refine g_getF X1 hx hZ hown (Wd97 hw) e1 O_a6.2.2.2.2.1 (hb hby d19_7) (fun T2 X2 e2 => ?_)
  refine g_putF X2 hx hZ hown (Wd95 hw) e2 O_a2.2.2.2.1 O_a2.1 (Or.inl (Wd96 hw)) (Wd70 hw) fd_2 rfl rfl (hb hby d19_10) (fun T3 h3 X3 e3 W3 => ?_)
  have N3 := Fr.snoc X3 N0 g_a2
  have O_a1_3 := R_MP_other W3 O_a1 ne_a1_a2
  have O_a2_3 := R_ND_set_left hw W3 O_a2
  have O_a3_3 := R_ND_other W3 O_a3 (Ne.symm ne_a2_a3)
  have O_a4_3 := R_IN_other W3 O_a4 (Ne.symm ne_a2_a4)
  have O_a6_3 := R_ND_other W3 O_a6 (Ne.symm ne_a2_a6)
  have O_a7_3 := R_IN_other W3 O_a7 (Ne.symm ne_a2_a7)
  have O_a9_3 := R_IN_other W3 O_a9 (Ne.symm ne_a2_a9)
  have O_a10_3 := R_IN_other W3 O_a10 (Ne.symm ne_a2_a10)
  have Z3 : n0 ≤ h3.size := Nat.le_trans Z0 (Nat.le_of_eq W3.size.symm)
  have K3 := Keep.wr K0 W3 (Or.inl (List.mem_of_getElem? (i := 0) rfl))
  refine g_aloadN X3 hx (hb hby d19_13) rfl rfl ?_
  refine g_getF X3 hx hZ hown (Wd97 hw) e3 O_a6_3.2.2.2.2.1 (hb hby d19_14) (fun T4 X4 e4 => ?_)
  refine g_nullYes X4 hx 28 (hb hby d19_17) (by decide) (by decide) ?_
  refine g_aloadN X4 hx (hb hby d19_28) rfl rfl ?_
  refine g_aloadN X4 hx (hb hby d19_29) rfl rfl ?_
  refine g_aloadN X4 hx (hb hby d19_30) rfl rfl ?_
  refine g_call (own_callP X4 hx hZ (y := Y29) hown (Wd122 hw) (Wd123 hw) (Wd124 hw) (Wd1 hw) (Wd125 hw) (Wd2 hw) (by decide) (rm_replaceInParent_117 l Z a0 hw a1 a2 a6 a3 i1 a4 a5 a9 a10 a7 a8 i2 i4 i5 i3 h3 n0 Z3 O_a1_3 O_a2_3 O_a6_3 O_a3_3 O_a4_3 O_a9_3 O_a10_3 O_a7_3 ne_a1_a6 ne_a1_a3 ne_a2_a6 ne_a2_a3 (Ne.symm ne_a3_a6) (Ne.symm ne_a4_a6) ne_a6_a9 ne_a6_a10 ne_a6_a7 ne_a3_a4 ne_a3_a9 ne_a3_a10 ne_a3_a7 g_a6 g_a3 hk0 hk1 hk2) e4 O_a1_3.1 pd_22 (hb hby d19_31) (by rw [hml]; rfl) (argsL := [(.ref a2), (.ref a6)]) (rest := []) rfl rfl rfl (W := 0) (Nat.le_of_eq rfl) (by decide)) (fun v5 T5 L5 X5 q5 => ?_)
  obtain ⟨rfl, M5, Kc5, Rk5_0, Rk5_1⟩ := q5
  have N5 := Fr.app N3 M5
  have O_a1_5 := R_MP_keep O_a1_3 Kc5 (own_nin ne_a1_a6 (own_nin ne_a1_a3 List.not_mem_nil))
  have O_a2_5 := R_ND_keep O_a2_3 Kc5 (own_nin ne_a2_a6 (own_nin ne_a2_a3 List.not_mem_nil))
  have O_a4_5 := R_IN_keep O_a4_3 Kc5 (own_nin ne_a4_a6 (own_nin (Ne.symm ne_a3_a4) List.not_mem_nil))
  have O_a7_5 := R_IN_keep O_a7_3 Kc5 (own_nin (Ne.symm ne_a6_a7) (own_nin (Ne.symm ne_a3_a7) List.not_mem_nil))
  have O_a9_5 := R_IN_keep O_a9_3 Kc5 (own_nin (Ne.symm ne_a6_a9) (own_nin (Ne.symm ne_a3_a9) List.not_mem_nil))
  have O_a10_5 := R_IN_keep O_a10_3 Kc5 (own_nin (Ne.symm ne_a6_a10) (own_nin (Ne.symm ne_a3_a10) List.not_mem_nil))
  have K5 := Keep.trans K3 Kc5 (own_memc (Or.inl (List.mem_of_getElem? (i := 2) rfl)) (own_memc (Or.inl (List.mem_of_getElem? (i := 1) rfl)) own_memn))
  have Z5 : n0 ≤ T5.heap.size := Nat.le_trans Z3 Kc5.1
  refine g_aloadN X5 hx (hb hby d19_34) rfl rfl ?_
  refine g_aloadN X5 hx (hb hby d19_35) rfl rfl ?_
  refine g_putF X5 hx hZ hown (Wd97 hw) (rfl : T5.heap = T5.heap) Rk5_0.2.2.2.2.1 Rk5_0.1 (Or.inl (Wd98 hw)) (Wd70 hw) fd_2 rfl rfl (hb hby d19_36) (fun T6 h6 X6 e6 W6 => ?_)
  have N6 := Fr.snoc X6 N5 g_a6
  have O_a1_6 := R_MP_other W6 O_a1_5 ne_a1_a6
  have O_a2_6 := R_ND_other W6 O_a2_5 ne_a2_a6
  have O_a4_6 := R_IN_other W6 O_a4_5 ne_a4_a6
  have O_a7_6 := R_IN_other W6 O_a7_5 (Ne.symm ne_a6_a7)
  have O_a9_6 := R_IN_other W6 O_a9_5 (Ne.symm ne_a6_a9)
  have O_a10_6 := R_IN_other W6 O_a10_5 (Ne.symm ne_a6_a10)
  have O_a6_6 := R_ND_set_right hw W6 Rk5_0
  have O_a3_6 := R_ND_other W6 Rk5_1 ne_a3_a6
  have Z6 : n0 ≤ h6.size := Nat.le_trans Z5 (Nat.le_of_eq W6.size.symm)
  have K6 := Keep.wr K5 W6 (Or.inl (List.mem_of_getElem? (i := 2) rfl))
  refine g_aloadN X6 hx (hb hby d19_39) rfl rfl ?_
  refine g_aloadN X6 hx (hb hby d19_40) rfl rfl ?_
  refine g_putF X6 hx hZ hown (Wd111 hw) e6 O_a2_6.2.2.2.2.2.1 O_a2_6.1 (Or.inl (Wd84 hw)) (Wd70 hw) fd_2 rfl rfl (hb hby d19_41) (fun T7 h7 X7 e7 W7 => ?_)
  have N7 := Fr.snoc X7 N6 g_a2
  have O_a1_7 := R_MP_other W7 O_a1_6 ne_a1_a2
  have O_a2_7 := R_ND_set_parent hw W7 O_a2_6
  have O_a4_7 := R_IN_other W7 O_a4_6 (Ne.symm ne_a2_a4)
  have O_a7_7 := R_IN_other W7 O_a7_6 (Ne.symm ne_a2_a7)
  have O_a9_7 := R_IN_other W7 O_a9_6 (Ne.symm ne_a2_a9)
  have O_a10_7 := R_IN_other W7 O_a10_6 (Ne.symm ne_a2_a10)
  have O_a6_7 := R_ND_other W7 O_a6_6 (Ne.symm ne_a2_a6)
  have O_a3_7 := R_ND_other W7 O_a3_6 (Ne.symm ne_a2_a3)
  have Z7 : n0 ≤ h7.size := Nat.le_trans Z6 (Nat.le_of_eq W7.size.symm)
  have K7 := Keep.wr K6 W7 (Or.inl (List.mem_of_getElem? (i := 0) rfl))
  refine g_aloadN X7 hx (hb hby d19_44) rfl rfl ?_
  refine g_aloadN X7 hx (hb hby d19_45) rfl rfl ?_
  refine g_call (own_callS X7 hx hZ (y := Y30) hown (Wd126 hw) (Wd127 hw) (Wd2 hw) (Wd128 hw) (by decide) (rm_leftCount_118 l Z a0 hw a6 a9 a10 a2 a3 h7 n0 Z7 O_a6_7) e7 pd_23 (hb hby d19_46) (by rw [hml]; rfl) (argsL := [(.ref a6)]) (rest := [(.ref a2)]) rfl rfl rfl (W := 1) (Nat.le_of_eq rfl) (by decide)) (fun v8 T8 L8 X8 q8 => ?_)
  obtain ⟨rfl, M8, e8⟩ := q8
  have N8 := Fr.app N7 M8
  refine Go.mp (fun _ k => XS.ineg X8.here hx rfl (hb hby d19_49) rfl k) ?_
  show Go p e below (T8.setTop (mkF m 50 #[vr a1, vr a2, vr a6] [(.int (-(0 : Int32))), (.ref a2)])) _
  refine g_iconst X8 hx (1 : Int32) (hb hby d19_50) (by decide) ?_
  refine g_isub X8 hx (hb hby d19_51) ?_
  show Go p e below (T8.setTop (mkF m 52 #[vr a1, vr a2, vr a6] [(.int ((-(0 : Int32)) - (1 : Int32))), (.ref a2)])) _
  rw [show ((-(0 : Int32)) - (1 : Int32)) = (-1 : Int32) from by decide]
  refine g_call (own_callS X8 hx hZ (y := Y22) hown (Wd115 hw) (Wd116 hw) (Wd2 hw) (Wd117 hw) (by decide) (rm_addToLeftCount_119 l Z a0 hw a2 a4 a5 a6 h7 n0 Z7 O_a2_7 g_a2) e8 pd_17 (hb hby d19_52) (by rw [hml]; rfl) (argsL := [(.ref a2), (.int (-1))]) (rest := []) rfl rfl rfl (W := 0) (Nat.le_of_eq rfl) (by decide)) (fun v9 T9 L9 X9 q9 => ?_)
  obtain ⟨rfl, M9, Kc9, Rk9_0⟩ := q9
  have N9 := Fr.app N8 M9
  have O_a1_9 := R_MP_keep O_a1_7 Kc9 (own_nin ne_a1_a2 List.not_mem_nil)
  have O_a4_9 := R_IN_keep O_a4_7 Kc9 (own_nin (Ne.symm ne_a2_a4) List.not_mem_nil)
  have O_a7_9 := R_IN_keep O_a7_7 Kc9 (own_nin (Ne.symm ne_a2_a7) List.not_mem_nil)
  have O_a9_9 := R_IN_keep O_a9_7 Kc9 (own_nin (Ne.symm ne_a2_a9) List.not_mem_nil)
  have O_a10_9 := R_IN_keep O_a10_7 Kc9 (own_nin (Ne.symm ne_a2_a10) List.not_mem_nil)
  have O_a6_9 := R_ND_keep O_a6_7 Kc9 (own_nin (Ne.symm ne_a2_a6) List.not_mem_nil)
  have O_a3_9 := R_ND_keep O_a3_7 Kc9 (own_nin (Ne.symm ne_a2_a3) List.not_mem_nil)
  have K9 := Keep.trans K7 Kc9 (own_memc (Or.inl (List.mem_of_getElem? (i := 0) rfl)) own_memn)
  have Z9 : n0 ≤ T9.heap.size := Nat.le_trans Z7 Kc9.1
  refine g_aloadN X9 hx (hb hby d19_55) rfl rfl ?_
  refine g_aloadN X9 hx (hb hby d19_56) rfl rfl ?_
  refine g_call (own_callV X9 hx hZ (y := Y31) hown (Wd129 hw) (Wd130 hw) (Wd132 hw) (Wd131 hw) (Wd133 hw) (Wd2 hw) (by decide) (rm_refresh_76 l Z a0 hw a1 a2 T9.heap n0 Z9 ) (rfl : T9.heap = T9.heap) O_a1_9.1 pd_18 (hb hby d19_57) (by rw [hml]; rfl) (argsL := [(.ref a2)]) (rest := []) rfl rfl rfl (W := 0) (Nat.le_of_eq rfl) (by decide)) (fun v10 T10 L10 X10 q10 => ?_)
  obtain ⟨rfl, M10, e10⟩ := q10
  have N10 := Fr.app N9 M10
  refine g_aloadN X10 hx (hb hby d19_60) rfl rfl ?_
  refine g_aloadN X10 hx (hb hby d19_61) rfl rfl ?_
  refine g_call (own_callV X10 hx hZ (y := Y31) hown (Wd129 hw) (Wd130 hw) (Wd132 hw) (Wd131 hw) (Wd133 hw) (Wd2 hw) (by decide) (rm_refresh_76 l Z a0 hw a1 a6 T9.heap n0 Z9 ) e10 O_a1_9.1 pd_18 (hb hby d19_62) (by rw [hml]; rfl) (argsL := [(.ref a6)]) (rest := []) rfl rfl rfl (W := 0) (Nat.le_of_eq rfl) (by decide)) (fun v11 T11 L11 X11 q11 => ?_)
  obtain ⟨rfl, M11, e11⟩ := q11
  have N11 := Fr.app N10 M11
  exact own_retV X11 hx hret hlk (hb hby d19_65) (by decide) (by decide) (by rw [e11]; exact ⟨rfl, N11, K9, Rk9_0, O_a3_9, O_a6_9⟩)
theorem rm_setRed_120 (l : Launch) (Z : State) (a0 : Array Value) (hw : HW a0 Z) (a1 : Addr) (a2 : Addr) (a3 : Addr) (a4 : Addr) (a5 : Addr) (h0 : Heap) (n0 : Nat) (Z0 : n0 ≤ h0.size) (O_a1 : R_ND Z h0 a1 (.ref a2) (.ref a3) .null (.ref a4) (.ref a5) (.int (-2147483648))) (g_a1 : n0 ≤ a1) :
    Ctr l Y17 prog_7_method_82_code 2 none [] ({ frames := 0, cells := 0, slots := 0, locals := 0 } : Room) Z #[(.ref a1), (.int 0)] h0 (fun v h L => v = none ∧ Fr n0 L ∧ Keep h0 h [a1] ∧ R_ND Z h a1 (.ref a2) (.ref a3) .null (.ref a4) (.ref a5) (.int 0)) := by
  refine own_enter pn_2 (fun p e s m below meth c s₁ hx hby hml hown hnm hret hlk hZ X0 e0 => ?_)
  have N0 := Fr.nil n0
  have K0 := Keep.refl h0 [a1]
  rw [ef_13_RI m _ _]
  show Go p e below (s₁.setTop (mkF m 0 #[vr a1, vi 0] [])) _
  refine g_aloadN X0 hx (hb hby d13_0) rfl rfl ?_
  refine g_iloadN X0 hx (hb hby d13_1) rfl ?_
  refine g_ifYes X0 hx 16 (hb hby d13_2) ((if0 _ _).trans (teq ((by decide) : (0 : Int32) = (0 : Int32))).1) (by decide) (by decide) ?_
  refine g_aloadN X0 hx (hb hby d13_16) rfl rfl ?_
  refine g_getF X0 hx hZ hown (Wd88 hw) e0 O_a1.2.2.2.2.2.2 (hb hby d13_17) (fun T1 X1 e1 => ?_)
  refine g_ldcw X1 hx hZ hown (Wd89 hw) (hb hby d13_20) ?_
  refine g_iand X1 hx (hb hby d13_23) ?_
  show Go p e below (T1.setTop (mkF m 24 #[vr a1, vi 0] [(.int ((-2147483648 : Int32) &&& (2147483647 : Int32))), (.ref a1)])) _
  rw [show ((-2147483648 : Int32) &&& (2147483647 : Int32)) = (0 : Int32) from by decide]
  refine g_putF X1 hx hZ hown (Wd88 hw) e1 O_a1.2.2.2.2.2.2 O_a1.1 (Or.inl (Wd78 hw)) (Wd70 hw) fd_0 rfl rfl (hb hby d13_24) (fun T2 h2 X2 e2 W2 => ?_)
  have N2 := Fr.snoc X2 N0 g_a1
  have O_a1_2 := R_ND_set_redAndLeftCount hw W2 O_a1
  have Z2 : n0 ≤ h2.size := Nat.le_trans Z0 (Nat.le_of_eq W2.size.symm)
  have K2 := Keep.wr K0 W2 (Or.inl (List.mem_of_getElem? (i := 0) rfl))
  exact own_retV X2 hx hret hlk (hb hby d13_27) (by decide) (by decide) (by rw [e2]; exact ⟨rfl, N2, K2, O_a1_2⟩)
theorem rm_setRed_121 (l : Launch) (Z : State) (a0 : Array Value) (hw : HW a0 Z) (a1 : Addr) (a2 : Addr) (a3 : Addr) (a4 : Addr) (h0 : Heap) (n0 : Nat) (Z0 : n0 ≤ h0.size) (O_a1 : R_ND Z h0 a1 (.ref a2) (.ref a3) .null (.ref a4) .null (.int 0)) (g_a1 : n0 ≤ a1) :
    Ctr l Y17 prog_7_method_82_code 2 none [] ({ frames := 0, cells := 0, slots := 0, locals := 0 } : Room) Z #[(.ref a1), (.int 1)] h0 (fun v h L => v = none ∧ Fr n0 L ∧ Keep h0 h [a1] ∧ R_ND Z h a1 (.ref a2) (.ref a3) .null (.ref a4) .null (.int (-2147483648))) := by
  refine own_enter pn_2 (fun p e s m below meth c s₁ hx hby hml hown hnm hret hlk hZ X0 e0 => ?_)
  have N0 := Fr.nil n0
  have K0 := Keep.refl h0 [a1]
  rw [ef_13_RI m _ _]
  show Go p e below (s₁.setTop (mkF m 0 #[vr a1, vi 1] [])) _
  refine g_aloadN X0 hx (hb hby d13_0) rfl rfl ?_
  refine g_iloadN X0 hx (hb hby d13_1) rfl ?_
  refine g_ifNo X0 hx (hb hby d13_2) ((if0 _ _).trans (feq ((by decide) : ¬ ((1 : Int32) = (0 : Int32)))).1) ?_
  refine g_aloadN X0 hx (hb hby d13_5) rfl rfl ?_
  refine g_getF X0 hx hZ hown (Wd88 hw) e0 O_a1.2.2.2.2.2.2 (hb hby d13_6) (fun T1 X1 e1 => ?_)
  refine g_ldcw X1 hx hZ hown (Wd134 hw) (hb hby d13_9) ?_
  refine g_ior X1 hx (hb hby d13_12) ?_
  show Go p e below (T1.setTop (mkF m 13 #[vr a1, vi 1] [(.int ((0 : Int32) ||| (-2147483648 : Int32))), (.ref a1)])) _
  rw [show ((0 : Int32) ||| (-2147483648 : Int32)) = (-2147483648 : Int32) from by decide]
  refine g_goto X1 hx 24 (hb hby d13_13) (by decide) (by decide) ?_
  refine g_putF X1 hx hZ hown (Wd88 hw) e1 O_a1.2.2.2.2.2.2 O_a1.1 (Or.inl (Wd78 hw)) (Wd70 hw) fd_0 rfl rfl (hb hby d13_24) (fun T2 h2 X2 e2 W2 => ?_)
  have N2 := Fr.snoc X2 N0 g_a1
  have O_a1_2 := R_ND_set_redAndLeftCount hw W2 O_a1
  have Z2 : n0 ≤ h2.size := Nat.le_trans Z0 (Nat.le_of_eq W2.size.symm)
  have K2 := Keep.wr K0 W2 (Or.inl (List.mem_of_getElem? (i := 0) rfl))
  exact own_retV X2 hx hret hlk (hb hby d13_27) (by decide) (by decide) (by rw [e2]; exact ⟨rfl, N2, K2, O_a1_2⟩)
theorem rm_replaceInParent_123 (l : Launch) (Z : State) (a0 : Array Value) (hw : HW a0 Z) (a1 : Addr) (a2 : Addr) (a3 : Addr) (i1 : Int32) (a4 : Addr) (a5 : Addr) (a6 : Addr) (a7 : Addr) (a8 : Addr) (i2 : Int32) (i3 : Int32) (i4 : Int32) (a9 : Addr) (a10 : Addr) (i5 : Int32) (h0 : Heap) (n0 : Nat) (Z0 : n0 ≤ h0.size) (O_a1 : R_MP Z h0 a1 .null (.ref a2) (.int 3) (.int i1)) (O_a2 : R_ND Z h0 a2 (.ref a4) (.ref a5) .null .null .null (.int (-2147483648))) (O_a3 : R_ND Z h0 a3 (.ref a6) (.ref a7) .null (.ref a8) (.ref a2) (.int 0)) (O_a4 : R_IN Z h0 a4 (.int i2)) (O_a6 : R_IN Z h0 a6 (.int i3)) (O_a7 : R_IN Z h0 a7 (.int i4)) (O_a8 : R_ND Z h0 a8 (.ref a9) (.ref a10) .null .null (.ref a3) (.int (-2147483648))) (O_a9 : R_IN Z h0 a9 (.int i5)) (ne_a1_a2 : a1 ≠ a2) (ne_a1_a3 : a1 ≠ a3) (ne_a1_a4 : a1 ≠ a4) (ne_a1_a6 : a1 ≠ a6) (ne_a1_a7 : a1 ≠ a7) (ne_a1_a8 : a1 ≠ a8) (ne_a1_a9 : a1 ≠ a9) (ne_a2_a3 : a2 ≠ a3) (ne_a3_a4 : a3 ≠ a4) (ne_a3_a6 : a3 ≠ a6) (ne_a3_a7 : a3 ≠ a7) (ne_a3_a8 : a3 ≠ a8) (ne_a3_a9 : a3 ≠ a9) (g_a1 : n0 ≤ a1) (g_a3 : n0 ≤ a3) (hk0 : ¬ (i3 < i2)) (hk1 : ¬ (i3 = i2)) (hk2 : i3 < i5) :
    Ctr l Y29 prog_7_method_87_code 4 none [] ({ frames := 0, cells := 0, slots := 0, locals := 0 } : Room) Z #[(.ref a1), (.ref a2), (.ref a3)] h0 (fun v h L => v = none ∧ Fr n0 L ∧ Keep h0 h [a1, a3] ∧ R_MP Z h a1 .null (.ref a3) (.int 3) (.int i1) ∧ R_ND Z h a3 (.ref a6) (.ref a7) .null (.ref a8) .null (.int 0)) := by
  refine own_enter pn_2 (fun p e s m below meth c s₁ hx hby hml hown hnm hret hlk hZ X0 e0 => ?_)
  have N0 := Fr.nil n0
  have K0 := Keep.refl h0 [a1, a3]
  rw [ef_20_RRR m _ _ _]
  show Go p e below (s₁.setTop (mkF m 0 #[vr a1, vr a2, vr a3, vu] [])) _
  refine g_aloadN X0 hx (hb hby d20_0) rfl rfl ?_
  refine g_getF X0 hx hZ hown (Wd111 hw) e0 O_a2.2.2.2.2.2.1 (hb hby d20_1) (fun T1 X1 e1 => ?_)
  refine g_astoreN X1 hx #[vr a1, vr a2, vr a3, vn] (hb hby d20_4) rfl rfl ?_
  refine g_aloadN X1 hx (hb hby d20_5) rfl rfl ?_
  refine g_nonnullNo X1 hx (hb hby d20_6) ?_
  refine g_aloadN X1 hx (hb hby d20_9) rfl rfl ?_
  refine g_aloadN X1 hx (hb hby d20_10) rfl rfl ?_
  refine g_putF X1 hx hZ hown (Wd35 hw) e1 O_a1.2.2.1 O_a1.1 (Or.inl (Wd36 hw)) (Wd1 hw) fd_2 rfl rfl (hb hby d20_11) (fun T2 h2 X2 e2 W2 => ?_)
  have N2 := Fr.snoc X2 N0 g_a1
  have O_a1_2 := R_MP_set_root hw W2 O_a1
  have O_a2_2 := R_ND_other W2 O_a2 (Ne.symm ne_a1_a2)
  have O_a3_2 := R_ND_other W2 O_a3 (Ne.symm ne_a1_a3)
  have O_a4_2 := R_IN_other W2 O_a4 (Ne.symm ne_a1_a4)
  have O_a6_2 := R_IN_other W2 O_a6 (Ne.symm ne_a1_a6)
  have O_a7_2 := R_IN_other W2 O_a7 (Ne.symm ne_a1_a7)
  have O_a8_2 := R_ND_other W2 O_a8 (Ne.symm ne_a1_a8)
  have O_a9_2 := R_IN_other W2 O_a9 (Ne.symm ne_a1_a9)
  have Z2 : n0 ≤ h2.size := Nat.le_trans Z0 (Nat.le_of_eq W2.size.symm)
  have K2 := Keep.wr K0 W2 (Or.inl (List.mem_of_getElem? (i := 0) rfl))
  refine g_goto X2 hx 38 (hb hby d20_14) (by decide) (by decide) ?_
  refine g_aloadN X2 hx (hb hby d20_38) rfl rfl ?_
  refine g_nullNo X2 hx (hb hby d20_39) ?_
  refine g_aloadN X2 hx (hb hby d20_42) rfl rfl ?_
  refine g_aloadN X2 hx (hb hby d20_43) rfl rfl ?_
  refine g_putF X2 hx hZ hown (Wd111 hw) e2 O_a3_2.2.2.2.2.2.1 O_a3_2.1 (Or.inl (Wd84 hw)) (Wd70 hw) fd_2 rfl rfl (hb hby d20_44) (fun T3 h3 X3 e3 W3 => ?_)
  have N3 := Fr.snoc X3 N2 g_a3
  have O_a1_3 := R_MP_other W3 O_a1_2 ne_a1_a3
  have O_a2_3 := R_ND_other W3 O_a2_2 ne_a2_a3
  have O_a3_3 := R_ND_set_parent hw W3 O_a3_2
  have O_a4_3 := R_IN_other W3 O_a4_2 (Ne.symm ne_a3_a4)
  have O_a6_3 := R_IN_other W3 O_a6_2 (Ne.symm ne_a3_a6)
  have O_a7_3 := R_IN_other W3 O_a7_2 (Ne.symm ne_a3_a7)
  have O_a8_3 := R_ND_other W3 O_a8_2 (Ne.symm ne_a3_a8)
  have O_a9_3 := R_IN_other W3 O_a9_2 (Ne.symm ne_a3_a9)
  have Z3 : n0 ≤ h3.size := Nat.le_trans Z2 (Nat.le_of_eq W3.size.symm)
  have K3 := Keep.wr K2 W3 (Or.inl (List.mem_of_getElem? (i := 1) rfl))
  exact own_retV X3 hx hret hlk (hb hby d20_47) (by decide) (by decide) (by rw [e3]; exact ⟨rfl, N3, K3, O_a1_3, O_a3_3⟩)
theorem rm_addToLeftCount_124 (l : Launch) (Z : State) (a0 : Array Value) (hw : HW a0 Z) (a1 : Addr) (a2 : Addr) (a3 : Addr) (a4 : Addr) (a5 : Addr) (h0 : Heap) (n0 : Nat) (Z0 : n0 ≤ h0.size) (O_a1 : R_ND Z h0 a1 (.ref a2) (.ref a3) (.ref a4) (.ref a5) .null (.int 0)) (g_a1 : n0 ≤ a1) :
    Ctr l Y22 prog_7_method_84_code 2 none [] ({ frames := 0, cells := 0, slots := 0, locals := 0 } : Room) Z #[(.ref a1), (.int 1)] h0 (fun v h L => v = none ∧ Fr n0 L ∧ Keep h0 h [a1] ∧ R_ND Z h a1 (.ref a2) (.ref a3) (.ref a4) (.ref a5) .null (.int 1)) := by
  refine own_enter pn_2 (fun p e s m below meth c s₁ hx hby hml hown hnm hret hlk hZ X0 e0 => ?_)
  have N0 := Fr.nil n0
  have K0 := Keep.refl h0 [a1]
  rw [ef_18_RI m _ _]
  show Go p e below (s₁.setTop (mkF m 0 #[vr a1, vi 1] [])) _
  refine g_aloadN X0 hx (hb hby d18_0) rfl rfl ?_
  refine g_dup X0 hx (hb hby d18_1) rfl ?_
  refine g_getF X0 hx hZ hown (Wd88 hw) e0 O_a1.2.2.2.2.2.2 (hb hby d18_2) (fun T1 X1 e1 => ?_)
  refine g_iloadN X1 hx (hb hby d18_5) rfl ?_
  refine g_iadd X1 hx (hb hby d18_6) ?_
  show Go p e below (T1.setTop (mkF m 7 #[vr a1, vi 1] [(.int ((0 : Int32) + (1 : Int32))), (.ref a1)])) _
  rw [show ((0 : Int32) + (1 : Int32)) = (1 : Int32) from by decide]
  refine g_putF X1 hx hZ hown (Wd88 hw) e1 O_a1.2.2.2.2.2.2 O_a1.1 (Or.inl (Wd78 hw)) (Wd70 hw) fd_0 rfl rfl (hb hby d18_7) (fun T2 h2 X2 e2 W2 => ?_)
  have N2 := Fr.snoc X2 N0 g_a1
  have O_a1_2 := R_ND_set_redAndLeftCount hw W2 O_a1
  have Z2 : n0 ≤ h2.size := Nat.le_trans Z0 (Nat.le_of_eq W2.size.symm)
  have K2 := Keep.wr K0 W2 (Or.inl (List.mem_of_getElem? (i := 0) rfl))
  exact own_retV X2 hx hret hlk (hb hby d18_10) (by decide) (by decide) (by rw [e2]; exact ⟨rfl, N2, K2, O_a1_2⟩)
theorem rm_rotateLeft_122 (l : Launch) (Z : State) (a0 : Array Value) (hw : HW a0 Z) (a1 : Addr) (a2 : Addr) (i1 : Int32) (a3 : Addr) (a4 : Addr) (a5 : Addr) (i2 : Int32) (a6 : Addr) (a7 : Addr) (a8 : Addr) (i3 : Int32) (i4 : Int32) (a9 : Addr) (a10 : Addr) (i5 : Int32) (h0 : Heap) (n0 : Nat) (Z0 : n0 ≤ h0.size) (O_a1 : R_MP Z h0 a1 .null (.ref a2) (.int 3) (.int i1)) (O_a2 : R_ND Z h0 a2 (.ref a3) (.ref a4) .null (.ref a5) .null (.int (-2147483648))) (O_a3 : R_IN Z h0 a3 (.int i2)) (O_a5 : R_ND Z h0 a5 (.ref a6) (.ref a7) .null (.ref a8) (.ref a2) (.int 0)) (O_a6 : R_IN Z h0 a6 (.int i3)) (O_a7 : R_IN Z h0 a7 (.int i4)) (O_a8 : R_ND Z h0 a8 (.ref a9) (.ref a10) .null .null (.ref a5) (.int (-2147483648))) (O_a9 : R_IN Z h0 a9 (.int i5)) (ne_a1_a2 : a1 ≠ a2) (ne_a1_a3 : a1 ≠ a3) (ne_a1_a5 : a1 ≠ a5) (ne_a1_a6 : a1 ≠ a6) (ne_a1_a7 : a1 ≠ a7) (ne_a1_a8 : a1 ≠ a8) (ne_a1_a9 : a1 ≠ a9) (ne_a2_a3 : a2 ≠ a3) (ne_a2_a5 : a2 ≠ a5) (ne_a2_a6 : a2 ≠ a6) (ne_a2_a7 : a2 ≠ a7) (ne_a2_a8 : a2 ≠ a8) (ne_a2_a9 : a2 ≠ a9) (ne_a3_a5 : a3 ≠ a5) (ne_a5_a6 : a5 ≠ a6) (ne_a5_a7 : a5 ≠ a7) (ne_a5_a8 : a5 ≠ a8) (ne_a5_a9 : a5 ≠ a9) (g_a1 : n0 ≤ a1) (g_a2 : n0 ≤ a2) (g_a5 : n0 ≤ a5) (hk0 : ¬ (i3 < i2)) (hk1 : ¬ (i3 = i2)) (hk2 : i3 < i5) :
    Ctr l Y34 prog_7_method_88_code 3 none [] ({ frames := 1, cells := 0, slots := 0, locals := 15 } : Room) Z #[(.ref a1), (.ref a2)] h0 (fun v h L => v = none ∧ Fr n0 L ∧ Keep h0 h [a1, a2, a5] ∧ R_MP Z h a1 .null (.ref a5) (.int 3) (.int i1) ∧ R_ND Z h a2 (.ref a3) (.ref a4) .null .null (.ref a5) (.int (-2147483648)) ∧ R_ND Z h a5 (.ref a6) (.ref a7) (.ref a2) (.ref a8) .null (.int 1)) := by
  refine own_enter pn_2 (fun p e s m below meth c s₁ hx hby hml hown hnm hret hlk hZ X0 e0 => ?_)
  have N0 := Fr.nil n0
  have K0 := Keep.refl h0 [a1, a2, a5]
  rw [ef_23_RR m _ _]
  show Go p e below (s₁.setTop (mkF m 0 #[vr a1, vr a2, vu] [])) _
  refine g_aloadN X0 hx (hb hby d23_0) rfl rfl ?_
  refine g_getF X0 hx hZ hown (Wd97 hw) e0 O_a2.2.2.2.2.1 (hb hby d23_1) (fun T1 X1 e1 => ?_)
  refine g_astoreN X1 hx #[vr a1, vr a2, vr a5] (hb hby d23_4) rfl rfl ?_
  refine g_aloadN X1 hx (hb hby d23_5) rfl rfl ?_
  refine g_aloadN X1 hx (hb hby d23_6) rfl rfl ?_
  refine g_getF X1 hx hZ hown (Wd95 hw) e1 O_a5.2.2.2.1 (hb hby d23_7) (fun T2 X2 e2 => ?_)
  refine g_putF X2 hx hZ hown (Wd97 hw) e2 O_a2.2.2.2.2.1 O_a2.1 (Or.inl (Wd98 hw)) (Wd70 hw) fd_2 rfl rfl (hb hby d23_10) (fun T3 h3 X3 e3 W3 => ?_)
  have N3 := Fr.snoc X3 N0 g_a2
  have O_a1_3 := R_MP_other W3 O_a1 ne_a1_a2
  have O_a2_3 := R_ND_set_right hw W3 O_a2
  have O_a3_3 := R_IN_other W3 O_a3 (Ne.symm ne_a2_a3)
  have O_a5_3 := R_ND_other W3 O_a5 (Ne.symm ne_a2_a5)
  have O_a6_3 := R_IN_other W3 O_a6 (Ne.symm ne_a2_a6)
  have O_a7_3 := R_IN_other W3 O_a7 (Ne.symm ne_a2_a7)
  have O_a8_3 := R_ND_other W3 O_a8 (Ne.symm ne_a2_a8)
  have O_a9_3 := R_IN_other W3 O_a9 (Ne.symm ne_a2_a9)
  have Z3 : n0 ≤ h3.size := Nat.le_trans Z0 (Nat.le_of_eq W3.size.symm)
  have K3 := Keep.wr K0 W3 (Or.inl (List.mem_of_getElem? (i := 1) rfl))
  refine g_aloadN X3 hx (hb hby d23_13) rfl rfl ?_
  refine g_getF X3 hx hZ hown (Wd95 hw) e3 O_a5_3.2.2.2.1 (hb hby d23_14) (fun T4 X4 e4 => ?_)
  refine g_nullYes X4 hx 28 (hb hby d23_17) (by decide) (by decide) ?_
  refine g_aloadN X4 hx (hb hby d23_28) rfl rfl ?_
  refine g_aloadN X4 hx (hb hby d23_29) rfl rfl ?_
  refine g_aloadN X4 hx (hb hby d23_30) rfl rfl ?_
  refine g_call (own_callP X4 hx hZ (y := Y29) hown (Wd122 hw) (Wd123 hw) (Wd124 hw) (Wd1 hw) (Wd125 hw) (Wd2 hw) (by decide) (rm_replaceInParent_123 l Z a0 hw a1 a2 a5 i1 a3 a4 a6 a7 a8 i2 i3 i4 a9 a10 i5 h3 n0 Z3 O_a1_3 O_a2_3 O_a5_3 O_a3_3 O_a6_3 O_a7_3 O_a8_3 O_a9_3 ne_a1_a2 ne_a1_a5 ne_a1_a3 ne_a1_a6 ne_a1_a7 ne_a1_a8 ne_a1_a9 ne_a2_a5 (Ne.symm ne_a3_a5) ne_a5_a6 ne_a5_a7 ne_a5_a8 ne_a5_a9 g_a1 g_a5 hk0 hk1 hk2) e4 O_a1_3.1 pd_22 (hb hby d23_31) (by rw [hml]; rfl) (argsL := [(.ref a2), (.ref a5)]) (rest := []) rfl rfl rfl (W := 0) (Nat.le_of_eq rfl) (by decide)) (fun v5 T5 L5 X5 q5 => ?_)
  obtain ⟨rfl, M5, Kc5, Rk5_0, Rk5_1⟩ := q5
  have N5 := Fr.app N3 M5
  have O_a2_5 := R_ND_keep O_a2_3 Kc5 (own_nin (Ne.symm ne_a1_a2) (own_nin ne_a2_a5 List.not_mem_nil))
  have O_a3_5 := R_IN_keep O_a3_3 Kc5 (own_nin (Ne.symm ne_a1_a3) (own_nin ne_a3_a5 List.not_mem_nil))
  have O_a6_5 := R_IN_keep O_a6_3 Kc5 (own_nin (Ne.symm ne_a1_a6) (own_nin (Ne.symm ne_a5_a6) List.not_mem_nil))
  have O_a7_5 := R_IN_keep O_a7_3 Kc5 (own_nin (Ne.symm ne_a1_a7) (own_nin (Ne.symm ne_a5_a7) List.not_mem_nil))
  have O_a8_5 := R_ND_keep O_a8_3 Kc5 (own_nin (Ne.symm ne_a1_a8) (own_nin (Ne.symm ne_a5_a8) List.not_mem_nil))
  have O_a9_5 := R_IN_keep O_a9_3 Kc5 (own_nin (Ne.symm ne_a1_a9) (own_nin (Ne.symm ne_a5_a9) List.not_mem_nil))
  have K5 := Keep.trans K3 Kc5 (own_memc (Or.inl (List.mem_of_getElem? (i := 0) rfl)) (own_memc (Or.inl (List.mem_of_getElem? (i := 2) rfl)) own_memn))
  have Z5 : n0 ≤ T5.heap.size := Nat.le_trans Z3 Kc5.1
  refine g_aloadN X5 hx (hb hby d23_34) rfl rfl ?_
  refine g_aloadN X5 hx (hb hby d23_35) rfl rfl ?_
  refine g_putF X5 hx hZ hown (Wd95 hw) (rfl : T5.heap = T5.heap) Rk5_1.2.2.2.1 Rk5_1.1 (Or.inl (Wd96 hw)) (Wd70 hw) fd_2 rfl rfl (hb hby d23_36) (fun T6 h6 X6 e6 W6 => ?_)
  have N6 := Fr.snoc X6 N5 g_a5
  have O_a2_6 := R_ND_other W6 O_a2_5 ne_a2_a5
  have O_a3_6 := R_IN_other W6 O_a3_5 ne_a3_a5
  have O_a6_6 := R_IN_other W6 O_a6_5 (Ne.symm ne_a5_a6)
  have O_a7_6 := R_IN_other W6 O_a7_5 (Ne.symm ne_a5_a7)
  have O_a8_6 := R_ND_other W6 O_a8_5 (Ne.symm ne_a5_a8)
  have O_a9_6 := R_IN_other W6 O_a9_5 (Ne.symm ne_a5_a9)
  have O_a1_6 := R_MP_other W6 Rk5_0 ne_a1_a5
  have O_a5_6 := R_ND_set_left hw W6 Rk5_1
  have Z6 : n0 ≤ h6.size := Nat.le_trans Z5 (Nat.le_of_eq W6.size.symm)
  have K6 := Keep.wr K5 W6 (Or.inl (List.mem_of_getElem? (i := 2) rfl))
  refine g_aloadN X6 hx (hb hby d23_39) rfl rfl ?_
  refine g_aloadN X6 hx (hb hby d23_40) rfl rfl ?_
  refine g_putF X6 hx hZ hown (Wd111 hw) e6 O_a2_6.2.2.2.2.2.1 O_a2_6.1 (Or.inl (Wd84 hw)) (Wd70 hw) fd_2 rfl rfl (hb hby d23_41) (fun T7 h7 X7 e7 W7 => ?_)
  have N7 := Fr.snoc X7 N6 g_a2
  have O_a2_7 := R_ND_set_parent hw W7 O_a2_6
  have O_a3_7 := R_IN_other W7 O_a3_6 (Ne.symm ne_a2_a3)
  have O_a6_7 := R_IN_other W7 O_a6_6 (Ne.symm ne_a2_a6)
  have O_a7_7 := R_IN_other W7 O_a7_6 (Ne.symm ne_a2_a7)
  have O_a8_7 := R_ND_other W7 O_a8_6 (Ne.symm ne_a2_a8)
  have O_a9_7 := R_IN_other W7 O_a9_6 (Ne.symm ne_a2_a9)
  have O_a1_7 := R_MP_other W7 O_a1_6 ne_a1_a2
  have O_a5_7 := R_ND_other W7 O_a5_6 (Ne.symm ne_a2_a5)
  have Z7 : n0 ≤ h7.size := Nat.le_trans Z6 (Nat.le_of_eq W7.size.symm)
  have K7 := Keep.wr K6 W7 (Or.inl (List.mem_of_getElem? (i := 1) rfl))
  refine g_aloadN X7 hx (hb hby d23_44) rfl rfl ?_
  refine g_aloadN X7 hx (hb hby d23_45) rfl rfl ?_
  refine g_call (own_callS X7 hx hZ (y := Y30) hown (Wd126 hw) (Wd127 hw) (Wd2 hw) (Wd128 hw) (by decide) (rm_leftCount_94 l Z a0 hw a2 a3 a4 a5 h7 n0 Z7 O_a2_7) e7 pd_23 (hb hby d23_46) (by rw [hml]; rfl) (argsL := [(.ref a2)]) (rest := [(.ref a5)]) rfl rfl rfl (W := 1) (Nat.le_of_eq rfl) (by decide)) (fun v8 T8 L8 X8 q8 => ?_)
  obtain ⟨rfl, M8, e8⟩ := q8
  have N8 := Fr.app N7 M8
  refine g_iconst X8 hx (1 : Int32) (hb hby d23_49) (by decide) ?_
  refine g_iadd X8 hx (hb hby d23_50) ?_
  show Go p e below (T8.setTop (mkF m 51 #[vr a1, vr a2, vr a5] [(.int ((0 : Int32) + (1 : Int32))), (.ref a5)])) _
  rw [show ((0 : Int32) + (1 : Int32)) = (1 : Int32) from by decide]
  refine g_call (own_callS X8 hx hZ (y := Y22) hown (Wd115 hw) (Wd116 hw) (Wd2 hw) (Wd117 hw) (by decide) (rm_addToLeftCount_124 l Z a0 hw a5 a6 a7 a2 a8 h7 n0 Z7 O_a5_7 g_a5) e8 pd_17 (hb hby d23_51) (by rw [hml]; rfl) (argsL := [(.ref a5), (.int 1)]) (rest := []) rfl rfl rfl (W := 0) (Nat.le_of_eq rfl) (by decide)) (fun v9 T9 L9 X9 q9 => ?_)
  obtain ⟨rfl, M9, Kc9, Rk9_0⟩ := q9
  have N9 := Fr.app N8 M9
  have O_a2_9 := R_ND_keep O_a2_7 Kc9 (own_nin ne_a2_a5 List.not_mem_nil)
  have O_a3_9 := R_IN_keep O_a3_7 Kc9 (own_nin ne_a3_a5 List.not_mem_nil)
  have O_a6_9 := R_IN_keep O_a6_7 Kc9 (own_nin (Ne.symm ne_a5_a6) List.not_mem_nil)
  have O_a7_9 := R_IN_keep O_a7_7 Kc9 (own_nin (Ne.symm ne_a5_a7) List.not_mem_nil)
  have O_a8_9 := R_ND_keep O_a8_7 Kc9 (own_nin (Ne.symm ne_a5_a8) List.not_mem_nil)
  have O_a9_9 := R_IN_keep O_a9_7 Kc9 (own_nin (Ne.symm ne_a5_a9) List.not_mem_nil)
  have O_a1_9 := R_MP_keep O_a1_7 Kc9 (own_nin ne_a1_a5 List.not_mem_nil)
  have K9 := Keep.trans K7 Kc9 (own_memc (Or.inl (List.mem_of_getElem? (i := 2) rfl)) own_memn)
  have Z9 : n0 ≤ T9.heap.size := Nat.le_trans Z7 Kc9.1
  refine g_aloadN X9 hx (hb hby d23_54) rfl rfl ?_
  refine g_aloadN X9 hx (hb hby d23_55) rfl rfl ?_
  refine g_call (own_callV X9 hx hZ (y := Y31) hown (Wd129 hw) (Wd130 hw) (Wd132 hw) (Wd131 hw) (Wd133 hw) (Wd2 hw) (by decide) (rm_refresh_76 l Z a0 hw a1 a2 T9.heap n0 Z9 ) (rfl : T9.heap = T9.heap) O_a1_9.1 pd_18 (hb hby d23_56) (by rw [hml]; rfl) (argsL := [(.ref a2)]) (rest := []) rfl rfl rfl (W := 0) (Nat.le_of_eq rfl) (by decide)) (fun v10 T10 L10 X10 q10 => ?_)
  obtain ⟨rfl, M10, e10⟩ := q10
  have N10 := Fr.app N9 M10
  refine g_aloadN X10 hx (hb hby d23_59) rfl rfl ?_
  refine g_aloadN X10 hx (hb hby d23_60) rfl rfl ?_
  refine g_call (own_callV X10 hx hZ (y := Y31) hown (Wd129 hw) (Wd130 hw) (Wd132 hw) (Wd131 hw) (Wd133 hw) (Wd2 hw) (by decide) (rm_refresh_76 l Z a0 hw a1 a5 T9.heap n0 Z9 ) e10 O_a1_9.1 pd_18 (hb hby d23_61) (by rw [hml]; rfl) (argsL := [(.ref a5)]) (rest := []) rfl rfl rfl (W := 0) (Nat.le_of_eq rfl) (by decide)) (fun v11 T11 L11 X11 q11 => ?_)
  obtain ⟨rfl, M11, e11⟩ := q11
  have N11 := Fr.app N10 M11
  exact own_retV X11 hx hret hlk (hb hby d23_64) (by decide) (by decide) (by rw [e11]; exact ⟨rfl, N11, K9, O_a1_9, O_a2_9, Rk9_0⟩)
theorem d16_110 : decode prog_7_method_90_code 110 = .ok (.aload 4, 2) := by decide +kernel
theorem d16_112 : decode prog_7_method_90_code 112 = .ok (.getfield 211, 3) := by decide +kernel
theorem d16_115 : decode prog_7_method_90_code 115 = .ok (.astore 5, 2) := by decide +kernel
theorem d16_117 : decode prog_7_method_90_code 117 = .ok (.aload 5, 2) := by decide +kernel
theorem d16_119 : decode prog_7_method_90_code 119 = .ok (.invokestatic 300, 3) := by decide +kernel
theorem d16_122 : decode prog_7_method_90_code 122 = .ok (.ifCond .eq 26, 3) := by decide +kernel
theorem d16_148 : decode prog_7_method_90_code 148 = .ok (.aload_n 2, 1) := by decide +kernel
theorem d16_149 : decode prog_7_method_90_code 149 = .ok (.aload_n 3, 1) := by decide +kernel
theorem d16_150 : decode prog_7_method_90_code 150 = .ok (.getfield 211, 3) := by decide +kernel
theorem d16_153 : decode prog_7_method_90_code 153 = .ok (.if_acmp .ne 15, 3) := by decide +kernel
theorem d16_156 : decode prog_7_method_90_code 156 = .ok (.aload_n 0, 1) := by decide +kernel
theorem d16_157 : decode prog_7_method_90_code 157 = .ok (.aload_n 3, 1) := by decide +kernel
theorem d16_158 : decode prog_7_method_90_code 158 = .ok (.invokevirtual 307, 3) := by decide +kernel
theorem d16_161 : decode prog_7_method_90_code 161 = .ok (.aload_n 3, 1) := by decide +kernel
theorem d16_162 : decode prog_7_method_90_code 162 = .ok (.astore_n 2, 1) := by decide +kernel
theorem d16_163 : decode prog_7_method_90_code 163 = .ok (.aload_n 2, 1) := by decide +kernel
theorem d16_164 : decode prog_7_method_90_code 164 = .ok (.getfield 282, 3) := by decide +kernel
theorem d16_167 : decode prog_7_method_90_code 167 = .ok (.astore_n 3, 1) := by decide +kernel
theorem d16_168 : decode prog_7_method_90_code 168 = .ok (.aload_n 3, 1) := by decide +kernel
theorem d16_169 : decode prog_7_method_90_code 169 = .ok (.iconst 0, 1) := by decide +kernel
theorem d16_170 : decode prog_7_method_90_code 170 = .ok (.invokestatic 237, 3) := by decide +kernel
theorem d16_173 : decode prog_7_method_90_code 173 = .ok (.aload 4, 2) := by decide +kernel
theorem d16_175 : decode prog_7_method_90_code 175 = .ok (.iconst 1, 1) := by decide +kernel
theorem d16_176 : decode prog_7_method_90_code 176 = .ok (.invokestatic 237, 3) := by decide +kernel
theorem d16_179 : decode prog_7_method_90_code 179 = .ok (.aload_n 0, 1) := by decide +kernel
theorem d16_180 : decode prog_7_method_90_code 180 = .ok (.aload 4, 2) := by decide +kernel
theorem d16_182 : decode prog_7_method_90_code 182 = .ok (.invokevirtual 304, 3) := by decide +kernel
theorem rm_balanceAfterInsert_115 (l : Launch) (Z : State) (a0 : Array Value) (hw : HW a0 Z) (a1 : Addr) (a2 : Addr) (a3 : Addr) (i1 : Int32) (a4 : Addr) (a5 : Addr) (a6 : Addr) (a7 : Addr) (a8 : Addr) (i2 : Int32) (i3 : Int32) (a9 : Addr) (a10 : Addr) (i4 : Int32) (i5 : Int32) (h0 : Heap) (n0 : Nat) (Z0 : n0 ≤ h0.size) (O_a1 : R_MP Z h0 a1 .null (.ref a3) (.int 3) (.int i1)) (O_a2 : R_ND Z h0 a2 (.ref a4) (.ref a5) .null .null (.ref a6) (.int (-2147483648))) (O_a3 : R_ND Z h0 a3 (.ref a7) (.ref a8) .null (.ref a6) .null (.int 0)) (O_a4 : R_IN Z h0 a4 (.int i2)) (O_a5 : R_IN Z h0 a5 (.int i3)) (O_a6 : R_ND Z h0 a6 (.ref a9) (.ref a10) (.ref a2) .null (.ref a3) (.int (-2147483647))) (O_a7 : R_IN Z h0 a7 (.int i4)) (O_a9 : R_IN Z h0 a9 (.int i5)) (ne_a1_a2 : a1 ≠ a2) (ne_a1_a3 : a1 ≠ a3) (ne_a1_a4 : a1 ≠ a4) (ne_a1_a5 : a1 ≠ a5) (ne_a1_a6 : a1 ≠ a6) (ne_a1_a7 : a1 ≠ a7) (ne_a1_a9 : a1 ≠ a9) (ne_a2_a3 : a2 ≠ a3) (ne_a2_a4 : a2 ≠ a4) (ne_a2_a5 : a2 ≠ a5) (ne_a2_a6 : a2 ≠ a6) (ne_a2_a7 : a2 ≠ a7) (ne_a2_a9 : a2 ≠ a9) (ne_a3_a4 : a3 ≠ a4) (ne_a3_a5 : a3 ≠ a5) (ne_a3_a6 : a3 ≠ a6) (ne_a3_a7 : a3 ≠ a7) (ne_a3_a9 : a3 ≠ a9) (ne_a4_a6 : a4 ≠ a6) (ne_a5_a6 : a5 ≠ a6) (ne_a6_a7 : a6 ≠ a7) (ne_a6_a9 : a6 ≠ a9) (g_a1 : n0 ≤ a1) (g_a2 : n0 ≤ a2) (g_a3 : n0 ≤ a3) (g_a6 : n0 ≤ a6) (hk0 : ¬ (i2 < i4)) (hk1 : ¬ (i2 = i4)) (hk2 : i2 < i5) :
    Ctr l Y25 prog_7_method_90_code 6 none [] ({ frames := 2, cells := 0, slots := 0, locals := 29 } : Room) Z #[(.ref a1), (.ref a2)] h0 (fun v h L => v = none ∧ Fr n0 L ∧ Keep h0 h [a1, a2, a3, a6] ∧ R_MP Z h a1 .null (.ref a2) (.int 3) (.int i1) ∧ R_ND Z h a2 (.ref a4) (.ref a5) (.ref a3) (.ref a6) .null (.int 1) ∧ R_ND Z h a3 (.ref a7) (.ref a8) .null .null (.ref a2) (.int (-2147483648)) ∧ R_ND Z h a6 (.ref a9) (.ref a10) .null .null (.ref a2) (.int (-2147483648))) := by
  refine own_enter pn_2 (fun p e s m below meth c s₁ hx hby hml hown hnm hret hlk hZ X0 e0 => ?_)
  have N0 := Fr.nil n0
  have K0 := Keep.refl h0 [a1, a2, a3, a6]
  rw [ef_16_RR m _ _]
  show Go p e below (s₁.setTop (mkF m 0 #[vr a1, vr a2, vu, vu, vu, vu] [])) _
  refine g_aloadN X0 hx (hb hby d16_0) rfl rfl ?_
  refine g_astoreN X0 hx #[vr a1, vr a2, vr a2, vu, vu, vu] (hb hby d16_1) rfl rfl ?_
  refine g_aloadN X0 hx (hb hby d16_2) rfl rfl ?_
  refine g_getF X0 hx hZ hown (Wd111 hw) e0 O_a2.2.2.2.2.2.1 (hb hby d16_3) (fun T1 X1 e1 => ?_)
  refine g_call (own_callS X1 hx hZ (y := Y24) hown (Wd112 hw) (Wd113 hw) (Wd2 hw) (Wd114 hw) (by decide) (rm_isRed_68 l Z a0 hw a6 a9 a10 a2 a3 h0 n0 Z0 O_a6) e1 pd_19 (hb hby d16_6) (by rw [hml]; rfl) (argsL := [(.ref a6)]) (rest := []) rfl rfl rfl (W := 0) (Nat.le_of_eq rfl) (by decide)) (fun v2 T2 L2 X2 q2 => ?_)
  obtain ⟨rfl, M2, e2⟩ := q2
  have N2 := Fr.app N0 M2
  refine g_ifNo X2 hx (hb hby d16_9) ((if0 _ _).trans (feq ((by decide) : ¬ ((1 : Int32) = (0 : Int32)))).1) ?_
  refine g_aloadN X2 hx (hb hby d16_12) rfl rfl ?_
  refine g_getF X2 hx hZ hown (Wd111 hw) e2 O_a2.2.2.2.2.2.1 (hb hby d16_13) (fun T3 X3 e3 => ?_)
  refine g_astoreN X3 hx #[vr a1, vr a2, vr a2, vr a6, vu, vu] (hb hby d16_16) rfl rfl ?_
  refine g_aloadN X3 hx (hb hby d16_17) rfl rfl ?_
  refine g_getF X3 hx hZ hown (Wd111 hw) e3 O_a6.2.2.2.2.2.1 (hb hby d16_18) (fun T4 X4 e4 => ?_)
  refine g_astore X4 hx #[vr a1, vr a2, vr a2, vr a6, vr a3, vu] (hb hby d16_21) rfl rfl ?_
  refine g_aloadN X4 hx (hb hby d16_23) rfl rfl ?_
  refine g_aload X4 hx (hb hby d16_24) rfl rfl ?_
  refine g_getF X4 hx hZ hown (Wd95 hw) e4 O_a3.2.2.2.1 (hb hby d16_26) (fun T5 X5 e5 => ?_)
  refine g_acmp X5 hx 110 false rfl rfl (hb hby d16_29) (decide_eq_false nofun) (by decide) (by decide) ?_
  refine g_aload X5 hx (hb hby d16_110) rfl rfl ?_
  refine g_getF X5 hx hZ hown (Wd95 hw) e5 O_a3.2.2.2.1 (hb hby d16_112) (fun T6 X6 e6 => ?_)
  refine g_astore X6 hx #[vr a1, vr a2, vr a2, vr a6, vr a3, vn] (hb hby d16_115) rfl rfl ?_
  refine g_aload X6 hx (hb hby d16_117) rfl rfl ?_
  refine g_call (own_callS X6 hx hZ (y := Y24) hown (Wd112 hw) (Wd113 hw) (Wd2 hw) (Wd114 hw) (by decide) (rm_isRed_69 l Z a0 hw  h0 n0 Z0 ) e6 pd_19 (hb hby d16_119) (by rw [hml]; rfl) (argsL := [.null]) (rest := []) rfl rfl rfl (W := 0) (Nat.le_of_eq rfl) (by decide)) (fun v7 T7 L7 X7 q7 => ?_)
  obtain ⟨rfl, M7, e7⟩ := q7
  have N7 := Fr.app N2 M7
  refine g_ifYes X7 hx 148 (hb hby d16_122) ((if0 _ _).trans (teq ((by decide) : (0 : Int32) = (0 : Int32))).1) (by decide) (by decide) ?_
  refine g_aloadN X7 hx (hb hby d16_148) rfl rfl ?_
  refine g_aloadN X7 hx (hb hby d16_149) rfl rfl ?_
  refine g_getF X7 hx hZ hown (Wd95 hw) e7 O_a6.2.2.2.1 (hb hby d16_150) (fun T8 X8 e8 => ?_)
  have c153_0 : a2 = a2 := rfl
  refine g_acmp X8 hx 156 true rfl rfl (hb hby d16_153) (decide_eq_true (congrArg Value.ref c153_0)) (by decide) (by decide) ?_
  refine g_aloadN X8 hx (hb hby d16_156) rfl rfl ?_
  refine g_aloadN X8 hx (hb hby d16_157) rfl rfl ?_
  refine g_call (own_callP X8 hx hZ (y := Y32) hown (Wd118 hw) (Wd119 hw) (Wd120 hw) (Wd1 hw) (Wd121 hw) (Wd2 hw) (by decide) (rm_rotateRight_116 l Z a0 hw a1 a6 a3 i1 a9 a10 a2 a7 a8 i5 a4 a5 i4 i2 i3 h0 n0 Z0 O_a1 O_a6 O_a3 O_a9 O_a2 O_a7 O_a4 O_a5 ne_a1_a6 ne_a1_a3 ne_a1_a2 (Ne.symm ne_a3_a6) ne_a6_a9 (Ne.symm ne_a2_a6) ne_a6_a7 (Ne.symm ne_a4_a6) (Ne.symm ne_a5_a6) ne_a3_a9 (Ne.symm ne_a2_a3) ne_a3_a7 ne_a3_a4 ne_a3_a5 (Ne.symm ne_a2_a9) ne_a2_a7 ne_a2_a4 ne_a2_a5 g_a6 g_a3 g_a2 hk0 hk1 hk2) e8 O_a1.1 pd_18 (hb hby d16_158) (by rw [hml]; rfl) (argsL := [(.ref a6)]) (rest := []) rfl rfl rfl (W := 0) (Nat.le_of_eq rfl) (by decide)) (fun v9 T9 L9 X9 q9 => ?_)
  obtain ⟨rfl, M9, Kc9, Rk9_0, Rk9_1, Rk9_2⟩ := q9
  have N9 := Fr.app N7 M9
  have O_a1_9 := R_MP_keep O_a1 Kc9 (own_nin ne_a1_a6 (own_nin ne_a1_a3 (own_nin ne_a1_a2 List.not_mem_nil)))
  have O_a4_9 := R_IN_keep O_a4 Kc9 (own_nin ne_a4_a6 (own_nin (Ne.symm ne_a3_a4) (own_nin (Ne.symm ne_a2_a4) List.not_mem_nil)))
  have O_a5_9 := R_IN_keep O_a5 Kc9 (own_nin ne_a5_a6 (own_nin (Ne.symm ne_a3_a5) (own_nin (Ne.symm ne_a2_a5) List.not_mem_nil)))
  have O_a7_9 := R_IN_keep O_a7 Kc9 (own_nin (Ne.symm ne_a6_a7) (own_nin (Ne.symm ne_a3_a7) (own_nin (Ne.symm ne_a2_a7) List.not_mem_nil)))
  have O_a9_9 := R_IN_keep O_a9 Kc9 (own_nin (Ne.symm ne_a6_a9) (own_nin (Ne.symm ne_a3_a9) (own_nin (Ne.symm ne_a2_a9) List.not_mem_nil)))
  have K9 := Keep.trans K0 Kc9 (own_memc (Or.inl (List.mem_of_getElem? (i := 3) rfl)) (own_memc (Or.inl (List.mem_of_getElem? (i := 2) rfl)) (own_memc (Or.inl (List.mem_of_getElem? (i := 1) rfl)) own_memn)))
  have Z9 : n0 ≤ T9.heap.size := Nat.le_trans Z0 Kc9.1
  refine g_aloadN X9 hx (hb hby d16_161) rfl rfl ?_
  refine g_astoreN X9 hx #[vr a1, vr a2, vr a6, vr a6, vr a3, vn] (hb hby d16_162) rfl rfl ?_
  refine g_aloadN X9 hx (hb hby d16_163) rfl rfl ?_
  refine g_getF X9 hx hZ hown (Wd111 hw) (rfl : T9.heap = T9.heap) Rk9_0.2.2.2.2.2.1 (hb hby d16_164) (fun T10 X10 e10 => ?_)
  refine g_astoreN X10 hx #[vr a1, vr a2, vr a6, vr a2, vr a3, vn] (hb hby d16_167) rfl rfl ?_
  refine g_aloadN X10 hx (hb hby d16_168) rfl rfl ?_
  refine g_iconst X10 hx (0 : Int32) (hb hby d16_169) (by decide) ?_
  refine g_call (own_callS X10 hx hZ (y := Y17) hown (Wd85 hw) (Wd86 hw) (Wd2 hw) (Wd87 hw) (by decide) (rm_setRed_120 l Z a0 hw a2 a4 a5 a6 a3 T9.heap n0 Z9 Rk9_2 g_a2) e10 pd_14 (hb hby d16_170) (by rw [hml]; rfl) (argsL := [(.ref a2), (.int 0)]) (rest := []) rfl rfl rfl (W := 0) (Nat.le_of_eq rfl) (by decide)) (fun v11 T11 L11 X11 q11 => ?_)
  obtain ⟨rfl, M11, Kc11, Rk11_0⟩ := q11
  have N11 := Fr.app N9 M11
  have O_a1_11 := R_MP_keep O_a1_9 Kc11 (own_nin ne_a1_a2 List.not_mem_nil)
  have O_a4_11 := R_IN_keep O_a4_9 Kc11 (own_nin (Ne.symm ne_a2_a4) List.not_mem_nil)
  have O_a5_11 := R_IN_keep O_a5_9 Kc11 (own_nin (Ne.symm ne_a2_a5) List.not_mem_nil)
  have O_a7_11 := R_IN_keep O_a7_9 Kc11 (own_nin (Ne.symm ne_a2_a7) List.not_mem_nil)
  have O_a9_11 := R_IN_keep O_a9_9 Kc11 (own_nin (Ne.symm ne_a2_a9) List.not_mem_nil)
  have O_a6_11 := R_ND_keep Rk9_0 Kc11 (own_nin (Ne.symm ne_a2_a6) List.not_mem_nil)
  have O_a3_11 := R_ND_keep Rk9_1 Kc11 (own_nin (Ne.symm ne_a2_a3) List.not_mem_nil)
  have K11 := Keep.trans K9 Kc11 (own_memc (Or.inl (List.mem_of_getElem? (i := 1) rfl)) own_memn)
  have Z11 : n0 ≤ T11.heap.size := Nat.le_trans Z9 Kc11.1
  refine g_aload X11 hx (hb hby d16_173) rfl rfl ?_
  refine g_iconst X11 hx (1 : Int32) (hb hby d16_175) (by decide) ?_
  refine g_call (own_callS X11 hx hZ (y := Y17) hown (Wd85 hw) (Wd86 hw) (Wd2 hw) (Wd87 hw) (by decide) (rm_setRed_121 l Z a0 hw a3 a7 a8 a2 T11.heap n0 Z11 O_a3_11 g_a3) (rfl : T11.heap = T11.heap) pd_14 (hb hby d16_176) (by rw [hml]; rfl) (argsL := [(.ref a3), (.int 1)]) (rest := []) rfl rfl rfl (W := 0) (Nat.le_of_eq rfl) (by decide)) (fun v12 T12 L12 X12 q12 => ?_)
  obtain ⟨rfl, M12, Kc12, Rk12_0⟩ := q12
  have N12 := Fr.app N11 M12
  have O_a1_12 := R_MP_keep O_a1_11 Kc12 (own_nin ne_a1_a3 List.not_mem_nil)
  have O_a4_12 := R_IN_keep O_a4_11 Kc12 (own_nin (Ne.symm ne_a3_a4) List.not_mem_nil)
  have O_a5_12 := R_IN_keep O_a5_11 Kc12 (own_nin (Ne.symm ne_a3_a5) List.not_mem_nil)
  have O_a7_12 := R_IN_keep O_a7_11 Kc12 (own_nin (Ne.symm ne_a3_a7) List.not_mem_nil)
  have O_a9_12 := R_IN_keep O_a9_11 Kc12 (own_nin (Ne.symm ne_a3_a9) List.not_mem_nil)
  have O_a6_12 := R_ND_keep O_a6_11 Kc12 (own_nin (Ne.symm ne_a3_a6) List.not_mem_nil)
  have O_a2_12 := R_ND_keep Rk11_0 Kc12 (own_nin ne_a2_a3 List.not_mem_nil)
  have K12 := Keep.trans K11 Kc12 (own_memc (Or.inl (List.mem_of_getElem? (i := 2) rfl)) own_memn)
  have Z12 : n0 ≤ T12.heap.size := Nat.le_trans Z11 Kc12.1
  refine g_aloadN X12 hx (hb hby d16_179) rfl rfl ?_
  refine g_aload X12 hx (hb hby d16_180) rfl rfl ?_
  refine g_call (own_callP X12 hx hZ (y := Y34) hown (Wd135 hw) (Wd136 hw) (Wd137 hw) (Wd1 hw) (Wd138 hw) (Wd2 hw) (by decide) (rm_rotateLeft_122 l Z a0 hw a1 a3 i1 a7 a8 a2 i4 a4 a5 a6 i2 i3 a9 a10 i5 T12.heap n0 Z12 O_a1_12 Rk12_0 O_a7_12 O_a2_12 O_a4_12 O_a5_12 O_a6_12 O_a9_12 ne_a1_a3 ne_a1_a7 ne_a1_a2 ne_a1_a4 ne_a1_a5 ne_a1_a6 ne_a1_a9 ne_a3_a7 (Ne.symm ne_a2_a3) ne_a3_a4 ne_a3_a5 ne_a3_a6 ne_a3_a9 (Ne.symm ne_a2_a7) ne_a2_a4 ne_a2_a5 ne_a2_a6 ne_a2_a9 g_a1 g_a3 g_a2 hk0 hk1 hk2) (rfl : T12.heap = T12.heap) O_a1_12.1 pd_18 (hb hby d16_182) (by rw [hml]; rfl) (argsL := [(.ref a3)]) (rest := []) rfl rfl rfl (W := 0) (Nat.le_of_eq rfl) (by decide)) (fun v13 T13 L13 X13 q13 => ?_)
  obtain ⟨rfl, M13, Kc13, Rk13_0, Rk13_1, Rk13_2⟩ := q13
  have N13 := Fr.app N12 M13
  have O_a4_13 := R_IN_keep O_a4_12 Kc13 (own_nin (Ne.symm ne_a1_a4) (own_nin (Ne.symm ne_a3_a4) (own_nin (Ne.symm ne_a2_a4) List.not_mem_nil)))
  have O_a5_13 := R_IN_keep O_a5_12 Kc13 (own_nin (Ne.symm ne_a1_a5) (own_nin (Ne.symm ne_a3_a5) (own_nin (Ne.symm ne_a2_a5) List.not_mem_nil)))
  have O_a7_13 := R_IN_keep O_a7_12 Kc13 (own_nin (Ne.symm ne_a1_a7) (own_nin (Ne.symm ne_a3_a7) (own_nin (Ne.symm ne_a2_a7) List.not_mem_nil)))
  have O_a9_13 := R_IN_keep O_a9_12 Kc13 (own_nin (Ne.symm ne_a1_a9) (own_nin (Ne.symm ne_a3_a9) (own_nin (Ne.symm ne_a2_a9) List.not_mem_nil)))
  have O_a6_13 := R_ND_keep O_a6_12 Kc13 (own_nin (Ne.symm ne_a1_a6) (own_nin (Ne.symm ne_a3_a6) (own_nin (Ne.symm ne_a2_a6) List.not_mem_nil)))
  have K13 := Keep.trans K12 Kc13 (own_memc (Or.inl (List.mem_of_getElem? (i := 0) rfl)) (own_memc (Or.inl (List.mem_of_getElem? (i := 2) rfl)) (own_memc (Or.inl (List.mem_of_getElem? (i := 1) rfl)) own_memn)))
  have Z13 : n0 ≤ T13.heap.size := Nat.le_trans Z12 Kc13.1
  refine g_goto X13 hx 2 (hb hby d16_185) (by decide) (by decide) ?_
  refine g_aloadN X13 hx (hb hby d16_2) rfl rfl ?_
  refine g_getF X13 hx hZ hown (Wd111 hw) (rfl : T13.heap = T13.heap) O_a6_13.2.2.2.2.2.1 (hb hby d16_3) (fun T14 X14 e14 => ?_)
  refine g_call (own_callS X14 hx hZ (y := Y24) hown (Wd112 hw) (Wd113 hw) (Wd2 hw) (Wd114 hw) (by decide) (rm_isRed_77 l Z a0 hw a2 a4 a5 a3 a6 T13.heap n0 Z13 Rk13_2) e14 pd_19 (hb hby d16_6) (by rw [hml]; rfl) (argsL := [(.ref a2)]) (rest := []) rfl rfl rfl (W := 0) (Nat.le_of_eq rfl) (by decide)) (fun v15 T15 L15 X15 q15 => ?_)
  obtain ⟨rfl, M15, e15⟩ := q15
  have N15 := Fr.app N13 M15
  refine g_ifYes X15 hx 188 (hb hby d16_9) ((if0 _ _).trans (teq ((by decide) : (0 : Int32) = (0 : Int32))).1) (by decide) (by decide) ?_
  refine g_aloadN X15 hx (hb hby d16_188) rfl rfl ?_
  refine g_getF X15 hx hZ hown (Wd35 hw) e15 Rk13_0.2.2.1 (hb hby d16_189) (fun T16 X16 e16 => ?_)
  refine g_iconst X16 hx (0 : Int32) (hb hby d16_192) (by decide) ?_
  refine g_call (own_callS X16 hx hZ (y := Y17) hown (Wd85 hw) (Wd86 hw) (Wd2 hw) (Wd87 hw) (by decide) (rm_setRed_78 l Z a0 hw a2 a4 a5 a3 a6 T13.heap n0 Z13 Rk13_2 g_a2) e16 pd_14 (hb hby d16_193) (by rw [hml]; rfl) (argsL := [(.ref a2), (.int 0)]) (rest := []) rfl rfl rfl (W := 0) (Nat.le_of_eq rfl) (by decide)) (fun v17 T17 L17 X17 q17 => ?_)
  obtain ⟨rfl, M17, Kc17, Rk17_0⟩ := q17
  have N17 := Fr.app N15 M17
  have O_a4_17 := R_IN_keep O_a4_13 Kc17 (own_nin (Ne.symm ne_a2_a4) List.not_mem_nil)
  have O_a5_17 := R_IN_keep O_a5_13 Kc17 (own_nin (Ne.symm ne_a2_a5) List.not_mem_nil)
  have O_a7_17 := R_IN_keep O_a7_13 Kc17 (own_nin (Ne.symm ne_a2_a7) List.not_mem_nil)
  have O_a9_17 := R_IN_keep O_a9_13 Kc17 (own_nin (Ne.symm ne_a2_a9) List.not_mem_nil)
  have O_a6_17 := R_ND_keep O_a6_13 Kc17 (own_nin (Ne.symm ne_a2_a6) List.not_mem_nil)
  have O_a1_17 := R_MP_keep Rk13_0 Kc17 (own_nin ne_a1_a2 List.not_mem_nil)
  have O_a3_17 := R_ND_keep Rk13_1 Kc17 (own_nin (Ne.symm ne_a2_a3) List.not_mem_nil)
  have K17 := Keep.trans K13 Kc17 (own_memc (Or.inl (List.mem_of_getElem? (i := 1) rfl)) own_memn)
  have Z17 : n0 ≤ T17.heap.size := Nat.le_trans Z13 Kc17.1
  exact own_retV X17 hx hret hlk (hb hby d16_196) (by decide) (by decide) (by rw [(rfl : T17.heap = T17.heap)]; exact ⟨rfl, N17, K17, O_a1_17, Rk17_0, O_a3_17, O_a6_17⟩)
theorem rm_addIfAbsent_114 (l : Launch) (Z : State) (a0 : Array Value) (hw : HW a0 Z) (a1 : Addr) (a2 : Addr) (a3 : Addr) (a4 : Addr) (i1 : Int32) (i2 : Int32) (i3 : Int32) (a5 : Addr) (a6 : Addr) (a7 : Addr) (i4 : Int32) (a8 : Addr) (a9 : Addr) (i5 : Int32) (h0 : Heap) (n0 : Nat) (Z0 : n0 ≤ h0.size) (O_a1 : R_MP Z h0 a1 .null (.ref a4) (.int 2) (.int i1)) (O_a2 : R_IN Z h0 a2 (.int i2)) (O_a3 : R_IN Z h0 a3 (.int i3)) (O_a4 : R_ND Z h0 a4 (.ref a5) (.ref a6) .null (.ref a7) .null (.int 0)) (O_a5 : R_IN Z h0 a5 (.int i4)) (O_a7 : R_ND Z h0 a7 (.ref a8) (.ref a9) .null .null (.ref a4) (.int (-2147483648))) (O_a8 : R_IN Z h0 a8 (.int i5)) (ne_a1_a2 : a1 ≠ a2) (ne_a1_a3 : a1 ≠ a3) (ne_a1_a4 : a1 ≠ a4) (ne_a1_a5 : a1 ≠ a5) (ne_a1_a7 : a1 ≠ a7) (ne_a1_a8 : a1 ≠ a8) (ne_a2_a4 : a2 ≠ a4) (ne_a2_a7 : a2 ≠ a7) (ne_a3_a4 : a3 ≠ a4) (ne_a3_a7 : a3 ≠ a7) (ne_a4_a5 : a4 ≠ a5) (ne_a4_a7 : a4 ≠ a7) (ne_a4_a8 : a4 ≠ a8) (ne_a5_a7 : a5 ≠ a7) (ne_a7_a8 : a7 ≠ a8) (g_a1 : n0 ≤ a1) (g_a4 : n0 ≤ a4) (g_a7 : n0 ≤ a7) (hk0 : ¬ (i2 < i4)) (hk1 : ¬ (i2 = i4)) (hk2 : i2 < i5) :
    CtrH l Y18 prog_7_method_65_code 15 (some (FieldType.object "com/example/rosewood/rosewood/RosewoodMap$Node")) [(71, 122, 210, 0), (137, 195, 210, 0), (210, 212, 210, 0)] ({ frames := 4, cells := 1, slots := 6, locals := 53 } : Room) Z #[(.ref a1), (.ref a2), (.ref a3)] h0 (fun v h L => ∃ f1, v = some .null ∧ Fr n0 L ∧ Keep h0 h [a1, a4, a7] ∧ h0.size ≤ f1 ∧ R_MP Z h a1 .null (.ref f1) (.int 3) (.int (i1 + (1 : Int32))) ∧ R_ND Z h a4 (.ref a5) (.ref a6) .null .null (.ref f1) (.int (-2147483648)) ∧ R_ND Z h a7 (.ref a8) (.ref a9) .null .null (.ref f1) (.int (-2147483648)) ∧ R_ND Z h f1 (.ref a2) (.ref a3) (.ref a4) (.ref a7) .null (.int 1)) := by
  refine own_enterH pn_2 (fun p e s m below meth c s₁ hx hby hml hown hnm hret hlk hZ X0 e0 => ?_)
  have N0 := Fr.nil n0
  have K0 := Keep.refl h0 [a1, a4, a7]
  rw [ef_38_RRR m _ _ _]
  show Go p e below (s₁.setTop (mkF m 0 #[vr a1, vr a2, vr a3, vu, vu, vu, vu, vu, vu, vu, vu, vu, vu, vu, vu] [])) _
  refine g_aloadN X0 hx (hb hby d38_0) rfl rfl ?_
  refine g_getF X0 hx hZ hown (Wd35 hw) e0 O_a1.2.2.1 (hb hby d38_1) (fun T1 X1 e1 => ?_)
  refine g_nonnullYes X1 hx 50 (hb hby d38_4) (by decide) (by decide) ?_
  refine g_null X1 hx (hb hby d38_50) ?_
  refine g_astoreN X1 hx #[vr a1, vr a2, vr a3, vn, vu, vu, vu, vu, vu, vu, vu, vu, vu, vu, vu] (hb hby d38_51) rfl rfl ?_
  refine g_iconst X1 hx (0 : Int32) (hb hby d38_52) (by decide) ?_
  refine g_istore X1 hx #[vr a1, vr a2, vr a3, vn, vi 0, vu, vu, vu, vu, vu, vu, vu, vu, vu, vu] (hb hby d38_53) rfl ?_
  refine g_aloadN X1 hx (hb hby d38_55) rfl rfl ?_
  refine g_getF X1 hx hZ hown (Wd35 hw) e1 O_a1.2.2.1 (hb hby d38_56) (fun T2 X2 e2 => ?_)
  refine g_astore X2 hx #[vr a1, vr a2, vr a3, vn, vi 0, vr a4, vu, vu, vu, vu, vu, vu, vu, vu, vu] (hb hby d38_59) rfl rfl ?_
  refine g_aload X2 hx (hb hby d38_61) rfl rfl ?_
  refine g_getF X2 hx hZ hown (Wd94 hw) e2 O_a4.2.1 (hb hby d38_63) (fun T3 X3 e3 => ?_)
  refine g_astore X3 hx #[vr a1, vr a2, vr a3, vn, vi 0, vr a4, vr a5, vu, vu, vu, vu, vu, vu, vu, vu] (hb hby d38_66) rfl rfl ?_
  refine g_null X3 hx (hb hby d38_68) ?_
  refine g_astore X3 hx #[vr a1, vr a2, vr a3, vn, vi 0, vr a4, vr a5, vn, vu, vu, vu, vu, vu, vu, vu] (hb hby d38_69) rfl rfl ?_
  refine g_aload X3 hx (hb hby d38_71) rfl rfl ?_
  refine g_nullNo X3 hx (hb hby d38_73) ?_
  refine g_aload X3 hx (hb hby d38_76) rfl rfl ?_
  refine g_getF X3 hx hZ hown (Wd95 hw) e3 O_a4.2.2.2.1 (hb hby d38_78) (fun T4 X4 e4 => ?_)
  refine g_astore X4 hx #[vr a1, vr a2, vr a3, vn, vi 0, vr a4, vr a5, vn, vn, vu, vu, vu, vu, vu, vu] (hb hby d38_81) rfl rfl ?_
  refine g_aload X4 hx (hb hby d38_83) rfl rfl ?_
  refine g_getF X4 hx hZ hown (Wd97 hw) e4 O_a4.2.2.2.2.1 (hb hby d38_85) (fun T5 X5 e5 => ?_)
  refine g_astore X5 hx #[vr a1, vr a2, vr a3, vn, vi 0, vr a4, vr a5, vn, vn, vr a7, vu, vu, vu, vu, vu] (hb hby d38_88) rfl rfl ?_
  refine g_aload X5 hx (hb hby d38_90) rfl rfl ?_
  refine g_call (own_callS X5 hx hZ (y := Y7) hown (Wd99 hw) (Wd100 hw) (Wd2 hw) (Wd101 hw) (by decide) (rm_keyOf_9 l Z a0 hw  h0 n0 Z0 ) e5 pd_6 (hb hby d38_92) (by rw [hml]; rfl) (argsL := [.null]) (rest := []) rfl rfl rfl (W := 0) (Nat.le_of_eq rfl) (by decide)) (fun v6 T6 L6 X6 q6 => ?_)
  obtain ⟨rfl, M6, e6⟩ := q6
  have N6 := Fr.app N0 M6
  refine g_astore X6 hx #[vr a1, vr a2, vr a3, vn, vi 0, vr a4, vr a5, vn, vn, vr a7, vn, vu, vu, vu, vu] (hb hby d38_95) rfl rfl ?_
  refine g_aload X6 hx (hb hby d38_97) rfl rfl ?_
  refine g_call (own_callS X6 hx hZ (y := Y7) hown (Wd99 hw) (Wd100 hw) (Wd2 hw) (Wd101 hw) (by decide) (rm_keyOf_63 l Z a0 hw a7 a8 a9 a4 h0 n0 Z0 O_a7) e6 pd_6 (hb hby d38_99) (by rw [hml]; rfl) (argsL := [(.ref a7)]) (rest := []) rfl rfl rfl (W := 0) (Nat.le_of_eq rfl) (by decide)) (fun v7 T7 L7 X7 q7 => ?_)
  obtain ⟨rfl, M7, e7⟩ := q7
  have N7 := Fr.app N6 M7
  refine g_astore X7 hx #[vr a1, vr a2, vr a3, vn, vi 0, vr a4, vr a5, vn, vn, vr a7, vn, vr a8, vu, vu, vu] (hb hby d38_102) rfl rfl ?_
  refine g_aloadN X7 hx (hb hby d38_104) rfl rfl ?_
  refine g_aloadN X7 hx (hb hby d38_105) rfl rfl ?_
  refine g_aload X7 hx (hb hby d38_106) rfl rfl ?_
  refine g_call (own_callV X7 hx hZ (y := Y13) hown (Wd37 hw) (Wd38 hw) (Wd40 hw) (Wd39 hw) (Wd41 hw) (Wd2 hw) (by decide) (rm_compare_89 l Z a0 hw a1 a2 a5 a4 i1 i2 i4 h0 n0 Z0 O_a1 O_a2 O_a5 hk0 hk1) e7 O_a1.1 pd_11 (hb hby d38_108) (by rw [hml]; rfl) (argsL := [(.ref a2), (.ref a5)]) (rest := []) rfl rfl rfl (W := 0) (Nat.le_of_eq rfl) (by decide)) (fun v8 T8 L8 X8 q8 => ?_)
  obtain ⟨rfl, M8, e8⟩ := q8
  have N8 := Fr.app N7 M8
  refine g_istore X8 hx #[vr a1, vr a2, vr a3, vn, vi 0, vr a4, vr a5, vn, vn, vr a7, vn, vr a8, vi 1, vu, vu] (hb hby d38_111) rfl ?_
  refine g_iload X8 hx (hb hby d38_113) rfl ?_
  refine g_ifYes X8 hx 137 (hb hby d38_115) ((if0 _ _).trans (feq ((by decide) : ¬ ((1 : Int32) = (0 : Int32)))).2) (by decide) (by decide) ?_
  refine g_aload X8 hx (hb hby d38_137) rfl rfl ?_
  refine g_astoreN X8 hx #[vr a1, vr a2, vr a3, vr a4, vi 0, vr a4, vr a5, vn, vn, vr a7, vn, vr a8, vi 1, vu, vu] (hb hby d38_139) rfl rfl ?_
  refine g_iload X8 hx (hb hby d38_140) rfl ?_
  refine g_istore X8 hx #[vr a1, vr a2, vr a3, vr a4, vi 1, vr a4, vr a5, vn, vn, vr a7, vn, vr a8, vi 1, vu, vu] (hb hby d38_142) rfl ?_
  refine g_iload X8 hx (hb hby d38_144) rfl ?_
  refine g_ifYes X8 hx 155 (hb hby d38_146) ((if0 _ _).trans (flt ((by decide) : ¬ ((1 : Int32) < (0 : Int32)))).2.1) (by decide) (by decide) ?_
  refine g_iload X8 hx (hb hby d38_155) rfl ?_
  refine g_ifYes X8 hx 165 (hb hby d38_157) ((if0 _ _).trans (flt ((by decide) : ¬ ((1 : Int32) < (0 : Int32)))).2.1) (by decide) (by decide) ?_
  refine g_aload X8 hx (hb hby d38_165) rfl rfl ?_
  refine g_astore X8 hx #[vr a1, vr a2, vr a3, vr a4, vi 1, vr a7, vr a5, vn, vn, vr a7, vn, vr a8, vi 1, vu, vu] (hb hby d38_167) rfl rfl ?_
  refine g_iload X8 hx (hb hby d38_169) rfl ?_
  refine g_ifYes X8 hx 179 (hb hby d38_171) ((if0 _ _).trans (flt ((by decide) : ¬ ((1 : Int32) < (0 : Int32)))).2.1) (by decide) (by decide) ?_
  refine g_aload X8 hx (hb hby d38_179) rfl rfl ?_
  refine g_astore X8 hx #[vr a1, vr a2, vr a3, vr a4, vi 1, vr a7, vr a8, vn, vn, vr a7, vn, vr a8, vi 1, vu, vu] (hb hby d38_181) rfl rfl ?_
  refine g_goto X8 hx 71 (hb hby d38_183) (by decide) (by decide) ?_
  refine g_aload X8 hx (hb hby d38_71) rfl rfl ?_
  refine g_nullNo X8 hx (hb hby d38_73) ?_
  refine g_aload X8 hx (hb hby d38_76) rfl rfl ?_
  refine g_getF X8 hx hZ hown (Wd95 hw) e8 O_a7.2.2.2.1 (hb hby d38_78) (fun T9 X9 e9 => ?_)
  refine g_astore X9 hx #[vr a1, vr a2, vr a3, vr a4, vi 1, vr a7, vr a8, vn, vn, vr a7, vn, vr a8, vi 1, vu, vu] (hb hby d38_81) rfl rfl ?_
  refine g_aload X9 hx (hb hby d38_83) rfl rfl ?_
  refine g_getF X9 hx hZ hown (Wd97 hw) e9 O_a7.2.2.2.2.1 (hb hby d38_85) (fun T10 X10 e10 => ?_)
  refine g_astore X10 hx #[vr a1, vr a2, vr a3, vr a4, vi 1, vr a7, vr a8, vn, vn, vn, vn, vr a8, vi 1, vu, vu] (hb hby d38_88) rfl rfl ?_
  refine g_aload X10 hx (hb hby d38_90) rfl rfl ?_
  refine g_call (own_callS X10 hx hZ (y := Y7) hown (Wd99 hw) (Wd100 hw) (Wd2 hw) (Wd101 hw) (by decide) (rm_keyOf_9 l Z a0 hw  h0 n0 Z0 ) e10 pd_6 (hb hby d38_92) (by rw [hml]; rfl) (argsL := [.null]) (rest := []) rfl rfl rfl (W := 0) (Nat.le_of_eq rfl) (by decide)) (fun v11 T11 L11 X11 q11 => ?_)
  obtain ⟨rfl, M11, e11⟩ := q11
  have N11 := Fr.app N8 M11
  refine g_astore X11 hx #[vr a1, vr a2, vr a3, vr a4, vi 1, vr a7, vr a8, vn, vn, vn, vn, vr a8, vi 1, vu, vu] (hb hby d38_95) rfl rfl ?_
  refine g_aload X11 hx (hb hby d38_97) rfl rfl ?_
  refine g_call (own_callS X11 hx hZ (y := Y7) hown (Wd99 hw) (Wd100 hw) (Wd2 hw) (Wd101 hw) (by decide) (rm_keyOf_9 l Z a0 hw  h0 n0 Z0 ) e11 pd_6 (hb hby d38_99) (by rw [hml]; rfl) (argsL := [.null]) (rest := []) rfl rfl rfl (W := 0) (Nat.le_of_eq rfl) (by decide)) (fun v12 T12 L12 X12 q12 => ?_)
  obtain ⟨rfl, M12, e12⟩ := q12
  have N12 := Fr.app N11 M12
  refine g_astore X12 hx #[vr a1, vr a2, vr a3, vr a4, vi 1, vr a7, vr a8, vn, vn, vn, vn, vn, vi 1, vu, vu] (hb hby d38_102) rfl rfl ?_
  refine g_aloadN X12 hx (hb hby d38_104) rfl rfl ?_
  refine g_aloadN X12 hx (hb hby d38_105) rfl rfl ?_
  refine g_aload X12 hx (hb hby d38_106) rfl rfl ?_
  refine g_call (own_callV X12 hx hZ (y := Y13) hown (Wd37 hw) (Wd38 hw) (Wd40 hw) (Wd39 hw) (Wd41 hw) (Wd2 hw) (by decide) (rm_compare_64 l Z a0 hw a1 a2 a8 a4 i1 i2 i5 h0 n0 Z0 O_a1 O_a2 O_a8 hk2) e12 O_a1.1 pd_11 (hb hby d38_108) (by rw [hml]; rfl) (argsL := [(.ref a2), (.ref a8)]) (rest := []) rfl rfl rfl (W := 0) (Nat.le_of_eq rfl) (by decide)) (fun v13 T13 L13 X13 q13 => ?_)
  obtain ⟨rfl, M13, e13⟩ := q13
  have N13 := Fr.app N12 M13
  refine g_istore X13 hx #[vr a1, vr a2, vr a3, vr a4, vi 1, vr a7, vr a8, vn, vn, vn, vn, vn, vi (-1), vu, vu] (hb hby d38_111) rfl ?_
  refine g_iload X13 hx (hb hby d38_113) rfl ?_
  refine g_ifYes X13 hx 137 (hb hby d38_115) ((if0 _ _).trans (feq ((by decide) : ¬ ((-1 : Int32) = (0 : Int32)))).2) (by decide) (by decide) ?_
  refine g_aload X13 hx (hb hby d38_137) rfl rfl ?_
  refine g_astoreN X13 hx #[vr a1, vr a2, vr a3, vr a7, vi 1, vr a7, vr a8, vn, vn, vn, vn, vn, vi (-1), vu, vu] (hb hby d38_139) rfl rfl ?_
  refine g_iload X13 hx (hb hby d38_140) rfl ?_
  refine g_istore X13 hx #[vr a1, vr a2, vr a3, vr a7, vi (-1), vr a7, vr a8, vn, vn, vn, vn, vn, vi (-1), vu, vu] (hb hby d38_142) rfl ?_
  refine g_iload X13 hx (hb hby d38_144) rfl ?_
  refine g_ifNo X13 hx (hb hby d38_146) ((if0 _ _).trans (tlt ((by decide) : (-1 : Int32) < (0 : Int32))).2.1) ?_
  refine g_aload X13 hx (hb hby d38_149) rfl rfl ?_
  refine g_iconst X13 hx (1 : Int32) (hb hby d38_151) (by decide) ?_
  refine g_call (own_callS X13 hx hZ (y := Y22) hown (Wd115 hw) (Wd116 hw) (Wd2 hw) (Wd117 hw) (by decide) (rm_addToLeftCount_66 l Z a0 hw a7 a8 a9 a4 h0 n0 Z0 O_a7 g_a7) e13 pd_17 (hb hby d38_152) (by rw [hml]; rfl) (argsL := [(.ref a7), (.int 1)]) (rest := []) rfl rfl rfl (W := 0) (Nat.le_of_eq rfl) (by decide)) (fun v14 T14 L14 X14 q14 => ?_)
  obtain ⟨rfl, M14, Kc14, Rk14_0⟩ := q14
  have N14 := Fr.app N13 M14
  have O_a1_14 := R_MP_keep O_a1 Kc14 (own_nin ne_a1_a7 List.not_mem_nil)
  have O_a2_14 := R_IN_keep O_a2 Kc14 (own_nin ne_a2_a7 List.not_mem_nil)
  have O_a3_14 := R_IN_keep O_a3 Kc14 (own_nin ne_a3_a7 List.not_mem_nil)
  have O_a4_14 := R_ND_keep O_a4 Kc14 (own_nin ne_a4_a7 List.not_mem_nil)
  have O_a5_14 := R_IN_keep O_a5 Kc14 (own_nin ne_a5_a7 List.not_mem_nil)
  have O_a8_14 := R_IN_keep O_a8 Kc14 (own_nin (Ne.symm ne_a7_a8) List.not_mem_nil)
  have K14 := Keep.trans K0 Kc14 (own_memc (Or.inl (List.mem_of_getElem? (i := 2) rfl)) own_memn)
  have Z14 : n0 ≤ T14.heap.size := Nat.le_trans Z0 Kc14.1
  refine g_iload X14 hx (hb hby d38_155) rfl ?_
  refine g_ifNo X14 hx (hb hby d38_157) ((if0 _ _).trans (tlt ((by decide) : (-1 : Int32) < (0 : Int32))).2.1) ?_
  refine g_aload X14 hx (hb hby d38_160) rfl rfl ?_
  refine g_goto X14 hx 167 (hb hby d38_162) (by decide) (by decide) ?_
  refine g_astore X14 hx #[vr a1, vr a2, vr a3, vr a7, vi (-1), vn, vr a8, vn, vn, vn, vn, vn, vi (-1), vu, vu] (hb hby d38_167) rfl rfl ?_
  refine g_iload X14 hx (hb hby d38_169) rfl ?_
  refine g_ifNo X14 hx (hb hby d38_171) ((if0 _ _).trans (tlt ((by decide) : (-1 : Int32) < (0 : Int32))).2.1) ?_
  refine g_aload X14 hx (hb hby d38_174) rfl rfl ?_
  refine g_goto X14 hx 181 (hb hby d38_176) (by decide) (by decide) ?_
  refine g_astore X14 hx #[vr a1, vr a2, vr a3, vr a7, vi (-1), vn, vn, vn, vn, vn, vn, vn, vi (-1), vu, vu] (hb hby d38_181) rfl rfl ?_
  refine g_goto X14 hx 71 (hb hby d38_183) (by decide) (by decide) ?_
  refine g_aload X14 hx (hb hby d38_71) rfl rfl ?_
  refine g_nullYes X14 hx 186 (hb hby d38_73) (by decide) (by decide) ?_
  refine g_aloadN X14 hx (hb hby d38_186) rfl rfl ?_
  refine g_aloadN X14 hx (hb hby d38_187) rfl rfl ?_
  refine g_aloadN X14 hx (hb hby d38_188) rfl rfl ?_
  refine g_aloadN X14 hx (hb hby d38_189) rfl rfl ?_
  refine g_call (own_callV X14 hx hZ (y := Y16) hown (Wd64 hw) (Wd65 hw) (Wd67 hw) (Wd66 hw) (Wd68 hw) (Wd2 hw) (by decide) (rm_newNode_37 l Z a0 hw a1 a2 a3 a7 T14.heap n0 Z14 ) (rfl : T14.heap = T14.heap) O_a1_14.1 pd_13 (hb hby d38_190) (by rw [hml]; rfl) (argsL := [(.ref a2), (.ref a3), (.ref a7)]) (rest := []) rfl rfl rfl (W := 0) (Nat.le_of_eq rfl) (by decide)) (fun v15 T15 L15 X15 q15 => ?_)
  obtain ⟨b15_0, rfl, M15, Kc15, zb15_0, Rk15_0⟩ := q15
  have N15 := Fr.app N14 M15
  have ne_a1_b15_0 : a1 ≠ b15_0 := Nat.ne_of_lt (Nat.lt_of_lt_of_le O_a1_14.1.lt zb15_0)
  have ne_a2_b15_0 : a2 ≠ b15_0 := Nat.ne_of_lt (Nat.lt_of_lt_of_le O_a2_14.1.lt zb15_0)
  have ne_a3_b15_0 : a3 ≠ b15_0 := Nat.ne_of_lt (Nat.lt_of_lt_of_le O_a3_14.1.lt zb15_0)
  have ne_a4_b15_0 : a4 ≠ b15_0 := Nat.ne_of_lt (Nat.lt_of_lt_of_le O_a4_14.1.lt zb15_0)
  have ne_a5_b15_0 : a5 ≠ b15_0 := Nat.ne_of_lt (Nat.lt_of_lt_of_le O_a5_14.1.lt zb15_0)
  have ne_a8_b15_0 : a8 ≠ b15_0 := Nat.ne_of_lt (Nat.lt_of_lt_of_le O_a8_14.1.lt zb15_0)
  have ne_a7_b15_0 : a7 ≠ b15_0 := Nat.ne_of_lt (Nat.lt_of_lt_of_le Rk14_0.1.lt zb15_0)
  have g_b15_0 : n0 ≤ b15_0 := Nat.le_trans Z14 zb15_0
  have sz_b15_0 : h0.size ≤ b15_0 := Nat.le_trans K14.1 zb15_0
  have O_a1_15 := R_MP_keep O_a1_14 Kc15 List.not_mem_nil
  have O_a2_15 := R_IN_keep O_a2_14 Kc15 List.not_mem_nil
  have O_a3_15 := R_IN_keep O_a3_14 Kc15 List.not_mem_nil
  have O_a4_15 := R_ND_keep O_a4_14 Kc15 List.not_mem_nil
  have O_a5_15 := R_IN_keep O_a5_14 Kc15 List.not_mem_nil
  have O_a8_15 := R_IN_keep O_a8_14 Kc15 List.not_mem_nil
  have O_a7_15 := R_ND_keep Rk14_0 Kc15 List.not_mem_nil
  have K15 := Keep.trans K14 Kc15 own_memn
  have Z15 : n0 ≤ T15.heap.size := Nat.le_trans Z14 Kc15.1
  refine g_astore X15 hx #[vr a1, vr a2, vr a3, vr a7, vi (-1), vn, vn, vr b15_0, vn, vn, vn, vn, vi (-1), vu, vu] (hb hby d38_193) rfl rfl ?_
  refine g_aload X15 hx (hb hby d38_195) rfl rfl ?_
  refine g_nonnullYes X15 hx 227 (hb hby d38_197) (by decide) (by decide) ?_
  refine g_iload X15 hx (hb hby d38_227) rfl ?_
  refine g_ifNo X15 hx (hb hby d38_229) ((if0 _ _).trans (tlt ((by decide) : (-1 : Int32) < (0 : Int32))).2.1) ?_
  refine g_aloadN X15 hx (hb hby d38_232) rfl rfl ?_
  refine g_aload X15 hx (hb hby d38_233) rfl rfl ?_
  refine g_putF X15 hx hZ hown (Wd95 hw) (rfl : T15.heap = T15.heap) O_a7_15.2.2.2.1 O_a7_15.1 (Or.inl (Wd96 hw)) (Wd70 hw) fd_2 rfl rfl (hb hby d38_235) (fun T16 h16 X16 e16 W16 => ?_)
  have N16 := Fr.snoc X16 N15 g_a7
  have O_a1_16 := R_MP_other W16 O_a1_15 ne_a1_a7
  have O_a2_16 := R_IN_other W16 O_a2_15 ne_a2_a7
  have O_a3_16 := R_IN_other W16 O_a3_15 ne_a3_a7
  have O_a4_16 := R_ND_other W16 O_a4_15 ne_a4_a7
  have O_a5_16 := R_IN_other W16 O_a5_15 ne_a5_a7
  have O_a8_16 := R_IN_other W16 O_a8_15 (Ne.symm ne_a7_a8)
  have O_a7_16 := R_ND_set_left hw W16 O_a7_15
  have O_b15_0_16 := R_ND_other W16 Rk15_0 (Ne.symm ne_a7_b15_0)
  have Z16 : n0 ≤ h16.size := Nat.le_trans Z15 (Nat.le_of_eq W16.size.symm)
  have K16 := Keep.wr K15 W16 (Or.inl (List.mem_of_getElem? (i := 2) rfl))
  refine g_goto X16 hx 247 (hb hby d38_238) (by decide) (by decide) ?_
  refine g_aloadN X16 hx (hb hby d38_247) rfl rfl ?_
  refine g_dup X16 hx (hb hby d38_248) rfl ?_
  refine g_getF X16 hx hZ hown (Wd90 hw) e16 O_a1_16.2.2.2.1 (hb hby d38_249) (fun T17 X17 e17 => ?_)
  refine g_iconst X17 hx (1 : Int32) (hb hby d38_252) (by decide) ?_
  refine g_iadd X17 hx (hb hby d38_253) ?_
  show Go p e below (T17.setTop (mkF m 254 #[vr a1, vr a2, vr a3, vr a7, vi (-1), vn, vn, vr b15_0, vn, vn, vn, vn, vi (-1), vu, vu] [(.int ((2 : Int32) + (1 : Int32))), (.ref a1)])) _
  rw [show ((2 : Int32) + (1 : Int32)) = (3 : Int32) from by decide]
  refine g_putF X17 hx hZ hown (Wd90 hw) e17 O_a1_16.2.2.2.1 O_a1_16.1 (Or.inl (Wd91 hw)) (Wd1 hw) fd_0 rfl rfl (hb hby d38_254) (fun T18 h18 X18 e18 W18 => ?_)
  have N18 := Fr.snoc X18 N16 g_a1
  have O_a1_18 := R_MP_set_size hw W18 O_a1_16
  have O_a2_18 := R_IN_other W18 O_a2_16 (Ne.symm ne_a1_a2)
  have O_a3_18 := R_IN_other W18 O_a3_16 (Ne.symm ne_a1_a3)
  have O_a4_18 := R_ND_other W18 O_a4_16 (Ne.symm ne_a1_a4)
  have O_a5_18 := R_IN_other W18 O_a5_16 (Ne.symm ne_a1_a5)
  have O_a8_18 := R_IN_other W18 O_a8_16 (Ne.symm ne_a1_a8)
  have O_a7_18 := R_ND_other W18 O_a7_16 (Ne.symm ne_a1_a7)
  have O_b15_0_18 := R_ND_other W18 O_b15_0_16 (Ne.symm ne_a1_b15_0)
  have Z18 : n0 ≤ h18.size := Nat.le_trans Z16 (Nat.le_of_eq W18.size.symm)
  have K18 := Keep.wr K16 W18 (Or.inl (List.mem_of_getElem? (i := 0) rfl))
  refine g_aloadN X18 hx (hb hby d38_257) rfl rfl ?_
  refine g_aloadN X18 hx (hb hby d38_258) rfl rfl ?_
  refine g_call (own_callV X18 hx hZ (y := Y23) hown (Wd102 hw) (Wd103 hw) (Wd105 hw) (Wd104 hw) (Wd106 hw) (Wd2 hw) (by decide) (rm_refreshToRoot_39 l Z a0 hw a1 a7 h18 n0 Z18 ) e18 O_a1_18.1 pd_18 (hb hby d38_259) (by rw [hml]; rfl) (argsL := [(.ref a7)]) (rest := []) rfl rfl rfl (W := 0) (Nat.le_of_eq rfl) (by decide)) (fun v19 T19 L19 X19 q19 => ?_)
  obtain ⟨rfl, M19, e19⟩ := q19
  have N19 := Fr.app N18 M19
  refine g_aloadN X19 hx (hb hby d38_262) rfl rfl ?_
  refine g_aload X19 hx (hb hby d38_263) rfl rfl ?_
  refine g_call (own_callP X19 hx hZ (y := Y25) hown (Wd107 hw) (Wd108 hw) (Wd109 hw) (Wd1 hw) (Wd110 hw) (Wd2 hw) (by decide) (rm_balanceAfterInsert_115 l Z a0 hw a1 b15_0 a4 i1 a2 a3 a7 a5 a6 i2 i3 a8 a9 i4 i5 h18 n0 Z18 O_a1_18 O_b15_0_18 O_a4_18 O_a2_18 O_a3_18 O_a7_18 O_a5_18 O_a8_18 ne_a1_b15_0 ne_a1_a4 ne_a1_a2 ne_a1_a3 ne_a1_a7 ne_a1_a5 ne_a1_a8 (Ne.symm ne_a4_b15_0) (Ne.symm ne_a2_b15_0) (Ne.symm ne_a3_b15_0) (Ne.symm ne_a7_b15_0) (Ne.symm ne_a5_b15_0) (Ne.symm ne_a8_b15_0) (Ne.symm ne_a2_a4) (Ne.symm ne_a3_a4) ne_a4_a7 ne_a4_a5 ne_a4_a8 ne_a2_a7 ne_a3_a7 (Ne.symm ne_a5_a7) ne_a7_a8 g_a1 g_b15_0 g_a4 g_a7 hk0 hk1 hk2) e19 O_a1_18.1 pd_18 (hb hby d38_265) (by rw [hml]; rfl) (argsL := [(.ref b15_0)]) (rest := []) rfl rfl rfl (W := 0) (Nat.le_of_eq rfl) (by decide)) (fun v20 T20 L20 X20 q20 => ?_)
  obtain ⟨rfl, M20, Kc20, Rk20_0, Rk20_1, Rk20_2, Rk20_3⟩ := q20
  have N20 := Fr.app N19 M20
  have O_a2_20 := R_IN_keep O_a2_18 Kc20 (own_nin (Ne.symm ne_a1_a2) (own_nin ne_a2_b15_0 (own_nin ne_a2_a4 (own_nin ne_a2_a7 List.not_mem_nil))))
  have O_a3_20 := R_IN_keep O_a3_18 Kc20 (own_nin (Ne.symm ne_a1_a3) (own_nin ne_a3_b15_0 (own_nin ne_a3_a4 (own_nin ne_a3_a7 List.not_mem_nil))))
  have O_a5_20 := R_IN_keep O_a5_18 Kc20 (own_nin (Ne.symm ne_a1_a5) (own_nin ne_a5_b15_0 (own_nin (Ne.symm ne_a4_a5) (own_nin ne_a5_a7 List.not_mem_nil))))
  have O_a8_20 := R_IN_keep O_a8_18 Kc20 (own_nin (Ne.symm ne_a1_a8) (own_nin ne_a8_b15_0 (own_nin (Ne.symm ne_a4_a8) (own_nin (Ne.symm ne_a7_a8) List.not_mem_nil))))
  have K20 := Keep.trans K18 Kc20 (own_memc (Or.inl (List.mem_of_getElem? (i := 0) rfl)) (own_memc (Or.inr sz_b15_0) (own_memc (Or.inl (List.mem_of_getElem? (i := 1) rfl)) (own_memc (Or.inl (List.mem_of_getElem? (i := 2) rfl)) own_memn))))
  have Z20 : n0 ≤ T20.heap.size := Nat.le_trans Z18 Kc20.1
  refine g_aloadN X20 hx (hb hby d38_268) rfl rfl ?_
  refine g_dup X20 hx (hb hby d38_269) rfl ?_
  refine g_getF X20 hx hZ hown (Wd92 hw) (rfl : T20.heap = T20.heap) Rk20_0.2.2.2.2 (hb hby d38_270) (fun T21 X21 e21 => ?_)
  refine g_iconst X21 hx (1 : Int32) (hb hby d38_273) (by decide) ?_
  refine g_iadd X21 hx (hb hby d38_274) ?_
  refine g_putF X21 hx hZ hown (Wd92 hw) e21 Rk20_0.2.2.2.2 Rk20_0.1 (Or.inl (Wd93 hw)) (Wd1 hw) fd_0 rfl rfl (hb hby d38_275) (fun T22 h22 X22 e22 W22 => ?_)
  have N22 := Fr.snoc X22 N20 g_a1
  have O_a2_22 := R_IN_other W22 O_a2_20 (Ne.symm ne_a1_a2)
  have O_a3_22 := R_IN_other W22 O_a3_20 (Ne.symm ne_a1_a3)
  have O_a5_22 := R_IN_other W22 O_a5_20 (Ne.symm ne_a1_a5)
  have O_a8_22 := R_IN_other W22 O_a8_20 (Ne.symm ne_a1_a8)
  have O_a1_22 := R_MP_set_modCount hw W22 Rk20_0
  have O_b15_0_22 := R_ND_other W22 Rk20_1 (Ne.symm ne_a1_b15_0)
  have O_a4_22 := R_ND_other W22 Rk20_2 (Ne.symm ne_a1_a4)
  have O_a7_22 := R_ND_other W22 Rk20_3 (Ne.symm ne_a1_a7)
  have Z22 : n0 ≤ h22.size := Nat.le_trans Z20 (Nat.le_of_eq W22.size.symm)
  have K22 := Keep.wr K20 W22 (Or.inl (List.mem_of_getElem? (i := 0) rfl))
  refine g_null X22 hx (hb hby d38_278) ?_
  exact own_retA X22 hx hret hlk rfl rfl (hb hby d38_279) (by decide) (by decide) (by rw [e22]; exact ⟨b15_0, rfl, N22, K22, sz_b15_0, O_a1_22, O_a4_22, O_a7_22, O_b15_0_22⟩)
theorem rm_put_113 (l : Launch) (Z : State) (a0 : Array Value) (hw : HW a0 Z) (a1 : Addr) (a2 : Addr) (a3 : Addr) (a4 : Addr) (i1 : Int32) (i2 : Int32) (i3 : Int32) (a5 : Addr) (a6 : Addr) (a7 : Addr) (i4 : Int32) (a8 : Addr) (a9 : Addr) (i5 : Int32) (h0 : Heap) (n0 : Nat) (Z0 : n0 ≤ h0.size) (O_a1 : R_MP Z h0 a1 .null (.ref a4) (.int 2) (.int i1)) (O_a2 : R_IN Z h0 a2 (.int i2)) (O_a3 : R_IN Z h0 a3 (.int i3)) (O_a4 : R_ND Z h0 a4 (.ref a5) (.ref a6) .null (.ref a7) .null (.int 0)) (O_a5 : R_IN Z h0 a5 (.int i4)) (O_a7 : R_ND Z h0 a7 (.ref a8) (.ref a9) .null .null (.ref a4) (.int (-2147483648))) (O_a8 : R_IN Z h0 a8 (.int i5)) (ne_a1_a2 : a1 ≠ a2) (ne_a1_a3 : a1 ≠ a3) (ne_a1_a4 : a1 ≠ a4) (ne_a1_a5 : a1 ≠ a5) (ne_a1_a7 : a1 ≠ a7) (ne_a1_a8 : a1 ≠ a8) (ne_a2_a4 : a2 ≠ a4) (ne_a2_a7 : a2 ≠ a7) (ne_a3_a4 : a3 ≠ a4) (ne_a3_a7 : a3 ≠ a7) (ne_a4_a5 : a4 ≠ a5) (ne_a4_a7 : a4 ≠ a7) (ne_a4_a8 : a4 ≠ a8) (ne_a5_a7 : a5 ≠ a7) (ne_a7_a8 : a7 ≠ a8) (g_a1 : n0 ≤ a1) (g_a4 : n0 ≤ a4) (g_a7 : n0 ≤ a7) (hk0 : ¬ (i2 < i4)) (hk1 : ¬ (i2 = i4)) (hk2 : i2 < i5) :
    Ctr l Y19 prog_7_method_8_code 4 (some (FieldType.object "java/lang/Object")) [] ({ frames := 5, cells := 1, slots := 6, locals := 79 } : Room) Z #[(.ref a1), (.ref a2), (.ref a3)] h0 (fun v h L => ∃ f1, v = some .null ∧ Fr n0 L ∧ Keep h0 h [a1, a4, a7] ∧ h0.size ≤ f1 ∧ R_MP Z h a1 .null (.ref f1) (.int 3) (.int (i1 + (1 : Int32))) ∧ R_ND Z h a4 (.ref a5) (.ref a6) .null .null (.ref f1) (.int (-2147483648)) ∧ R_ND Z h a7 (.ref a8) (.ref a9) .null .null (.ref f1) (.int (-2147483648)) ∧ R_ND Z h f1 (.ref a2) (.ref a3) (.ref a4) (.ref a7) .null (.int 1)) := by
  refine own_enter pn_2 (fun p e s m below meth c s₁ hx hby hml hown hnm hret hlk hZ X0 e0 => ?_)
  have N0 := Fr.nil n0
  have K0 := Keep.refl h0 [a1, a4, a7]
  rw [ef_6_RRR m _ _ _]
  show Go p e below (s₁.setTop (mkF m 0 #[vr a1, vr a2, vr a3, vu] [])) _
  refine g_aloadN X0 hx (hb hby d6_0) rfl rfl ?_
  refine g_aloadN X0 hx (hb hby d6_1) rfl rfl ?_
  refine g_aloadN X0 hx (hb hby d6_2) rfl rfl ?_
  refine g_call (own_callPH X0 hx hZ (y := Y18) hown (Wd31 hw) (Wd32 hw) (Wd33 hw) (Wd1 hw) (Wd34 hw) (Wd2 hw) (by decide) (rm_addIfAbsent_114 l Z a0 hw a1 a2 a3 a4 i1 i2 i3 a5 a6 a7 i4 a8 a9 i5 h0 n0 Z0 O_a1 O_a2 O_a3 O_a4 O_a5 O_a7 O_a8 ne_a1_a2 ne_a1_a3 ne_a1_a4 ne_a1_a5 ne_a1_a7 ne_a1_a8 ne_a2_a4 ne_a2_a7 ne_a3_a4 ne_a3_a7 ne_a4_a5 ne_a4_a7 ne_a4_a8 ne_a5_a7 ne_a7_a8 g_a1 g_a4 g_a7 hk0 hk1 hk2) e0 O_a1.1 pd_15 (hb hby d6_3) (by rw [hml]; rfl) (argsL := [(.ref a2), (.ref a3)]) (rest := []) rfl rfl rfl (W := 0) (Nat.le_of_eq rfl) (by decide)) (fun v1 T1 L1 X1 q1 => ?_)
  obtain ⟨b1_0, rfl, M1, Kc1, zb1_0, Rk1_0, Rk1_1, Rk1_2, Rk1_3⟩ := q1
  have N1 := Fr.app N0 M1
  have ne_a1_b1_0 : a1 ≠ b1_0 := Nat.ne_of_lt (Nat.lt_of_lt_of_le O_a1.1.lt zb1_0)
  have ne_a2_b1_0 : a2 ≠ b1_0 := Nat.ne_of_lt (Nat.lt_of_lt_of_le O_a2.1.lt zb1_0)
  have ne_a3_b1_0 : a3 ≠ b1_0 := Nat.ne_of_lt (Nat.lt_of_lt_of_le O_a3.1.lt zb1_0)
  have ne_a4_b1_0 : a4 ≠ b1_0 := Nat.ne_of_lt (Nat.lt_of_lt_of_le O_a4.1.lt zb1_0)
  have ne_a5_b1_0 : a5 ≠ b1_0 := Nat.ne_of_lt (Nat.lt_of_lt_of_le O_a5.1.lt zb1_0)
  have ne_a7_b1_0 : a7 ≠ b1_0 := Nat.ne_of_lt (Nat.lt_of_lt_of_le O_a7.1.lt zb1_0)
  have ne_a8_b1_0 : a8 ≠ b1_0 := Nat.ne_of_lt (Nat.lt_of_lt_of_le O_a8.1.lt zb1_0)
  have g_b1_0 : n0 ≤ b1_0 := Nat.le_trans Z0 zb1_0
  have sz_b1_0 : h0.size ≤ b1_0 := Nat.le_trans K0.1 zb1_0
  have O_a2_1 := R_IN_keep O_a2 Kc1 (own_nin (Ne.symm ne_a1_a2) (own_nin ne_a2_a4 (own_nin ne_a2_a7 List.not_mem_nil)))
  have O_a3_1 := R_IN_keep O_a3 Kc1 (own_nin (Ne.symm ne_a1_a3) (own_nin ne_a3_a4 (own_nin ne_a3_a7 List.not_mem_nil)))
  have O_a5_1 := R_IN_keep O_a5 Kc1 (own_nin (Ne.symm ne_a1_a5) (own_nin (Ne.symm ne_a4_a5) (own_nin ne_a5_a7 List.not_mem_nil)))
  have O_a8_1 := R_IN_keep O_a8 Kc1 (own_nin (Ne.symm ne_a1_a8) (own_nin (Ne.symm ne_a4_a8) (own_nin (Ne.symm ne_a7_a8) List.not_mem_nil)))
  have K1 := Keep.trans K0 Kc1 (own_memc (Or.inl (List.mem_of_getElem? (i := 0) rfl)) (own_memc (Or.inl (List.mem_of_getElem? (i := 1) rfl)) (own_memc (Or.inl (List.mem_of_getElem? (i := 2) rfl)) own_memn)))
  have Z1 : n0 ≤ T1.heap.size := Nat.le_trans Z0 Kc1.1
  refine g_astoreN X1 hx #[vr a1, vr a2, vr a3, vn] (hb hby d6_6) rfl rfl ?_
  refine g_aloadN X1 hx (hb hby d6_7) rfl rfl ?_
  refine g_nonnullNo X1 hx (hb hby d6_8) ?_
  refine g_null X1 hx (hb hby d6_11) ?_
  refine g_goto X1 hx 21 (hb hby d6_12) (by decide) (by decide) ?_
  exact own_retA X1 hx hret hlk rfl rfl (hb hby d6_21) (by decide) (by decide) (by rw [(rfl : T1.heap = T1.heap)]; exact ⟨b1_0, rfl, N1, K1, sz_b1_0, Rk1_0, Rk1_1, Rk1_2, Rk1_3⟩)
theorem rm_countAbove_128 (l : Launch) (Z : State) (a0 : Array Value) (hw : HW a0 Z) (a1 : Addr) (a2 : Addr) (a3 : Addr) (a4 : Addr) (i1 : Int32) (a5 : Addr) (a6 : Addr) (i2 : Int32) (h0 : Heap) (n0 : Nat) (Z0 : n0 ≤ h0.size) (O_a1 : R_ND Z h0 a1 (.ref a2) (.ref a3) .null (.ref a4) .null (.int 0)) (O_a2 : R_IN Z h0 a2 (.int i1)) (O_a4 : R_ND Z h0 a4 (.ref a5) (.ref a6) .null .null (.ref a1) (.int (-2147483648))) (O_a5 : R_IN Z h0 a5 (.int i2)) :
    Ctr l Y33 prog_7_method_85_code 4 none [] ({ frames := 0, cells := 0, slots := 0, locals := 0 } : Room) Z #[(.ref a1), (.int (-1))] h0 (fun v h L => v = none ∧ Fr n0 L ∧ h = h0) := by
  refine own_enter pn_2 (fun p e s m below meth c s₁ hx hby hml hown hnm hret hlk hZ X0 e0 => ?_)
  have N0 := Fr.nil n0
  have K0 := Keep.refl h0 []
  rw [ef_37_RI m _ _]
  show Go p e below (s₁.setTop (mkF m 0 #[vr a1, vi (-1), vu, vu] [])) _
  refine g_aloadN X0 hx (hb hby d37_0) rfl rfl ?_
  refine g_astoreN X0 hx #[vr a1, vi (-1), vr a1, vu] (hb hby d37_1) rfl rfl ?_
  refine g_aloadN X0 hx (hb hby d37_2) rfl rfl ?_
  refine g_getF X0 hx hZ hown (Wd111 hw) e0 O_a1.2.2.2.2.2.1 (hb hby d37_3) (fun T1 X1 e1 => ?_)
  refine g_astoreN X1 hx #[vr a1, vi (-1), vr a1, vn] (hb hby d37_6) rfl rfl ?_
  refine g_aloadN X1 hx (hb hby d37_7) rfl rfl ?_
  refine g_nullYes X1 hx 34 (hb hby d37_8) (by decide) (by decide) ?_
  exact own_retV X1 hx hret hlk (hb hby d37_34) (by decide) (by decide) ⟨rfl, N0, e1⟩
theorem rm_countPlace_127 (l : Launch) (Z : State) (a0 : Array Value) (hw : HW a0 Z) (a1 : Addr) (a2 : Addr) (a3 : Addr) (a4 : Addr) (i1 : Int32) (a5 : Addr) (a6 : Addr) (i2 : Int32) (h0 : Heap) (n0 : Nat) (Z0 : n0 ≤ h0.size) (O_a1 : R_ND Z h0 a1 (.ref a2) (.ref a3) .null (.ref a4) .null (.int 0)) (O_a2 : R_IN Z h0 a2 (.int i1)) (O_a4 : R_ND Z h0 a4 (.ref a5) (.ref a6) .null .null (.ref a1) (.int (-2147483648))) (O_a5 : R_IN Z h0 a5 (.int i2)) :
    Ctr l Y26 prog_7_method_86_code 3 none [] ({ frames := 1, cells := 0, slots := 0, locals := 15 } : Room) Z #[(.ref a1), (.int 1), (.int (-1))] h0 (fun v h L => v = none ∧ Fr n0 L ∧ h = h0) := by
  refine own_enter pn_2 (fun p e s m below meth c s₁ hx hby hml hown hnm hret hlk hZ X0 e0 => ?_)
  have N0 := Fr.nil n0
  have K0 := Keep.refl h0 []
  rw [ef_34_RII m _ _ _]
  show Go p e below (s₁.setTop (mkF m 0 #[vr a1, vi 1, vi (-1)] [])) _
  refine g_aloadN X0 hx (hb hby d34_0) rfl rfl ?_
  refine g_nonnullYes X0 hx 5 (hb hby d34_1) (by decide) (by decide) ?_
  refine g_iloadN X0 hx (hb hby d34_5) rfl ?_
  refine g_ifYes X0 hx 14 (hb hby d34_6) ((if0 _ _).trans (flt ((by decide) : ¬ ((1 : Int32) < (0 : Int32)))).2.1) (by decide) (by decide) ?_
  refine g_aloadN X0 hx (hb hby d34_14) rfl rfl ?_
  refine g_iloadN X0 hx (hb hby d34_15) rfl ?_
  refine g_call (own_callS X0 hx hZ (y := Y33) hown (Wd203 hw) (Wd204 hw) (Wd2 hw) (Wd205 hw) (by decide) (rm_countAbove_128 l Z a0 hw a1 a2 a3 a4 i1 a5 a6 i2 h0 n0 Z0 O_a1 O_a2 O_a4 O_a5) e0 pd_17 (hb hby d34_16) (by rw [hml]; rfl) (argsL := [(.ref a1), (.int (-1))]) (rest := []) rfl rfl rfl (W := 0) (Nat.le_of_eq rfl) (by decide)) (fun v1 T1 L1 X1 q1 => ?_)
  obtain ⟨rfl, M1, e1⟩ := q1
  have N1 := Fr.app N0 M1
  exact own_retV X1 hx hret hlk (hb hby d34_19) (by decide) (by decide) ⟨rfl, N1, e1⟩
theorem rm_addIfAbsent_126 (l : Launch) (Z : State) (a0 : Array Value) (hw : HW a0 Z) (a1 : Addr) (a2 : Addr) (a3 : Addr) (a4 : Addr) (i1 : Int32) (i2 : Int32) (i3 : Int32) (a5 : Addr) (a6 : Addr) (a7 : Addr) (i4 : Int32) (a8 : Addr) (a9 : Addr) (i5 : Int32) (h0 : Heap) (n0 : Nat) (Z0 : n0 ≤ h0.size) (O_a1 : R_MP Z h0 a1 .null (.ref a4) (.int 2) (.int i1)) (O_a2 : R_IN Z h0 a2 (.int i2)) (O_a3 : R_IN Z h0 a3 (.int i3)) (O_a4 : R_ND Z h0 a4 (.ref a5) (.ref a6) .null (.ref a7) .null (.int 0)) (O_a5 : R_IN Z h0 a5 (.int i4)) (O_a7 : R_ND Z h0 a7 (.ref a8) (.ref a9) .null .null (.ref a4) (.int (-2147483648))) (O_a8 : R_IN Z h0 a8 (.int i5)) (hk0 : ¬ (i2 < i4)) (hk1 : ¬ (i2 = i4)) (hk2 : ¬ (i2 < i5)) (hk3 : i2 = i5) :
    CtrH l Y18 prog_7_method_65_code 15 (some (FieldType.object "com/example/rosewood/rosewood/RosewoodMap$Node")) [(71, 122, 210, 0), (137, 195, 210, 0), (210, 212, 210, 0)] ({ frames := 4, cells := 0, slots := 0, locals := 53 } : Room) Z #[(.ref a1), (.ref a2), (.ref a3)] h0 (fun v h L => v = some (.ref a7) ∧ Fr n0 L ∧ h = h0) := by
  refine own_enterH pn_2 (fun p e s m below meth c s₁ hx hby hml hown hnm hret hlk hZ X0 e0 => ?_)
  have N0 := Fr.nil n0
  have K0 := Keep.refl h0 []
  rw [ef_38_RRR m _ _ _]
  show Go p e below (s₁.setTop (mkF m 0 #[vr a1, vr a2, vr a3, vu, vu, vu, vu, vu, vu, vu, vu, vu, vu, vu, vu] [])) _
  refine g_aloadN X0 hx (hb hby d38_0) rfl rfl ?_
  refine g_getF X0 hx hZ hown (Wd35 hw) e0 O_a1.2.2.1 (hb hby d38_1) (fun T1 X1 e1 => ?_)
  refine g_nonnullYes X1 hx 50 (hb hby d38_4) (by decide) (by decide) ?_
  refine g_null X1 hx (hb hby d38_50) ?_
  refine g_astoreN X1 hx #[vr a1, vr a2, vr a3, vn, vu, vu, vu, vu, vu, vu, vu, vu, vu, vu, vu] (hb hby d38_51) rfl rfl ?_
  refine g_iconst X1 hx (0 : Int32) (hb hby d38_52) (by decide) ?_
  refine g_istore X1 hx #[vr a1, vr a2, vr a3, vn, vi 0, vu, vu, vu, vu, vu, vu, vu, vu, vu, vu] (hb hby d38_53) rfl ?_
  refine g_aloadN X1 hx (hb hby d38_55) rfl rfl ?_
  refine g_getF X1 hx hZ hown (Wd35 hw) e1 O_a1.2.2.1 (hb hby d38_56) (fun T2 X2 e2 => ?_)
  refine g_astore X2 hx #[vr a1, vr a2, vr a3, vn, vi 0, vr a4, vu, vu, vu, vu, vu, vu, vu, vu, vu] (hb hby d38_59) rfl rfl ?_
  refine g_aload X2 hx (hb hby d38_61) rfl rfl ?_
  refine g_getF X2 hx hZ hown (Wd94 hw) e2 O_a4.2.1 (hb hby d38_63) (fun T3 X3 e3 => ?_)
  refine g_astore X3 hx #[vr a1, vr a2, vr a3, vn, vi 0, vr a4, vr a5, vu, vu, vu, vu, vu, vu, vu, vu] (hb hby d38_66) rfl rfl ?_
  refine g_null X3 hx (hb hby d38_68) ?_
  refine g_astore X3 hx #[vr a1, vr a2, vr a3, vn, vi 0, vr a4, vr a5, vn, vu, vu, vu, vu, vu, vu, vu] (hb hby d38_69) rfl rfl ?_
  refine g_aload X3 hx (hb hby d38_71) rfl rfl ?_
  refine g_nullNo X3 hx (hb hby d38_73) ?_
  refine g_aload X3 hx (hb hby d38_76) rfl rfl ?_
  refine g_getF X3 hx hZ hown (Wd95 hw) e3 O_a4.2.2.2.1 (hb hby d38_78) (fun T4 X4 e4 => ?_)
  refine g_astore X4 hx #[vr a1, vr a2, vr a3, vn, vi 0, vr a4, vr a5, vn, vn, vu, vu, vu, vu, vu, vu] (hb hby d38_81) rfl rfl ?_
  refine g_aload X4 hx (hb hby d38_83) rfl rfl ?_
  refine g_getF X4 hx hZ hown (Wd97 hw) e4 O_a4.2.2.2.2.1 (hb hby d38_85) (fun T5 X5 e5 => ?_)
  refine g_astore X5 hx #[vr a1, vr a2, vr a3, vn, vi 0, vr a4, vr a5, vn, vn, vr a7, vu, vu, vu, vu, vu] (hb hby d38_88) rfl rfl ?_
  refine g_aload X5 hx (hb hby d38_90) rfl rfl ?_
  refine g_call (own_callS X5 hx hZ (y := Y7) hown (Wd99 hw) (Wd100 hw) (Wd2 hw) (Wd101 hw) (by decide) (rm_keyOf_9 l Z a0 hw  h0 n0 Z0 ) e5 pd_6 (hb hby d38_92) (by rw [hml]; rfl) (argsL := [.null]) (rest := []) rfl rfl rfl (W := 0) (Nat.le_of_eq rfl) (by decide)) (fun v6 T6 L6 X6 q6 => ?_)
  obtain ⟨rfl, M6, e6⟩ := q6
  have N6 := Fr.app N0 M6
  refine g_astore X6 hx #[vr a1, vr a2, vr a3, vn, vi 0, vr a4, vr a5, vn, vn, vr a7, vn, vu, vu, vu, vu] (hb hby d38_95) rfl rfl ?_
  refine g_aload X6 hx (hb hby d38_97) rfl rfl ?_
  refine g_call (own_callS X6 hx hZ (y := Y7) hown (Wd99 hw) (Wd100 hw) (Wd2 hw) (Wd101 hw) (by decide) (rm_keyOf_63 l Z a0 hw a7 a8 a9 a4 h0 n0 Z0 O_a7) e6 pd_6 (hb hby d38_99) (by rw [hml]; rfl) (argsL := [(.ref a7)]) (rest := []) rfl rfl rfl (W := 0) (Nat.le_of_eq rfl) (by decide)) (fun v7 T7 L7 X7 q7 => ?_)
  obtain ⟨rfl, M7, e7⟩ := q7
  have N7 := Fr.app N6 M7
  refine g_astore X7 hx #[vr a1, vr a2, vr a3, vn, vi 0, vr a4, vr a5, vn, vn, vr a7, vn, vr a8, vu, vu, vu] (hb hby d38_102) rfl rfl ?_
  refine g_aloadN X7 hx (hb hby d38_104) rfl rfl ?_
  refine g_aloadN X7 hx (hb hby d38_105) rfl rfl ?_
  refine g_aload X7 hx (hb hby d38_106) rfl rfl ?_
  refine g_call (own_callV X7 hx hZ (y := Y13) hown (Wd37 hw) (Wd38 hw) (Wd40 hw) (Wd39 hw) (Wd41 hw) (Wd2 hw) (by decide) (rm_compare_89 l Z a0 hw a1 a2 a5 a4 i1 i2 i4 h0 n0 Z0 O_a1 O_a2 O_a5 hk0 hk1) e7 O_a1.1 pd_11 (hb hby d38_108) (by rw [hml]; rfl) (argsL := [(.ref a2), (.ref a5)]) (rest := []) rfl rfl rfl (W := 0) (Nat.le_of_eq rfl) (by decide)) (fun v8 T8 L8 X8 q8 => ?_)
  obtain ⟨rfl, M8, e8⟩ := q8
  have N8 := Fr.app N7 M8
  refine g_istore X8 hx #[vr a1, vr a2, vr a3, vn, vi 0, vr a4, vr a5, vn, vn, vr a7, vn, vr a8, vi 1, vu, vu] (hb hby d38_111) rfl ?_
  refine g_iload X8 hx (hb hby d38_113) rfl ?_
  refine g_ifYes X8 hx 137 (hb hby d38_115) ((if0 _ _).trans (feq ((by decide) : ¬ ((1 : Int32) = (0 : Int32)))).2) (by decide) (by decide) ?_
  refine g_aload X8 hx (hb hby d38_137) rfl rfl ?_
  refine g_astoreN X8 hx #[vr a1, vr a2, vr a3, vr a4, vi 0, vr a4, vr a5, vn, vn, vr a7, vn, vr a8, vi 1, vu, vu] (hb hby d38_139) rfl rfl ?_
  refine g_iload X8 hx (hb hby d38_140) rfl ?_
  refine g_istore X8 hx #[vr a1, vr a2, vr a3, vr a4, vi 1, vr a4, vr a5, vn, vn, vr a7, vn, vr a8, vi 1, vu, vu] (hb hby d38_142) rfl ?_
  refine g_iload X8 hx (hb hby d38_144) rfl ?_
  refine g_ifYes X8 hx 155 (hb hby d38_146) ((if0 _ _).trans (flt ((by decide) : ¬ ((1 : Int32) < (0 : Int32)))).2.1) (by decide) (by decide) ?_
  refine g_iload X8 hx (hb hby d38_155) rfl ?_
  refine g_ifYes X8 hx 165 (hb hby d38_157) ((if0 _ _).trans (flt ((by decide) : ¬ ((1 : Int32) < (0 : Int32)))).2.1) (by decide) (by decide) ?_
  refine g_aload X8 hx (hb hby d38_165) rfl rfl ?_
  refine g_astore X8 hx #[vr a1, vr a2, vr a3, vr a4, vi 1, vr a7, vr a5, vn, vn, vr a7, vn, vr a8, vi 1, vu, vu] (hb hby d38_167) rfl rfl ?_
  refine g_iload X8 hx (hb hby d38_169) rfl ?_
  refine g_ifYes X8 hx 179 (hb hby d38_171) ((if0 _ _).trans (flt ((by decide) : ¬ ((1 : Int32) < (0 : Int32)))).2.1) (by decide) (by decide) ?_
  refine g_aload X8 hx (hb hby d38_179) rfl rfl ?_
  refine g_astore X8 hx #[vr a1, vr a2, vr a3, vr a4, vi 1, vr a7, vr a8, vn, vn, vr a7, vn, vr a8, vi 1, vu, vu] (hb hby d38_181) rfl rfl ?_
  refine g_goto X8 hx 71 (hb hby d38_183) (by decide) (by decide) ?_
  refine g_aload X8 hx (hb hby d38_71) rfl rfl ?_
  refine g_nullNo X8 hx (hb hby d38_73) ?_
  refine g_aload X8 hx (hb hby d38_76) rfl rfl ?_
  refine g_getF X8 hx hZ hown (Wd95 hw) e8 O_a7.2.2.2.1 (hb hby d38_78) (fun T9 X9 e9 => ?_)
  refine g_astore X9 hx #[vr a1, vr a2, vr a3, vr a4, vi 1, vr a7, vr a8, vn, vn, vr a7, vn, vr a8, vi 1, vu, vu] (hb hby d38_81) rfl rfl ?_
  refine g_aload X9 hx (hb hby d38_83) rfl rfl ?_
  refine g_getF X9 hx hZ hown (Wd97 hw) e9 O_a7.2.2.2.2.1 (hb hby d38_85) (fun T10 X10 e10 => ?_)
  refine g_astore X10 hx #[vr a1, vr a2, vr a3, vr a4, vi 1, vr a7, vr a8, vn, vn, vn, vn, vr a8, vi 1, vu, vu] (hb hby d38_88) rfl rfl ?_
  refine g_aload X10 hx (hb hby d38_90) rfl rfl ?_
  refine g_call (own_callS X10 hx hZ (y := Y7) hown (Wd99 hw) (Wd100 hw) (Wd2 hw) (Wd101 hw) (by decide) (rm_keyOf_9 l Z a0 hw  h0 n0 Z0 ) e10 pd_6 (hb hby d38_92) (by rw [hml]; rfl) (argsL := [.null]) (rest := []) rfl rfl rfl (W := 0) (Nat.le_of_eq rfl) (by decide)) (fun v11 T11 L11 X11 q11 => ?_)
  obtain ⟨rfl, M11, e11⟩ := q11
  have N11 := Fr.app N8 M11
  refine g_astore X11 hx #[vr a1, vr a2, vr a3, vr a4, vi 1, vr a7, vr a8, vn, vn, vn, vn, vr a8, vi 1, vu, vu] (hb hby d38_95) rfl rfl ?_
  refine g_aload X11 hx (hb hby d38_97) rfl rfl ?_
  refine g_call (own_callS X11 hx hZ (y := Y7) hown (Wd99 hw) (Wd100 hw) (Wd2 hw) (Wd101 hw) (by decide) (rm_keyOf_9 l Z a0 hw  h0 n0 Z0 ) e11 pd_6 (hb hby d38_99) (by rw [hml]; rfl) (argsL := [.null]) (rest := []) rfl rfl rfl (W := 0) (Nat.le_of_eq rfl) (by decide)) (fun v12 T12 L12 X12 q12 => ?_)
  obtain ⟨rfl, M12, e12⟩ := q12
  have N12 := Fr.app N11 M12
  refine g_astore X12 hx #[vr a1, vr a2, vr a3, vr a4, vi 1, vr a7, vr a8, vn, vn, vn, vn, vn, vi 1, vu, vu] (hb hby d38_102) rfl rfl ?_
  refine g_aloadN X12 hx (hb hby d38_104) rfl rfl ?_
  refine g_aloadN X12 hx (hb hby d38_105) rfl rfl ?_
  refine g_aload X12 hx (hb hby d38_106) rfl rfl ?_
  refine g_call (own_callV X12 hx hZ (y := Y13) hown (Wd37 hw) (Wd38 hw) (Wd40 hw) (Wd39 hw) (Wd41 hw) (Wd2 hw) (by decide) (rm_compare_81 l Z a0 hw a1 a2 a8 a4 i1 i2 i5 h0 n0 Z0 O_a1 O_a2 O_a8 hk2 hk3) e12 O_a1.1 pd_11 (hb hby d38_108) (by rw [hml]; rfl) (argsL := [(.ref a2), (.ref a8)]) (rest := []) rfl rfl rfl (W := 0) (Nat.le_of_eq rfl) (by decide)) (fun v13 T13 L13 X13 q13 => ?_)
  obtain ⟨rfl, M13, e13⟩ := q13
  have N13 := Fr.app N12 M13
  refine g_istore X13 hx #[vr a1, vr a2, vr a3, vr a4, vi 1, vr a7, vr a8, vn, vn, vn, vn, vn, vi 0, vu, vu] (hb hby d38_111) rfl ?_
  refine g_iload X13 hx (hb hby d38_113) rfl ?_
  refine g_ifNo X13 hx (hb hby d38_115) ((if0 _ _).trans (teq ((by decide) : (0 : Int32) = (0 : Int32))).2) ?_
  refine g_aload X13 hx (hb hby d38_118) rfl rfl ?_
  refine g_astore X13 hx #[vr a1, vr a2, vr a3, vr a4, vi 1, vr a7, vr a8, vn, vn, vn, vn, vn, vi 0, vr a7, vu] (hb hby d38_120) rfl rfl ?_
  refine g_aload X13 hx (hb hby d38_122) rfl rfl ?_
  refine g_nonnullNo X13 hx (hb hby d38_124) ?_
  refine g_aloadN X13 hx (hb hby d38_127) rfl rfl ?_
  refine g_iload X13 hx (hb hby d38_128) rfl ?_
  refine g_iconst X13 hx (-1 : Int32) (hb hby d38_130) (by decide) ?_
  refine g_call (own_callS X13 hx hZ (y := Y26) hown (Wd190 hw) (Wd191 hw) (Wd2 hw) (Wd192 hw) (by decide) (rm_countPlace_127 l Z a0 hw a4 a5 a6 a7 i4 a8 a9 i5 h0 n0 Z0 O_a4 O_a5 O_a7 O_a8) e13 pd_20 (hb hby d38_131) (by rw [hml]; rfl) (argsL := [(.ref a4), (.int 1), (.int (-1))]) (rest := []) rfl rfl rfl (W := 0) (Nat.le_of_eq rfl) (by decide)) (fun v14 T14 L14 X14 q14 => ?_)
  obtain ⟨rfl, M14, e14⟩ := q14
  have N14 := Fr.app N13 M14
  refine g_aload X14 hx (hb hby d38_134) rfl rfl ?_
  exact own_retA X14 hx hret hlk rfl rfl (hb hby d38_136) (by decide) (by decide) ⟨rfl, N14, e14⟩
theorem rm_put_125 (l : Launch) (Z : State) (a0 : Array Value) (hw : HW a0 Z) (a1 : Addr) (a2 : Addr) (a3 : Addr) (a4 : Addr) (i1 : Int32) (i2 : Int32) (i3 : Int32) (a5 : Addr) (a6 : Addr) (a7 : Addr) (i4 : Int32) (a8 : Addr) (a9 : Addr) (i5 : Int32) (h0 : Heap) (n0 : Nat) (Z0 : n0 ≤ h0.size) (O_a1 : R_MP Z h0 a1 .null (.ref a4) (.int 2) (.int i1)) (O_a2 : R_IN Z h0 a2 (.int i2)) (O_a3 : R_IN Z h0 a3 (.int i3)) (O_a4 : R_ND Z h0 a4 (.ref a5) (.ref a6) .null (.ref a7) .null (.int 0)) (O_a5 : R_IN Z h0 a5 (.int i4)) (O_a7 : R_ND Z h0 a7 (.ref a8) (.ref a9) .null .null (.ref a4) (.int (-2147483648))) (O_a8 : R_IN Z h0 a8 (.int i5)) (ne_a1_a7 : a1 ≠ a7) (ne_a2_a7 : a2 ≠ a7) (ne_a3_a7 : a3 ≠ a7) (ne_a4_a7 : a4 ≠ a7) (ne_a5_a7 : a5 ≠ a7) (ne_a7_a8 : a7 ≠ a8) (g_a7 : n0 ≤ a7) (hk0 : ¬ (i2 < i4)) (hk1 : ¬ (i2 = i4)) (hk2 : ¬ (i2 < i5)) (hk3 : i2 = i5) :
    Ctr l Y19 prog_7_method_8_code 4 (some (FieldType.object "java/lang/Object")) [] ({ frames := 5, cells := 0, slots := 0, locals := 79 } : Room) Z #[(.ref a1), (.ref a2), (.ref a3)] h0 (fun v h L => v = some (.ref a9) ∧ Fr n0 L ∧ Keep h0 h [a7] ∧ R_ND Z h a7 (.ref a8) (.ref a3) .null .null (.ref a4) (.int (-2147483648))) := by
  refine own_enter pn_2 (fun p e s m below meth c s₁ hx hby hml hown hnm hret hlk hZ X0 e0 => ?_)
  have N0 := Fr.nil n0
  have K0 := Keep.refl h0 [a7]
  rw [ef_6_RRR m _ _ _]
  show Go p e below (s₁.setTop (mkF m 0 #[vr a1, vr a2, vr a3, vu] [])) _
  refine g_aloadN X0 hx (hb hby d6_0) rfl rfl ?_
  refine g_aloadN X0 hx (hb hby d6_1) rfl rfl ?_
  refine g_aloadN X0 hx (hb hby d6_2) rfl rfl ?_
  refine g_call (own_callPH X0 hx hZ (y := Y18) hown (Wd31 hw) (Wd32 hw) (Wd33 hw) (Wd1 hw) (Wd34 hw) (Wd2 hw) (by decide) (rm_addIfAbsent_126 l Z a0 hw a1 a2 a3 a4 i1 i2 i3 a5 a6 a7 i4 a8 a9 i5 h0 n0 Z0 O_a1 O_a2 O_a3 O_a4 O_a5 O_a7 O_a8 hk0 hk1 hk2 hk3) e0 O_a1.1 pd_15 (hb hby d6_3) (by rw [hml]; rfl) (argsL := [(.ref a2), (.ref a3)]) (rest := []) rfl rfl rfl (W := 0) (Nat.le_of_eq rfl) (by decide)) (fun v1 T1 L1 X1 q1 => ?_)
  obtain ⟨rfl, M1, e1⟩ := q1
  have N1 := Fr.app N0 M1
  refine g_astoreN X1 hx #[vr a1, vr a2, vr a3, vr a7] (hb hby d6_6) rfl rfl ?_
  refine g_aloadN X1 hx (hb hby d6_7) rfl rfl ?_
  refine g_nonnullYes X1 hx 15 (hb hby d6_8) (by decide) (by decide) ?_
  refine g_aloadN X1 hx (hb hby d6_15) rfl rfl ?_
  refine g_aloadN X1 hx (hb hby d6_16) rfl rfl ?_
  refine g_aloadN X1 hx (hb hby d6_17) rfl rfl ?_
  refine g_call (own_callV X1 hx hZ (y := Y28) hown (Wd193 hw) (Wd194 hw) (Wd196 hw) (Wd195 hw) (Wd197 hw) (Wd2 hw) (by decide) (rm_replaceValue_85 l Z a0 hw a1 a7 a3 a4 i1 i3 a8 a9 h0 n0 Z0 O_a1 O_a3 O_a7 ne_a1_a7 ne_a3_a7 g_a7) e1 O_a1.1 pd_21 (hb hby d6_18) (by rw [hml]; rfl) (argsL := [(.ref a7), (.ref a3)]) (rest := []) rfl rfl rfl (W := 0) (Nat.le_of_eq rfl) (by decide)) (fun v2 T2 L2 X2 q2 => ?_)
  obtain ⟨rfl, M2, Kc2, Rk2_0⟩ := q2
  have N2 := Fr.app N1 M2
  have O_a1_2 := R_MP_keep O_a1 Kc2 (own_nin ne_a1_a7 List.not_mem_nil)
  have O_a2_2 := R_IN_keep O_a2 Kc2 (own_nin ne_a2_a7 List.not_mem_nil)
  have O_a3_2 := R_IN_keep O_a3 Kc2 (own_nin ne_a3_a7 List.not_mem_nil)
  have O_a4_2 := R_ND_keep O_a4 Kc2 (own_nin ne_a4_a7 List.not_mem_nil)
  have O_a5_2 := R_IN_keep O_a5 Kc2 (own_nin ne_a5_a7 List.not_mem_nil)
  have O_a8_2 := R_IN_keep O_a8 Kc2 (own_nin (Ne.symm ne_a7_a8) List.not_mem_nil)
  have K2 := Keep.trans K0 Kc2 (own_memc (Or.inl (List.mem_of_getElem? (i := 0) rfl)) own_memn)
  have Z2 : n0 ≤ T2.heap.size := Nat.le_trans Z0 Kc2.1
  exact own_retA X2 hx hret hlk rfl rfl (hb hby d6_21) (by decide) (by decide) (by rw [(rfl : T2.heap = T2.heap)]; exact ⟨rfl, N2, K2, Rk2_0⟩)
theorem rm_replaceInParent_133 (l : Launch) (Z : State) (a0 : Array Value) (hw : HW a0 Z) (a1 : Addr) (a2 : Addr) (a3 : Addr) (i1 : Int32) (a4 : Addr) (a5 : Addr) (a6 : Addr) (a7 : Addr) (a8 : Addr) (i2 : Int32) (i3 : Int32) (a9 : Addr) (a10 : Addr) (i4 : Int32) (i5 : Int32) (h0 : Heap) (n0 : Nat) (Z0 : n0 ≤ h0.size) (O_a1 : R_MP Z h0 a1 .null (.ref a2) (.int 3) (.int i1)) (O_a2 : R_ND Z h0 a2 (.ref a4) (.ref a5) .null .null .null (.int (-2147483648))) (O_a3 : R_ND Z h0 a3 (.ref a6) (.ref a7) .null (.ref a8) (.ref a2) (.int 0)) (O_a4 : R_IN Z h0 a4 (.int i2)) (O_a6 : R_IN Z h0 a6 (.int i3)) (O_a8 : R_ND Z h0 a8 (.ref a9) (.ref a10) .null .null (.ref a3) (.int (-2147483648))) (O_a9 : R_IN Z h0 a9 (.int i4)) (O_a10 : R_IN Z h0 a10 (.int i5)) (ne_a1_a2 : a1 ≠ a2) (ne_a1_a3 : a1 ≠ a3) (ne_a1_a4 : a1 ≠ a4) (ne_a1_a6 : a1 ≠ a6) (ne_a1_a8 : a1 ≠ a8) (ne_a1_a9 : a1 ≠ a9) (ne_a1_a10 : a1 ≠ a10) (ne_a2_a3 : a2 ≠ a3) (ne_a3_a4 : a3 ≠ a4) (ne_a3_a6 : a3 ≠ a6) (ne_a3_a8 : a3 ≠ a8) (ne_a3_a9 : a3 ≠ a9) (ne_a3_a10 : a3 ≠ a10) (g_a1 : n0 ≤ a1) (g_a3 : n0 ≤ a3) (hk0 : ¬ (i4 < i2)) (hk1 : ¬ (i4 = i2)) (hk2 : ¬ (i4 < i3)) (hk3 : ¬ (i4 = i3)) :
    Ctr l Y29 prog_7_method_87_code 4 none [] ({ frames := 0, cells := 0, slots := 0, locals := 0 } : Room) Z #[(.ref a1), (.ref a2), (.ref a3)] h0 (fun v h L => v = none ∧ Fr n0 L ∧ Keep h0 h [a1, a3] ∧ R_MP Z h a1 .null (.ref a3) (.int 3) (.int i1) ∧ R_ND Z h a3 (.ref a6) (.ref a7) .null (.ref a8) .null (.int 0)) := by
  refine own_enter pn_2 (fun p e s m below meth c s₁ hx hby hml hown hnm hret hlk hZ X0 e0 => ?_)
  have N0 := Fr.nil n0
  have K0 := Keep.refl h0 [a1, a3]
  rw [ef_20_RRR m _ _ _]
  show Go p e below (s₁.setTop (mkF m 0 #[vr a1, vr a2, vr a3, vu] [])) _
  refine g_aloadN X0 hx (hb hby d20_0) rfl rfl ?_
  refine g_getF X0 hx hZ hown (Wd111 hw) e0 O_a2.2.2.2.2.2.1 (hb hby d20_1) (fun T1 X1 e1 => ?_)
  refine g_astoreN X1 hx #[vr a1, vr a2, vr a3, vn] (hb hby d20_4) rfl rfl ?_
  refine g_aloadN X1 hx (hb hby d20_5) rfl rfl ?_
  refine g_nonnullNo X1 hx (hb hby d20_6) ?_
  refine g_aloadN X1 hx (hb hby d20_9) rfl rfl ?_
  refine g_aloadN X1 hx (hb hby d20_10) rfl rfl ?_
  refine g_putF X1 hx hZ hown (Wd35 hw) e1 O_a1.2.2.1 O_a1.1 (Or.inl (Wd36 hw)) (Wd1 hw) fd_2 rfl rfl (hb hby d20_11) (fun T2 h2 X2 e2 W2 => ?_)
  have N2 := Fr.snoc X2 N0 g_a1
  have O_a1_2 := R_MP_set_root hw W2 O_a1
  have O_a2_2 := R_ND_other W2 O_a2 (Ne.symm ne_a1_a2)
  have O_a3_2 := R_ND_other W2 O_a3 (Ne.symm ne_a1_a3)
  have O_a4_2 := R_IN_other W2 O_a4 (Ne.symm ne_a1_a4)
  have O_a6_2 := R_IN_other W2 O_a6 (Ne.symm ne_a1_a6)
  have O_a8_2 := R_ND_other W2 O_a8 (Ne.symm ne_a1_a8)
  have O_a9_2 := R_IN_other W2 O_a9 (Ne.symm ne_a1_a9)
  have O_a10_2 := R_IN_other W2 O_a10 (Ne.symm ne_a1_a10)
  have Z2 : n0 ≤ h2.size := Nat.le_trans Z0 (Nat.le_of_eq W2.size.symm)
  have K2 := Keep.wr K0 W2 (Or.inl (List.mem_of_getElem? (i := 0) rfl))
  refine g_goto X2 hx 38 (hb hby d20_14) (by decide) (by decide) ?_
  refine g_aloadN X2 hx (hb hby d20_38) rfl rfl ?_
  refine g_nullNo X2 hx (hb hby d20_39) ?_
  refine g_aloadN X2 hx (hb hby d20_42) rfl rfl ?_
  refine g_aloadN X2 hx (hb hby d20_43) rfl rfl ?_
  refine g_putF X2 hx hZ hown (Wd111 hw) e2 O_a3_2.2.2.2.2.2.1 O_a3_2.1 (Or.inl (Wd84 hw)) (Wd70 hw) fd_2 rfl rfl (hb hby d20_44) (fun T3 h3 X3 e3 W3 => ?_)
  have N3 := Fr.snoc X3 N2 g_a3
  have O_a1_3 := R_MP_other W3 O_a1_2 ne_a1_a3
  have O_a2_3 := R_ND_other W3 O_a2_2 ne_a2_a3
  have O_a3_3 := R_ND_set_parent hw W3 O_a3_2
  have O_a4_3 := R_IN_other W3 O_a4_2 (Ne.symm ne_a3_a4)
  have O_a6_3 := R_IN_other W3 O_a6_2 (Ne.symm ne_a3_a6)
  have O_a8_3 := R_ND_other W3 O_a8_2 (Ne.symm ne_a3_a8)
  have O_a9_3 := R_IN_other W3 O_a9_2 (Ne.symm ne_a3_a9)
  have O_a10_3 := R_IN_other W3 O_a10_2 (Ne.symm ne_a3_a10)
  have Z3 : n0 ≤ h3.size := Nat.le_trans Z2 (Nat.le_of_eq W3.size.symm)
  have K3 := Keep.wr K2 W3 (Or.inl (List.mem_of_getElem? (i := 1) rfl))
  exact own_retV X3 hx hret hlk (hb hby d20_47) (by decide) (by decide) (by rw [e3]; exact ⟨rfl, N3, K3, O_a1_3, O_a3_3⟩)
theorem rm_rotateLeft_132 (l : Launch) (Z : State) (a0 : Array Value) (hw : HW a0 Z) (a1 : Addr) (a2 : Addr) (i1 : Int32) (a3 : Addr) (a4 : Addr) (a5 : Addr) (i2 : Int32) (a6 : Addr) (a7 : Addr) (a8 : Addr) (i3 : Int32) (a9 : Addr) (a10 : Addr) (i4 : Int32) (i5 : Int32) (h0 : Heap) (n0 : Nat) (Z0 : n0 ≤ h0.size) (O_a1 : R_MP Z h0 a1 .null (.ref a2) (.int 3) (.int i1)) (O_a2 : R_ND Z h0 a2 (.ref a3) (.ref a4) .null (.ref a5) .null (.int (-2147483648))) (O_a3 : R_IN Z h0 a3 (.int i2)) (O_a5 : R_ND Z h0 a5 (.ref a6) (.ref a7) .null (.ref a8) (.ref a2) (.int 0)) (O_a6 : R_IN Z h0 a6 (.int i3)) (O_a8 : R_ND Z h0 a8 (.ref a9) (.ref a10) .null .null (.ref a5) (.int (-2147483648))) (O_a9 : R_IN Z h0 a9 (.int i4)) (O_a10 : R_IN Z h0 a10 (.int i5)) (ne_a1_a2 : a1 ≠ a2) (ne_a1_a3 : a1 ≠ a3) (ne_a1_a5 : a1 ≠ a5) (ne_a1_a6 : a1 ≠ a6) (ne_a1_a8 : a1 ≠ a8) (ne_a1_a9 : a1 ≠ a9) (ne_a1_a10 : a1 ≠ a10) (ne_a2_a3 : a2 ≠ a3) (ne_a2_a5 : a2 ≠ a5) (ne_a2_a6 : a2 ≠ a6) (ne_a2_a8 : a2 ≠ a8) (ne_a2_a9 : a2 ≠ a9) (ne_a2_a10 : a2 ≠ a10) (ne_a3_a5 : a3 ≠ a5) (ne_a5_a6 : a5 ≠ a6) (ne_a5_a8 : a5 ≠ a8) (ne_a5_a9 : a5 ≠ a9) (ne_a5_a10 : a5 ≠ a10) (g_a1 : n0 ≤ a1) (g_a2 : n0 ≤ a2) (g_a5 : n0 ≤ a5) (hk0 : ¬ (i4 < i2)) (hk1 : ¬ (i4 = i2)) (hk2 : ¬ (i4 < i3)) (hk3 : ¬ (i4 = i3)) :
    Ctr l Y34 prog_7_method_88_code 3 none [] ({ frames := 1, cells := 0, slots := 0, locals := 15 } : Room) Z #[(.ref a1), (.ref a2)] h0 (fun v h L => v = none ∧ Fr n0 L ∧ Keep h0 h [a1, a2, a5] ∧ R_MP Z h a1 .null (.ref a5) (.int 3) (.int i1) ∧ R_ND Z h a2 (.ref a3) (.ref a4) .null .null (.ref a5) (.int (-2147483648)) ∧ R_ND Z h a5 (.ref a6) (.ref a7) (.ref a2) (.ref a8) .null (.int 1)) := by
  refine own_enter pn_2 (fun p e s m below meth c s₁ hx hby hml hown hnm hret hlk hZ X0 e0 => ?_)
  have N0 := Fr.nil n0
  have K0 := Keep.refl h0 [a1, a2, a5]
  rw [ef_23_RR m _ _]
  show Go p e below (s₁.setTop (mkF m 0 #[vr a1, vr a2, vu] [])) _
  refine g_aloadN X0 hx (hb hby d23_0) rfl rfl ?_
  refine g_getF X0 hx hZ hown (Wd97 hw) e0 O_a2.2.2.2.2.1 (hb hby d23_1) (fun T1 X1 e1 => ?_)
  refine g_astoreN X1 hx #[vr a1, vr a2, vr a5] (hb hby d23_4) rfl rfl ?_
  refine g_aloadN X1 hx (hb hby d23_5) rfl rfl ?_
  refine g_aloadN X1 hx (hb hby d23_6) rfl rfl ?_
  refine g_getF X1 hx hZ hown (Wd95 hw) e1 O_a5.2.2.2.1 (hb hby d23_7) (fun T2 X2 e2 => ?_)
  refine g_putF X2 hx hZ hown (Wd97 hw) e2 O_a2.2.2.2.2.1 O_a2.1 (Or.inl (Wd98 hw)) (Wd70 hw) fd_2 rfl rfl (hb hby d23_10) (fun T3 h3 X3 e3 W3 => ?_)
  have N3 := Fr.snoc X3 N0 g_a2
  have O_a1_3 := R_MP_other W3 O_a1 ne_a1_a2
  have O_a2_3 := R_ND_set_right hw W3 O_a2
  have O_a3_3 := R_IN_other W3 O_a3 (Ne.symm ne_a2_a3)
  have O_a5_3 := R_ND_other W3 O_a5 (Ne.symm ne_a2_a5)
  have O_a6_3 := R_IN_other W3 O_a6 (Ne.symm ne_a2_a6)
  have O_a8_3 := R_ND_other W3 O_a8 (Ne.symm ne_a2_a8)
  have O_a9_3 := R_IN_other W3 O_a9 (Ne.symm ne_a2_a9)
  have O_a10_3 := R_IN_other W3 O_a10 (Ne.symm ne_a2_a10)
  have Z3 : n0 ≤ h3.size := Nat.le_trans Z0 (Nat.le_of_eq W3.size.symm)
  have K3 := Keep.wr K0 W3 (Or.inl (List.mem_of_getElem? (i := 1) rfl))
  refine g_aloadN X3 hx (hb hby d23_13) rfl rfl ?_
  refine g_getF X3 hx hZ hown (Wd95 hw) e3 O_a5_3.2.2.2.1 (hb hby d23_14) (fun T4 X4 e4 => ?_)
  refine g_nullYes X4 hx 28 (hb hby d23_17) (by decide) (by decide) ?_
  refine g_aloadN X4 hx (hb hby d23_28) rfl rfl ?_
  refine g_aloadN X4 hx (hb hby d23_29) rfl rfl ?_
  refine g_aloadN X4 hx (hb hby d23_30) rfl rfl ?_
  refine g_call (own_callP X4 hx hZ (y := Y29) hown (Wd122 hw) (Wd123 hw) (Wd124 hw) (Wd1 hw) (Wd125 hw) (Wd2 hw) (by decide) (rm_replaceInParent_133 l Z a0 hw a1 a2 a5 i1 a3 a4 a6 a7 a8 i2 i3 a9 a10 i4 i5 h3 n0 Z3 O_a1_3 O_a2_3 O_a5_3 O_a3_3 O_a6_3 O_a8_3 O_a9_3 O_a10_3 ne_a1_a2 ne_a1_a5 ne_a1_a3 ne_a1_a6 ne_a1_a8 ne_a1_a9 ne_a1_a10 ne_a2_a5 (Ne.symm ne_a3_a5) ne_a5_a6 ne_a5_a8 ne_a5_a9 ne_a5_a10 g_a1 g_a5 hk0 hk1 hk2 hk3) e4 O_a1_3.1 pd_22 (hb hby d23_31) (by rw [hml]; rfl) (argsL := [(.ref a2), (.ref a5)]) (rest := []) rfl rfl rfl (W := 0) (Nat.le_of_eq rfl) (by decide)) (fun v5 T5 L5 X5 q5 => ?_)
  obtain ⟨rfl, M5, Kc5, Rk5_0, Rk5_1⟩ := q5
  have N5 := Fr.app N3 M5
  have O_a2_5 := R_ND_keep O_a2_3 Kc5 (own_nin (Ne.symm ne_a1_a2) (own_nin ne_a2_a5 List.not_mem_nil))
  have O_a3_5 := R_IN_keep O_a3_3 Kc5 (own_nin (Ne.symm ne_a1_a3) (own_nin ne_a3_a5 List.not_mem_nil))
  have O_a6_5 := R_IN_keep O_a6_3 Kc5 (own_nin (Ne.symm ne_a1_a6) (own_nin (Ne.symm ne_a5_a6) List.not_mem_nil))
  have O_a8_5 := R_ND_keep O_a8_3 Kc5 (own_nin (Ne.symm ne_a1_a8) (own_nin (Ne.symm ne_a5_a8) List.not_mem_nil))
  have O_a9_5 := R_IN_keep O_a9_3 Kc5 (own_nin (Ne.symm ne_a1_a9) (own_nin (Ne.symm ne_a5_a9) List.not_mem_nil))
  have O_a10_5 := R_IN_keep O_a10_3 Kc5 (own_nin (Ne.symm ne_a1_a10) (own_nin (Ne.symm ne_a5_a10) List.not_mem_nil))
  have K5 := Keep.trans K3 Kc5 (own_memc (Or.inl (List.mem_of_getElem? (i := 0) rfl)) (own_memc (Or.inl (List.mem_of_getElem? (i := 2) rfl)) own_memn))
  have Z5 : n0 ≤ T5.heap.size := Nat.le_trans Z3 Kc5.1
  refine g_aloadN X5 hx (hb hby d23_34) rfl rfl ?_
  refine g_aloadN X5 hx (hb hby d23_35) rfl rfl ?_
  refine g_putF X5 hx hZ hown (Wd95 hw) (rfl : T5.heap = T5.heap) Rk5_1.2.2.2.1 Rk5_1.1 (Or.inl (Wd96 hw)) (Wd70 hw) fd_2 rfl rfl (hb hby d23_36) (fun T6 h6 X6 e6 W6 => ?_)
  have N6 := Fr.snoc X6 N5 g_a5
  have O_a2_6 := R_ND_other W6 O_a2_5 ne_a2_a5
  have O_a3_6 := R_IN_other W6 O_a3_5 ne_a3_a5
  have O_a6_6 := R_IN_other W6 O_a6_5 (Ne.symm ne_a5_a6)
  have O_a8_6 := R_ND_other W6 O_a8_5 (Ne.symm ne_a5_a8)
  have O_a9_6 := R_IN_other W6 O_a9_5 (Ne.symm ne_a5_a9)
  have O_a10_6 := R_IN_other W6 O_a10_5 (Ne.symm ne_a5_a10)
  have O_a1_6 := R_MP_other W6 Rk5_0 ne_a1_a5
  have O_a5_6 := R_ND_set_left hw W6 Rk5_1
  have Z6 : n0 ≤ h6.size := Nat.le_trans Z5 (Nat.le_of_eq W6.size.symm)
  have K6 := Keep.wr K5 W6 (Or.inl (List.mem_of_getElem? (i := 2) rfl))
  refine g_aloadN X6 hx (hb hby d23_39) rfl rfl ?_
  refine g_aloadN X6 hx (hb hby d23_40) rfl rfl ?_
  refine g_putF X6 hx hZ hown (Wd111 hw) e6 O_a2_6.2.2.2.2.2.1 O_a2_6.1 (Or.inl (Wd84 hw)) (Wd70 hw) fd_2 rfl rfl (hb hby d23_41) (fun T7 h7 X7 e7 W7 => ?_)
  have N7 := Fr.snoc X7 N6 g_a2
  have O_a2_7 := R_ND_set_parent hw W7 O_a2_6
  have O_a3_7 := R_IN_other W7 O_a3_6 (Ne.symm ne_a2_a3)
  have O_a6_7 := R_IN_other W7 O_a6_6 (Ne.symm ne_a2_a6)
  have O_a8_7 := R_ND_other W7 O_a8_6 (Ne.symm ne_a2_a8)
  have O_a9_7 := R_IN_other W7 O_a9_6 (Ne.symm ne_a2_a9)
  have O_a10_7 := R_IN_other W7 O_a10_6 (Ne.symm ne_a2_a10)
  have O_a1_7 := R_MP_other W7 O_a1_6 ne_a1_a2
  have O_a5_7 := R_ND_other W7 O_a5_6 (Ne.symm ne_a2_a5)
  have Z7 : n0 ≤ h7.size := Nat.le_trans Z6 (Nat.le_of_eq W7.size.symm)
  have K7 := Keep.wr K6 W7 (Or.inl (List.mem_of_getElem? (i := 1) rfl))
  refine g_aloadN X7 hx (hb hby d23_44) rfl rfl ?_
  refine g_aloadN X7 hx (hb hby d23_45) rfl rfl ?_
  refine g_call (own_callS X7 hx hZ (y := Y30) hown (Wd126 hw) (Wd127 hw) (Wd2 hw) (Wd128 hw) (by decide) (rm_leftCount_94 l Z a0 hw a2 a3 a4 a5 h7 n0 Z7 O_a2_7) e7 pd_23 (hb hby d23_46) (by rw [hml]; rfl) (argsL := [(.ref a2)]) (rest := [(.ref a5)]) rfl rfl rfl (W := 1) (Nat.le_of_eq rfl) (by decide)) (fun v8 T8 L8 X8 q8 => ?_)
  obtain ⟨rfl, M8, e8⟩ := q8
  have N8 := Fr.app N7 M8
  refine g_iconst X8 hx (1 : Int32) (hb hby d23_49) (by decide) ?_
  refine g_iadd X8 hx (hb hby d23_50) ?_
  show Go p e below (T8.setTop (mkF m 51 #[vr a1, vr a2, vr a5] [(.int ((0 : Int32) + (1 : Int32))), (.ref a5)])) _
  rw [show ((0 : Int32) + (1 : Int32)) = (1 : Int32) from by decide]
  refine g_call (own_callS X8 hx hZ (y := Y22) hown (Wd115 hw) (Wd116 hw) (Wd2 hw) (Wd117 hw) (by decide) (rm_addToLeftCount_124 l Z a0 hw a5 a6 a7 a2 a8 h7 n0 Z7 O_a5_7 g_a5) e8 pd_17 (hb hby d23_51) (by rw [hml]; rfl) (argsL := [(.ref a5), (.int 1)]) (rest := []) rfl rfl rfl (W := 0) (Nat.le_of_eq rfl) (by decide)) (fun v9 T9 L9 X9 q9 => ?_)
  obtain ⟨rfl, M9, Kc9, Rk9_0⟩ := q9
  have N9 := Fr.app N8 M9
  have O_a2_9 := R_ND_keep O_a2_7 Kc9 (own_nin ne_a2_a5 List.not_mem_nil)
  have O_a3_9 := R_IN_keep O_a3_7 Kc9 (own_nin ne_a3_a5 List.not_mem_nil)
  have O_a6_9 := R_IN_keep O_a6_7 Kc9 (own_nin (Ne.symm ne_a5_a6) List.not_mem_nil)
  have O_a8_9 := R_ND_keep O_a8_7 Kc9 (own_nin (Ne.symm ne_a5_a8) List.not_mem_nil)
  have O_a9_9 := R_IN_keep O_a9_7 Kc9 (own_nin (Ne.symm ne_a5_a9) List.not_mem_nil)
  have O_a10_9 := R_IN_keep O_a10_7 Kc9 (own_nin (Ne.symm ne_a5_a10) List.not_mem_nil)
  have O_a1_9 := R_MP_keep O_a1_7 Kc9 (own_nin ne_a1_a5 List.not_mem_nil)
  have K9 := Keep.trans K7 Kc9 (own_memc (Or.inl (List.mem_of_getElem? (i := 2) rfl)) own_memn)
  have Z9 : n0 ≤ T9.heap.size := Nat.le_trans Z7 Kc9.1
  refine g_aloadN X9 hx (hb hby d23_54) rfl rfl ?_
  refine g_aloadN X9 hx (hb hby d23_55) rfl rfl ?_
  refine g_call (own_callV X9 hx hZ (y := Y31) hown (Wd129 hw) (Wd130 hw) (Wd132 hw) (Wd131 hw) (Wd133 hw) (Wd2 hw) (by decide) (rm_refresh_76 l Z a0 hw a1 a2 T9.heap n0 Z9 ) (rfl : T9.heap = T9.heap) O_a1_9.1 pd_18 (hb hby d23_56) (by rw [hml]; rfl) (argsL := [(.ref a2)]) (rest := []) rfl rfl rfl (W := 0) (Nat.le_of_eq rfl) (by decide)) (fun v10 T10 L10 X10 q10 => ?_)
  obtain ⟨rfl, M10, e10⟩ := q10
  have N10 := Fr.app N9 M10
  refine g_aloadN X10 hx (hb hby d23_59) rfl rfl ?_
  refine g_aloadN X10 hx (hb hby d23_60) rfl rfl ?_
  refine g_call (own_callV X10 hx hZ (y := Y31) hown (Wd129 hw) (Wd130 hw) (Wd132 hw) (Wd131 hw) (Wd133 hw) (Wd2 hw) (by decide) (rm_refresh_76 l Z a0 hw a1 a5 T9.heap n0 Z9 ) e10 O_a1_9.1 pd_18 (hb hby d23_61) (by rw [hml]; rfl) (argsL := [(.ref a5)]) (rest := []) rfl rfl rfl (W := 0) (Nat.le_of_eq rfl) (by decide)) (fun v11 T11 L11 X11 q11 => ?_)
  obtain ⟨rfl, M11, e11⟩ := q11
  have N11 := Fr.app N10 M11
  exact own_retV X11 hx hret hlk (hb hby d23_64) (by decide) (by decide) (by rw [e11]; exact ⟨rfl, N11, K9, O_a1_9, O_a2_9, Rk9_0⟩)
theorem rm_balanceAfterInsert_131 (l : Launch) (Z : State) (a0 : Array Value) (hw : HW a0 Z) (a1 : Addr) (a2 : Addr) (a3 : Addr) (i1 : Int32) (a4 : Addr) (a5 : Addr) (a6 : Addr) (a7 : Addr) (a8 : Addr) (i2 : Int32) (i3 : Int32) (a9 : Addr) (a10 : Addr) (i4 : Int32) (i5 : Int32) (h0 : Heap) (n0 : Nat) (Z0 : n0 ≤ h0.size) (O_a1 : R_MP Z h0 a1 .null (.ref a3) (.int 3) (.int i1)) (O_a2 : R_ND Z h0 a2 (.ref a4) (.ref a5) .null .null (.ref a6) (.int (-2147483648))) (O_a3 : R_ND Z h0 a3 (.ref a7) (.ref a8) .null (.ref a6) .null (.int 0)) (O_a4 : R_IN Z h0 a4 (.int i2)) (O_a5 : R_IN Z h0 a5 (.int i3)) (O_a6 : R_ND Z h0 a6 (.ref a9) (.ref a10) .null (.ref a2) (.ref a3) (.int (-2147483648))) (O_a7 : R_IN Z h0 a7 (.int i4)) (O_a9 : R_IN Z h0 a9 (.int i5)) (ne_a1_a2 : a1 ≠ a2) (ne_a1_a3 : a1 ≠ a3) (ne_a1_a4 : a1 ≠ a4) (ne_a1_a5 : a1 ≠ a5) (ne_a1_a6 : a1 ≠ a6) (ne_a1_a7 : a1 ≠ a7) (ne_a1_a9 : a1 ≠ a9) (ne_a2_a3 : a2 ≠ a3) (ne_a2_a6 : a2 ≠ a6) (ne_a3_a4 : a3 ≠ a4) (ne_a3_a5 : a3 ≠ a5) (ne_a3_a6 : a3 ≠ a6) (ne_a3_a7 : a3 ≠ a7) (ne_a3_a9 : a3 ≠ a9) (ne_a4_a6 : a4 ≠ a6) (ne_a5_a6 : a5 ≠ a6) (ne_a6_a7 : a6 ≠ a7) (ne_a6_a9 : a6 ≠ a9) (g_a1 : n0 ≤ a1) (g_a3 : n0 ≤ a3) (g_a6 : n0 ≤ a6) (hk0 : ¬ (i2 < i4)) (hk1 : ¬ (i2 = i4)) (hk2 : ¬ (i2 < i5)) (hk3 : ¬ (i2 = i5)) :
    Ctr l Y25 prog_7_method_90_code 6 none [] ({ frames := 2, cells := 0, slots := 0, locals := 29 } : Room) Z #[(.ref a1), (.ref a2)] h0 (fun v h L => v = none ∧ Fr n0 L ∧ Keep h0 h [a1, a3, a6] ∧ R_MP Z h a1 .null (.ref a6) (.int 3) (.int i1) ∧ R_ND Z h a3 (.ref a7) (.ref a8) .null .null (.ref a6) (.int (-2147483648)) ∧ R_ND Z h a6 (.ref a9) (.ref a10) (.ref a3) (.ref a2) .null (.int 1)) := by
  refine own_enter pn_2 (fun p e s m below meth c s₁ hx hby hml hown hnm hret hlk hZ X0 e0 => ?_)
  have N0 := Fr.nil n0
  have K0 := Keep.refl h0 [a1, a3, a6]
  rw [ef_16_RR m _ _]
  show Go p e below (s₁.setTop (mkF m 0 #[vr a1, vr a2, vu, vu, vu, vu] [])) _
  refine g_aloadN X0 hx (hb hby d16_0) rfl rfl ?_
  refine g_astoreN X0 hx #[vr a1, vr a2, vr a2, vu, vu, vu] (hb hby d16_1) rfl rfl ?_
  refine g_aloadN X0 hx (hb hby d16_2) rfl rfl ?_
  refine g_getF X0 hx hZ hown (Wd111 hw) e0 O_a2.2.2.2.2.2.1 (hb hby d16_3) (fun T1 X1 e1 => ?_)
  refine g_call (own_callS X1 hx hZ (y := Y24) hown (Wd112 hw) (Wd113 hw) (Wd2 hw) (Wd114 hw) (by decide) (rm_isRed_91 l Z a0 hw a6 a9 a10 a2 a3 h0 n0 Z0 O_a6) e1 pd_19 (hb hby d16_6) (by rw [hml]; rfl) (argsL := [(.ref a6)]) (rest := []) rfl rfl rfl (W := 0) (Nat.le_of_eq rfl) (by decide)) (fun v2 T2 L2 X2 q2 => ?_)
  obtain ⟨rfl, M2, e2⟩ := q2
  have N2 := Fr.app N0 M2
  refine g_ifNo X2 hx (hb hby d16_9) ((if0 _ _).trans (feq ((by decide) : ¬ ((1 : Int32) = (0 : Int32)))).1) ?_
  refine g_aloadN X2 hx (hb hby d16_12) rfl rfl ?_
  refine g_getF X2 hx hZ hown (Wd111 hw) e2 O_a2.2.2.2.2.2.1 (hb hby d16_13) (fun T3 X3 e3 => ?_)
  refine g_astoreN X3 hx #[vr a1, vr a2, vr a2, vr a6, vu, vu] (hb hby d16_16) rfl rfl ?_
  refine g_aloadN X3 hx (hb hby d16_17) rfl rfl ?_
  refine g_getF X3 hx hZ hown (Wd111 hw) e3 O_a6.2.2.2.2.2.1 (hb hby d16_18) (fun T4 X4 e4 => ?_)
  refine g_astore X4 hx #[vr a1, vr a2, vr a2, vr a6, vr a3, vu] (hb hby d16_21) rfl rfl ?_
  refine g_aloadN X4 hx (hb hby d16_23) rfl rfl ?_
  refine g_aload X4 hx (hb hby d16_24) rfl rfl ?_
  refine g_getF X4 hx hZ hown (Wd95 hw) e4 O_a3.2.2.2.1 (hb hby d16_26) (fun T5 X5 e5 => ?_)
  refine g_acmp X5 hx 110 false rfl rfl (hb hby d16_29) (decide_eq_false nofun) (by decide) (by decide) ?_
  refine g_aload X5 hx (hb hby d16_110) rfl rfl ?_
  refine g_getF X5 hx hZ hown (Wd95 hw) e5 O_a3.2.2.2.1 (hb hby d16_112) (fun T6 X6 e6 => ?_)
  refine g_astore X6 hx #[vr a1, vr a2, vr a2, vr a6, vr a3, vn] (hb hby d16_115) rfl rfl ?_
  refine g_aload X6 hx (hb hby d16_117) rfl rfl ?_
  refine g_call (own_callS X6 hx hZ (y := Y24) hown (Wd112 hw) (Wd113 hw) (Wd2 hw) (Wd114 hw) (by decide) (rm_isRed_69 l Z a0 hw  h0 n0 Z0 ) e6 pd_19 (hb hby d16_119) (by rw [hml]; rfl) (argsL := [.null]) (rest := []) rfl rfl rfl (W := 0) (Nat.le_of_eq rfl) (by decide)) (fun v7 T7 L7 X7 q7 => ?_)
  obtain ⟨rfl, M7, e7⟩ := q7
  have N7 := Fr.app N2 M7
  refine g_ifYes X7 hx 148 (hb hby d16_122) ((if0 _ _).trans (teq ((by decide) : (0 : Int32) = (0 : Int32))).1) (by decide) (by decide) ?_
  refine g_aloadN X7 hx (hb hby d16_148) rfl rfl ?_
  refine g_aloadN X7 hx (hb hby d16_149) rfl rfl ?_
  refine g_getF X7 hx hZ hown (Wd95 hw) e7 O_a6.2.2.2.1 (hb hby d16_150) (fun T8 X8 e8 => ?_)
  refine g_acmp X8 hx 168 false rfl rfl (hb hby d16_153) (decide_eq_false nofun) (by decide) (by decide) ?_
  refine g_aloadN X8 hx (hb hby d16_168) rfl rfl ?_
  refine g_iconst X8 hx (0 : Int32) (hb hby d16_169) (by decide) ?_
  refine g_call (own_callS X8 hx hZ (y := Y17) hown (Wd85 hw) (Wd86 hw) (Wd2 hw) (Wd87 hw) (by decide) (rm_setRed_120 l Z a0 hw a6 a9 a10 a2 a3 h0 n0 Z0 O_a6 g_a6) e8 pd_14 (hb hby d16_170) (by rw [hml]; rfl) (argsL := [(.ref a6), (.int 0)]) (rest := []) rfl rfl rfl (W := 0) (Nat.le_of_eq rfl) (by decide)) (fun v9 T9 L9 X9 q9 => ?_)
  obtain ⟨rfl, M9, Kc9, Rk9_0⟩ := q9
  have N9 := Fr.app N7 M9
  have O_a1_9 := R_MP_keep O_a1 Kc9 (own_nin ne_a1_a6 List.not_mem_nil)
  have O_a2_9 := R_ND_keep O_a2 Kc9 (own_nin ne_a2_a6 List.not_mem_nil)
  have O_a3_9 := R_ND_keep O_a3 Kc9 (own_nin ne_a3_a6 List.not_mem_nil)
  have O_a4_9 := R_IN_keep O_a4 Kc9 (own_nin ne_a4_a6 List.not_mem_nil)
  have O_a5_9 := R_IN_keep O_a5 Kc9 (own_nin ne_a5_a6 List.not_mem_nil)
  have O_a7_9 := R_IN_keep O_a7 Kc9 (own_nin (Ne.symm ne_a6_a7) List.not_mem_nil)
  have O_a9_9 := R_IN_keep O_a9 Kc9 (own_nin (Ne.symm ne_a6_a9) List.not_mem_nil)
  have K9 := Keep.trans K0 Kc9 (own_memc (Or.inl (List.mem_of_getElem? (i := 2) rfl)) own_memn)
  have Z9 : n0 ≤ T9.heap.size := Nat.le_trans Z0 Kc9.1
  refine g_aload X9 hx (hb hby d16_173) rfl rfl ?_
  refine g_iconst X9 hx (1 : Int32) (hb hby d16_175) (by decide) ?_
  refine g_call (own_callS X9 hx hZ (y := Y17) hown (Wd85 hw) (Wd86 hw) (Wd2 hw) (Wd87 hw) (by decide) (rm_setRed_121 l Z a0 hw a3 a7 a8 a6 T9.heap n0 Z9 O_a3_9 g_a3) (rfl : T9.heap = T9.heap) pd_14 (hb hby d16_176) (by rw [hml]; rfl) (argsL := [(.ref a3), (.int 1)]) (rest := []) rfl rfl rfl (W := 0) (Nat.le_of_eq rfl) (by decide)) (fun v10 T10 L10 X10 q10 => ?_)
  obtain ⟨rfl, M10, Kc10, Rk10_0⟩ := q10
  have N10 := Fr.app N9 M10
  have O_a1_10 := R_MP_keep O_a1_9 Kc10 (own_nin ne_a1_a3 List.not_mem_nil)
  have O_a2_10 := R_ND_keep O_a2_9 Kc10 (own_nin ne_a2_a3 List.not_mem_nil)
  have O_a4_10 := R_IN_keep O_a4_9 Kc10 (own_nin (Ne.symm ne_a3_a4) List.not_mem_nil)
  have O_a5_10 := R_IN_keep O_a5_9 Kc10 (own_nin (Ne.symm ne_a3_a5) List.not_mem_nil)
  have O_a7_10 := R_IN_keep O_a7_9 Kc10 (own_nin (Ne.symm ne_a3_a7) List.not_mem_nil)
  have O_a9_10 := R_IN_keep O_a9_9 Kc10 (own_nin (Ne.symm ne_a3_a9) List.not_mem_nil)
  have O_a6_10 := R_ND_keep Rk9_0 Kc10 (own_nin (Ne.symm ne_a3_a6) List.not_mem_nil)
  have K10 := Keep.trans K9 Kc10 (own_memc (Or.inl (List.mem_of_getElem? (i := 1) rfl)) own_memn)
  have Z10 : n0 ≤ T10.heap.size := Nat.le_trans Z9 Kc10.1
  refine g_aloadN X10 hx (hb hby d16_179) rfl rfl ?_
  refine g_aload X10 hx (hb hby d16_180) rfl rfl ?_
  refine g_call (own_callP X10 hx hZ (y := Y34) hown (Wd135 hw) (Wd136 hw) (Wd137 hw) (Wd1 hw) (Wd138 hw) (Wd2 hw) (by decide) (rm_rotateLeft_132 l Z a0 hw a1 a3 i1 a7 a8 a6 i4 a9 a10 a2 i5 a4 a5 i2 i3 T10.heap n0 Z10 O_a1_10 Rk10_0 O_a7_10 O_a6_10 O_a9_10 O_a2_10 O_a4_10 O_a5_10 ne_a1_a3 ne_a1_a7 ne_a1_a6 ne_a1_a9 ne_a1_a2 ne_a1_a4 ne_a1_a5 ne_a3_a7 ne_a3_a6 ne_a3_a9 (Ne.symm ne_a2_a3) ne_a3_a4 ne_a3_a5 (Ne.symm ne_a6_a7) ne_a6_a9 (Ne.symm ne_a2_a6) (Ne.symm ne_a4_a6) (Ne.symm ne_a5_a6) g_a1 g_a3 g_a6 hk0 hk1 hk2 hk3) (rfl : T10.heap = T10.heap) O_a1_10.1 pd_18 (hb hby d16_182) (by rw [hml]; rfl) (argsL := [(.ref a3)]) (rest := []) rfl rfl rfl (W := 0) (Nat.le_of_eq rfl) (by decide)) (fun v11 T11 L11 X11 q11 => ?_)
  obtain ⟨rfl, M11, Kc11, Rk11_0, Rk11_1, Rk11_2⟩ := q11
  have N11 := Fr.app N10 M11
  have O_a2_11 := R_ND_keep O_a2_10 Kc11 (own_nin (Ne.symm ne_a1_a2) (own_nin ne_a2_a3 (own_nin ne_a2_a6 List.not_mem_nil)))
  have O_a4_11 := R_IN_keep O_a4_10 Kc11 (own_nin (Ne.symm ne_a1_a4) (own_nin (Ne.symm ne_a3_a4) (own_nin ne_a4_a6 List.not_mem_nil)))
  have O_a5_11 := R_IN_keep O_a5_10 Kc11 (own_nin (Ne.symm ne_a1_a5) (own_nin (Ne.symm ne_a3_a5) (own_nin ne_a5_a6 List.not_mem_nil)))
  have O_a7_11 := R_IN_keep O_a7_10 Kc11 (own_nin (Ne.symm ne_a1_a7) (own_nin (Ne.symm ne_a3_a7) (own_nin (Ne.symm ne_a6_a7) List.not_mem_nil)))
  have O_a9_11 := R_IN_keep O_a9_10 Kc11 (own_nin (Ne.symm ne_a1_a9) (own_nin (Ne.symm ne_a3_a9) (own_nin (Ne.symm ne_a6_a9) List.not_mem_nil)))
  have K11 := Keep.trans K10 Kc11 (own_memc (Or.inl (List.mem_of_getElem? (i := 0) rfl)) (own_memc (Or.inl (List.mem_of_getElem? (i := 1) rfl)) (own_memc (Or.inl (List.mem_of_getElem? (i := 2) rfl)) own_memn)))
  have Z11 : n0 ≤ T11.heap.size := Nat.le_trans Z10 Kc11.1
  refine g_goto X11 hx 2 (hb hby d16_185) (by decide) (by decide) ?_
  refine g_aloadN X11 hx (hb hby d16_2) rfl rfl ?_
  refine g_getF X11 hx hZ hown (Wd111 hw) (rfl : T11.heap = T11.heap) O_a2_11.2.2.2.2.2.1 (hb hby d16_3) (fun T12 X12 e12 => ?_)
  refine g_call (own_callS X12 hx hZ (y := Y24) hown (Wd112 hw) (Wd113 hw) (Wd2 hw) (Wd114 hw) (by decide) (rm_isRed_77 l Z a0 hw a6 a9 a10 a3 a2 T11.heap n0 Z11 Rk11_2) e12 pd_19 (hb hby d16_6) (by rw [hml]; rfl) (argsL := [(.ref a6)]) (rest := []) rfl rfl rfl (W := 0) (Nat.le_of_eq rfl) (by decide)) (fun v13 T13 L13 X13 q13 => ?_)
  obtain ⟨rfl, M13, e13⟩ := q13
  have N13 := Fr.app N11 M13
  refine g_ifYes X13 hx 188 (hb hby d16_9) ((if0 _ _).trans (teq ((by decide) : (0 : Int32) = (0 : Int32))).1) (by decide) (by decide) ?_
  refine g_aloadN X13 hx (hb hby d16_188) rfl rfl ?_
  refine g_getF X13 hx hZ hown (Wd35 hw) e13 Rk11_0.2.2.1 (hb hby d16_189) (fun T14 X14 e14 => ?_)
  refine g_iconst X14 hx (0 : Int32) (hb hby d16_192) (by decide) ?_
  refine g_call (own_callS X14 hx hZ (y := Y17) hown (Wd85 hw) (Wd86 hw) (Wd2 hw) (Wd87 hw) (by decide) (rm_setRed_78 l Z a0 hw a6 a9 a10 a3 a2 T11.heap n0 Z11 Rk11_2 g_a6) e14 pd_14 (hb hby d16_193) (by rw [hml]; rfl) (argsL := [(.ref a6), (.int 0)]) (rest := []) rfl rfl rfl (W := 0) (Nat.le_of_eq rfl) (by decide)) (fun v15 T15 L15 X15 q15 => ?_)
  obtain ⟨rfl, M15, Kc15, Rk15_0⟩ := q15
  have N15 := Fr.app N13 M15
  have O_a2_15 := R_ND_keep O_a2_11 Kc15 (own_nin ne_a2_a6 List.not_mem_nil)
  have O_a4_15 := R_IN_keep O_a4_11 Kc15 (own_nin ne_a4_a6 List.not_mem_nil)
  have O_a5_15 := R_IN_keep O_a5_11 Kc15 (own_nin ne_a5_a6 List.not_mem_nil)
  have O_a7_15 := R_IN_keep O_a7_11 Kc15 (own_nin (Ne.symm ne_a6_a7) List.not_mem_nil)
  have O_a9_15 := R_IN_keep O_a9_11 Kc15 (own_nin (Ne.symm ne_a6_a9) List.not_mem_nil)
  have O_a1_15 := R_MP_keep Rk11_0 Kc15 (own_nin ne_a1_a6 List.not_mem_nil)
  have O_a3_15 := R_ND_keep Rk11_1 Kc15 (own_nin ne_a3_a6 List.not_mem_nil)
  have K15 := Keep.trans K11 Kc15 (own_memc (Or.inl (List.mem_of_getElem? (i := 2) rfl)) own_memn)
  have Z15 : n0 ≤ T15.heap.size := Nat.le_trans Z11 Kc15.1
  exact own_retV X15 hx hret hlk (hb hby d16_196) (by decide) (by decide) (by rw [(rfl : T15.heap = T15.heap)]; exact ⟨rfl, N15, K15, O_a1_15, O_a3_15, Rk15_0⟩)
theorem rm_addIfAbsent_130 (l : Launch) (Z : State) (a0 : Array Value) (hw : HW a0 Z) (a1 : Addr) (a2 : Addr) (a3 : Addr) (a4 : Addr) (i1 : Int32) (i2 : Int32) (i3 : Int32) (a5 : Addr) (a6 : Addr) (a7 : Addr) (i4 : Int32) (a8 : Addr) (a9 : Addr) (i5 : Int32) (h0 : Heap) (n0 : Nat) (Z0 : n0 ≤ h0.size) (O_a1 : R_MP Z h0 a1 .null (.ref a4) (.int 2) (.int i1)) (O_a2 : R_IN Z h0 a2 (.int i2)) (O_a3 : R_IN Z h0 a3 (.int i3)) (O_a4 : R_ND Z h0 a4 (.ref a5) (.ref a6) .null (.ref a7) .null (.int 0)) (O_a5 : R_IN Z h0 a5 (.int i4)) (O_a7 : R_ND Z h0 a7 (.ref a8) (.ref a9) .null .null (.ref a4) (.int (-2147483648))) (O_a8 : R_IN Z h0 a8 (.int i5)) (ne_a1_a2 : a1 ≠ a2) (ne_a1_a3 : a1 ≠ a3) (ne_a1_a4 : a1 ≠ a4) (ne_a1_a5 : a1 ≠ a5) (ne_a1_a7 : a1 ≠ a7) (ne_a1_a8 : a1 ≠ a8) (ne_a2_a4 : a2 ≠ a4) (ne_a2_a7 : a2 ≠ a7) (ne_a3_a4 : a3 ≠ a4) (ne_a3_a7 : a3 ≠ a7) (ne_a4_a5 : a4 ≠ a5) (ne_a4_a7 : a4 ≠ a7) (ne_a4_a8 : a4 ≠ a8) (ne_a5_a7 : a5 ≠ a7) (ne_a7_a8 : a7 ≠ a8) (g_a1 : n0 ≤ a1) (g_a4 : n0 ≤ a4) (g_a7 : n0 ≤ a7) (hk0 : ¬ (i2 < i4)) (hk1 : ¬ (i2 = i4)) (hk2 : ¬ (i2 < i5)) (hk3 : ¬ (i2 = i5)) :
    CtrH l Y18 prog_7_method_65_code 15 (some (FieldType.object "com/example/rosewood/rosewood/RosewoodMap$Node")) [(71, 122, 210, 0), (137, 195, 210, 0), (210, 212, 210, 0)] ({ frames := 4, cells := 1, slots := 6, locals := 53 } : Room) Z #[(.ref a1), (.ref a2), (.ref a3)] h0 (fun v h L => ∃ f1, v = some .null ∧ Fr n0 L ∧ Keep h0 h [a1, a4, a7] ∧ h0.size ≤ f1 ∧ R_MP Z h a1 .null (.ref a7) (.int 3) (.int (i1 + (1 : Int32))) ∧ R_ND Z h a4 (.ref a5) (.ref a6) .null .null (.ref a7) (.int (-2147483648)) ∧ R_ND Z h a7 (.ref a8) (.ref a9) (.ref a4) (.ref f1) .null (.int 1) ∧ R_ND Z h f1 (.ref a2) (.ref a3) .null .null (.ref a7) (.int (-2147483648))) := by
  refine own_enterH pn_2 (fun p e s m below meth c s₁ hx hby hml hown hnm hret hlk hZ X0 e0 => ?_)
  have N0 := Fr.nil n0
  have K0 := Keep.refl h0 [a1, a4, a7]
  rw [ef_38_RRR m _ _ _]
  show Go p e below (s₁.setTop (mkF m 0 #[vr a1, vr a2, vr a3, vu, vu, vu, vu, vu, vu, vu, vu, vu, vu, vu, vu] [])) _
  refine g_aloadN X0 hx (hb hby d38_0) rfl rfl ?_
  refine g_getF X0 hx hZ hown (Wd35 hw) e0 O_a1.2.2.1 (hb hby d38_1) (fun T1 X1 e1 => ?_)
  refine g_nonnullYes X1 hx 50 (hb hby d38_4) (by decide) (by decide) ?_
  refine g_null X1 hx (hb hby d38_50) ?_
  refine g_astoreN X1 hx #[vr a1, vr a2, vr a3, vn, vu, vu, vu, vu, vu, vu, vu, vu, vu, vu, vu] (hb hby d38_51) rfl rfl ?_
  refine g_iconst X1 hx (0 : Int32) (hb hby d38_52) (by decide) ?_
  refine g_istore X1 hx #[vr a1, vr a2, vr a3, vn, vi 0, vu, vu, vu, vu, vu, vu, vu, vu, vu, vu] (hb hby d38_53) rfl ?_
  refine g_aloadN X1 hx (hb hby d38_55) rfl rfl ?_
  refine g_getF X1 hx hZ hown (Wd35 hw) e1 O_a1.2.2.1 (hb hby d38_56) (fun T2 X2 e2 => ?_)
  refine g_astore X2 hx #[vr a1, vr a2, vr a3, vn, vi 0, vr a4, vu, vu, vu, vu, vu, vu, vu, vu, vu] (hb hby d38_59) rfl rfl ?_
  refine g_aload X2 hx (hb hby d38_61) rfl rfl ?_
  refine g_getF X2 hx hZ hown (Wd94 hw) e2 O_a4.2.1 (hb hby d38_63) (fun T3 X3 e3 => ?_)
  refine g_astore X3 hx #[vr a1, vr a2, vr a3, vn, vi 0, vr a4, vr a5, vu, vu, vu, vu, vu, vu, vu, vu] (hb hby d38_66) rfl rfl ?_
  refine g_null X3 hx (hb hby d38_68) ?_
  refine g_astore X3 hx #[vr a1, vr a2, vr a3, vn, vi 0, vr a4, vr a5, vn, vu, vu, vu, vu, vu, vu, vu] (hb hby d38_69) rfl rfl ?_
  refine g_aload X3 hx (hb hby d38_71) rfl rfl ?_
  refine g_nullNo X3 hx (hb hby d38_73) ?_
  refine g_aload X3 hx (hb hby d38_76) rfl rfl ?_
  refine g_getF X3 hx hZ hown (Wd95 hw) e3 O_a4.2.2.2.1 (hb hby d38_78) (fun T4 X4 e4 => ?_)
  refine g_astore X4 hx #[vr a1, vr a2, vr a3, vn, vi 0, vr a4, vr a5, vn, vn, vu, vu, vu, vu, vu, vu] (hb hby d38_81) rfl rfl ?_
  refine g_aload X4 hx (hb hby d38_83) rfl rfl ?_
  refine g_getF X4 hx hZ hown (Wd97 hw) e4 O_a4.2.2.2.2.1 (hb hby d38_85) (fun T5 X5 e5 => ?_)
  refine g_astore X5 hx #[vr a1, vr a2, vr a3, vn, vi 0, vr a4, vr a5, vn, vn, vr a7, vu, vu, vu, vu, vu] (hb hby d38_88) rfl rfl ?_
  refine g_aload X5 hx (hb hby d38_90) rfl rfl ?_
  refine g_call (own_callS X5 hx hZ (y := Y7) hown (Wd99 hw) (Wd100 hw) (Wd2 hw) (Wd101 hw) (by decide) (rm_keyOf_9 l Z a0 hw  h0 n0 Z0 ) e5 pd_6 (hb hby d38_92) (by rw [hml]; rfl) (argsL := [.null]) (rest := []) rfl rfl rfl (W := 0) (Nat.le_of_eq rfl) (by decide)) (fun v6 T6 L6 X6 q6 => ?_)
  obtain ⟨rfl, M6, e6⟩ := q6
  have N6 := Fr.app N0 M6
  refine g_astore X6 hx #[vr a1, vr a2, vr a3, vn, vi 0, vr a4, vr a5, vn, vn, vr a7, vn, vu, vu, vu, vu] (hb hby d38_95) rfl rfl ?_
  refine g_aload X6 hx (hb hby d38_97) rfl rfl ?_
  refine g_call (own_callS X6 hx hZ (y := Y7) hown (Wd99 hw) (Wd100 hw) (Wd2 hw) (Wd101 hw) (by decide) (rm_keyOf_63 l Z a0 hw a7 a8 a9 a4 h0 n0 Z0 O_a7) e6 pd_6 (hb hby d38_99) (by rw [hml]; rfl) (argsL := [(.ref a7)]) (rest := []) rfl rfl rfl (W := 0) (Nat.le_of_eq rfl) (by decide)) (fun v7 T7 L7 X7 q7 => ?_)
  obtain ⟨rfl, M7, e7⟩ := q7
  have N7 := Fr.app N6 M7
  refine g_astore X7 hx #[vr a1, vr a2, vr a3, vn, vi 0, vr a4, vr a5, vn, vn, vr a7, vn, vr a8, vu, vu, vu] (hb hby d38_102) rfl rfl ?_
  refine g_aloadN X7 hx (hb hby d38_104) rfl rfl ?_
  refine g_aloadN X7 hx (hb hby d38_105) rfl rfl ?_
  refine g_aload X7 hx (hb hby d38_106) rfl rfl ?_
  refine g_call (own_callV X7 hx hZ (y := Y13) hown (Wd37 hw) (Wd38 hw) (Wd40 hw) (Wd39 hw) (Wd41 hw) (Wd2 hw) (by decide) (rm_compare_89 l Z a0 hw a1 a2 a5 a4 i1 i2 i4 h0 n0 Z0 O_a1 O_a2 O_a5 hk0 hk1) e7 O_a1.1 pd_11 (hb hby d38_108) (by rw [hml]; rfl) (argsL := [(.ref a2), (.ref a5)]) (rest := []) rfl rfl rfl (W := 0) (Nat.le_of_eq rfl) (by decide)) (fun v8 T8 L8 X8 q8 => ?_)
  obtain ⟨rfl, M8, e8⟩ := q8
  have N8 := Fr.app N7 M8
  refine g_istore X8 hx #[vr a1, vr a2, vr a3, vn, vi 0, vr a4, vr a5, vn, vn, vr a7, vn, vr a8, vi 1, vu, vu] (hb hby d38_111) rfl ?_
  refine g_iload X8 hx (hb hby d38_113) rfl ?_
  refine g_ifYes X8 hx 137 (hb hby d38_115) ((if0 _ _).trans (feq ((by decide) : ¬ ((1 : Int32) = (0 : Int32)))).2) (by decide) (by decide) ?_
  refine g_aload X8 hx (hb hby d38_137) rfl rfl ?_
  refine g_astoreN X8 hx #[vr a1, vr a2, vr a3, vr a4, vi 0, vr a4, vr a5, vn, vn, vr a7, vn, vr a8, vi 1, vu, vu] (hb hby d38_139) rfl rfl ?_
  refine g_iload X8 hx (hb hby d38_140) rfl ?_
  refine g_istore X8 hx #[vr a1, vr a2, vr a3, vr a4, vi 1, vr a4, vr a5, vn, vn, vr a7, vn, vr a8, vi 1, vu, vu] (hb hby d38_142) rfl ?_
  refine g_iload X8 hx (hb hby d38_144) rfl ?_
  refine g_ifYes X8 hx 155 (hb hby d38_146) ((if0 _ _).trans (flt ((by decide) : ¬ ((1 : Int32) < (0 : Int32)))).2.1) (by decide) (by decide) ?_
  refine g_iload X8 hx (hb hby d38_155) rfl ?_
  refine g_ifYes X8 hx 165 (hb hby d38_157) ((if0 _ _).trans (flt ((by decide) : ¬ ((1 : Int32) < (0 : Int32)))).2.1) (by decide) (by decide) ?_
  refine g_aload X8 hx (hb hby d38_165) rfl rfl ?_
  refine g_astore X8 hx #[vr a1, vr a2, vr a3, vr a4, vi 1, vr a7, vr a5, vn, vn, vr a7, vn, vr a8, vi 1, vu, vu] (hb hby d38_167) rfl rfl ?_
  refine g_iload X8 hx (hb hby d38_169) rfl ?_
  refine g_ifYes X8 hx 179 (hb hby d38_171) ((if0 _ _).trans (flt ((by decide) : ¬ ((1 : Int32) < (0 : Int32)))).2.1) (by decide) (by decide) ?_
  refine g_aload X8 hx (hb hby d38_179) rfl rfl ?_
  refine g_astore X8 hx #[vr a1, vr a2, vr a3, vr a4, vi 1, vr a7, vr a8, vn, vn, vr a7, vn, vr a8, vi 1, vu, vu] (hb hby d38_181) rfl rfl ?_
  refine g_goto X8 hx 71 (hb hby d38_183) (by decide) (by decide) ?_
  refine g_aload X8 hx (hb hby d38_71) rfl rfl ?_
  refine g_nullNo X8 hx (hb hby d38_73) ?_
  refine g_aload X8 hx (hb hby d38_76) rfl rfl ?_
  refine g_getF X8 hx hZ hown (Wd95 hw) e8 O_a7.2.2.2.1 (hb hby d38_78) (fun T9 X9 e9 => ?_)
  refine g_astore X9 hx #[vr a1, vr a2, vr a3, vr a4, vi 1, vr a7, vr a8, vn, vn, vr a7, vn, vr a8, vi 1, vu, vu] (hb hby d38_81) rfl rfl ?_
  refine g_aload X9 hx (hb hby d38_83) rfl rfl ?_
  refine g_getF X9 hx hZ hown (Wd97 hw) e9 O_a7.2.2.2.2.1 (hb hby d38_85) (fun T10 X10 e10 => ?_)
  refine g_astore X10 hx #[vr a1, vr a2, vr a3, vr a4, vi 1, vr a7, vr a8, vn, vn, vn, vn, vr a8, vi 1, vu, vu] (hb hby d38_88) rfl rfl ?_
  refine g_aload X10 hx (hb hby d38_90) rfl rfl ?_
  refine g_call (own_callS X10 hx hZ (y := Y7) hown (Wd99 hw) (Wd100 hw) (Wd2 hw) (Wd101 hw) (by decide) (rm_keyOf_9 l Z a0 hw  h0 n0 Z0 ) e10 pd_6 (hb hby d38_92) (by rw [hml]; rfl) (argsL := [.null]) (rest := []) rfl rfl rfl (W := 0) (Nat.le_of_eq rfl) (by decide)) (fun v11 T11 L11 X11 q11 => ?_)
  obtain ⟨rfl, M11, e11⟩ := q11
  have N11 := Fr.app N8 M11
  refine g_astore X11 hx #[vr a1, vr a2, vr a3, vr a4, vi 1, vr a7, vr a8, vn, vn, vn, vn, vr a8, vi 1, vu, vu] (hb hby d38_95) rfl rfl ?_
  refine g_aload X11 hx (hb hby d38_97) rfl rfl ?_
  refine g_call (own_callS X11 hx hZ (y := Y7) hown (Wd99 hw) (Wd100 hw) (Wd2 hw) (Wd101 hw) (by decide) (rm_keyOf_9 l Z a0 hw  h0 n0 Z0 ) e11 pd_6 (hb hby d38_99) (by rw [hml]; rfl) (argsL := [.null]) (rest := []) rfl rfl rfl (W := 0) (Nat.le_of_eq rfl) (by decide)) (fun v12 T12 L12 X12 q12 => ?_)
  obtain ⟨rfl, M12, e12⟩ := q12
  have N12 := Fr.app N11 M12
  refine g_astore X12 hx #[vr a1, vr a2, vr a3, vr a4, vi 1, vr a7, vr a8, vn, vn, vn, vn, vn, vi 1, vu, vu] (hb hby d38_102) rfl rfl ?_
  refine g_aloadN X12 hx (hb hby d38_104) rfl rfl ?_
  refine g_aloadN X12 hx (hb hby d38_105) rfl rfl ?_
  refine g_aload X12 hx (hb hby d38_106) rfl rfl ?_
  refine g_call (own_callV X12 hx hZ (y := Y13) hown (Wd37 hw) (Wd38 hw) (Wd40 hw) (Wd39 hw) (Wd41 hw) (Wd2 hw) (by decide) (rm_compare_89 l Z a0 hw a1 a2 a8 a4 i1 i2 i5 h0 n0 Z0 O_a1 O_a2 O_a8 hk2 hk3) e12 O_a1.1 pd_11 (hb hby d38_108) (by rw [hml]; rfl) (argsL := [(.ref a2), (.ref a8)]) (rest := []) rfl rfl rfl (W := 0) (Nat.le_of_eq rfl) (by decide)) (fun v13 T13 L13 X13 q13 => ?_)
  obtain ⟨rfl, M13, e13⟩ := q13
  have N13 := Fr.app N12 M13
  refine g_istore X13 hx #[vr a1, vr a2, vr a3, vr a4, vi 1, vr a7, vr a8, vn, vn, vn, vn, vn, vi 1, vu, vu] (hb hby d38_111) rfl ?_
  refine g_iload X13 hx (hb hby d38_113) rfl ?_
  refine g_ifYes X13 hx 137 (hb hby d38_115) ((if0 _ _).trans (feq ((by decide) : ¬ ((1 : Int32) = (0 : Int32)))).2) (by decide) (by decide) ?_
  refine g_aload X13 hx (hb hby d38_137) rfl rfl ?_
  refine g_astoreN X13 hx #[vr a1, vr a2, vr a3, vr a7, vi 1, vr a7, vr a8, vn, vn, vn, vn, vn, vi 1, vu, vu] (hb hby d38_139) rfl rfl ?_
  refine g_iload X13 hx (hb hby d38_140) rfl ?_
  refine g_istore X13 hx #[vr a1, vr a2, vr a3, vr a7, vi 1, vr a7, vr a8, vn, vn, vn, vn, vn, vi 1, vu, vu] (hb hby d38_142) rfl ?_
  refine g_iload X13 hx (hb hby d38_144) rfl ?_
  refine g_ifYes X13 hx 155 (hb hby d38_146) ((if0 _ _).trans (flt ((by decide) : ¬ ((1 : Int32) < (0 : Int32)))).2.1) (by decide) (by decide) ?_
  refine g_iload X13 hx (hb hby d38_155) rfl ?_
  refine g_ifYes X13 hx 165 (hb hby d38_157) ((if0 _ _).trans (flt ((by decide) : ¬ ((1 : Int32) < (0 : Int32)))).2.1) (by decide) (by decide) ?_
  refine g_aload X13 hx (hb hby d38_165) rfl rfl ?_
  refine g_astore X13 hx #[vr a1, vr a2, vr a3, vr a7, vi 1, vn, vr a8, vn, vn, vn, vn, vn, vi 1, vu, vu] (hb hby d38_167) rfl rfl ?_
  refine g_iload X13 hx (hb hby d38_169) rfl ?_
  refine g_ifYes X13 hx 179 (hb hby d38_171) ((if0 _ _).trans (flt ((by decide) : ¬ ((1 : Int32) < (0 : Int32)))).2.1) (by decide) (by decide) ?_
  refine g_aload X13 hx (hb hby d38_179) rfl rfl ?_
  refine g_astore X13 hx #[vr a1, vr a2, vr a3, vr a7, vi 1, vn, vn, vn, vn, vn, vn, vn, vi 1, vu, vu] (hb hby d38_181) rfl rfl ?_
  refine g_goto X13 hx 71 (hb hby d38_183) (by decide) (by decide) ?_
  refine g_aload X13 hx (hb hby d38_71) rfl rfl ?_
  refine g_nullYes X13 hx 186 (hb hby d38_73) (by decide) (by decide) ?_
  refine g_aloadN X13 hx (hb hby d38_186) rfl rfl ?_
  refine g_aloadN X13 hx (hb hby d38_187) rfl rfl ?_
  refine g_aloadN X13 hx (hb hby d38_188) rfl rfl ?_
  refine g_aloadN X13 hx (hb hby d38_189) rfl rfl ?_
  refine g_call (own_callV X13 hx hZ (y := Y16) hown (Wd64 hw) (Wd65 hw) (Wd67 hw) (Wd66 hw) (Wd68 hw) (Wd2 hw) (by decide) (rm_newNode_37 l Z a0 hw a1 a2 a3 a7 h0 n0 Z0 ) e13 O_a1.1 pd_13 (hb hby d38_190) (by rw [hml]; rfl) (argsL := [(.ref a2), (.ref a3), (.ref a7)]) (rest := []) rfl rfl rfl (W := 0) (Nat.le_of_eq rfl) (by decide)) (fun v14 T14 L14 X14 q14 => ?_)
  obtain ⟨b14_0, rfl, M14, Kc14, zb14_0, Rk14_0⟩ := q14
  have N14 := Fr.app N13 M14
  have ne_a1_b14_0 : a1 ≠ b14_0 := Nat.ne_of_lt (Nat.lt_of_lt_of_le O_a1.1.lt zb14_0)
  have ne_a2_b14_0 : a2 ≠ b14_0 := Nat.ne_of_lt (Nat.lt_of_lt_of_le O_a2.1.lt zb14_0)
  have ne_a3_b14_0 : a3 ≠ b14_0 := Nat.ne_of_lt (Nat.lt_of_lt_of_le O_a3.1.lt zb14_0)
  have ne_a4_b14_0 : a4 ≠ b14_0 := Nat.ne_of_lt (Nat.lt_of_lt_of_le O_a4.1.lt zb14_0)
  have ne_a5_b14_0 : a5 ≠ b14_0 := Nat.ne_of_lt (Nat.lt_of_lt_of_le O_a5.1.lt zb14_0)
  have ne_a7_b14_0 : a7 ≠ b14_0 := Nat.ne_of_lt (Nat.lt_of_lt_of_le O_a7.1.lt zb14_0)
  have ne_a8_b14_0 : a8 ≠ b14_0 := Nat.ne_of_lt (Nat.lt_of_lt_of_le O_a8.1.lt zb14_0)
  have g_b14_0 : n0 ≤ b14_0 := Nat.le_trans Z0 zb14_0
  have sz_b14_0 : h0.size ≤ b14_0 := Nat.le_trans K0.1 zb14_0
  have O_a1_14 := R_MP_keep O_a1 Kc14 List.not_mem_nil
  have O_a2_14 := R_IN_keep O_a2 Kc14 List.not_mem_nil
  have O_a3_14 := R_IN_keep O_a3 Kc14 List.not_mem_nil
  have O_a4_14 := R_ND_keep O_a4 Kc14 List.not_mem_nil
  have O_a5_14 := R_IN_keep O_a5 Kc14 List.not_mem_nil
  have O_a7_14 := R_ND_keep O_a7 Kc14 List.not_mem_nil
  have O_a8_14 := R_IN_keep O_a8 Kc14 List.not_mem_nil
  have K14 := Keep.trans K0 Kc14 own_memn
  have Z14 : n0 ≤ T14.heap.size := Nat.le_trans Z0 Kc14.1
  refine g_astore X14 hx #[vr a1, vr a2, vr a3, vr a7, vi 1, vn, vn, vr b14_0, vn, vn, vn, vn, vi 1, vu, vu] (hb hby d38_193) rfl rfl ?_
  refine g_aload X14 hx (hb hby d38_195) rfl rfl ?_
  refine g_nonnullYes X14 hx 227 (hb hby d38_197) (by decide) (by decide) ?_
  refine g_iload X14 hx (hb hby d38_227) rfl ?_
  refine g_ifYes X14 hx 241 (hb hby d38_229) ((if0 _ _).trans (flt ((by decide) : ¬ ((1 : Int32) < (0 : Int32)))).2.1) (by decide) (by decide) ?_
  refine g_aloadN X14 hx (hb hby d38_241) rfl rfl ?_
  refine g_aload X14 hx (hb hby d38_242) rfl rfl ?_
  refine g_putF X14 hx hZ hown (Wd97 hw) (rfl : T14.heap = T14.heap) O_a7_14.2.2.2.2.1 O_a7_14.1 (Or.inl (Wd98 hw)) (Wd70 hw) fd_2 rfl rfl (hb hby d38_244) (fun T15 h15 X15 e15 W15 => ?_)
  have N15 := Fr.snoc X15 N14 g_a7
  have O_a1_15 := R_MP_other W15 O_a1_14 ne_a1_a7
  have O_a2_15 := R_IN_other W15 O_a2_14 ne_a2_a7
  have O_a3_15 := R_IN_other W15 O_a3_14 ne_a3_a7
  have O_a4_15 := R_ND_other W15 O_a4_14 ne_a4_a7
  have O_a5_15 := R_IN_other W15 O_a5_14 ne_a5_a7
  have O_a7_15 := R_ND_set_right hw W15 O_a7_14
  have O_a8_15 := R_IN_other W15 O_a8_14 (Ne.symm ne_a7_a8)
  have O_b14_0_15 := R_ND_other W15 Rk14_0 (Ne.symm ne_a7_b14_0)
  have Z15 : n0 ≤ h15.size := Nat.le_trans Z14 (Nat.le_of_eq W15.size.symm)
  have K15 := Keep.wr K14 W15 (Or.inl (List.mem_of_getElem? (i := 2) rfl))
  refine g_aloadN X15 hx (hb hby d38_247) rfl rfl ?_
  refine g_dup X15 hx (hb hby d38_248) rfl ?_
  refine g_getF X15 hx hZ hown (Wd90 hw) e15 O_a1_15.2.2.2.1 (hb hby d38_249) (fun T16 X16 e16 => ?_)
  refine g_iconst X16 hx (1 : Int32) (hb hby d38_252) (by decide) ?_
  refine g_iadd X16 hx (hb hby d38_253) ?_
  show Go p e below (T16.setTop (mkF m 254 #[vr a1, vr a2, vr a3, vr a7, vi 1, vn, vn, vr b14_0, vn, vn, vn, vn, vi 1, vu, vu] [(.int ((2 : Int32) + (1 : Int32))), (.ref a1)])) _
  rw [show ((2 : Int32) + (1 : Int32)) = (3 : Int32) from by decide]
  refine g_putF X16 hx hZ hown (Wd90 hw) e16 O_a1_15.2.2.2.1 O_a1_15.1 (Or.inl (Wd91 hw)) (Wd1 hw) fd_0 rfl rfl (hb hby d38_254) (fun T17 h17 X17 e17 W17 => ?_)
  have N17 := Fr.snoc X17 N15 g_a1
  have O_a1_17 := R_MP_set_size hw W17 O_a1_15
  have O_a2_17 := R_IN_other W17 O_a2_15 (Ne.symm ne_a1_a2)
  have O_a3_17 := R_IN_other W17 O_a3_15 (Ne.symm ne_a1_a3)
  have O_a4_17 := R_ND_other W17 O_a4_15 (Ne.symm ne_a1_a4)
  have O_a5_17 := R_IN_other W17 O_a5_15 (Ne.symm ne_a1_a5)
  have O_a7_17 := R_ND_other W17 O_a7_15 (Ne.symm ne_a1_a7)
  have O_a8_17 := R_IN_other W17 O_a8_15 (Ne.symm ne_a1_a8)
  have O_b14_0_17 := R_ND_other W17 O_b14_0_15 (Ne.symm ne_a1_b14_0)
  have Z17 : n0 ≤ h17.size := Nat.le_trans Z15 (Nat.le_of_eq W17.size.symm)
  have K17 := Keep.wr K15 W17 (Or.inl (List.mem_of_getElem? (i := 0) rfl))
  refine g_aloadN X17 hx (hb hby d38_257) rfl rfl ?_
  refine g_aloadN X17 hx (hb hby d38_258) rfl rfl ?_
  refine g_call (own_callV X17 hx hZ (y := Y23) hown (Wd102 hw) (Wd103 hw) (Wd105 hw) (Wd104 hw) (Wd106 hw) (Wd2 hw) (by decide) (rm_refreshToRoot_39 l Z a0 hw a1 a7 h17 n0 Z17 ) e17 O_a1_17.1 pd_18 (hb hby d38_259) (by rw [hml]; rfl) (argsL := [(.ref a7)]) (rest := []) rfl rfl rfl (W := 0) (Nat.le_of_eq rfl) (by decide)) (fun v18 T18 L18 X18 q18 => ?_)
  obtain ⟨rfl, M18, e18⟩ := q18
  have N18 := Fr.app N17 M18
  refine g_aloadN X18 hx (hb hby d38_262) rfl rfl ?_
  refine g_aload X18 hx (hb hby d38_263) rfl rfl ?_
  refine g_call (own_callP X18 hx hZ (y := Y25) hown (Wd107 hw) (Wd108 hw) (Wd109 hw) (Wd1 hw) (Wd110 hw) (Wd2 hw) (by decide) (rm_balanceAfterInsert_131 l Z a0 hw a1 b14_0 a4 i1 a2 a3 a7 a5 a6 i2 i3 a8 a9 i4 i5 h17 n0 Z17 O_a1_17 O_b14_0_17 O_a4_17 O_a2_17 O_a3_17 O_a7_17 O_a5_17 O_a8_17 ne_a1_b14_0 ne_a1_a4 ne_a1_a2 ne_a1_a3 ne_a1_a7 ne_a1_a5 ne_a1_a8 (Ne.symm ne_a4_b14_0) (Ne.symm ne_a7_b14_0) (Ne.symm ne_a2_a4) (Ne.symm ne_a3_a4) ne_a4_a7 ne_a4_a5 ne_a4_a8 ne_a2_a7 ne_a3_a7 (Ne.symm ne_a5_a7) ne_a7_a8 g_a1 g_a4 g_a7 hk0 hk1 hk2 hk3) e18 O_a1_17.1 pd_18 (hb hby d38_265) (by rw [hml]; rfl) (argsL := [(.ref b14_0)]) (rest := []) rfl rfl rfl (W := 0) (Nat.le_of_eq rfl) (by decide)) (fun v19 T19 L19 X19 q19 => ?_)
  obtain ⟨rfl, M19, Kc19, Rk19_0, Rk19_1, Rk19_2⟩ := q19
  have N19 := Fr.app N18 M19
  have O_a2_19 := R_IN_keep O_a2_17 Kc19 (own_nin (Ne.symm ne_a1_a2) (own_nin ne_a2_a4 (own_nin ne_a2_a7 List.not_mem_nil)))
  have O_a3_19 := R_IN_keep O_a3_17 Kc19 (own_nin (Ne.symm ne_a1_a3) (own_nin ne_a3_a4 (own_nin ne_a3_a7 List.not_mem_nil)))
  have O_a5_19 := R_IN_keep O_a5_17 Kc19 (own_nin (Ne.symm ne_a1_a5) (own_nin (Ne.symm ne_a4_a5) (own_nin ne_a5_a7 List.not_mem_nil)))
  have O_a8_19 := R_IN_keep O_a8_17 Kc19 (own_nin (Ne.symm ne_a1_a8) (own_nin (Ne.symm ne_a4_a8) (own_nin (Ne.symm ne_a7_a8) List.not_mem_nil)))
  have O_b14_0_19 := R_ND_keep O_b14_0_17 Kc19 (own_nin (Ne.symm ne_a1_b14_0) (own_nin (Ne.symm ne_a4_b14_0) (own_nin (Ne.symm ne_a7_b14_0) List.not_mem_nil)))
  have K19 := Keep.trans K17 Kc19 (own_memc (Or.inl (List.mem_of_getElem? (i := 0) rfl)) (own_memc (Or.inl (List.mem_of_getElem? (i := 1) rfl)) (own_memc (Or.inl (List.mem_of_getElem? (i := 2) rfl)) own_memn)))
  have Z19 : n0 ≤ T19.heap.size := Nat.le_trans Z17 Kc19.1
  refine g_aloadN X19 hx (hb hby d38_268) rfl rfl ?_
  refine g_dup X19 hx (hb hby d38_269) rfl ?_
  refine g_getF X19 hx hZ hown (Wd92 hw) (rfl : T19.heap = T19.heap) Rk19_0.2.2.2.2 (hb hby d38_270) (fun T20 X20 e20 => ?_)
  refine g_iconst X20 hx (1 : Int32) (hb hby d38_273) (by decide) ?_
  refine g_iadd X20 hx (hb hby d38_274) ?_
  refine g_putF X20 hx hZ hown (Wd92 hw) e20 Rk19_0.2.2.2.2 Rk19_0.1 (Or.inl (Wd93 hw)) (Wd1 hw) fd_0 rfl rfl (hb hby d38_275) (fun T21 h21 X21 e21 W21 => ?_)
  have N21 := Fr.snoc X21 N19 g_a1
  have O_a2_21 := R_IN_other W21 O_a2_19 (Ne.symm ne_a1_a2)
  have O_a3_21 := R_IN_other W21 O_a3_19 (Ne.symm ne_a1_a3)
  have O_a5_21 := R_IN_other W21 O_a5_19 (Ne.symm ne_a1_a5)
  have O_a8_21 := R_IN_other W21 O_a8_19 (Ne.symm ne_a1_a8)
  have O_b14_0_21 := R_ND_other W21 O_b14_0_19 (Ne.symm ne_a1_b14_0)
  have O_a1_21 := R_MP_set_modCount hw W21 Rk19_0
  have O_a4_21 := R_ND_other W21 Rk19_1 (Ne.symm ne_a1_a4)
  have O_a7_21 := R_ND_other W21 Rk19_2 (Ne.symm ne_a1_a7)
  have Z21 : n0 ≤ h21.size := Nat.le_trans Z19 (Nat.le_of_eq W21.size.symm)
  have K21 := Keep.wr K19 W21 (Or.inl (List.mem_of_getElem? (i := 0) rfl))
  refine g_null X21 hx (hb hby d38_278) ?_
  exact own_retA X21 hx hret hlk rfl rfl (hb hby d38_279) (by decide) (by decide) (by rw [e21]; exact ⟨b14_0, rfl, N21, K21, sz_b14_0, O_a1_21, O_a4_21, O_a7_21, O_b14_0_21⟩)
theorem rm_put_129 (l : Launch) (Z : State) (a0 : Array Value) (hw : HW a0 Z) (a1 : Addr) (a2 : Addr) (a3 : Addr) (a4 : Addr) (i1 : Int32) (i2 : Int32) (i3 : Int32) (a5 : Addr) (a6 : Addr) (a7 : Addr) (i4 : Int32) (a8 : Addr) (a9 : Addr) (i5 : Int32) (h0 : Heap) (n0 : Nat) (Z0 : n0 ≤ h0.size) (O_a1 : R_MP Z h0 a1 .null (.ref a4) (.int 2) (.int i1)) (O_a2 : R_IN Z h0 a2 (.int i2)) (O_a3 : R_IN Z h0 a3 (.int i3)) (O_a4 : R_ND Z h0 a4 (.ref a5) (.ref a6) .null (.ref a7) .null (.int 0)) (O_a5 : R_IN Z h0 a5 (.int i4)) (O_a7 : R_ND Z h0 a7 (.ref a8) (.ref a9) .null .null (.ref a4) (.int (-2147483648))) (O_a8 : R_IN Z h0 a8 (.int i5)) (ne_a1_a2 : a1 ≠ a2) (ne_a1_a3 : a1 ≠ a3) (ne_a1_a4 : a1 ≠ a4) (ne_a1_a5 : a1 ≠ a5) (ne_a1_a7 : a1 ≠ a7) (ne_a1_a8 : a1 ≠ a8) (ne_a2_a4 : a2 ≠ a4) (ne_a2_a7 : a2 ≠ a7) (ne_a3_a4 : a3 ≠ a4) (ne_a3_a7 : a3 ≠ a7) (ne_a4_a5 : a4 ≠ a5) (ne_a4_a7 : a4 ≠ a7) (ne_a4_a8 : a4 ≠ a8) (ne_a5_a7 : a5 ≠ a7) (ne_a7_a8 : a7 ≠ a8) (g_a1 : n0 ≤ a1) (g_a4 : n0 ≤ a4) (g_a7 : n0 ≤ a7) (hk0 : ¬ (i2 < i4)) (hk1 : ¬ (i2 = i4)) (hk2 : ¬ (i2 < i5)) (hk3 : ¬ (i2 = i5)) :
    Ctr l Y19 prog_7_method_8_code 4 (some (FieldType.object "java/lang/Object")) [] ({ frames := 5, cells := 1, slots := 6, locals := 79 } : Room) Z #[(.ref a1), (.ref a2), (.ref a3)] h0 (fun v h L => ∃ f1, v = some .null ∧ Fr n0 L ∧ Keep h0 h [a1, a4, a7] ∧ h0.size ≤ f1 ∧ R_MP Z h a1 .null (.ref a7) (.int 3) (.int (i1 + (1 : Int32))) ∧ R_ND Z h a4 (.ref a5) (.ref a6) .null .null (.ref a7) (.int (-2147483648)) ∧ R_ND Z h a7 (.ref a8) (.ref a9) (.ref a4) (.ref f1) .null (.int 1) ∧ R_ND Z h f1 (.ref a2) (.ref a3) .null .null (.ref a7) (.int (-2147483648))) := by
  refine own_enter pn_2 (fun p e s m below meth c s₁ hx hby hml hown hnm hret hlk hZ X0 e0 => ?_)
  have N0 := Fr.nil n0
  have K0 := Keep.refl h0 [a1, a4, a7]
  rw [ef_6_RRR m _ _ _]
  show Go p e below (s₁.setTop (mkF m 0 #[vr a1, vr a2, vr a3, vu] [])) _
  refine g_aloadN X0 hx (hb hby d6_0) rfl rfl ?_
  refine g_aloadN X0 hx (hb hby d6_1) rfl rfl ?_
  refine g_aloadN X0 hx (hb hby d6_2) rfl rfl ?_
  refine g_call (own_callPH X0 hx hZ (y := Y18) hown (Wd31 hw) (Wd32 hw) (Wd33 hw) (Wd1 hw) (Wd34 hw) (Wd2 hw) (by decide) (rm_addIfAbsent_130 l Z a0 hw a1 a2 a3 a4 i1 i2 i3 a5 a6 a7 i4 a8 a9 i5 h0 n0 Z0 O_a1 O_a2 O_a3 O_a4 O_a5 O_a7 O_a8 ne_a1_a2 ne_a1_a3 ne_a1_a4 ne_a1_a5 ne_a1_a7 ne_a1_a8 ne_a2_a4 ne_a2_a7 ne_a3_a4 ne_a3_a7 ne_a4_a5 ne_a4_a7 ne_a4_a8 ne_a5_a7 ne_a7_a8 g_a1 g_a4 g_a7 hk0 hk1 hk2 hk3) e0 O_a1.1 pd_15 (hb hby d6_3) (by rw [hml]; rfl) (argsL := [(.ref a2), (.ref a3)]) (rest := []) rfl rfl rfl (W := 0) (Nat.le_of_eq rfl) (by decide)) (fun v1 T1 L1 X1 q1 => ?_)
  obtain ⟨b1_0, rfl, M1, Kc1, zb1_0, Rk1_0, Rk1_1, Rk1_2, Rk1_3⟩ := q1
  have N1 := Fr.app N0 M1
  have ne_a1_b1_0 : a1 ≠ b1_0 := Nat.ne_of_lt (Nat.lt_of_lt_of_le O_a1.1.lt zb1_0)
  have ne_a2_b1_0 : a2 ≠ b1_0 := Nat.ne_of_lt (Nat.lt_of_lt_of_le O_a2.1.lt zb1_0)
  have ne_a3_b1_0 : a3 ≠ b1_0 := Nat.ne_of_lt (Nat.lt_of_lt_of_le O_a3.1.lt zb1_0)
  have ne_a4_b1_0 : a4 ≠ b1_0 := Nat.ne_of_lt (Nat.lt_of_lt_of_le O_a4.1.lt zb1_0)
  have ne_a5_b1_0 : a5 ≠ b1_0 := Nat.ne_of_lt (Nat.lt_of_lt_of_le O_a5.1.lt zb1_0)
  have ne_a7_b1_0 : a7 ≠ b1_0 := Nat.ne_of_lt (Nat.lt_of_lt_of_le O_a7.1.lt zb1_0)
  have ne_a8_b1_0 : a8 ≠ b1_0 := Nat.ne_of_lt (Nat.lt_of_lt_of_le O_a8.1.lt zb1_0)
  have g_b1_0 : n0 ≤ b1_0 := Nat.le_trans Z0 zb1_0
  have sz_b1_0 : h0.size ≤ b1_0 := Nat.le_trans K0.1 zb1_0
  have O_a2_1 := R_IN_keep O_a2 Kc1 (own_nin (Ne.symm ne_a1_a2) (own_nin ne_a2_a4 (own_nin ne_a2_a7 List.not_mem_nil)))
  have O_a3_1 := R_IN_keep O_a3 Kc1 (own_nin (Ne.symm ne_a1_a3) (own_nin ne_a3_a4 (own_nin ne_a3_a7 List.not_mem_nil)))
  have O_a5_1 := R_IN_keep O_a5 Kc1 (own_nin (Ne.symm ne_a1_a5) (own_nin (Ne.symm ne_a4_a5) (own_nin ne_a5_a7 List.not_mem_nil)))
  have O_a8_1 := R_IN_keep O_a8 Kc1 (own_nin (Ne.symm ne_a1_a8) (own_nin (Ne.symm ne_a4_a8) (own_nin (Ne.symm ne_a7_a8) List.not_mem_nil)))
  have K1 := Keep.trans K0 Kc1 (own_memc (Or.inl (List.mem_of_getElem? (i := 0) rfl)) (own_memc (Or.inl (List.mem_of_getElem? (i := 1) rfl)) (own_memc (Or.inl (List.mem_of_getElem? (i := 2) rfl)) own_memn)))
  have Z1 : n0 ≤ T1.heap.size := Nat.le_trans Z0 Kc1.1
  refine g_astoreN X1 hx #[vr a1, vr a2, vr a3, vn] (hb hby d6_6) rfl rfl ?_
  refine g_aloadN X1 hx (hb hby d6_7) rfl rfl ?_
  refine g_nonnullNo X1 hx (hb hby d6_8) ?_
  refine g_null X1 hx (hb hby d6_11) ?_
  refine g_goto X1 hx 21 (hb hby d6_12) (by decide) (by decide) ?_
  exact own_retA X1 hx hret hlk rfl rfl (hb hby d6_21) (by decide) (by decide) (by rw [(rfl : T1.heap = T1.heap)]; exact ⟨b1_0, rfl, N1, K1, sz_b1_0, Rk1_0, Rk1_1, Rk1_2, Rk1_3⟩)
theorem seg_57_2R (l : Launch) (Z : State) (a0 : Array Value) (hw : HW a0 Z) (wc : Addr) (clc : Cell) (p1 : Int32) (p2 : Int32) (p3 : Int32) (p4 : Int32) (p5 : Int32) (p6 : Int32) (n : Int32) (M : Addr) (mc : Int32) (r : Addr) (t : Addr) (kx : Addr) (vx : Addr) (x : Int32) (ky : Addr) (vy : Addr) (y : Int32) (h0 : Heap) (n0 : Nat) (Z0 : n0 ≤ h0.size) (hN : Z.heap.size ≤ n0) (C1 : Sta Z Z.heap "java/lang/Integer$IntegerCache" "high" "I" (.int 127)) (C2 : Sta Z Z.heap "java/lang/Integer$IntegerCache" "cache" "[Ljava/lang/Integer;" (.ref wc)) (BX : Bxs Z wc clc "java/lang/Integer" "I" (256 : Int32) (fun j => .int (j - (128 : Int32)))) (KO : Keep Z.heap h0 []) (O_M : R_MP Z h0 M .null (.ref r) (.int 2) (.int mc)) (O_r : R_ND Z h0 r (.ref kx) (.ref vx) .null (.ref t) .null (.int 0)) (O_t : R_ND Z h0 t (.ref ky) (.ref vy) .null .null (.ref r) (.int (-2147483648))) (O_kx : R_IN Z h0 kx (.int x)) (O_ky : R_IN Z h0 ky (.int y)) (ne_M_r : M ≠ r) (ne_M_t : M ≠ t) (ne_M_kx : M ≠ kx) (ne_M_ky : M ≠ ky) (ne_r_t : r ≠ t) (ne_r_kx : r ≠ kx) (ne_r_ky : r ≠ ky) (ne_t_kx : t ≠ kx) (ne_t_ky : t ≠ ky) (g_M : n0 ≤ M) (g_r : n0 ≤ r) (g_t : n0 ≤ t) {p : Program} {e : Env} {s : State} {m : MethodId} {below : List Frame} {meth : Method} {c : Code} {args : Array Value} {s₁ : State} {lo : List Loc} (hx : p.tables.exec = Jvm.exec) (hby : c.code = code) (hml : c.maxLocals = maxLocals) (hown : s.vm.findClass "com/example/rosewood/rosewood/RosewoodMapClearPinLaw" = some m.cls) (hnm : meth.name = "law") (hret : meth.sig.returnType = ret) (hlk : meth.locks = false) (hZ : Z.Warmed39 s.vm) (X0 : Stand p l e room_1 s m args below meth c s₁ lo 7 23) (e0 : s₁.heap = h0) (N0 : Fr n0 lo) :
    Go p e below (s₁.setTop (mkF m 57 #[vi p1, vi p2, vi p3, vi p4, vi p5, vi p6, vi n, vr M, vu, vu, vu, vu, vu] [])) (FinE s room_1.cells room_1.slots (fun v h L => v = some (.int 1) ∧ Fr n0 L)) := by
  show Go p e below (s₁.setTop (mkF m 57 #[vi p1, vi p2, vi p3, vi p4, vi p5, vi p6, vi n, vr M, vu, vu, vu, vu, vu] [])) _
  refine g_iload X0 hx (hb hby at_57) rfl ?_
  refine g_iconst X0 hx (3 : Int32) (hb hby at_59) (by decide) ?_
  by_cases c60_1 : n < (3 : Int32)
  · refine g_icmpYes X0 hx 78 (hb hby at_60) (tlt c60_1).1 (by decide) (by decide) ?_
    show Go p e below (s₁.setTop (mkF m 78 #[vi p1, vi p2, vi p3, vi p4, vi p5, vi p6, vi n, vr M, vu, vu, vu, vu, vu] [])) _
    exact seg_78_N l Z a0 hw wc clc p1 p2 p3 p4 p5 p6 n M mc r (2 : Int32) h0 n0 Z0 hN C1 C2 BX KO O_M g_M hx hby hml hown hnm hret hlk hZ (Stand.more X0 (by decide) (by decide)) e0 N0
  · refine g_icmpNo X0 hx (hb hby at_60) (flt c60_1).1 ?_
    show Go p e below (s₁.setTop (mkF m 63 #[vi p1, vi p2, vi p3, vi p4, vi p5, vi p6, vi n, vr M, vu, vu, vu, vu, vu] [])) _
    rcases own_tri p3 x with t63_2 | ⟨t63_2, t63_2'⟩ | ⟨t63_2, t63_2'⟩
    · refine g_aload X0 hx (hb hby at_63) rfl rfl ?_
      show Go p e below (s₁.setTop (mkF m 65 #[vi p1, vi p2, vi p3, vi p4, vi p5, vi p6, vi n, vr M, vu, vu, vu, vu, vu] [(.ref M)])) _
      refine g_iloadN X0 hx (hb hby at_65) rfl ?_
      refine g_call (own_callS X0 hx hZ (y := Y2) hown (Wd19 hw) (Wd20 hw) (Wd21 hw) (Wd22 hw) (by decide) (rm_valueOf l Z a0 hw wc clc p3 h0 n0 Z0 hN C1 C2 BX KO) e0 pd_4 (hb hby at_66) (by rw [hml]; rfl) (argsL := [(.int p3)]) (rest := [(.ref M)]) rfl rfl rfl (W := 1) (Nat.le_of_eq rfl) (by decide)) (fun v3 T3 L3 X3 q3 => ?_)
      obtain ⟨b3, rfl, M3, Kc3, O3⟩ := q3
      have N3 := Fr.app N0 M3
      have O_M_3 := R_MP_keep O_M Kc3 List.not_mem_nil
      have O_r_3 := R_ND_keep O_r Kc3 List.not_mem_nil
      have O_t_3 := R_ND_keep O_t Kc3 List.not_mem_nil
      have O_kx_3 := R_IN_keep O_kx Kc3 List.not_mem_nil
      have O_ky_3 := R_IN_keep O_ky Kc3 List.not_mem_nil
      have KO_3 := Keep.trans KO Kc3 own_memn
      have ne_M_b3 : M ≠ b3 := own_exane O_M_3.1 O3.1 (by decide)
      have ne_r_b3 : r ≠ b3 := own_exane O_r_3.1 O3.1 (by decide)
      have ne_t_b3 : t ≠ b3 := own_exane O_t_3.1 O3.1 (by decide)
      have Z3 : n0 ≤ T3.heap.size := Nat.le_trans Z0 Kc3.1
      refine g_iload X3 hx (hb hby at_69) rfl ?_
      refine g_call (own_callS X3 hx hZ (y := Y2) hown (Wd19 hw) (Wd20 hw) (Wd21 hw) (Wd22 hw) (by decide) (rm_valueOf l Z a0 hw wc clc p5 T3.heap n0 Z3 hN C1 C2 BX KO_3) (rfl : T3.heap = T3.heap) pd_4 (hb hby at_71) (by rw [hml]; rfl) (argsL := [(.int p5)]) (rest := [(.ref b3), (.ref M)]) rfl rfl rfl (W := 2) (Nat.le_of_eq rfl) (by decide)) (fun v4 T4 L4 X4 q4 => ?_)
      obtain ⟨b4, rfl, M4, Kc4, O4⟩ := q4
      have N4 := Fr.app N3 M4
      have O_M_4 := R_MP_keep O_M_3 Kc4 List.not_mem_nil
      have O_r_4 := R_ND_keep O_r_3 Kc4 List.not_mem_nil
      have O_t_4 := R_ND_keep O_t_3 Kc4 List.not_mem_nil
      have O_kx_4 := R_IN_keep O_kx_3 Kc4 List.not_mem_nil
      have O_ky_4 := R_IN_keep O_ky_3 Kc4 List.not_mem_nil
      have KO_4 := Keep.trans KO_3 Kc4 own_memn
      have O_b3_4 := R_IN_keep O3 Kc4 List.not_mem_nil
      have ne_M_b4 : M ≠ b4 := own_exane O_M_4.1 O4.1 (by decide)
      have ne_r_b4 : r ≠ b4 := own_exane O_r_4.1 O4.1 (by decide)
      have ne_t_b4 : t ≠ b4 := own_exane O_t_4.1 O4.1 (by decide)
      have Z4 : n0 ≤ T4.heap.size := Nat.le_trans Z3 Kc4.1
      refine g_call (own_callV X4 hx hZ (y := Y19) hown (Wd26 hw) (Wd27 hw) (Wd29 hw) (Wd28 hw) (Wd30 hw) (Wd2 hw) (by decide) (rm_put_105 l Z a0 hw M b3 b4 r mc p3 p5 kx vx t x ky vy y T4.heap n0 Z4 O_M_4 O_b3_4 O4 O_r_4 O_kx_4 O_t_4 O_ky_4 ne_M_b3 ne_M_b4 ne_M_r ne_M_kx ne_M_t ne_M_ky (Ne.symm ne_r_b3) (Ne.symm ne_r_b4) ne_r_kx ne_r_t ne_r_ky g_M g_r t63_2) (rfl : T4.heap = T4.heap) O_M_4.1 pd_16 (hb hby at_74) (by rw [hml]; rfl) (argsL := [(.ref b3), (.ref b4)]) (rest := []) rfl rfl rfl (W := 0) (Nat.le_of_eq rfl) (by decide)) (fun v5 T5 L5 X5 q5 => ?_)
      obtain ⟨b5_0, rfl, M5, Kc5, zb5_0, Rk5_0, Rk5_1, Rk5_2⟩ := q5
      have N5 := Fr.app N4 M5
      have ne_M_b5_0 : M ≠ b5_0 := Nat.ne_of_lt (Nat.lt_of_lt_of_le O_M_4.1.lt zb5_0)
      have ne_r_b5_0 : r ≠ b5_0 := Nat.ne_of_lt (Nat.lt_of_lt_of_le O_r_4.1.lt zb5_0)
      have ne_t_b5_0 : t ≠ b5_0 := Nat.ne_of_lt (Nat.lt_of_lt_of_le O_t_4.1.lt zb5_0)
      have ne_kx_b5_0 : kx ≠ b5_0 := Nat.ne_of_lt (Nat.lt_of_lt_of_le O_kx_4.1.lt zb5_0)
      have ne_ky_b5_0 : ky ≠ b5_0 := Nat.ne_of_lt (Nat.lt_of_lt_of_le O_ky_4.1.lt zb5_0)
      have ne_b3_b5_0 : b3 ≠ b5_0 := Nat.ne_of_lt (Nat.lt_of_lt_of_le O_b3_4.1.lt zb5_0)
      have ne_b4_b5_0 : b4 ≠ b5_0 := Nat.ne_of_lt (Nat.lt_of_lt_of_le O4.1.lt zb5_0)
      have g_b5_0 : n0 ≤ b5_0 := Nat.le_trans Z4 zb5_0
      have O_t_5 := R_ND_keep O_t_4 Kc5 (own_nin (Ne.symm ne_M_t) (own_nin (Ne.symm ne_r_t) List.not_mem_nil))
      have O_kx_5 := R_IN_keep O_kx_4 Kc5 (own_nin (Ne.symm ne_M_kx) (own_nin (Ne.symm ne_r_kx) List.not_mem_nil))
      have O_ky_5 := R_IN_keep O_ky_4 Kc5 (own_nin (Ne.symm ne_M_ky) (own_nin (Ne.symm ne_r_ky) List.not_mem_nil))
      have KO_5 := Keep.trans KO_4 Kc5 (own_memc (Or.inr (Nat.le_trans hN g_M)) (own_memc (Or.inr (Nat.le_trans hN g_r)) own_memn))
      have O_b3_5 := R_IN_keep O_b3_4 Kc5 (own_nin (Ne.symm ne_M_b3) (own_nin (Ne.symm ne_r_b3) List.not_mem_nil))
      have O_b4_5 := R_IN_keep O4 Kc5 (own_nin (Ne.symm ne_M_b4) (own_nin (Ne.symm ne_r_b4) List.not_mem_nil))
      have Z5 : n0 ≤ T5.heap.size := Nat.le_trans Z4 Kc5.1
      refine g_pop X5 hx (hb hby at_77) rfl ?_
      show Go p e below (T5.setTop (mkF m 78 #[vi p1, vi p2, vi p3, vi p4, vi p5, vi p6, vi n, vr M, vu, vu, vu, vu, vu] [])) _
      exact seg_78_N l Z a0 hw wc clc p1 p2 p3 p4 p5 p6 n M (mc + (1 : Int32)) r (3 : Int32) T5.heap n0 Z5 hN C1 C2 BX KO_5 Rk5_0 g_M hx hby hml hown hnm hret hlk hZ (Stand.more X5 (by decide) (by decide)) (rfl : T5.heap = T5.heap) N5
    · refine g_aload X0 hx (hb hby at_63) rfl rfl ?_
      show Go p e below (s₁.setTop (mkF m 65 #[vi p1, vi p2, vi p3, vi p4, vi p5, vi p6, vi n, vr M, vu, vu, vu, vu, vu] [(.ref M)])) _
      refine g_iloadN X0 hx (hb hby at_65) rfl ?_
      refine g_call (own_callS X0 hx hZ (y := Y2) hown (Wd19 hw) (Wd20 hw) (Wd21 hw) (Wd22 hw) (by decide) (rm_valueOf l Z a0 hw wc clc p3 h0 n0 Z0 hN C1 C2 BX KO) e0 pd_4 (hb hby at_66) (by rw [hml]; rfl) (argsL := [(.int p3)]) (rest := [(.ref M)]) rfl rfl rfl (W := 1) (Nat.le_of_eq rfl) (by decide)) (fun v6 T6 L6 X6 q6 => ?_)
      obtain ⟨b6, rfl, M6, Kc6, O6⟩ := q6
      have N6 := Fr.app N0 M6
      have O_M_6 := R_MP_keep O_M Kc6 List.not_mem_nil
      have O_r_6 := R_ND_keep O_r Kc6 List.not_mem_nil
      have O_t_6 := R_ND_keep O_t Kc6 List.not_mem_nil
      have O_kx_6 := R_IN_keep O_kx Kc6 List.not_mem_nil
      have O_ky_6 := R_IN_keep O_ky Kc6 List.not_mem_nil
      have KO_6 := Keep.trans KO Kc6 own_memn
      have ne_M_b6 : M ≠ b6 := own_exane O_M_6.1 O6.1 (by decide)
      have ne_r_b6 : r ≠ b6 := own_exane O_r_6.1 O6.1 (by decide)
      have ne_t_b6 : t ≠ b6 := own_exane O_t_6.1 O6.1 (by decide)
      have Z6 : n0 ≤ T6.heap.size := Nat.le_trans Z0 Kc6.1
      refine g_iload X6 hx (hb hby at_69) rfl ?_
      refine g_call (own_callS X6 hx hZ (y := Y2) hown (Wd19 hw) (Wd20 hw) (Wd21 hw) (Wd22 hw) (by decide) (rm_valueOf l Z a0 hw wc clc p5 T6.heap n0 Z6 hN C1 C2 BX KO_6) (rfl : T6.heap = T6.heap) pd_4 (hb hby at_71) (by rw [hml]; rfl) (argsL := [(.int p5)]) (rest := [(.ref b6), (.ref M)]) rfl rfl rfl (W := 2) (Nat.le_of_eq rfl) (by decide)) (fun v7 T7 L7 X7 q7 => ?_)
      obtain ⟨b7, rfl, M7, Kc7, O7⟩ := q7
      have N7 := Fr.app N6 M7
      have O_M_7 := R_MP_keep O_M_6 Kc7 List.not_mem_nil
      have O_r_7 := R_ND_keep O_r_6 Kc7 List.not_mem_nil
      have O_t_7 := R_ND_keep O_t_6 Kc7 List.not_mem_nil
      have O_kx_7 := R_IN_keep O_kx_6 Kc7 List.not_mem_nil
      have O_ky_7 := R_IN_keep O_ky_6 Kc7 List.not_mem_nil
      have KO_7 := Keep.trans KO_6 Kc7 own_memn
      have O_b6_7 := R_IN_keep O6 Kc7 List.not_mem_nil
      have ne_M_b7 : M ≠ b7 := own_exane O_M_7.1 O7.1 (by decide)
      have ne_r_b7 : r ≠ b7 := own_exane O_r_7.1 O7.1 (by decide)
      have ne_t_b7 : t ≠ b7 := own_exane O_t_7.1 O7.1 (by decide)
      have Z7 : n0 ≤ T7.heap.size := Nat.le_trans Z6 Kc7.1
      refine g_call (own_callV X7 hx hZ (y := Y19) hown (Wd26 hw) (Wd27 hw) (Wd29 hw) (Wd28 hw) (Wd30 hw) (Wd2 hw) (by decide) (rm_put_109 l Z a0 hw M b6 b7 r mc p3 p5 kx vx t x ky vy y T7.heap n0 Z7 O_M_7 O_b6_7 O7 O_r_7 O_kx_7 O_t_7 O_ky_7 ne_M_r (Ne.symm ne_r_b6) (Ne.symm ne_r_b7) ne_r_kx ne_r_t ne_r_ky g_r t63_2 t63_2') (rfl : T7.heap = T7.heap) O_M_7.1 pd_16 (hb hby at_74) (by rw [hml]; rfl) (argsL := [(.ref b6), (.ref b7)]) (rest := []) rfl rfl rfl (W := 0) (Nat.le_of_eq rfl) (by decide)) (fun v8 T8 L8 X8 q8 => ?_)
      obtain ⟨rfl, M8, Kc8, Rk8_0⟩ := q8
      have N8 := Fr.app N7 M8
      have O_M_8 := R_MP_keep O_M_7 Kc8 (own_nin ne_M_r List.not_mem_nil)
      have O_t_8 := R_ND_keep O_t_7 Kc8 (own_nin (Ne.symm ne_r_t) List.not_mem_nil)
      have O_kx_8 := R_IN_keep O_kx_7 Kc8 (own_nin (Ne.symm ne_r_kx) List.not_mem_nil)
      have O_ky_8 := R_IN_keep O_ky_7 Kc8 (own_nin (Ne.symm ne_r_ky) List.not_mem_nil)
      have KO_8 := Keep.trans KO_7 Kc8 (own_memc (Or.inr (Nat.le_trans hN g_r)) own_memn)
      have O_b6_8 := R_IN_keep O_b6_7 Kc8 (own_nin (Ne.symm ne_r_b6) List.not_mem_nil)
      have O_b7_8 := R_IN_keep O7 Kc8 (own_nin (Ne.symm ne_r_b7) List.not_mem_nil)
      have Z8 : n0 ≤ T8.heap.size := Nat.le_trans Z7 Kc8.1
      refine g_pop X8 hx (hb hby at_77) rfl ?_
      show Go p e below (T8.setTop (mkF m 78 #[vi p1, vi p2, vi p3, vi p4, vi p5, vi p6, vi n, vr M, vu, vu, vu, vu, vu] [])) _
      exact seg_78_N l Z a0 hw wc clc p1 p2 p3 p4 p5 p6 n M mc r (2 : Int32) T8.heap n0 Z8 hN C1 C2 BX KO_8 O_M_8 g_M hx hby hml hown hnm hret hlk hZ (Stand.more X8 (by decide) (by decide)) (rfl : T8.heap = T8.heap) N8
    · refine g_aload X0 hx (hb hby at_63) rfl rfl ?_
      show Go p e below (s₁.setTop (mkF m 65 #[vi p1, vi p2, vi p3, vi p4, vi p5, vi p6, vi n, vr M, vu, vu, vu, vu, vu] [(.ref M)])) _
      rcases own_tri p3 y with t65_9 | ⟨t65_9, t65_9'⟩ | ⟨t65_9, t65_9'⟩
      · refine g_iloadN X0 hx (hb hby at_65) rfl ?_
        refine g_call (own_callS X0 hx hZ (y := Y2) hown (Wd19 hw) (Wd20 hw) (Wd21 hw) (Wd22 hw) (by decide) (rm_valueOf l Z a0 hw wc clc p3 h0 n0 Z0 hN C1 C2 BX KO) e0 pd_4 (hb hby at_66) (by rw [hml]; rfl) (argsL := [(.int p3)]) (rest := [(.ref M)]) rfl rfl rfl (W := 1) (Nat.le_of_eq rfl) (by decide)) (fun v10 T10 L10 X10 q10 => ?_)
        obtain ⟨b10, rfl, M10, Kc10, O10⟩ := q10
        have N10 := Fr.app N0 M10
        have O_M_10 := R_MP_keep O_M Kc10 List.not_mem_nil
        have O_r_10 := R_ND_keep O_r Kc10 List.not_mem_nil
        have O_t_10 := R_ND_keep O_t Kc10 List.not_mem_nil
        have O_kx_10 := R_IN_keep O_kx Kc10 List.not_mem_nil
        have O_ky_10 := R_IN_keep O_ky Kc10 List.not_mem_nil
        have KO_10 := Keep.trans KO Kc10 own_memn
        have ne_M_b10 : M ≠ b10 := own_exane O_M_10.1 O10.1 (by decide)
        have ne_r_b10 : r ≠ b10 := own_exane O_r_10.1 O10.1 (by decide)
        have ne_t_b10 : t ≠ b10 := own_exane O_t_10.1 O10.1 (by decide)
        have Z10 : n0 ≤ T10.heap.size := Nat.le_trans Z0 Kc10.1
        refine g_iload X10 hx (hb hby at_69) rfl ?_
        refine g_call (own_callS X10 hx hZ (y := Y2) hown (Wd19 hw) (Wd20 hw) (Wd21 hw) (Wd22 hw) (by decide) (rm_valueOf l Z a0 hw wc clc p5 T10.heap n0 Z10 hN C1 C2 BX KO_10) (rfl : T10.heap = T10.heap) pd_4 (hb hby at_71) (by rw [hml]; rfl) (argsL := [(.int p5)]) (rest := [(.ref b10), (.ref M)]) rfl rfl rfl (W := 2) (Nat.le_of_eq rfl) (by decide)) (fun v11 T11 L11 X11 q11 => ?_)
        obtain ⟨b11, rfl, M11, Kc11, O11⟩ := q11
        have N11 := Fr.app N10 M11
        have O_M_11 := R_MP_keep O_M_10 Kc11 List.not_mem_nil
        have O_r_11 := R_ND_keep O_r_10 Kc11 List.not_mem_nil
        have O_t_11 := R_ND_keep O_t_10 Kc11 List.not_mem_nil
        have O_kx_11 := R_IN_keep O_kx_10 Kc11 List.not_mem_nil
        have O_ky_11 := R_IN_keep O_ky_10 Kc11 List.not_mem_nil
        have KO_11 := Keep.trans KO_10 Kc11 own_memn
        have O_b10_11 := R_IN_keep O10 Kc11 List.not_mem_nil
        have ne_M_b11 : M ≠ b11 := own_exane O_M_11.1 O11.1 (by decide)
        have ne_r_b11 : r ≠ b11 := own_exane O_r_11.1 O11.1 (by decide)
        have ne_t_b11 : t ≠ b11 := own_exane O_t_11.1 O11.1 (by decide)
        have Z11 : n0 ≤ T11.heap.size := Nat.le_trans Z10 Kc11.1
        refine g_call (own_callV X11 hx hZ (y := Y19) hown (Wd26 hw) (Wd27 hw) (Wd29 hw) (Wd28 hw) (Wd30 hw) (Wd2 hw) (by decide) (rm_put_113 l Z a0 hw M b10 b11 r mc p3 p5 kx vx t x ky vy y T11.heap n0 Z11 O_M_11 O_b10_11 O11 O_r_11 O_kx_11 O_t_11 O_ky_11 ne_M_b10 ne_M_b11 ne_M_r ne_M_kx ne_M_t ne_M_ky (Ne.symm ne_r_b10) (Ne.symm ne_t_b10) (Ne.symm ne_r_b11) (Ne.symm ne_t_b11) ne_r_kx ne_r_t ne_r_ky (Ne.symm ne_t_kx) ne_t_ky g_M g_r g_t t63_2 t63_2' t65_9) (rfl : T11.heap = T11.heap) O_M_11.1 pd_16 (hb hby at_74) (by rw [hml]; rfl) (argsL := [(.ref b10), (.ref b11)]) (rest := []) rfl rfl rfl (W := 0) (Nat.le_of_eq rfl) (by decide)) (fun v12 T12 L12 X12 q12 => ?_)
        obtain ⟨b12_0, rfl, M12, Kc12, zb12_0, Rk12_0, Rk12_1, Rk12_2, Rk12_3⟩ := q12
        have N12 := Fr.app N11 M12
        have ne_M_b12_0 : M ≠ b12_0 := Nat.ne_of_lt (Nat.lt_of_lt_of_le O_M_11.1.lt zb12_0)
        have ne_r_b12_0 : r ≠ b12_0 := Nat.ne_of_lt (Nat.lt_of_lt_of_le O_r_11.1.lt zb12_0)
        have ne_t_b12_0 : t ≠ b12_0 := Nat.ne_of_lt (Nat.lt_of_lt_of_le O_t_11.1.lt zb12_0)
        have ne_kx_b12_0 : kx ≠ b12_0 := Nat.ne_of_lt (Nat.lt_of_lt_of_le O_kx_11.1.lt zb12_0)
        have ne_ky_b12_0 : ky ≠ b12_0 := Nat.ne_of_lt (Nat.lt_of_lt_of_le O_ky_11.1.lt zb12_0)
        have ne_b10_b12_0 : b10 ≠ b12_0 := Nat.ne_of_lt (Nat.lt_of_lt_of_le O_b10_11.1.lt zb12_0)
        have ne_b11_b12_0 : b11 ≠ b12_0 := Nat.ne_of_lt (Nat.lt_of_lt_of_le O11.1.lt zb12_0)
        have g_b12_0 : n0 ≤ b12_0 := Nat.le_trans Z11 zb12_0
        have O_kx_12 := R_IN_keep O_kx_11 Kc12 (own_nin (Ne.symm ne_M_kx) (own_nin (Ne.symm ne_r_kx) (own_nin (Ne.symm ne_t_kx) List.not_mem_nil)))
        have O_ky_12 := R_IN_keep O_ky_11 Kc12 (own_nin (Ne.symm ne_M_ky) (own_nin (Ne.symm ne_r_ky) (own_nin (Ne.symm ne_t_ky) List.not_mem_nil)))
        have KO_12 := Keep.trans KO_11 Kc12 (own_memc (Or.inr (Nat.le_trans hN g_M)) (own_memc (Or.inr (Nat.le_trans hN g_r)) (own_memc (Or.inr (Nat.le_trans hN g_t)) own_memn)))
        have O_b10_12 := R_IN_keep O_b10_11 Kc12 (own_nin (Ne.symm ne_M_b10) (own_nin (Ne.symm ne_r_b10) (own_nin (Ne.symm ne_t_b10) List.not_mem_nil)))
        have O_b11_12 := R_IN_keep O11 Kc12 (own_nin (Ne.symm ne_M_b11) (own_nin (Ne.symm ne_r_b11) (own_nin (Ne.symm ne_t_b11) List.not_mem_nil)))
        have Z12 : n0 ≤ T12.heap.size := Nat.le_trans Z11 Kc12.1
        refine g_pop X12 hx (hb hby at_77) rfl ?_
        show Go p e below (T12.setTop (mkF m 78 #[vi p1, vi p2, vi p3, vi p4, vi p5, vi p6, vi n, vr M, vu, vu, vu, vu, vu] [])) _
        exact seg_78_N l Z a0 hw wc clc p1 p2 p3 p4 p5 p6 n M (mc + (1 : Int32)) b12_0 (3 : Int32) T12.heap n0 Z12 hN C1 C2 BX KO_12 Rk12_0 g_M hx hby hml hown hnm hret hlk hZ (Stand.more X12 (by decide) (by decide)) (rfl : T12.heap = T12.heap) N12
      · refine g_iloadN X0 hx (hb hby at_65) rfl ?_
        refine g_call (own_callS X0 hx hZ (y := Y2) hown (Wd19 hw) (Wd20 hw) (Wd21 hw) (Wd22 hw) (by decide) (rm_valueOf l Z a0 hw wc clc p3 h0 n0 Z0 hN C1 C2 BX KO) e0 pd_4 (hb hby at_66) (by rw [hml]; rfl) (argsL := [(.int p3)]) (rest := [(.ref M)]) rfl rfl rfl (W := 1) (Nat.le_of_eq rfl) (by decide)) (fun v13 T13 L13 X13 q13 => ?_)
        obtain ⟨b13, rfl, M13, Kc13, O13⟩ := q13
        have N13 := Fr.app N0 M13
        have O_M_13 := R_MP_keep O_M Kc13 List.not_mem_nil
        have O_r_13 := R_ND_keep O_r Kc13 List.not_mem_nil
        have O_t_13 := R_ND_keep O_t Kc13 List.not_mem_nil
        have O_kx_13 := R_IN_keep O_kx Kc13 List.not_mem_nil
        have O_ky_13 := R_IN_keep O_ky Kc13 List.not_mem_nil
        have KO_13 := Keep.trans KO Kc13 own_memn
        have ne_M_b13 : M ≠ b13 := own_exane O_M_13.1 O13.1 (by decide)
        have ne_r_b13 : r ≠ b13 := own_exane O_r_13.1 O13.1 (by decide)
        have ne_t_b13 : t ≠ b13 := own_exane O_t_13.1 O13.1 (by decide)
        have Z13 : n0 ≤ T13.heap.size := Nat.le_trans Z0 Kc13.1
        refine g_iload X13 hx (hb hby at_69) rfl ?_
        refine g_call (own_callS X13 hx hZ (y := Y2) hown (Wd19 hw) (Wd20 hw) (Wd21 hw) (Wd22 hw) (by decide) (rm_valueOf l Z a0 hw wc clc p5 T13.heap n0 Z13 hN C1 C2 BX KO_13) (rfl : T13.heap = T13.heap) pd_4 (hb hby at_71) (by rw [hml]; rfl) (argsL := [(.int p5)]) (rest := [(.ref b13), (.ref M)]) rfl rfl rfl (W := 2) (Nat.le_of_eq rfl) (by decide)) (fun v14 T14 L14 X14 q14 => ?_)
        obtain ⟨b14, rfl, M14, Kc14, O14⟩ := q14
        have N14 := Fr.app N13 M14
        have O_M_14 := R_MP_keep O_M_13 Kc14 List.not_mem_nil
        have O_r_14 := R_ND_keep O_r_13 Kc14 List.not_mem_nil
        have O_t_14 := R_ND_keep O_t_13 Kc14 List.not_mem_nil
        have O_kx_14 := R_IN_keep O_kx_13 Kc14 List.not_mem_nil
        have O_ky_14 := R_IN_keep O_ky_13 Kc14 List.not_mem_nil
        have KO_14 := Keep.trans KO_13 Kc14 own_memn
        have O_b13_14 := R_IN_keep O13 Kc14 List.not_mem_nil
        have ne_M_b14 : M ≠ b14 := own_exane O_M_14.1 O14.1 (by decide)
        have ne_r_b14 : r ≠ b14 := own_exane O_r_14.1 O14.1 (by decide)
        have ne_t_b14 : t ≠ b14 := own_exane O_t_14.1 O14.1 (by decide)
        have Z14 : n0 ≤ T14.heap.size := Nat.le_trans Z13 Kc14.1
        refine g_call (own_callV X14 hx hZ (y := Y19) hown (Wd26 hw) (Wd27 hw) (Wd29 hw) (Wd28 hw) (Wd30 hw) (Wd2 hw) (by decide) (rm_put_125 l Z a0 hw M b13 b14 r mc p3 p5 kx vx t x ky vy y T14.heap n0 Z14 O_M_14 O_b13_14 O14 O_r_14 O_kx_14 O_t_14 O_ky_14 ne_M_t (Ne.symm ne_t_b13) (Ne.symm ne_t_b14) ne_r_t (Ne.symm ne_t_kx) ne_t_ky g_t t63_2 t63_2' t65_9 t65_9') (rfl : T14.heap = T14.heap) O_M_14.1 pd_16 (hb hby at_74) (by rw [hml]; rfl) (argsL := [(.ref b13), (.ref b14)]) (rest := []) rfl rfl rfl (W := 0) (Nat.le_of_eq rfl) (by decide)) (fun v15 T15 L15 X15 q15 => ?_)
        obtain ⟨rfl, M15, Kc15, Rk15_0⟩ := q15
        have N15 := Fr.app N14 M15
        have O_M_15 := R_MP_keep O_M_14 Kc15 (own_nin ne_M_t List.not_mem_nil)
        have O_r_15 := R_ND_keep O_r_14 Kc15 (own_nin ne_r_t List.not_mem_nil)
        have O_kx_15 := R_IN_keep O_kx_14 Kc15 (own_nin (Ne.symm ne_t_kx) List.not_mem_nil)
        have O_ky_15 := R_IN_keep O_ky_14 Kc15 (own_nin (Ne.symm ne_t_ky) List.not_mem_nil)
        have KO_15 := Keep.trans KO_14 Kc15 (own_memc (Or.inr (Nat.le_trans hN g_t)) own_memn)
        have O_b13_15 := R_IN_keep O_b13_14 Kc15 (own_nin (Ne.symm ne_t_b13) List.not_mem_nil)
        have O_b14_15 := R_IN_keep O14 Kc15 (own_nin (Ne.symm ne_t_b14) List.not_mem_nil)
        have Z15 : n0 ≤ T15.heap.size := Nat.le_trans Z14 Kc15.1
        refine g_pop X15 hx (hb hby at_77) rfl ?_
        show Go p e below (T15.setTop (mkF m 78 #[vi p1, vi p2, vi p3, vi p4, vi p5, vi p6, vi n, vr M, vu, vu, vu, vu, vu] [])) _
        exact seg_78_N l Z a0 hw wc clc p1 p2 p3 p4 p5 p6 n M mc r (2 : Int32) T15.heap n0 Z15 hN C1 C2 BX KO_15 O_M_15 g_M hx hby hml hown hnm hret hlk hZ (Stand.more X15 (by decide) (by decide)) (rfl : T15.heap = T15.heap) N15
      · refine g_iloadN X0 hx (hb hby at_65) rfl ?_
        refine g_call (own_callS X0 hx hZ (y := Y2) hown (Wd19 hw) (Wd20 hw) (Wd21 hw) (Wd22 hw) (by decide) (rm_valueOf l Z a0 hw wc clc p3 h0 n0 Z0 hN C1 C2 BX KO) e0 pd_4 (hb hby at_66) (by rw [hml]; rfl) (argsL := [(.int p3)]) (rest := [(.ref M)]) rfl rfl rfl (W := 1) (Nat.le_of_eq rfl) (by decide)) (fun v16 T16 L16 X16 q16 => ?_)
        obtain ⟨b16, rfl, M16, Kc16, O16⟩ := q16
        have N16 := Fr.app N0 M16
        have O_M_16 := R_MP_keep O_M Kc16 List.not_mem_nil
        have O_r_16 := R_ND_keep O_r Kc16 List.not_mem_nil
        have O_t_16 := R_ND_keep O_t Kc16 List.not_mem_nil
        have O_kx_16 := R_IN_keep O_kx Kc16 List.not_mem_nil
        have O_ky_16 := R_IN_keep O_ky Kc16 List.not_mem_nil
        have KO_16 := Keep.trans KO Kc16 own_memn
        have ne_M_b16 : M ≠ b16 := own_exane O_M_16.1 O16.1 (by decide)
        have ne_r_b16 : r ≠ b16 := own_exane O_r_16.1 O16.1 (by decide)
        have ne_t_b16 : t ≠ b16 := own_exane O_t_16.1 O16.1 (by decide)
        have Z16 : n0 ≤ T16.heap.size := Nat.le_trans Z0 Kc16.1
        refine g_iload X16 hx (hb hby at_69) rfl ?_
        refine g_call (own_callS X16 hx hZ (y := Y2) hown (Wd19 hw) (Wd20 hw) (Wd21 hw) (Wd22 hw) (by decide) (rm_valueOf l Z a0 hw wc clc p5 T16.heap n0 Z16 hN C1 C2 BX KO_16) (rfl : T16.heap = T16.heap) pd_4 (hb hby at_71) (by rw [hml]; rfl) (argsL := [(.int p5)]) (rest := [(.ref b16), (.ref M)]) rfl rfl rfl (W := 2) (Nat.le_of_eq rfl) (by decide)) (fun v17 T17 L17 X17 q17 => ?_)
        obtain ⟨b17, rfl, M17, Kc17, O17⟩ := q17
        have N17 := Fr.app N16 M17
        have O_M_17 := R_MP_keep O_M_16 Kc17 List.not_mem_nil
        have O_r_17 := R_ND_keep O_r_16 Kc17 List.not_mem_nil
        have O_t_17 := R_ND_keep O_t_16 Kc17 List.not_mem_nil
        have O_kx_17 := R_IN_keep O_kx_16 Kc17 List.not_mem_nil
        have O_ky_17 := R_IN_keep O_ky_16 Kc17 List.not_mem_nil
        have KO_17 := Keep.trans KO_16 Kc17 own_memn
        have O_b16_17 := R_IN_keep O16 Kc17 List.not_mem_nil
        have ne_M_b17 : M ≠ b17 := own_exane O_M_17.1 O17.1 (by decide)
        have ne_r_b17 : r ≠ b17 := own_exane O_r_17.1 O17.1 (by decide)
        have ne_t_b17 : t ≠ b17 := own_exane O_t_17.1 O17.1 (by decide)
        have Z17 : n0 ≤ T17.heap.size := Nat.le_trans Z16 Kc17.1
        refine g_call (own_callV X17 hx hZ (y := Y19) hown (Wd26 hw) (Wd27 hw) (Wd29 hw) (Wd28 hw) (Wd30 hw) (Wd2 hw) (by decide) (rm_put_129 l Z a0 hw M b16 b17 r mc p3 p5 kx vx t x ky vy y T17.heap n0 Z17 O_M_17 O_b16_17 O17 O_r_17 O_kx_17 O_t_17 O_ky_17 ne_M_b16 ne_M_b17 ne_M_r ne_M_kx ne_M_t ne_M_ky (Ne.symm ne_r_b16) (Ne.symm ne_t_b16) (Ne.symm ne_r_b17) (Ne.symm ne_t_b17) ne_r_kx ne_r_t ne_r_ky (Ne.symm ne_t_kx) ne_t_ky g_M g_r g_t t63_2 t63_2' t65_9 t65_9') (rfl : T17.heap = T17.heap) O_M_17.1 pd_16 (hb hby at_74) (by rw [hml]; rfl) (argsL := [(.ref b16), (.ref b17)]) (rest := []) rfl rfl rfl (W := 0) (Nat.le_of_eq rfl) (by decide)) (fun v18 T18 L18 X18 q18 => ?_)
        obtain ⟨b18_0, rfl, M18, Kc18, zb18_0, Rk18_0, Rk18_1, Rk18_2, Rk18_3⟩ := q18
        have N18 := Fr.app N17 M18
        have ne_M_b18_0 : M ≠ b18_0 := Nat.ne_of_lt (Nat.lt_of_lt_of_le O_M_17.1.lt zb18_0)
        have ne_r_b18_0 : r ≠ b18_0 := Nat.ne_of_lt (Nat.lt_of_lt_of_le O_r_17.1.lt zb18_0)
        have ne_t_b18_0 : t ≠ b18_0 := Nat.ne_of_lt (Nat.lt_of_lt_of_le O_t_17.1.lt zb18_0)
        have ne_kx_b18_0 : kx ≠ b18_0 := Nat.ne_of_lt (Nat.lt_of_lt_of_le O_kx_17.1.lt zb18_0)
        have ne_ky_b18_0 : ky ≠ b18_0 := Nat.ne_of_lt (Nat.lt_of_lt_of_le O_ky_17.1.lt zb18_0)
        have ne_b16_b18_0 : b16 ≠ b18_0 := Nat.ne_of_lt (Nat.lt_of_lt_of_le O_b16_17.1.lt zb18_0)
        have ne_b17_b18_0 : b17 ≠ b18_0 := Nat.ne_of_lt (Nat.lt_of_lt_of_le O17.1.lt zb18_0)
        have g_b18_0 : n0 ≤ b18_0 := Nat.le_trans Z17 zb18_0
        have O_kx_18 := R_IN_keep O_kx_17 Kc18 (own_nin (Ne.symm ne_M_kx) (own_nin (Ne.symm ne_r_kx) (own_nin (Ne.symm ne_t_kx) List.not_mem_nil)))
        have O_ky_18 := R_IN_keep O_ky_17 Kc18 (own_nin (Ne.symm ne_M_ky) (own_nin (Ne.symm ne_r_ky) (own_nin (Ne.symm ne_t_ky) List.not_mem_nil)))
        have KO_18 := Keep.trans KO_17 Kc18 (own_memc (Or.inr (Nat.le_trans hN g_M)) (own_memc (Or.inr (Nat.le_trans hN g_r)) (own_memc (Or.inr (Nat.le_trans hN g_t)) own_memn)))
        have O_b16_18 := R_IN_keep O_b16_17 Kc18 (own_nin (Ne.symm ne_M_b16) (own_nin (Ne.symm ne_r_b16) (own_nin (Ne.symm ne_t_b16) List.not_mem_nil)))
        have O_b17_18 := R_IN_keep O17 Kc18 (own_nin (Ne.symm ne_M_b17) (own_nin (Ne.symm ne_r_b17) (own_nin (Ne.symm ne_t_b17) List.not_mem_nil)))
        have Z18 : n0 ≤ T18.heap.size := Nat.le_trans Z17 Kc18.1
        refine g_pop X18 hx (hb hby at_77) rfl ?_
        show Go p e below (T18.setTop (mkF m 78 #[vi p1, vi p2, vi p3, vi p4, vi p5, vi p6, vi n, vr M, vu, vu, vu, vu, vu] [])) _
        exact seg_78_N l Z a0 hw wc clc p1 p2 p3 p4 p5 p6 n M (mc + (1 : Int32)) t (3 : Int32) T18.heap n0 Z18 hN C1 C2 BX KO_18 Rk18_0 g_M hx hby hml hown hnm hret hlk hZ (Stand.more X18 (by decide) (by decide)) (rfl : T18.heap = T18.heap) N18
theorem seg_36_E (l : Launch) (Z : State) (a0 : Array Value) (hw : HW a0 Z) (wc : Addr) (clc : Cell) (p1 : Int32) (p2 : Int32) (p3 : Int32) (p4 : Int32) (p5 : Int32) (p6 : Int32) (n : Int32) (M : Addr) (mc : Int32) (h0 : Heap) (n0 : Nat) (Z0 : n0 ≤ h0.size) (hN : Z.heap.size ≤ n0) (C1 : Sta Z Z.heap "java/lang/Integer$IntegerCache" "high" "I" (.int 127)) (C2 : Sta Z Z.heap "java/lang/Integer$IntegerCache" "cache" "[Ljava/lang/Integer;" (.ref wc)) (BX : Bxs Z wc clc "java/lang/Integer" "I" (256 : Int32) (fun j => .int (j - (128 : Int32)))) (KO : Keep Z.heap h0 []) (O_M : R_MP Z h0 M .null .null (.int 0) (.int mc)) (g_M : n0 ≤ M) (hn : n < (1 : Int32)) {p : Program} {e : Env} {s : State} {m : MethodId} {below : List Frame} {meth : Method} {c : Code} {args : Array Value} {s₁ : State} {lo : List Loc} (hx : p.tables.exec = Jvm.exec) (hby : c.code = code) (hml : c.maxLocals = maxLocals) (hown : s.vm.findClass "com/example/rosewood/rosewood/RosewoodMapClearPinLaw" = some m.cls) (hnm : meth.name = "law") (hret : meth.sig.returnType = ret) (hlk : meth.locks = false) (hZ : Z.Warmed39 s.vm) (X0 : Stand p l e room_1 s m args below meth c s₁ lo 4 15) (e0 : s₁.heap = h0) (N0 : Fr n0 lo) :
    Go p e below (s₁.setTop (mkF m 36 #[vi p1, vi p2, vi p3, vi p4, vi p5, vi p6, vi n, vr M, vu, vu, vu, vu, vu] [])) (FinE s room_1.cells room_1.slots (fun v h L => v = some (.int 1) ∧ Fr n0 L)) := by
  show Go p e below (s₁.setTop (mkF m 36 #[vi p1, vi p2, vi p3, vi p4, vi p5, vi p6, vi n, vr M, vu, vu, vu, vu, vu] [])) _
  refine g_iload X0 hx (hb hby at_36) rfl ?_
  refine g_iconst X0 hx (2 : Int32) (hb hby at_38) (by decide) ?_
  have c39_1 : n < (2 : Int32) := (by have u0 := hn; (try simp only [own_S, Int32.lt_iff_toInt_lt, ← Int32.toInt_inj, Int32.reduceToInt] at u0) <;> (try simp only [own_S, Int32.lt_iff_toInt_lt, ← Int32.toInt_inj, Int32.reduceToInt]) <;> first | omega | (simp; done) | (simp; omega))
  refine g_icmpYes X0 hx 57 (hb hby at_39) (tlt c39_1).1 (by decide) (by decide) ?_
  show Go p e below (s₁.setTop (mkF m 57 #[vi p1, vi p2, vi p3, vi p4, vi p5, vi p6, vi n, vr M, vu, vu, vu, vu, vu] [])) _
  exact seg_57_E l Z a0 hw wc clc p1 p2 p3 p4 p5 p6 n M mc h0 n0 Z0 hN C1 C2 BX KO O_M g_M (by have u0 := hn; (try simp only [own_S, Int32.lt_iff_toInt_lt, ← Int32.toInt_inj, Int32.reduceToInt] at u0) <;> (try simp only [own_S, Int32.lt_iff_toInt_lt, ← Int32.toInt_inj, Int32.reduceToInt]) <;> first | omega | (simp; done) | (simp; omega)) hx hby hml hown hnm hret hlk hZ (Stand.more X0 (by decide) (by decide)) e0 N0
theorem seg_36_1 (l : Launch) (Z : State) (a0 : Array Value) (hw : HW a0 Z) (wc : Addr) (clc : Cell) (p1 : Int32) (p2 : Int32) (p3 : Int32) (p4 : Int32) (p5 : Int32) (p6 : Int32) (n : Int32) (M : Addr) (mc : Int32) (r : Addr) (kx : Addr) (vx : Addr) (x : Int32) (h0 : Heap) (n0 : Nat) (Z0 : n0 ≤ h0.size) (hN : Z.heap.size ≤ n0) (C1 : Sta Z Z.heap "java/lang/Integer$IntegerCache" "high" "I" (.int 127)) (C2 : Sta Z Z.heap "java/lang/Integer$IntegerCache" "cache" "[Ljava/lang/Integer;" (.ref wc)) (BX : Bxs Z wc clc "java/lang/Integer" "I" (256 : Int32) (fun j => .int (j - (128 : Int32)))) (KO : Keep Z.heap h0 []) (O_M : R_MP Z h0 M .null (.ref r) (.int 1) (.int mc)) (O_r : R_ND Z h0 r (.ref kx) (.ref vx) .null .null .null (.int 0)) (O_kx : R_IN Z h0 kx (.int x)) (ne_M_r : M ≠ r) (ne_M_kx : M ≠ kx) (ne_r_kx : r ≠ kx) (g_M : n0 ≤ M) (g_r : n0 ≤ r) {p : Program} {e : Env} {s : State} {m : MethodId} {below : List Frame} {meth : Method} {c : Code} {args : Array Value} {s₁ : State} {lo : List Loc} (hx : p.tables.exec = Jvm.exec) (hby : c.code = code) (hml : c.maxLocals = maxLocals) (hown : s.vm.findClass "com/example/rosewood/rosewood/RosewoodMapClearPinLaw" = some m.cls) (hnm : meth.name = "law") (hret : meth.sig.returnType = ret) (hlk : meth.locks = false) (hZ : Z.Warmed39 s.vm) (X0 : Stand p l e room_1 s m args below meth c s₁ lo 4 15) (e0 : s₁.heap = h0) (N0 : Fr n0 lo) :
    Go p e below (s₁.setTop (mkF m 36 #[vi p1, vi p2, vi p3, vi p4, vi p5, vi p6, vi n, vr M, vu, vu, vu, vu, vu] [])) (FinE s room_1.cells room_1.slots (fun v h L => v = some (.int 1) ∧ Fr n0 L)) := by
  show Go p e below (s₁.setTop (mkF m 36 #[vi p1, vi p2, vi p3, vi p4, vi p5, vi p6, vi n, vr M, vu, vu, vu, vu, vu] [])) _
  refine g_iload X0 hx (hb hby at_36) rfl ?_
  refine g_iconst X0 hx (2 : Int32) (hb hby at_38) (by decide) ?_
  by_cases c39_1 : n < (2 : Int32)
  · refine g_icmpYes X0 hx 57 (hb hby at_39) (tlt c39_1).1 (by decide) (by decide) ?_
    show Go p e below (s₁.setTop (mkF m 57 #[vi p1, vi p2, vi p3, vi p4, vi p5, vi p6, vi n, vr M, vu, vu, vu, vu, vu] [])) _
    exact seg_57_1 l Z a0 hw wc clc p1 p2 p3 p4 p5 p6 n M mc r kx vx x h0 n0 Z0 hN C1 C2 BX KO O_M O_r O_kx ne_M_r ne_M_kx ne_r_kx g_M g_r hx hby hml hown hnm hret hlk hZ (Stand.more X0 (by decide) (by decide)) e0 N0
  · refine g_icmpNo X0 hx (hb hby at_39) (flt c39_1).1 ?_
    show Go p e below (s₁.setTop (mkF m 42 #[vi p1, vi p2, vi p3, vi p4, vi p5, vi p6, vi n, vr M, vu, vu, vu, vu, vu] [])) _
    rcases own_tri p2 x with t42_2 | ⟨t42_2, t42_2'⟩ | ⟨t42_2, t42_2'⟩
    · refine g_aload X0 hx (hb hby at_42) rfl rfl ?_
      refine g_iloadN X0 hx (hb hby at_44) rfl ?_
      refine g_call (own_callS X0 hx hZ (y := Y2) hown (Wd19 hw) (Wd20 hw) (Wd21 hw) (Wd22 hw) (by decide) (rm_valueOf l Z a0 hw wc clc p2 h0 n0 Z0 hN C1 C2 BX KO) e0 pd_4 (hb hby at_45) (by rw [hml]; rfl) (argsL := [(.int p2)]) (rest := [(.ref M)]) rfl rfl rfl (W := 1) (Nat.le_of_eq rfl) (by decide)) (fun v3 T3 L3 X3 q3 => ?_)
      obtain ⟨b3, rfl, M3, Kc3, O3⟩ := q3
      have N3 := Fr.app N0 M3
      have O_M_3 := R_MP_keep O_M Kc3 List.not_mem_nil
      have O_r_3 := R_ND_keep O_r Kc3 List.not_mem_nil
      have O_kx_3 := R_IN_keep O_kx Kc3 List.not_mem_nil
      have KO_3 := Keep.trans KO Kc3 own_memn
      have ne_M_b3 : M ≠ b3 := own_exane O_M_3.1 O3.1 (by decide)
      have ne_r_b3 : r ≠ b3 := own_exane O_r_3.1 O3.1 (by decide)
      have Z3 : n0 ≤ T3.heap.size := Nat.le_trans Z0 Kc3.1
      refine g_iload X3 hx (hb hby at_48) rfl ?_
      refine g_call (own_callS X3 hx hZ (y := Y2) hown (Wd19 hw) (Wd20 hw) (Wd21 hw) (Wd22 hw) (by decide) (rm_valueOf l Z a0 hw wc clc p5 T3.heap n0 Z3 hN C1 C2 BX KO_3) (rfl : T3.heap = T3.heap) pd_4 (hb hby at_50) (by rw [hml]; rfl) (argsL := [(.int p5)]) (rest := [(.ref b3), (.ref M)]) rfl rfl rfl (W := 2) (Nat.le_of_eq rfl) (by decide)) (fun v4 T4 L4 X4 q4 => ?_)
      obtain ⟨b4, rfl, M4, Kc4, O4⟩ := q4
      have N4 := Fr.app N3 M4
      have O_M_4 := R_MP_keep O_M_3 Kc4 List.not_mem_nil
      have O_r_4 := R_ND_keep O_r_3 Kc4 List.not_mem_nil
      have O_kx_4 := R_IN_keep O_kx_3 Kc4 List.not_mem_nil
      have KO_4 := Keep.trans KO_3 Kc4 own_memn
      have O_b3_4 := R_IN_keep O3 Kc4 List.not_mem_nil
      have ne_M_b4 : M ≠ b4 := own_exane O_M_4.1 O4.1 (by decide)
      have ne_r_b4 : r ≠ b4 := own_exane O_r_4.1 O4.1 (by decide)
      have Z4 : n0 ≤ T4.heap.size := Nat.le_trans Z3 Kc4.1
      refine g_call (own_callV X4 hx hZ (y := Y19) hown (Wd26 hw) (Wd27 hw) (Wd29 hw) (Wd28 hw) (Wd30 hw) (Wd2 hw) (by decide) (rm_put_30 l Z a0 hw M b3 b4 r mc p2 p5 kx vx x T4.heap n0 Z4 O_M_4 O_b3_4 O4 O_r_4 O_kx_4 ne_M_b3 ne_M_b4 ne_M_r ne_M_kx (Ne.symm ne_r_b3) (Ne.symm ne_r_b4) ne_r_kx g_M g_r t42_2) (rfl : T4.heap = T4.heap) O_M_4.1 pd_16 (hb hby at_53) (by rw [hml]; rfl) (argsL := [(.ref b3), (.ref b4)]) (rest := []) rfl rfl rfl (W := 0) (Nat.le_of_eq rfl) (by decide)) (fun v5 T5 L5 X5 q5 => ?_)
      obtain ⟨b5_0, rfl, M5, Kc5, zb5_0, Rk5_0, Rk5_1, Rk5_2⟩ := q5
      have N5 := Fr.app N4 M5
      have ne_M_b5_0 : M ≠ b5_0 := Nat.ne_of_lt (Nat.lt_of_lt_of_le O_M_4.1.lt zb5_0)
      have ne_r_b5_0 : r ≠ b5_0 := Nat.ne_of_lt (Nat.lt_of_lt_of_le O_r_4.1.lt zb5_0)
      have ne_kx_b5_0 : kx ≠ b5_0 := Nat.ne_of_lt (Nat.lt_of_lt_of_le O_kx_4.1.lt zb5_0)
      have ne_b3_b5_0 : b3 ≠ b5_0 := Nat.ne_of_lt (Nat.lt_of_lt_of_le O_b3_4.1.lt zb5_0)
      have ne_b4_b5_0 : b4 ≠ b5_0 := Nat.ne_of_lt (Nat.lt_of_lt_of_le O4.1.lt zb5_0)
      have g_b5_0 : n0 ≤ b5_0 := Nat.le_trans Z4 zb5_0
      have O_kx_5 := R_IN_keep O_kx_4 Kc5 (own_nin (Ne.symm ne_M_kx) (own_nin (Ne.symm ne_r_kx) List.not_mem_nil))
      have KO_5 := Keep.trans KO_4 Kc5 (own_memc (Or.inr (Nat.le_trans hN g_M)) (own_memc (Or.inr (Nat.le_trans hN g_r)) own_memn))
      have O_b3_5 := R_IN_keep O_b3_4 Kc5 (own_nin (Ne.symm ne_M_b3) (own_nin (Ne.symm ne_r_b3) List.not_mem_nil))
      have O_b4_5 := R_IN_keep O4 Kc5 (own_nin (Ne.symm ne_M_b4) (own_nin (Ne.symm ne_r_b4) List.not_mem_nil))
      have Z5 : n0 ≤ T5.heap.size := Nat.le_trans Z4 Kc5.1
      refine g_pop X5 hx (hb hby at_56) rfl ?_
      show Go p e below (T5.setTop (mkF m 57 #[vi p1, vi p2, vi p3, vi p4, vi p5, vi p6, vi n, vr M, vu, vu, vu, vu, vu] [])) _
      exact seg_57_2L l Z a0 hw wc clc p1 p2 p3 p4 p5 p6 n M (mc + (1 : Int32)) r b5_0 kx vx x b3 b4 p2 T5.heap n0 Z5 hN C1 C2 BX KO_5 Rk5_0 Rk5_1 Rk5_2 O_kx_5 O_b3_5 ne_M_r ne_M_b5_0 ne_M_kx ne_M_b3 ne_r_b5_0 ne_r_kx ne_r_b3 (Ne.symm ne_kx_b5_0) (Ne.symm ne_b3_b5_0) g_M g_r g_b5_0 hx hby hml hown hnm hret hlk hZ (Stand.more X5 (by decide) (by decide)) (rfl : T5.heap = T5.heap) N5
    · refine g_aload X0 hx (hb hby at_42) rfl rfl ?_
      refine g_iloadN X0 hx (hb hby at_44) rfl ?_
      refine g_call (own_callS X0 hx hZ (y := Y2) hown (Wd19 hw) (Wd20 hw) (Wd21 hw) (Wd22 hw) (by decide) (rm_valueOf l Z a0 hw wc clc p2 h0 n0 Z0 hN C1 C2 BX KO) e0 pd_4 (hb hby at_45) (by rw [hml]; rfl) (argsL := [(.int p2)]) (rest := [(.ref M)]) rfl rfl rfl (W := 1) (Nat.le_of_eq rfl) (by decide)) (fun v6 T6 L6 X6 q6 => ?_)
      obtain ⟨b6, rfl, M6, Kc6, O6⟩ := q6
      have N6 := Fr.app N0 M6
      have O_M_6 := R_MP_keep O_M Kc6 List.not_mem_nil
      have O_r_6 := R_ND_keep O_r Kc6 List.not_mem_nil
      have O_kx_6 := R_IN_keep O_kx Kc6 List.not_mem_nil
      have KO_6 := Keep.trans KO Kc6 own_memn
      have ne_M_b6 : M ≠ b6 := own_exane O_M_6.1 O6.1 (by decide)
      have ne_r_b6 : r ≠ b6 := own_exane O_r_6.1 O6.1 (by decide)
      have Z6 : n0 ≤ T6.heap.size := Nat.le_trans Z0 Kc6.1
      refine g_iload X6 hx (hb hby at_48) rfl ?_
      refine g_call (own_callS X6 hx hZ (y := Y2) hown (Wd19 hw) (Wd20 hw) (Wd21 hw) (Wd22 hw) (by decide) (rm_valueOf l Z a0 hw wc clc p5 T6.heap n0 Z6 hN C1 C2 BX KO_6) (rfl : T6.heap = T6.heap) pd_4 (hb hby at_50) (by rw [hml]; rfl) (argsL := [(.int p5)]) (rest := [(.ref b6), (.ref M)]) rfl rfl rfl (W := 2) (Nat.le_of_eq rfl) (by decide)) (fun v7 T7 L7 X7 q7 => ?_)
      obtain ⟨b7, rfl, M7, Kc7, O7⟩ := q7
      have N7 := Fr.app N6 M7
      have O_M_7 := R_MP_keep O_M_6 Kc7 List.not_mem_nil
      have O_r_7 := R_ND_keep O_r_6 Kc7 List.not_mem_nil
      have O_kx_7 := R_IN_keep O_kx_6 Kc7 List.not_mem_nil
      have KO_7 := Keep.trans KO_6 Kc7 own_memn
      have O_b6_7 := R_IN_keep O6 Kc7 List.not_mem_nil
      have ne_M_b7 : M ≠ b7 := own_exane O_M_7.1 O7.1 (by decide)
      have ne_r_b7 : r ≠ b7 := own_exane O_r_7.1 O7.1 (by decide)
      have Z7 : n0 ≤ T7.heap.size := Nat.le_trans Z6 Kc7.1
      refine g_call (own_callV X7 hx hZ (y := Y19) hown (Wd26 hw) (Wd27 hw) (Wd29 hw) (Wd28 hw) (Wd30 hw) (Wd2 hw) (by decide) (rm_put_43 l Z a0 hw M b6 b7 r mc p2 p5 kx vx x T7.heap n0 Z7 O_M_7 O_b6_7 O7 O_r_7 O_kx_7 ne_M_r (Ne.symm ne_r_b6) (Ne.symm ne_r_b7) ne_r_kx g_r t42_2 t42_2') (rfl : T7.heap = T7.heap) O_M_7.1 pd_16 (hb hby at_53) (by rw [hml]; rfl) (argsL := [(.ref b6), (.ref b7)]) (rest := []) rfl rfl rfl (W := 0) (Nat.le_of_eq rfl) (by decide)) (fun v8 T8 L8 X8 q8 => ?_)
      obtain ⟨rfl, M8, Kc8, Rk8_0⟩ := q8
      have N8 := Fr.app N7 M8
      have O_M_8 := R_MP_keep O_M_7 Kc8 (own_nin ne_M_r List.not_mem_nil)
      have O_kx_8 := R_IN_keep O_kx_7 Kc8 (own_nin (Ne.symm ne_r_kx) List.not_mem_nil)
      have KO_8 := Keep.trans KO_7 Kc8 (own_memc (Or.inr (Nat.le_trans hN g_r)) own_memn)
      have O_b6_8 := R_IN_keep O_b6_7 Kc8 (own_nin (Ne.symm ne_r_b6) List.not_mem_nil)
      have O_b7_8 := R_IN_keep O7 Kc8 (own_nin (Ne.symm ne_r_b7) List.not_mem_nil)
      have Z8 : n0 ≤ T8.heap.size := Nat.le_trans Z7 Kc8.1
      refine g_pop X8 hx (hb hby at_56) rfl ?_
      show Go p e below (T8.setTop (mkF m 57 #[vi p1, vi p2, vi p3, vi p4, vi p5, vi p6, vi n, vr M, vu, vu, vu, vu, vu] [])) _
      exact seg_57_1 l Z a0 hw wc clc p1 p2 p3 p4 p5 p6 n M mc r kx b7 x T8.heap n0 Z8 hN C1 C2 BX KO_8 O_M_8 Rk8_0 O_kx_8 ne_M_r ne_M_kx ne_r_kx g_M g_r hx hby hml hown hnm hret hlk hZ (Stand.more X8 (by decide) (by decide)) (rfl : T8.heap = T8.heap) N8
    · refine g_aload X0 hx (hb hby at_42) rfl rfl ?_
      refine g_iloadN X0 hx (hb hby at_44) rfl ?_
      refine g_call (own_callS X0 hx hZ (y := Y2) hown (Wd19 hw) (Wd20 hw) (Wd21 hw) (Wd22 hw) (by decide) (rm_valueOf l Z a0 hw wc clc p2 h0 n0 Z0 hN C1 C2 BX KO) e0 pd_4 (hb hby at_45) (by rw [hml]; rfl) (argsL := [(.int p2)]) (rest := [(.ref M)]) rfl rfl rfl (W := 1) (Nat.le_of_eq rfl) (by decide)) (fun v9 T9 L9 X9 q9 => ?_)
      obtain ⟨b9, rfl, M9, Kc9, O9⟩ := q9
      have N9 := Fr.app N0 M9
      have O_M_9 := R_MP_keep O_M Kc9 List.not_mem_nil
      have O_r_9 := R_ND_keep O_r Kc9 List.not_mem_nil
      have O_kx_9 := R_IN_keep O_kx Kc9 List.not_mem_nil
      have KO_9 := Keep.trans KO Kc9 own_memn
      have ne_M_b9 : M ≠ b9 := own_exane O_M_9.1 O9.1 (by decide)
      have ne_r_b9 : r ≠ b9 := own_exane O_r_9.1 O9.1 (by decide)
      have Z9 : n0 ≤ T9.heap.size := Nat.le_trans Z0 Kc9.1
      refine g_iload X9 hx (hb hby at_48) rfl ?_
      refine g_call (own_callS X9 hx hZ (y := Y2) hown (Wd19 hw) (Wd20 hw) (Wd21 hw) (Wd22 hw) (by decide) (rm_valueOf l Z a0 hw wc clc p5 T9.heap n0 Z9 hN C1 C2 BX KO_9) (rfl : T9.heap = T9.heap) pd_4 (hb hby at_50) (by rw [hml]; rfl) (argsL := [(.int p5)]) (rest := [(.ref b9), (.ref M)]) rfl rfl rfl (W := 2) (Nat.le_of_eq rfl) (by decide)) (fun v10 T10 L10 X10 q10 => ?_)
      obtain ⟨b10, rfl, M10, Kc10, O10⟩ := q10
      have N10 := Fr.app N9 M10
      have O_M_10 := R_MP_keep O_M_9 Kc10 List.not_mem_nil
      have O_r_10 := R_ND_keep O_r_9 Kc10 List.not_mem_nil
      have O_kx_10 := R_IN_keep O_kx_9 Kc10 List.not_mem_nil
      have KO_10 := Keep.trans KO_9 Kc10 own_memn
      have O_b9_10 := R_IN_keep O9 Kc10 List.not_mem_nil
      have ne_M_b10 : M ≠ b10 := own_exane O_M_10.1 O10.1 (by decide)
      have ne_r_b10 : r ≠ b10 := own_exane O_r_10.1 O10.1 (by decide)
      have Z10 : n0 ≤ T10.heap.size := Nat.le_trans Z9 Kc10.1
      refine g_call (own_callV X10 hx hZ (y := Y19) hown (Wd26 hw) (Wd27 hw) (Wd29 hw) (Wd28 hw) (Wd30 hw) (Wd2 hw) (by decide) (rm_put_52 l Z a0 hw M b9 b10 r mc p2 p5 kx vx x T10.heap n0 Z10 O_M_10 O_b9_10 O10 O_r_10 O_kx_10 ne_M_b9 ne_M_b10 ne_M_r ne_M_kx (Ne.symm ne_r_b9) (Ne.symm ne_r_b10) ne_r_kx g_M g_r t42_2 t42_2') (rfl : T10.heap = T10.heap) O_M_10.1 pd_16 (hb hby at_53) (by rw [hml]; rfl) (argsL := [(.ref b9), (.ref b10)]) (rest := []) rfl rfl rfl (W := 0) (Nat.le_of_eq rfl) (by decide)) (fun v11 T11 L11 X11 q11 => ?_)
      obtain ⟨b11_0, rfl, M11, Kc11, zb11_0, Rk11_0, Rk11_1, Rk11_2⟩ := q11
      have N11 := Fr.app N10 M11
      have ne_M_b11_0 : M ≠ b11_0 := Nat.ne_of_lt (Nat.lt_of_lt_of_le O_M_10.1.lt zb11_0)
      have ne_r_b11_0 : r ≠ b11_0 := Nat.ne_of_lt (Nat.lt_of_lt_of_le O_r_10.1.lt zb11_0)
      have ne_kx_b11_0 : kx ≠ b11_0 := Nat.ne_of_lt (Nat.lt_of_lt_of_le O_kx_10.1.lt zb11_0)
      have ne_b9_b11_0 : b9 ≠ b11_0 := Nat.ne_of_lt (Nat.lt_of_lt_of_le O_b9_10.1.lt zb11_0)
      have ne_b10_b11_0 : b10 ≠ b11_0 := Nat.ne_of_lt (Nat.lt_of_lt_of_le O10.1.lt zb11_0)
      have g_b11_0 : n0 ≤ b11_0 := Nat.le_trans Z10 zb11_0
      have O_kx_11 := R_IN_keep O_kx_10 Kc11 (own_nin (Ne.symm ne_M_kx) (own_nin (Ne.symm ne_r_kx) List.not_mem_nil))
      have KO_11 := Keep.trans KO_10 Kc11 (own_memc (Or.inr (Nat.le_trans hN g_M)) (own_memc (Or.inr (Nat.le_trans hN g_r)) own_memn))
      have O_b9_11 := R_IN_keep O_b9_10 Kc11 (own_nin (Ne.symm ne_M_b9) (own_nin (Ne.symm ne_r_b9) List.not_mem_nil))
      have O_b10_11 := R_IN_keep O10 Kc11 (own_nin (Ne.symm ne_M_b10) (own_nin (Ne.symm ne_r_b10) List.not_mem_nil))
      have Z11 : n0 ≤ T11.heap.size := Nat.le_trans Z10 Kc11.1
      refine g_pop X11 hx (hb hby at_56) rfl ?_
      show Go p e below (T11.setTop (mkF m 57 #[vi p1, vi p2, vi p3, vi p4, vi p5, vi p6, vi n, vr M, vu, vu, vu, vu, vu] [])) _
      exact seg_57_2R l Z a0 hw wc clc p1 p2 p3 p4 p5 p6 n M (mc + (1 : Int32)) r b11_0 kx vx x b9 b10 p2 T11.heap n0 Z11 hN C1 C2 BX KO_11 Rk11_0 Rk11_1 Rk11_2 O_kx_11 O_b9_11 ne_M_r ne_M_b11_0 ne_M_kx ne_M_b9 ne_r_b11_0 ne_r_kx ne_r_b9 (Ne.symm ne_kx_b11_0) (Ne.symm ne_b9_b11_0) g_M g_r g_b11_0 hx hby hml hown hnm hret hlk hZ (Stand.more X11 (by decide) (by decide)) (rfl : T11.heap = T11.heap) N11
theorem rm_addIfAbsent_135 (l : Launch) (Z : State) (a0 : Array Value) (hw : HW a0 Z) (a1 : Addr) (a2 : Addr) (a3 : Addr) (i1 : Int32) (i2 : Int32) (i3 : Int32) (h0 : Heap) (n0 : Nat) (Z0 : n0 ≤ h0.size) (O_a1 : R_MP Z h0 a1 .null .null (.int 0) (.int i1)) (O_a2 : R_IN Z h0 a2 (.int i2)) (O_a3 : R_IN Z h0 a3 (.int i3)) (ne_a1_a2 : a1 ≠ a2) (ne_a1_a3 : a1 ≠ a3) (g_a1 : n0 ≤ a1) :
    CtrH l Y18 prog_7_method_65_code 15 (some (FieldType.object "com/example/rosewood/rosewood/RosewoodMap$Node")) [(71, 122, 210, 0), (137, 195, 210, 0), (210, 212, 210, 0)] ({ frames := 4, cells := 1, slots := 6, locals := 53 } : Room) Z #[(.ref a1), (.ref a2), (.ref a3)] h0 (fun v h L => ∃ f1, v = some .null ∧ Fr n0 L ∧ Keep h0 h [a1] ∧ h0.size ≤ f1 ∧ R_MP Z h a1 .null (.ref f1) (.int 1) (.int (i1 + (1 : Int32))) ∧ R_ND Z h f1 (.ref a2) (.ref a3) .null .null .null (.int 0)) := by
  refine own_enterH pn_2 (fun p e s m below meth c s₁ hx hby hml hown hnm hret hlk hZ X0 e0 => ?_)
  have N0 := Fr.nil n0
  have K0 := Keep.refl h0 [a1]
  rw [ef_38_RRR m _ _ _]
  show Go p e below (s₁.setTop (mkF m 0 #[vr a1, vr a2, vr a3, vu, vu, vu, vu, vu, vu, vu, vu, vu, vu, vu, vu] [])) _
  refine g_aloadN X0 hx (hb hby d38_0) rfl rfl ?_
  refine g_getF X0 hx hZ hown (Wd35 hw) e0 O_a1.2.2.1 (hb hby d38_1) (fun T1 X1 e1 => ?_)
  refine g_nonnullNo X1 hx (hb hby d38_4) ?_
  refine g_aloadN X1 hx (hb hby d38_7) rfl rfl ?_
  refine g_aloadN X1 hx (hb hby d38_8) rfl rfl ?_
  refine g_aloadN X1 hx (hb hby d38_9) rfl rfl ?_
  refine g_call (own_callV X1 hx hZ (y := Y13) hown (Wd37 hw) (Wd38 hw) (Wd40 hw) (Wd39 hw) (Wd41 hw) (Wd2 hw) (by decide) (rm_compare_12 l Z a0 hw a1 a2 i1 i2 h0 n0 Z0 O_a1 O_a2) e1 O_a1.1 pd_11 (hb hby d38_10) (by rw [hml]; rfl) (argsL := [(.ref a2), (.ref a2)]) (rest := []) rfl rfl rfl (W := 0) (Nat.le_of_eq rfl) (by decide)) (fun v2 T2 L2 X2 q2 => ?_)
  obtain ⟨rfl, M2, e2⟩ := q2
  have N2 := Fr.app N0 M2
  refine g_pop X2 hx (hb hby d38_13) rfl ?_
  refine g_aloadN X2 hx (hb hby d38_14) rfl rfl ?_
  refine g_aloadN X2 hx (hb hby d38_15) rfl rfl ?_
  refine g_aloadN X2 hx (hb hby d38_16) rfl rfl ?_
  refine g_aloadN X2 hx (hb hby d38_17) rfl rfl ?_
  refine g_null X2 hx (hb hby d38_18) ?_
  refine g_call (own_callV X2 hx hZ (y := Y16) hown (Wd64 hw) (Wd65 hw) (Wd67 hw) (Wd66 hw) (Wd68 hw) (Wd2 hw) (by decide) (rm_newNode_16 l Z a0 hw a1 a2 a3 h0 n0 Z0 ) e2 O_a1.1 pd_13 (hb hby d38_19) (by rw [hml]; rfl) (argsL := [(.ref a2), (.ref a3), .null]) (rest := [(.ref a1)]) rfl rfl rfl (W := 1) (Nat.le_of_eq rfl) (by decide)) (fun v3 T3 L3 X3 q3 => ?_)
  obtain ⟨b3_0, rfl, M3, Kc3, zb3_0, Rk3_0⟩ := q3
  have N3 := Fr.app N2 M3
  have ne_a1_b3_0 : a1 ≠ b3_0 := Nat.ne_of_lt (Nat.lt_of_lt_of_le O_a1.1.lt zb3_0)
  have ne_a2_b3_0 : a2 ≠ b3_0 := Nat.ne_of_lt (Nat.lt_of_lt_of_le O_a2.1.lt zb3_0)
  have ne_a3_b3_0 : a3 ≠ b3_0 := Nat.ne_of_lt (Nat.lt_of_lt_of_le O_a3.1.lt zb3_0)
  have g_b3_0 : n0 ≤ b3_0 := Nat.le_trans Z0 zb3_0
  have sz_b3_0 : h0.size ≤ b3_0 := Nat.le_trans K0.1 zb3_0
  have O_a1_3 := R_MP_keep O_a1 Kc3 List.not_mem_nil
  have O_a2_3 := R_IN_keep O_a2 Kc3 List.not_mem_nil
  have O_a3_3 := R_IN_keep O_a3 Kc3 List.not_mem_nil
  have K3 := Keep.trans K0 Kc3 own_memn
  have Z3 : n0 ≤ T3.heap.size := Nat.le_trans Z0 Kc3.1
  refine g_putF X3 hx hZ hown (Wd35 hw) (rfl : T3.heap = T3.heap) O_a1_3.2.2.1 O_a1_3.1 (Or.inl (Wd36 hw)) (Wd1 hw) fd_2 rfl rfl (hb hby d38_22) (fun T4 h4 X4 e4 W4 => ?_)
  have N4 := Fr.snoc X4 N3 g_a1
  have O_a1_4 := R_MP_set_root hw W4 O_a1_3
  have O_a2_4 := R_IN_other W4 O_a2_3 (Ne.symm ne_a1_a2)
  have O_a3_4 := R_IN_other W4 O_a3_3 (Ne.symm ne_a1_a3)
  have O_b3_0_4 := R_ND_other W4 Rk3_0 (Ne.symm ne_a1_b3_0)
  have Z4 : n0 ≤ h4.size := Nat.le_trans Z3 (Nat.le_of_eq W4.size.symm)
  have K4 := Keep.wr K3 W4 (Or.inl (List.mem_of_getElem? (i := 0) rfl))
  refine g_aloadN X4 hx (hb hby d38_25) rfl rfl ?_
  refine g_getF X4 hx hZ hown (Wd35 hw) e4 O_a1_4.2.2.1 (hb hby d38_26) (fun T5 X5 e5 => ?_)
  refine g_iconst X5 hx (0 : Int32) (hb hby d38_29) (by decide) ?_
  refine g_call (own_callS X5 hx hZ (y := Y17) hown (Wd85 hw) (Wd86 hw) (Wd2 hw) (Wd87 hw) (by decide) (rm_setRed_18 l Z a0 hw b3_0 a2 a3 h4 n0 Z4 O_b3_0_4 g_b3_0) e5 pd_14 (hb hby d38_30) (by rw [hml]; rfl) (argsL := [(.ref b3_0), (.int 0)]) (rest := []) rfl rfl rfl (W := 0) (Nat.le_of_eq rfl) (by decide)) (fun v6 T6 L6 X6 q6 => ?_)
  obtain ⟨rfl, M6, Kc6, Rk6_0⟩ := q6
  have N6 := Fr.app N4 M6
  have O_a1_6 := R_MP_keep O_a1_4 Kc6 (own_nin ne_a1_b3_0 List.not_mem_nil)
  have O_a2_6 := R_IN_keep O_a2_4 Kc6 (own_nin ne_a2_b3_0 List.not_mem_nil)
  have O_a3_6 := R_IN_keep O_a3_4 Kc6 (own_nin ne_a3_b3_0 List.not_mem_nil)
  have K6 := Keep.trans K4 Kc6 (own_memc (Or.inr sz_b3_0) own_memn)
  have Z6 : n0 ≤ T6.heap.size := Nat.le_trans Z4 Kc6.1
  refine g_aloadN X6 hx (hb hby d38_33) rfl rfl ?_
  refine g_iconst X6 hx (1 : Int32) (hb hby d38_34) (by decide) ?_
  refine g_putF X6 hx hZ hown (Wd90 hw) (rfl : T6.heap = T6.heap) O_a1_6.2.2.2.1 O_a1_6.1 (Or.inl (Wd91 hw)) (Wd1 hw) fd_0 rfl rfl (hb hby d38_35) (fun T7 h7 X7 e7 W7 => ?_)
  have N7 := Fr.snoc X7 N6 g_a1
  have O_a1_7 := R_MP_set_size hw W7 O_a1_6
  have O_a2_7 := R_IN_other W7 O_a2_6 (Ne.symm ne_a1_a2)
  have O_a3_7 := R_IN_other W7 O_a3_6 (Ne.symm ne_a1_a3)
  have O_b3_0_7 := R_ND_other W7 Rk6_0 (Ne.symm ne_a1_b3_0)
  have Z7 : n0 ≤ h7.size := Nat.le_trans Z6 (Nat.le_of_eq W7.size.symm)
  have K7 := Keep.wr K6 W7 (Or.inl (List.mem_of_getElem? (i := 0) rfl))
  refine g_aloadN X7 hx (hb hby d38_38) rfl rfl ?_
  refine g_dup X7 hx (hb hby d38_39) rfl ?_
  refine g_getF X7 hx hZ hown (Wd92 hw) e7 O_a1_7.2.2.2.2 (hb hby d38_40) (fun T8 X8 e8 => ?_)
  refine g_iconst X8 hx (1 : Int32) (hb hby d38_43) (by decide) ?_
  refine g_iadd X8 hx (hb hby d38_44) ?_
  refine g_putF X8 hx hZ hown (Wd92 hw) e8 O_a1_7.2.2.2.2 O_a1_7.1 (Or.inl (Wd93 hw)) (Wd1 hw) fd_0 rfl rfl (hb hby d38_45) (fun T9 h9 X9 e9 W9 => ?_)
  have N9 := Fr.snoc X9 N7 g_a1
  have O_a1_9 := R_MP_set_modCount hw W9 O_a1_7
  have O_a2_9 := R_IN_other W9 O_a2_7 (Ne.symm ne_a1_a2)
  have O_a3_9 := R_IN_other W9 O_a3_7 (Ne.symm ne_a1_a3)
  have O_b3_0_9 := R_ND_other W9 O_b3_0_7 (Ne.symm ne_a1_b3_0)
  have Z9 : n0 ≤ h9.size := Nat.le_trans Z7 (Nat.le_of_eq W9.size.symm)
  have K9 := Keep.wr K7 W9 (Or.inl (List.mem_of_getElem? (i := 0) rfl))
  refine g_null X9 hx (hb hby d38_48) ?_
  exact own_retA X9 hx hret hlk rfl rfl (hb hby d38_49) (by decide) (by decide) (by rw [e9]; exact ⟨b3_0, rfl, N9, K9, sz_b3_0, O_a1_9, O_b3_0_9⟩)
theorem rm_put_134 (l : Launch) (Z : State) (a0 : Array Value) (hw : HW a0 Z) (a1 : Addr) (a2 : Addr) (a3 : Addr) (i1 : Int32) (i2 : Int32) (i3 : Int32) (h0 : Heap) (n0 : Nat) (Z0 : n0 ≤ h0.size) (O_a1 : R_MP Z h0 a1 .null .null (.int 0) (.int i1)) (O_a2 : R_IN Z h0 a2 (.int i2)) (O_a3 : R_IN Z h0 a3 (.int i3)) (ne_a1_a2 : a1 ≠ a2) (ne_a1_a3 : a1 ≠ a3) (g_a1 : n0 ≤ a1) :
    Ctr l Y19 prog_7_method_8_code 4 (some (FieldType.object "java/lang/Object")) [] ({ frames := 5, cells := 1, slots := 6, locals := 79 } : Room) Z #[(.ref a1), (.ref a2), (.ref a3)] h0 (fun v h L => ∃ f1, v = some .null ∧ Fr n0 L ∧ Keep h0 h [a1] ∧ h0.size ≤ f1 ∧ R_MP Z h a1 .null (.ref f1) (.int 1) (.int (i1 + (1 : Int32))) ∧ R_ND Z h f1 (.ref a2) (.ref a3) .null .null .null (.int 0)) := by
  refine own_enter pn_2 (fun p e s m below meth c s₁ hx hby hml hown hnm hret hlk hZ X0 e0 => ?_)
  have N0 := Fr.nil n0
  have K0 := Keep.refl h0 [a1]
  rw [ef_6_RRR m _ _ _]
  show Go p e below (s₁.setTop (mkF m 0 #[vr a1, vr a2, vr a3, vu] [])) _
  refine g_aloadN X0 hx (hb hby d6_0) rfl rfl ?_
  refine g_aloadN X0 hx (hb hby d6_1) rfl rfl ?_
  refine g_aloadN X0 hx (hb hby d6_2) rfl rfl ?_
  refine g_call (own_callPH X0 hx hZ (y := Y18) hown (Wd31 hw) (Wd32 hw) (Wd33 hw) (Wd1 hw) (Wd34 hw) (Wd2 hw) (by decide) (rm_addIfAbsent_135 l Z a0 hw a1 a2 a3 i1 i2 i3 h0 n0 Z0 O_a1 O_a2 O_a3 ne_a1_a2 ne_a1_a3 g_a1) e0 O_a1.1 pd_15 (hb hby d6_3) (by rw [hml]; rfl) (argsL := [(.ref a2), (.ref a3)]) (rest := []) rfl rfl rfl (W := 0) (Nat.le_of_eq rfl) (by decide)) (fun v1 T1 L1 X1 q1 => ?_)
  obtain ⟨b1_0, rfl, M1, Kc1, zb1_0, Rk1_0, Rk1_1⟩ := q1
  have N1 := Fr.app N0 M1
  have ne_a1_b1_0 : a1 ≠ b1_0 := Nat.ne_of_lt (Nat.lt_of_lt_of_le O_a1.1.lt zb1_0)
  have ne_a2_b1_0 : a2 ≠ b1_0 := Nat.ne_of_lt (Nat.lt_of_lt_of_le O_a2.1.lt zb1_0)
  have ne_a3_b1_0 : a3 ≠ b1_0 := Nat.ne_of_lt (Nat.lt_of_lt_of_le O_a3.1.lt zb1_0)
  have g_b1_0 : n0 ≤ b1_0 := Nat.le_trans Z0 zb1_0
  have sz_b1_0 : h0.size ≤ b1_0 := Nat.le_trans K0.1 zb1_0
  have O_a2_1 := R_IN_keep O_a2 Kc1 (own_nin (Ne.symm ne_a1_a2) List.not_mem_nil)
  have O_a3_1 := R_IN_keep O_a3 Kc1 (own_nin (Ne.symm ne_a1_a3) List.not_mem_nil)
  have K1 := Keep.trans K0 Kc1 (own_memc (Or.inl (List.mem_of_getElem? (i := 0) rfl)) own_memn)
  have Z1 : n0 ≤ T1.heap.size := Nat.le_trans Z0 Kc1.1
  refine g_astoreN X1 hx #[vr a1, vr a2, vr a3, vn] (hb hby d6_6) rfl rfl ?_
  refine g_aloadN X1 hx (hb hby d6_7) rfl rfl ?_
  refine g_nonnullNo X1 hx (hb hby d6_8) ?_
  refine g_null X1 hx (hb hby d6_11) ?_
  refine g_goto X1 hx 21 (hb hby d6_12) (by decide) (by decide) ?_
  exact own_retA X1 hx hret hlk rfl rfl (hb hby d6_21) (by decide) (by decide) (by rw [(rfl : T1.heap = T1.heap)]; exact ⟨b1_0, rfl, N1, K1, sz_b1_0, Rk1_0, Rk1_1⟩)
theorem seg_15_E (l : Launch) (Z : State) (a0 : Array Value) (hw : HW a0 Z) (wc : Addr) (clc : Cell) (p1 : Int32) (p2 : Int32) (p3 : Int32) (p4 : Int32) (p5 : Int32) (p6 : Int32) (n : Int32) (M : Addr) (mc : Int32) (h0 : Heap) (n0 : Nat) (Z0 : n0 ≤ h0.size) (hN : Z.heap.size ≤ n0) (C1 : Sta Z Z.heap "java/lang/Integer$IntegerCache" "high" "I" (.int 127)) (C2 : Sta Z Z.heap "java/lang/Integer$IntegerCache" "cache" "[Ljava/lang/Integer;" (.ref wc)) (BX : Bxs Z wc clc "java/lang/Integer" "I" (256 : Int32) (fun j => .int (j - (128 : Int32)))) (KO : Keep Z.heap h0 []) (O_M : R_MP Z h0 M .null .null (.int 0) (.int mc)) (g_M : n0 ≤ M) {p : Program} {e : Env} {s : State} {m : MethodId} {below : List Frame} {meth : Method} {c : Code} {args : Array Value} {s₁ : State} {lo : List Loc} (hx : p.tables.exec = Jvm.exec) (hby : c.code = code) (hml : c.maxLocals = maxLocals) (hown : s.vm.findClass "com/example/rosewood/rosewood/RosewoodMapClearPinLaw" = some m.cls) (hnm : meth.name = "law") (hret : meth.sig.returnType = ret) (hlk : meth.locks = false) (hZ : Z.Warmed39 s.vm) (X0 : Stand p l e room_1 s m args below meth c s₁ lo 1 7) (e0 : s₁.heap = h0) (N0 : Fr n0 lo) :
    Go p e below (s₁.setTop (mkF m 15 #[vi p1, vi p2, vi p3, vi p4, vi p5, vi p6, vi n, vr M, vu, vu, vu, vu, vu] [])) (FinE s room_1.cells room_1.slots (fun v h L => v = some (.int 1) ∧ Fr n0 L)) := by
  show Go p e below (s₁.setTop (mkF m 15 #[vi p1, vi p2, vi p3, vi p4, vi p5, vi p6, vi n, vr M, vu, vu, vu, vu, vu] [])) _
  refine g_iload X0 hx (hb hby at_15) rfl ?_
  refine g_iconst X0 hx (1 : Int32) (hb hby at_17) (by decide) ?_
  by_cases c18_1 : n < (1 : Int32)
  · refine g_icmpYes X0 hx 36 (hb hby at_18) (tlt c18_1).1 (by decide) (by decide) ?_
    show Go p e below (s₁.setTop (mkF m 36 #[vi p1, vi p2, vi p3, vi p4, vi p5, vi p6, vi n, vr M, vu, vu, vu, vu, vu] [])) _
    exact seg_36_E l Z a0 hw wc clc p1 p2 p3 p4 p5 p6 n M mc h0 n0 Z0 hN C1 C2 BX KO O_M g_M (by have u0 : n < (1 : Int32) := c18_1; (try simp only [own_S, Int32.lt_iff_toInt_lt, ← Int32.toInt_inj, Int32.reduceToInt] at u0) <;> (try simp only [own_S, Int32.lt_iff_toInt_lt, ← Int32.toInt_inj, Int32.reduceToInt]) <;> first | omega | (simp; done) | (simp; omega)) hx hby hml hown hnm hret hlk hZ (Stand.more X0 (by decide) (by decide)) e0 N0
  · refine g_icmpNo X0 hx (hb hby at_18) (flt c18_1).1 ?_
    refine g_aload X0 hx (hb hby at_21) rfl rfl ?_
    refine g_iloadN X0 hx (hb hby at_23) rfl ?_
    refine g_call (own_callS X0 hx hZ (y := Y2) hown (Wd19 hw) (Wd20 hw) (Wd21 hw) (Wd22 hw) (by decide) (rm_valueOf l Z a0 hw wc clc p1 h0 n0 Z0 hN C1 C2 BX KO) e0 pd_4 (hb hby at_24) (by rw [hml]; rfl) (argsL := [(.int p1)]) (rest := [(.ref M)]) rfl rfl rfl (W := 1) (Nat.le_of_eq rfl) (by decide)) (fun v2 T2 L2 X2 q2 => ?_)
    obtain ⟨b2, rfl, M2, Kc2, O2⟩ := q2
    have N2 := Fr.app N0 M2
    have O_M_2 := R_MP_keep O_M Kc2 List.not_mem_nil
    have KO_2 := Keep.trans KO Kc2 own_memn
    have ne_M_b2 : M ≠ b2 := own_exane O_M_2.1 O2.1 (by decide)
    have Z2 : n0 ≤ T2.heap.size := Nat.le_trans Z0 Kc2.1
    refine g_iload X2 hx (hb hby at_27) rfl ?_
    refine g_call (own_callS X2 hx hZ (y := Y2) hown (Wd19 hw) (Wd20 hw) (Wd21 hw) (Wd22 hw) (by decide) (rm_valueOf l Z a0 hw wc clc p5 T2.heap n0 Z2 hN C1 C2 BX KO_2) (rfl : T2.heap = T2.heap) pd_4 (hb hby at_29) (by rw [hml]; rfl) (argsL := [(.int p5)]) (rest := [(.ref b2), (.ref M)]) rfl rfl rfl (W := 2) (Nat.le_of_eq rfl) (by decide)) (fun v3 T3 L3 X3 q3 => ?_)
    obtain ⟨b3, rfl, M3, Kc3, O3⟩ := q3
    have N3 := Fr.app N2 M3
    have O_M_3 := R_MP_keep O_M_2 Kc3 List.not_mem_nil
    have KO_3 := Keep.trans KO_2 Kc3 own_memn
    have O_b2_3 := R_IN_keep O2 Kc3 List.not_mem_nil
    have ne_M_b3 : M ≠ b3 := own_exane O_M_3.1 O3.1 (by decide)
    have Z3 : n0 ≤ T3.heap.size := Nat.le_trans Z2 Kc3.1
    refine g_call (own_callV X3 hx hZ (y := Y19) hown (Wd26 hw) (Wd27 hw) (Wd29 hw) (Wd28 hw) (Wd30 hw) (Wd2 hw) (by decide) (rm_put_134 l Z a0 hw M b2 b3 mc p1 p5 T3.heap n0 Z3 O_M_3 O_b2_3 O3 ne_M_b2 ne_M_b3 g_M) (rfl : T3.heap = T3.heap) O_M_3.1 pd_16 (hb hby at_32) (by rw [hml]; rfl) (argsL := [(.ref b2), (.ref b3)]) (rest := []) rfl rfl rfl (W := 0) (Nat.le_of_eq rfl) (by decide)) (fun v4 T4 L4 X4 q4 => ?_)
    obtain ⟨b4_0, rfl, M4, Kc4, zb4_0, Rk4_0, Rk4_1⟩ := q4
    have N4 := Fr.app N3 M4
    have ne_M_b4_0 : M ≠ b4_0 := Nat.ne_of_lt (Nat.lt_of_lt_of_le O_M_3.1.lt zb4_0)
    have ne_b2_b4_0 : b2 ≠ b4_0 := Nat.ne_of_lt (Nat.lt_of_lt_of_le O_b2_3.1.lt zb4_0)
    have ne_b3_b4_0 : b3 ≠ b4_0 := Nat.ne_of_lt (Nat.lt_of_lt_of_le O3.1.lt zb4_0)
    have g_b4_0 : n0 ≤ b4_0 := Nat.le_trans Z3 zb4_0
    have KO_4 := Keep.trans KO_3 Kc4 (own_memc (Or.inr (Nat.le_trans hN g_M)) own_memn)
    have O_b2_4 := R_IN_keep O_b2_3 Kc4 (own_nin (Ne.symm ne_M_b2) List.not_mem_nil)
    have O_b3_4 := R_IN_keep O3 Kc4 (own_nin (Ne.symm ne_M_b3) List.not_mem_nil)
    have Z4 : n0 ≤ T4.heap.size := Nat.le_trans Z3 Kc4.1
    refine g_pop X4 hx (hb hby at_35) rfl ?_
    show Go p e below (T4.setTop (mkF m 36 #[vi p1, vi p2, vi p3, vi p4, vi p5, vi p6, vi n, vr M, vu, vu, vu, vu, vu] [])) _
    exact seg_36_1 l Z a0 hw wc clc p1 p2 p3 p4 p5 p6 n M (mc + (1 : Int32)) b4_0 b2 b3 p1 T4.heap n0 Z4 hN C1 C2 BX KO_4 Rk4_0 Rk4_1 O_b2_4 ne_M_b4_0 ne_M_b2 (Ne.symm ne_b2_b4_0) g_M g_b4_0 hx hby hml hown hnm hret hlk hZ (Stand.more X4 (by decide) (by decide)) (rfl : T4.heap = T4.heap) N4
theorem ef_3_R (m : MethodId) (x0 : Addr) : entryFrame m #[(.ref x0)] 1 = mkF m 0 #[vr x0] [] := by first | (simp [entryFrame, mkF, argsToLocals, Value.category]; done) | rfl
theorem pn_5 : plainName "java/util/AbstractMap" = true := by first | (simp [plainName, overriddenIn]; done) | decide +kernel
theorem d3_0 : decode jdk_71_method_1_code 0 = .ok (.aload_n 0, 1) := by decide +kernel
theorem d3_1 : decode jdk_71_method_1_code 1 = .ok (.invokespecial 1, 3) := by decide +kernel
theorem d3_4 : decode jdk_71_method_1_code 4 = .ok (.return_, 1) := by decide +kernel
theorem rm_init_138 (l : Launch) (Z : State) (a0 : Array Value) (hw : HW a0 Z) (a1 : Addr) (h0 : Heap) (n0 : Nat) (Z0 : n0 ≤ h0.size) (O_a1 : R_MP Z h0 a1 .null .null (.int 0) (.int 0)) :
    Ctr l Y35 jdk_71_method_1_code 1 none [] ({ frames := 1, cells := 0, slots := 0, locals := 12 } : Room) Z #[(.ref a1)] h0 (fun v h L => v = none ∧ Fr n0 L ∧ h = h0) := by
  refine own_enter pn_5 (fun p e s m below meth c s₁ hx hby hml hown hnm hret hlk hZ X0 e0 => ?_)
  have N0 := Fr.nil n0
  have K0 := Keep.refl h0 []
  rw [ef_3_R m _]
  show Go p e below (s₁.setTop (mkF m 0 #[vr a1] [])) _
  refine g_aloadN X0 hx (hb hby d3_0) rfl rfl ?_
  refine g_init X0 hx hZ hown (Wd14 hw) (Wd15 hw) (Wd16 hw) e0 (by rw [hml]; rfl) (hb hby d3_1) (by decide) (W := 0) (Nat.le_of_eq rfl) (by decide) (fun T1 X1 e1 => ?_)
  exact own_retV X1 hx hret hlk (hb hby d3_4) (by decide) (by decide) ⟨rfl, N0, e1⟩
theorem fd_3 : parseFieldDescriptor "Ljava/util/Comparator;" = some (FieldType.object "java/util/Comparator") := by decide
theorem ef_2_Rn (m : MethodId) (x0 : Addr) : entryFrame m #[(.ref x0), .null] 2 = mkF m 0 #[vr x0, vn] [] := by first | (simp [entryFrame, mkF, argsToLocals, Value.category]; done) | rfl
theorem d2_0 : decode prog_7_method_2_code 0 = .ok (.aload_n 0, 1) := by decide +kernel
theorem d2_1 : decode prog_7_method_2_code 1 = .ok (.invokespecial 9, 3) := by decide +kernel
theorem d2_4 : decode prog_7_method_2_code 4 = .ok (.aload_n 0, 1) := by decide +kernel
theorem d2_5 : decode prog_7_method_2_code 5 = .ok (.aload_n 1, 1) := by decide +kernel
theorem d2_6 : decode prog_7_method_2_code 6 = .ok (.putfield 14, 3) := by decide +kernel
theorem d2_9 : decode prog_7_method_2_code 9 = .ok (.return_, 1) := by decide +kernel
theorem rm_init_137 (l : Launch) (Z : State) (a0 : Array Value) (hw : HW a0 Z) (a1 : Addr) (h0 : Heap) (n0 : Nat) (Z0 : n0 ≤ h0.size) (O_a1 : R_MP Z h0 a1 .null .null (.int 0) (.int 0)) (g_a1 : n0 ≤ a1) :
    Ctr l Y36 prog_7_method_2_code 2 none [] ({ frames := 2, cells := 0, slots := 0, locals := 24 } : Room) Z #[(.ref a1), .null] h0 (fun v h L => v = none ∧ Fr n0 L ∧ Keep h0 h [a1] ∧ R_MP Z h a1 .null .null (.int 0) (.int 0)) := by
  refine own_enter pn_2 (fun p e s m below meth c s₁ hx hby hml hown hnm hret hlk hZ X0 e0 => ?_)
  have N0 := Fr.nil n0
  have K0 := Keep.refl h0 [a1]
  rw [ef_2_Rn m _ ]
  show Go p e below (s₁.setTop (mkF m 0 #[vr a1, vn] [])) _
  refine g_aloadN X0 hx (hb hby d2_0) rfl rfl ?_
  refine g_call (own_callI X0 hx hZ (y := Y35) hown (Wd9 hw) (Wd10 hw) (Wd13 hw) (Wd12 hw) rfl (by decide) (rm_init_138 l Z a0 hw a1 h0 n0 Z0 O_a1) e0 pd_0 (hb hby d2_1) (by rw [hml]; rfl) (argsL := []) (rest := []) rfl rfl rfl (W := 0) (Nat.le_of_eq rfl) (by decide)) (fun v1 T1 L1 X1 q1 => ?_)
  obtain ⟨rfl, M1, e1⟩ := q1
  have N1 := Fr.app N0 M1
  refine g_aloadN X1 hx (hb hby d2_4) rfl rfl ?_
  refine g_aloadN X1 hx (hb hby d2_5) rfl rfl ?_
  refine g_putF X1 hx hZ hown (Wd17 hw) e1 O_a1.2.1 O_a1.1 (Or.inr ⟨(Wd18 hw), rfl, hnm⟩) (Wd1 hw) fd_3 rfl rfl (hb hby d2_6) (fun T2 h2 X2 e2 W2 => ?_)
  have N2 := Fr.snoc X2 N1 g_a1
  have O_a1_2 := R_MP_set_comparator hw W2 O_a1
  have Z2 : n0 ≤ h2.size := Nat.le_trans Z0 (Nat.le_of_eq W2.size.symm)
  have K2 := Keep.wr K0 W2 (Or.inl (List.mem_of_getElem? (i := 0) rfl))
  exact own_retV X2 hx hret hlk (hb hby d2_9) (by decide) (by decide) (by rw [e2]; exact ⟨rfl, N2, K2, O_a1_2⟩)
theorem pd_24 : parseMethodDescriptor "(Ljava/util/Comparator;)V" = some ⟨[(FieldType.object "java/util/Comparator")], none⟩ := by decide +kernel
theorem ef_1_R (m : MethodId) (x0 : Addr) : entryFrame m #[(.ref x0)] 1 = mkF m 0 #[vr x0] [] := by first | (simp [entryFrame, mkF, argsToLocals, Value.category]; done) | rfl
theorem d1_0 : decode prog_7_method_1_code 0 = .ok (.aload_n 0, 1) := by decide +kernel
theorem d1_1 : decode prog_7_method_1_code 1 = .ok (.aconst_null, 1) := by decide +kernel
theorem d1_2 : decode prog_7_method_1_code 2 = .ok (.invokespecial 3, 3) := by decide +kernel
theorem d1_5 : decode prog_7_method_1_code 5 = .ok (.return_, 1) := by decide +kernel
theorem rm_init_136 (l : Launch) (Z : State) (a0 : Array Value) (hw : HW a0 Z) (a1 : Addr) (h0 : Heap) (n0 : Nat) (Z0 : n0 ≤ h0.size) (O_a1 : R_MP Z h0 a1 .null .null (.int 0) (.int 0)) (g_a1 : n0 ≤ a1) :
    Ctr l Y37 prog_7_method_1_code 1 none [] ({ frames := 3, cells := 0, slots := 0, locals := 37 } : Room) Z #[(.ref a1)] h0 (fun v h L => v = none ∧ Fr n0 L ∧ Keep h0 h [a1] ∧ R_MP Z h a1 .null .null (.int 0) (.int 0)) := by
  refine own_enter pn_2 (fun p e s m below meth c s₁ hx hby hml hown hnm hret hlk hZ X0 e0 => ?_)
  have N0 := Fr.nil n0
  have K0 := Keep.refl h0 [a1]
  rw [ef_1_R m _]
  show Go p e below (s₁.setTop (mkF m 0 #[vr a1] [])) _
  refine g_aloadN X0 hx (hb hby d1_0) rfl rfl ?_
  refine g_null X0 hx (hb hby d1_1) ?_
  refine g_call (own_callI X0 hx hZ (y := Y36) hown (Wd6 hw) (Wd7 hw) (Wd8 hw) (Wd2 hw) rfl (by decide) (rm_init_137 l Z a0 hw a1 h0 n0 Z0 O_a1 g_a1) e0 pd_24 (hb hby d1_2) (by rw [hml]; rfl) (argsL := [.null]) (rest := []) rfl rfl rfl (W := 0) (Nat.le_of_eq rfl) (by decide)) (fun v1 T1 L1 X1 q1 => ?_)
  obtain ⟨rfl, M1, Kc1, Rk1_0⟩ := q1
  have N1 := Fr.app N0 M1
  have K1 := Keep.trans K0 Kc1 (own_memc (Or.inl (List.mem_of_getElem? (i := 0) rfl)) own_memn)
  have Z1 : n0 ≤ T1.heap.size := Nat.le_trans Z0 Kc1.1
  exact own_retV X1 hx hret hlk (hb hby d1_5) (by decide) (by decide) (by rw [(rfl : T1.heap = T1.heap)]; exact ⟨rfl, N1, K1, Rk1_0⟩)
theorem ef_0_IIIIII (m : MethodId) (x0 : Int32) (x1 : Int32) (x2 : Int32) (x3 : Int32) (x4 : Int32) (x5 : Int32) : entryFrame m #[(.int x0), (.int x1), (.int x2), (.int x3), (.int x4), (.int x5)] maxLocals = mkF m 0 #[vi x0, vi x1, vi x2, vi x3, vi x4, vi x5, vu, vu, vu, vu, vu, vu, vu] [] := by first | (simp [entryFrame, mkF, argsToLocals, Value.category, maxLocals]; done) | rfl
theorem pn_6 : plainName "com/example/rosewood/rosewood/RosewoodMapClearPinLaw" = true := by first | (simp [plainName, overriddenIn]; done) | decide +kernel
theorem rm_law (l : Launch) (Z : State) (a0 : Array Value) (hw : HW a0 Z) (p1 : Int32) (p2 : Int32) (p3 : Int32) (p4 : Int32) (p5 : Int32) (p6 : Int32) (wc : Addr) (clc : Cell) (h0 : Heap) (n0 : Nat) (Z0 : n0 ≤ h0.size) (hN : Z.heap.size ≤ n0) (C1 : Sta Z Z.heap "java/lang/Integer$IntegerCache" "high" "I" (.int 127)) (C2 : Sta Z Z.heap "java/lang/Integer$IntegerCache" "cache" "[Ljava/lang/Integer;" (.ref wc)) (BX : Bxs Z wc clc "java/lang/Integer" "I" (256 : Int32) (fun j => .int (j - (128 : Int32)))) (KO : Keep Z.heap h0 []) :
    Ctr l x code maxLocals ret tables_1 room_1 Z #[(.int p1), (.int p2), (.int p3), (.int p4), (.int p5), (.int p6)] h0 (fun v h L => v = some (.int 1) ∧ Fr n0 L) := by
  refine own_enter pn_6 (fun p e s m below meth c s₁ hx hby hml hown hnm hret hlk hZ X0 e0 => ?_)
  have N0 := Fr.nil n0
  rw [ef_0_IIIIII m _ _ _ _ _ _]
  show Go p e below (s₁.setTop (mkF m 0 #[vi p1, vi p2, vi p3, vi p4, vi p5, vi p6, vu, vu, vu, vu, vu, vu, vu] [])) _
  refine g_iload X0 hx (hb hby at_0) rfl ?_
  refine g_iconst X0 hx (3 : Int32) (hb hby at_2) (by decide) ?_
  refine g_iand X0 hx (hb hby at_3) ?_
  refine g_istore X0 hx #[vi p1, vi p2, vi p3, vi p4, vi p5, vi p6, .val (.int (p6 &&& (3 : Int32))), vu, vu, vu, vu, vu, vu] (hb hby at_4) rfl ?_
  obtain ⟨T1, h1, X1, e1, E1, A1, D1, -, st1⟩ := newO X0 hx hZ hown (Wd0 hw) (Wd1 hw) (Wd2 hw) e0 (g := (mkF m 6 #[vi p1, vi p2, vi p3, vi p4, vi p5, vi p6, .val (.int (p6 &&& (3 : Int32))), vu, vu, vu, vu, vu, vu] [])) rfl (hb hby at_6) (by decide) (by decide)
  obtain ⟨b1, g1⟩ : ∃ z, z = h0.size := ⟨_, rfl⟩
  rw [← g1] at A1 D1 st1
  have g_b1 : n0 ≤ b1 := Nat.le_trans Z0 (Nat.le_of_eq g1.symm)
  have Z1 : n0 ≤ h1.size := Nat.le_trans Z0 E1.1
  have KO_1 := Keep.ext KO E1
  have O1 : R_MP Z h1 b1 .null .null (.int 0) (.int 0) := ⟨A1, D1 (Or.inr (Wd18 hw)) (ty := (FieldType.object "java/util/Comparator")) (by decide), D1 (Or.inl (Wd36 hw)) (ty := (FieldType.object "com/example/rosewood/rosewood/RosewoodMap$Node")) (by decide), D1 (Or.inl (Wd91 hw)) (ty := FieldType.int) (by decide), D1 (Or.inl (Wd93 hw)) (ty := FieldType.int) (by decide)⟩
  refine Go.mp st1 ?_
  show Go p e below (T1.setTop (mkF m 9 #[vi p1, vi p2, vi p3, vi p4, vi p5, vi p6, .val (.int (p6 &&& (3 : Int32))), vu, vu, vu, vu, vu, vu] [(.ref b1)])) _
  refine g_dup X1 hx (hb hby at_9) rfl ?_
  refine g_call (own_callI X1 hx hZ (y := Y37) hown (Wd3 hw) (Wd4 hw) (Wd5 hw) (Wd2 hw) rfl (by decide) (rm_init_136 l Z a0 hw b1 h1 n0 Z1 O1 g_b1) e1 pd_0 (hb hby at_10) (by rw [hml]; rfl) (argsL := []) (rest := [(.ref b1)]) rfl rfl rfl (W := 1) (Nat.le_of_eq rfl) (by decide)) (fun v2 T2 L2 X2 q2 => ?_)
  obtain ⟨rfl, M2, Kc2, Rk2_0⟩ := q2
  have N2 := Fr.app N0 M2
  have KO_2 := Keep.trans KO_1 Kc2 (own_memc (Or.inr (Nat.le_trans hN g_b1)) own_memn)
  have Z2 : n0 ≤ T2.heap.size := Nat.le_trans Z1 Kc2.1
  refine g_astore X2 hx #[vi p1, vi p2, vi p3, vi p4, vi p5, vi p6, .val (.int (p6 &&& (3 : Int32))), vr b1, vu, vu, vu, vu, vu] (hb hby at_13) rfl rfl ?_
  show Go p e below (T2.setTop (mkF m 15 #[vi p1, vi p2, vi p3, vi p4, vi p5, vi p6, .val (.int (p6 &&& (3 : Int32))), vr b1, vu, vu, vu, vu, vu] [])) _
  exact seg_15_E l Z a0 hw wc clc p1 p2 p3 p4 p5 p6 (p6 &&& (3 : Int32)) b1 (0 : Int32) T2.heap n0 Z2 hN C1 C2 BX KO_2 Rk2_0 g_b1 hx hby hml hown hnm hret hlk hZ (Stand.more X2 (by decide) (by decide)) (rfl : T2.heap = T2.heap) N2
set_option maxRecDepth 65536 in
set_option maxHeartbeats 40000000 in
theorem comes_1 {Post : Tables → Env → Array Value → State → Outcome → State → Prop} (hpost : ∀ tb e args s v u, (limb_1_1.after args s (.returned v) u = true ∧ limb_1_2.after args s (.returned v) u = true ∧ True) → FrameEnd s (.returned v) u (Jvm.fieldLocs frame_1_writes args s ++ Jvm.arrayLocs frame_1_arrays args s ++ Jvm.staticLocs frame_1_statics s) 40 192 → Post tb e args s (.returned v) u) :
    ArmFor flags0 classFile x code maxLocals ret World_1 tables_1 room_1 Calls_1 rest_1 Pre_1 Post := by
  intro l hfl _ _ p e ha hc hk s m args below hf hA hF happ hP
  obtain ⟨hcalls, hrest, hpre⟩ := hP
  obtain ⟨-, -, -, hnamed, -, -, -, hat⟩ := (Spec.applies_iff hf).mp happ
  obtain ⟨hg, hn⟩ := and_e (Cond.before_iff.mp (show (Jvm.Cond.and given_1 narrow_1).before args s = true from hpre))
  obtain ⟨hcnt, hg⟩ := and_e hg
  obtain ⟨w0, w1, w2, w3, w4, w5, rfl⟩ : ∃ w0 w1 w2 w3 w4 w5 : Value, args = #[w0, w1, w2, w3, w4, w5] := by
    have hs : args.size = 6 := by simpa [Cond.value, given_1] using hcnt
    obtain ⟨L⟩ := args
    match L, hs with
    | [w0, w1, w2, w3, w4, w5], _ => exact ⟨w0, w1, w2, w3, w4, w5, rfl⟩
  have hw := fun d (hd : d ∈ tables_1) => atoms_spec (ws := Jvm.Cond.code x code maxLocals ret :: tables_1) hat d (List.mem_cons_of_mem _ hd)
  obtain ⟨ha0, hg0⟩ := and_e hg
  obtain ⟨p1, ep1⟩ := is_v ha0
  obtain rfl : w0 = (.int p1) := Option.some.inj ep1
  obtain ⟨ha1, hg1⟩ := and_e hg0
  obtain ⟨p2, ep2⟩ := is_v ha1
  obtain rfl : w1 = (.int p2) := Option.some.inj ep2
  obtain ⟨ha2, hg2⟩ := and_e hg1
  obtain ⟨p3, ep3⟩ := is_v ha2
  obtain rfl : w2 = (.int p3) := Option.some.inj ep3
  obtain ⟨ha3, hg3⟩ := and_e hg2
  obtain ⟨p4, ep4⟩ := is_v ha3
  obtain rfl : w3 = (.int p4) := Option.some.inj ep4
  obtain ⟨ha4, hg4⟩ := and_e hg3
  obtain ⟨p5, ep5⟩ := is_v ha4
  obtain rfl : w4 = (.int p5) := Option.some.inj ep5
  obtain ⟨p6, ep6⟩ := is_v hg4
  obtain rfl : w5 = (.int p6) := Option.some.inj ep6
  obtain ⟨hsets, hown0⟩ := atoms_of _ (rest_1_c_eq ▸ (show rest_1_c.before _ s = true from hrest))
  have e127 := eqv_i (Term.int_eval (127)) (Cond.before_iff.mp (hsets _ (List.mem_of_getElem? (i := 3) rfl)))
  have C1 : Sta s s.heap "java/lang/Integer$IntegerCache" "high" "I" (.int 127) := Sta.start e127 (Or.inl (hsets _ (List.mem_of_getElem? (i := 1) rfl)))
  obtain ⟨wc, clc, evc, Ac⟩ := own_arrOf (Cond.before_iff.mp (hsets _ (List.mem_of_getElem? (i := 4) rfl)))
  obtain ⟨lt_c, sz_c⟩ := own_arrLen Ac evc (Cond.before_iff.mp (hsets _ (List.mem_of_getElem? (i := 6) rfl)))
  have C2 : Sta s s.heap "java/lang/Integer$IntegerCache" "cache" "[Ljava/lang/Integer;" (.ref wc) := Sta.start evc (Or.inr ⟨(Wd24 hw), hsets _ (List.mem_of_getElem? (i := 2) rfl)⟩)
  have BX : Bxs s wc clc "java/lang/Integer" "I" (256 : Int32) (fun j => .int (j - (128 : Int32))) := Bxs.start (fun idx => evc) Ac lt_c sz_c (by decide) (Cond.before_iff.mp (hsets _ (List.mem_of_getElem? (i := 7) rfl))) (fun X j nn q => eqv_i (own_ix nn) q)
  obtain ⟨n, o, h1, h2, h3, _, L, rfl, ⟨rfl, N⟩, hq⟩ := rm_law l s _ hw p1 p2 p3 p4 p5 p6 wc clc s.heap s.heap.size (Nat.le_refl _) (Nat.le_refl _) C1 C2 BX (Keep.refl _ _) p e ha hc hk s m _ below hf ((Spec.applies_iff_loose hf).mp happ).1 ⟨rfl, State.Warmed39.refl s, rfl⟩ trivial
  refine ⟨n, _, h1, h2, h3, hpost _ _ _ _ _ _ ⟨Cond.after_iff.mpr rfl, Cond.after_iff.mpr (eq_i res_at (Term.int_eval (1)) rfl), trivial⟩ ⟨hq.1, hq.2.1, (hq.2.2.sift fun y hy => Or.inr (N y hy)).mono (by decide) (by decide)⟩⟩
theorem main_1_1 : Claimed_1_1 := comes_1 fun _ _ _ _ _ _ h hF => ⟨h.1, hF⟩
theorem main_1_2 : Claimed_1_2 := comes_1 fun _ _ _ _ _ _ h hF => ⟨h.2.1, hF⟩
end Jvm.Pilot.@@N@@
namespace Jvm.Pilot.@@N@@
open Jvm Jvm.ClassFile Sem Op Lib Jvm.Free Jvm.Stand Jvm.Pilot.@@N@@.Jvm.D
/-! MADE BY PROGRAM (witnessworld.py) out of the Statement's table words and the real class files: 24 classes; the members and pool entries that the words name. The judged class is class 1, her method 1. -/
namespace start1
open Jvm.ClassFile
def u (s : String) : CpInfo := .utf8 (stringToUtf16 s)
/-- a pool by its gaps: so many unusable entries, then the entry; so many at the end -/
def gap : Nat → List CpInfo → List CpInfo
  | 0, r => r
  | n + 1, r => .unusable :: gap n r
def poolList (es : List (Nat × CpInfo)) (last : Nat) : List CpInfo := es.foldr (fun e r => gap e.1 (e.2 :: r)) (gap last [])
def pool (es : List (Nat × CpInfo)) (last : Nat) : Array CpInfo := ⟨poolList es last⟩
def fileOf (pool : Array CpInfo) (this : Nat) (attrs : Array Attribute := #[]) (ms : Array MethodInfo := #[]) (fl : Nat := 33) (sup : Nat := 0) (ifs : Array Nat := #[]) (fds : Array FieldInfo := #[]) : ClassFile where
  minorVersion := 0
  majorVersion := 65
  constantPool := pool
  accessFlags := fl
  thisClass := this
  superClass := sup
  interfaces := ifs
  fields := fds
  methods := ms
  attributes := attrs
def plain (name : String) (sup : Option ClassId) : Class where
  name := name
  kind := .ordinary
  loader := none
  accessFlags := 33
  super := sup
  interfaces := #[]
  cf := none
  fields := #[]
  methods := #[]
  instanceTypes := #[]
  staticTypes := #[]
  resolved := #[]
  callSites := []
  init := .initialized
  statics := none
  mirror := none

def pool0 : Array CpInfo := pool [(5, u "<init>"), (0, u "()V"), (1, .class_ 10), (1, u "java/lang/Object")] 113

def k0c0 : Code := { maxStack := 0, maxLocals := 1, code := object_method_1_code, exceptionTable := #[], attributes := #[] }
def k0m0 : Method := { name := "<init>", desc := "()V", sig := { parameters := [], returnType := none }, accessFlags := 1, code := some k0c0 }
/-- java/lang/Object -/
def k0 : Class := { plain "java/lang/Object" none with
  accessFlags := 33
  interfaces := #[]
  cf := some (fileOf pool0 8 #[] #[{ accessFlags := 1, nameIndex := 5, descriptorIndex := 6, attributes := #[] }] 33 0 #[] #[])
  fields := #[]
  methods := #[k0m0]
  instanceTypes := #[]
  staticTypes := #[]
  resolved := Array.replicate 124 none
  statics := none }

def pool1 : Array CpInfo := pool [(2, .class_ 4), (0, .nameAndType 5 6), (0, u "java/lang/Object"), (0, u "<init>"), (0, u "()V"), (0, .class_ 8), (0, u "com/example/rosewood/rosewood/RosewoodMap"), (0, .methodref 7 3), (0, .methodref 11 12), (0, .class_ 13), (0, .nameAndType 14 15), (0, u "java/lang/Integer"), (0, u "valueOf"), (0, u "(I)Ljava/lang/Integer;"), (0, .methodref 7 17), (0, .nameAndType 18 19), (0, u "put"), (0, u "(Ljava/lang/Object;Ljava/lang/Object;)Ljava/lang/Object;"), (0, .methodref 7 21), (0, .nameAndType 22 6), (0, u "clear"), (0, .methodref 7 24), (0, .nameAndType 25 26), (0, u "size"), (0, u "()I"), (0, .methodref 7 28), (0, .nameAndType 29 30), (0, u "isEmpty"), (0, u "()Z"), (0, .methodref 7 32), (0, .nameAndType 33 34), (0, u "get"), (0, u "(Ljava/lang/Object;)Ljava/lang/Object;"), (0, .methodref 11 36), (0, .nameAndType 37 26), (0, u "intValue"), (0, .class_ 39), (0, u "com/example/rosewood/rosewood/RosewoodMapClearPinLaw"), (2, u "law"), (0, u "(IIIIII)Z")] 3

def k1m0 : Method := { name := "<init>", desc := "()V", sig := { parameters := [], returnType := none }, accessFlags := 1, code := none }
def k1c1 : Code := { maxStack := 3, maxLocals := 13, code := code, exceptionTable := #[], attributes := #[] }
def k1m1 : Method := { name := "law", desc := "(IIIIII)Z", sig := { parameters := [.int, .int, .int, .int, .int, .int], returnType := some .boolean }, accessFlags := 9, code := some k1c1 }
/-- com/example/rosewood/rosewood/RosewoodMapClearPinLaw -/
def k1 : Class := { plain "com/example/rosewood/rosewood/RosewoodMapClearPinLaw" (some 0) with
  accessFlags := 49
  interfaces := #[]
  cf := some (fileOf pool1 38 #[] #[{ accessFlags := 1, nameIndex := 5, descriptorIndex := 6, attributes := #[] }, { accessFlags := 9, nameIndex := 42, descriptorIndex := 43, attributes := #[] }] 49 2 #[] #[])
  fields := #[]
  methods := #[k1m0, k1m1]
  instanceTypes := #[]
  staticTypes := #[]
  resolved := Array.replicate 47 none
  statics := none }

def pool2 : Array CpInfo := pool [(2, .class_ 4), (1, u "java/util/Map"), (31, .class_ 37), (0, u "java/util/Map$Entry"), (55, .class_ 94), (0, u "java/lang/Object")] 168

/-- java/util/Map -/
def k2 : Class := { plain "java/util/Map" (some 0) with
  accessFlags := 1537
  interfaces := #[]
  cf := some (fileOf pool2 2 #[.nestMembers #[36]] #[] 1537 93 #[] #[])
  fields := #[]
  methods := #[]
  instanceTypes := #[]
  staticTypes := #[]
  resolved := Array.replicate 263 none
  statics := none }

def pool3 : Array CpInfo := pool [(1, .methodref 2 3), (0, .class_ 4), (0, .nameAndType 5 6), (0, u "java/lang/Object"), (0, u "<init>"), (0, u "()V"), (1, .class_ 10), (1, u "java/util/AbstractMap"), (42, .class_ 54), (0, u "java/util/Map"), (9, u "keySet"), (0, u "Ljava/util/Set;"), (0, .class_ 67), (0, u "java/util/AbstractMap$1"), (5, u "values"), (0, u "Ljava/util/Collection;"), (0, .class_ 76), (0, u "java/util/AbstractMap$2"), (104, .class_ 182), (0, u "java/util/AbstractMap$ViewCollection"), (0, .class_ 184), (0, u "java/util/AbstractMap$SimpleImmutableEntry"), (0, .class_ 186), (0, u "java/util/AbstractMap$SimpleEntry"), (0, .class_ 188), (0, u "java/util/AbstractMap$2$1"), (0, .class_ 190), (0, u "java/util/AbstractMap$1$1")] 5

def k3c0 : Code := { maxStack := 1, maxLocals := 1, code := jdk_71_method_1_code, exceptionTable := #[], attributes := #[] }
def k3m0 : Method := { name := "<init>", desc := "()V", sig := { parameters := [], returnType := none }, accessFlags := 4, code := some k3c0 }
/-- java/util/AbstractMap -/
def k3 : Class := { plain "java/util/AbstractMap" (some 0) with
  accessFlags := 1057
  interfaces := #[2]
  cf := some (fileOf pool3 8 #[.nestMembers #[181, 183, 185, 75, 187, 66, 189]] #[{ accessFlags := 4, nameIndex := 5, descriptorIndex := 6, attributes := #[] }] 1057 2 #[53] #[{ accessFlags := 128, nameIndex := 64, descriptorIndex := 65, attributes := #[] }, { accessFlags := 128, nameIndex := 73, descriptorIndex := 74, attributes := #[] }])
  fields := #[{ name := "keySet", type := (.object "java/util/Set"), accessFlags := 128, slot := 0, constantValue := 0 }, { name := "values", type := (.object "java/util/Collection"), accessFlags := 128, slot := 1, constantValue := 0 }]
  methods := #[k3m0]
  instanceTypes := #[(.object "java/util/Set"), (.object "java/util/Collection")]
  staticTypes := #[]
  resolved := Array.replicate 196 none
  statics := none }

def pool4 : Array CpInfo := pool [(2, .class_ 4), (1, u "java/util/SequencedMap"), (38, .class_ 44), (0, u "java/util/SequencedMap$1SeqKeySet"), (3, .class_ 49), (0, u "java/util/SequencedMap$1SeqValues"), (1, .class_ 52), (0, u "java/util/SequencedMap$1SeqEntrySet"), (1, .class_ 55), (0, u "java/lang/Object"), (0, .class_ 57), (0, u "java/util/Map")] 48

/-- java/util/SequencedMap -/
def k4 : Class := { plain "java/util/SequencedMap" (some 0) with
  accessFlags := 1537
  interfaces := #[2]
  cf := some (fileOf pool4 2 #[.nestMembers #[51, 48, 43]] #[] 1537 54 #[56] #[])
  fields := #[]
  methods := #[]
  instanceTypes := #[]
  staticTypes := #[]
  resolved := Array.replicate 106 none
  statics := none }

def pool5 : Array CpInfo := pool [(14, .class_ 16), (1, u "java/util/SortedMap"), (2, .class_ 20), (0, u "java/lang/Object"), (0, .class_ 22), (0, u "java/util/SequencedMap")] 50

/-- java/util/SortedMap -/
def k5 : Class := { plain "java/util/SortedMap" (some 0) with
  accessFlags := 1537
  interfaces := #[4]
  cf := some (fileOf pool5 14 #[] #[] 1537 19 #[21] #[])
  fields := #[]
  methods := #[]
  instanceTypes := #[]
  staticTypes := #[]
  resolved := Array.replicate 73 none
  statics := none }

def pool6 : Array CpInfo := pool [(2, .class_ 4), (1, u "java/util/NavigableMap"), (5, .class_ 11), (0, u "java/lang/Object"), (0, .class_ 13), (0, u "java/util/SortedMap")] 53

/-- java/util/NavigableMap -/
def k6 : Class := { plain "java/util/NavigableMap" (some 0) with
  accessFlags := 1537
  interfaces := #[5]
  cf := some (fileOf pool6 2 #[] #[] 1537 10 #[12] #[])
  fields := #[]
  methods := #[]
  instanceTypes := #[]
  staticTypes := #[]
  resolved := Array.replicate 67 none
  statics := none }

def pool7 : Array CpInfo := pool [(3, .methodref 4 5), (0, .class_ 6), (0, .nameAndType 7 8), (0, u "com/example/rosewood/rosewood/RosewoodMap"), (0, u "<init>"), (0, u "(Ljava/util/Comparator;)V"), (0, .methodref 10 11), (0, .class_ 12), (0, .nameAndType 7 13), (0, u "java/util/AbstractMap"), (0, u "()V"), (0, .fieldref 4 15), (0, .nameAndType 16 17), (0, u "comparator"), (0, u "Ljava/util/Comparator;"), (0, .fieldref 4 19), (0, .nameAndType 20 21), (0, u "size"), (0, u "I"), (0, .fieldref 4 23), (0, .nameAndType 24 25), (0, u "root"), (0, u "Lcom/example/rosewood/rosewood/RosewoodMap$Node;"), (0, .methodref 4 27), (0, .nameAndType 28 29), (0, u "find"), (0, u "(Ljava/lang/Object;)Lcom/example/rosewood/rosewood/RosewoodMap$Node;"), (0, .fieldref 31 32), (0, .class_ 33), (0, .nameAndType 34 35), (0, u "com/example/rosewood/rosewood/RosewoodMap$Node"), (0, u "value"), (0, u "Ljava/lang/Object;"), (0, .methodref 4 37), (0, .nameAndType 38 39), (0, u "addIfAbsent"), (0, u "(Ljava/lang/Object;Ljava/lang/Object;)Lcom/example/rosewood/rosewood/RosewoodMap$Node;"), (0, .methodref 4 41), (0, .nameAndType 42 43), (0, u "replaceValue"), (0, u "(Lcom/example/rosewood/rosewood/RosewoodMap$Node;Ljava/lang/Object;)Ljava/lang/Object;"), (6, u "(Lcom/example/rosewood/rosewood/RosewoodMap$Node;)V"), (0, .fieldref 4 52), (0, .nameAndType 53 21), (0, u "modCount"), (1, .class_ 57), (1, u "java/util/Objects"), (2, .methodref 55 61), (0, .nameAndType 62 63), (0, u "requireNonNull"), (0, u "(Ljava/lang/Object;)Ljava/lang/Object;"), (20, u "(Ljava/lang/Object;Ljava/lang/Object;)Ljava/lang/Object;"), (7, .fieldref 31 93), (0, .nameAndType 94 35), (0, u "key"), (26, .methodref 4 122), (0, .nameAndType 123 124), (0, u "keyOf"), (0, u "(Lcom/example/rosewood/rosewood/RosewoodMap$Node;)Ljava/lang/Object;"), (6, u "()I"), (10, u "ascending"), (21, .class_ 165), (0, u "java/util/NavigableMap"), (22, u "Lcom/example/rosewood/rosewood/RangeView;"), (10, .methodref 31 200), (0, .nameAndType 7 201), (0, u "(Ljava/lang/Object;Ljava/lang/Object;Lcom/example/rosewood/rosewood/RosewoodMap$Node;)V"), (0, .methodref 31 203), (0, .nameAndType 204 63), (0, u "setValue"), (3, .methodref 4 209), (0, .nameAndType 210 63), (0, u "searchKey"), (0, .fieldref 31 212), (0, .nameAndType 213 25), (0, u "left"), (0, .fieldref 31 215), (0, .nameAndType 216 25), (0, u "right"), (0, .methodref 4 218), (0, .nameAndType 219 220), (0, u "compare"), (0, u "(Ljava/lang/Object;Ljava/lang/Object;)I"), (0, .methodref 4 222), (0, .nameAndType 223 224), (0, u "addToLeftCount"), (0, u "(Lcom/example/rosewood/rosewood/RosewoodMap$Node;I)V"), (0, .methodref 4 226), (0, .nameAndType 227 228), (0, u "countPlace"), (0, u "(Lcom/example/rosewood/rosewood/RosewoodMap$Node;II)V"), (0, .methodref 4 230), (0, .nameAndType 231 232), (0, u "leftCount"), (0, u "(Lcom/example/rosewood/rosewood/RosewoodMap$Node;)I"), (0, .methodref 4 234), (0, .nameAndType 235 236), (0, u "newNode"), (0, u "(Ljava/lang/Object;Ljava/lang/Object;Lcom/example/rosewood/rosewood/RosewoodMap$Node;)Lcom/example/rosewood/rosewood/RosewoodMap$Node;"), (0, .methodref 4 238), (0, .nameAndType 239 240), (0, u "setRed"), (0, u "(Lcom/example/rosewood/rosewood/RosewoodMap$Node;Z)V"), (0, .methodref 4 242), (0, .nameAndType 243 50), (0, u "refreshToRoot"), (0, .methodref 4 245), (0, .nameAndType 246 50), (0, u "balanceAfterInsert"), (3, .class_ 251), (0, u "com/example/rosewood/rosewood/RosewoodMap$NodeIterator"), (3, .class_ 256), (0, u "com/example/rosewood/rosewood/RosewoodMap$NodeSpliterator"), (6, .class_ 264), (0, u "java/lang/Comparable"), (0, .interfaceMethodref 263 266), (0, .nameAndType 267 268), (0, u "compareTo"), (0, u "(Ljava/lang/Object;)I"), (13, .fieldref 31 283), (0, .nameAndType 284 25), (0, u "parent"), (0, .fieldref 31 286), (0, .nameAndType 287 21), (0, u "redAndLeftCount"), (0, .integer 2147483648), (0, .integer 2147483647), (0, .methodref 4 291), (0, .nameAndType 292 224), (0, u "countAbove"), (0, .methodref 4 294), (0, .nameAndType 295 296), (0, u "replaceInParent"), (0, u "(Lcom/example/rosewood/rosewood/RosewoodMap$Node;Lcom/example/rosewood/rosewood/RosewoodMap$Node;)V"), (0, .methodref 4 298), (0, .nameAndType 299 50), (0, u "refresh"), (0, .methodref 4 301), (0, .nameAndType 302 303), (0, u "isRed"), (0, u "(Lcom/example/rosewood/rosewood/RosewoodMap$Node;)Z"), (0, .methodref 4 305), (0, .nameAndType 306 50), (0, u "rotateLeft"), (0, .methodref 4 308), (0, .nameAndType 309 50), (0, u "rotateRight"), (11, u "NO_FENCE"), (0, u "RED"), (10, u "isEmpty"), (0, u "()Z"), (3, u "get"), (1, u "put"), (2, u "clear")] 109

def k7c0 : Code := { maxStack := 2, maxLocals := 1, code := prog_7_method_1_code, exceptionTable := #[], attributes := #[] }
def k7m0 : Method := { name := "<init>", desc := "()V", sig := { parameters := [], returnType := none }, accessFlags := 1, code := some k7c0 }
def k7c1 : Code := { maxStack := 2, maxLocals := 2, code := prog_7_method_2_code, exceptionTable := #[], attributes := #[] }
def k7m1 : Method := { name := "<init>", desc := "(Ljava/util/Comparator;)V", sig := { parameters := [(.object "java/util/Comparator")], returnType := none }, accessFlags := 1, code := some k7c1 }
def k7c2 : Code := { maxStack := 1, maxLocals := 1, code := prog_7_method_4_code, exceptionTable := #[], attributes := #[] }
def k7m2 : Method := { name := "size", desc := "()I", sig := { parameters := [], returnType := some .int }, accessFlags := 1, code := some k7c2 }
def k7c3 : Code := { maxStack := 1, maxLocals := 1, code := prog_7_method_5_code, exceptionTable := #[], attributes := #[] }
def k7m3 : Method := { name := "isEmpty", desc := "()Z", sig := { parameters := [], returnType := some .boolean }, accessFlags := 1, code := some k7c3 }
def k7c4 : Code := { maxStack := 2, maxLocals := 3, code := prog_7_method_7_code, exceptionTable := #[], attributes := #[] }
def k7m4 : Method := { name := "get", desc := "(Ljava/lang/Object;)Ljava/lang/Object;", sig := { parameters := [(.object "java/lang/Object")], returnType := some (.object "java/lang/Object") }, accessFlags := 1, code := some k7c4 }
def k7c5 : Code := { maxStack := 3, maxLocals := 4, code := prog_7_method_8_code, exceptionTable := #[], attributes := #[] }
def k7m5 : Method := { name := "put", desc := "(Ljava/lang/Object;Ljava/lang/Object;)Ljava/lang/Object;", sig := { parameters := [(.object "java/lang/Object"), (.object "java/lang/Object")], returnType := some (.object "java/lang/Object") }, accessFlags := 1, code := some k7c5 }
def k7c6 : Code := { maxStack := 3, maxLocals := 1, code := prog_7_method_10_code, exceptionTable := #[], attributes := #[] }
def k7m6 : Method := { name := "clear", desc := "()V", sig := { parameters := [], returnType := none }, accessFlags := 1, code := some k7c6 }
def k7c7 : Code := { maxStack := 5, maxLocals := 4, code := prog_7_method_51_code, exceptionTable := #[], attributes := #[] }
def k7m7 : Method := { name := "newNode", desc := "(Ljava/lang/Object;Ljava/lang/Object;Lcom/example/rosewood/rosewood/RosewoodMap$Node;)Lcom/example/rosewood/rosewood/RosewoodMap$Node;", sig := { parameters := [(.object "java/lang/Object"), (.object "java/lang/Object"), (.object "com/example/rosewood/rosewood/RosewoodMap$Node")], returnType := some (.object "com/example/rosewood/rosewood/RosewoodMap$Node") }, accessFlags := 0, code := some k7c7 }
def k7c8 : Code := { maxStack := 2, maxLocals := 3, code := prog_7_method_52_code, exceptionTable := #[], attributes := #[] }
def k7m8 : Method := { name := "replaceValue", desc := "(Lcom/example/rosewood/rosewood/RosewoodMap$Node;Ljava/lang/Object;)Ljava/lang/Object;", sig := { parameters := [(.object "com/example/rosewood/rosewood/RosewoodMap$Node"), (.object "java/lang/Object")], returnType := some (.object "java/lang/Object") }, accessFlags := 0, code := some k7c8 }
def k7c9 : Code := { maxStack := 0, maxLocals := 2, code := prog_7_method_54_code, exceptionTable := #[], attributes := #[] }
def k7m9 : Method := { name := "refresh", desc := "(Lcom/example/rosewood/rosewood/RosewoodMap$Node;)V", sig := { parameters := [(.object "com/example/rosewood/rosewood/RosewoodMap$Node")], returnType := none }, accessFlags := 0, code := some k7c9 }
def k7c10 : Code := { maxStack := 0, maxLocals := 2, code := prog_7_method_55_code, exceptionTable := #[], attributes := #[] }
def k7m10 : Method := { name := "refreshToRoot", desc := "(Lcom/example/rosewood/rosewood/RosewoodMap$Node;)V", sig := { parameters := [(.object "com/example/rosewood/rosewood/RosewoodMap$Node")], returnType := none }, accessFlags := 0, code := some k7c10 }
def k7c11 : Code := { maxStack := 3, maxLocals := 10, code := prog_7_method_58_code, exceptionTable := #[], attributes := #[] }
def k7m11 : Method := { name := "find", desc := "(Ljava/lang/Object;)Lcom/example/rosewood/rosewood/RosewoodMap$Node;", sig := { parameters := [(.object "java/lang/Object")], returnType := some (.object "com/example/rosewood/rosewood/RosewoodMap$Node") }, accessFlags := 0, code := some k7c11 }
def k7c12 : Code := { maxStack := 1, maxLocals := 3, code := prog_7_method_60_code, exceptionTable := #[], attributes := #[] }
def k7m12 : Method := { name := "searchKey", desc := "(Ljava/lang/Object;)Ljava/lang/Object;", sig := { parameters := [(.object "java/lang/Object")], returnType := some (.object "java/lang/Object") }, accessFlags := 2, code := some k7c12 }
def k7c13 : Code := { maxStack := 5, maxLocals := 15, code := prog_7_method_65_code, exceptionTable := #[{ startPc := 71, endPc := 122, handlerPc := 210, catchType := 0 }, { startPc := 137, endPc := 195, handlerPc := 210, catchType := 0 }, { startPc := 210, endPc := 212, handlerPc := 210, catchType := 0 }], attributes := #[] }
def k7m13 : Method := { name := "addIfAbsent", desc := "(Ljava/lang/Object;Ljava/lang/Object;)Lcom/example/rosewood/rosewood/RosewoodMap$Node;", sig := { parameters := [(.object "java/lang/Object"), (.object "java/lang/Object")], returnType := some (.object "com/example/rosewood/rosewood/RosewoodMap$Node") }, accessFlags := 2, code := some k7c13 }
def k7c14 : Code := { maxStack := 3, maxLocals := 3, code := prog_7_method_72_code, exceptionTable := #[], attributes := #[] }
def k7m14 : Method := { name := "compare", desc := "(Ljava/lang/Object;Ljava/lang/Object;)I", sig := { parameters := [(.object "java/lang/Object"), (.object "java/lang/Object")], returnType := some .int }, accessFlags := 0, code := some k7c14 }
def k7c15 : Code := { maxStack := 1, maxLocals := 1, code := prog_7_method_76_code, exceptionTable := #[], attributes := #[] }
def k7m15 : Method := { name := "keyOf", desc := "(Lcom/example/rosewood/rosewood/RosewoodMap$Node;)Ljava/lang/Object;", sig := { parameters := [(.object "com/example/rosewood/rosewood/RosewoodMap$Node")], returnType := some (.object "java/lang/Object") }, accessFlags := 8, code := some k7c15 }
def k7c16 : Code := { maxStack := 1, maxLocals := 1, code := prog_7_method_81_code, exceptionTable := #[], attributes := #[] }
def k7m16 : Method := { name := "isRed", desc := "(Lcom/example/rosewood/rosewood/RosewoodMap$Node;)Z", sig := { parameters := [(.object "com/example/rosewood/rosewood/RosewoodMap$Node")], returnType := some .boolean }, accessFlags := 10, code := some k7c16 }
def k7c17 : Code := { maxStack := 3, maxLocals := 2, code := prog_7_method_82_code, exceptionTable := #[], attributes := #[] }
def k7m17 : Method := { name := "setRed", desc := "(Lcom/example/rosewood/rosewood/RosewoodMap$Node;Z)V", sig := { parameters := [(.object "com/example/rosewood/rosewood/RosewoodMap$Node"), .boolean], returnType := none }, accessFlags := 10, code := some k7c17 }
def k7c18 : Code := { maxStack := 2, maxLocals := 1, code := prog_7_method_83_code, exceptionTable := #[], attributes := #[] }
def k7m18 : Method := { name := "leftCount", desc := "(Lcom/example/rosewood/rosewood/RosewoodMap$Node;)I", sig := { parameters := [(.object "com/example/rosewood/rosewood/RosewoodMap$Node")], returnType := some .int }, accessFlags := 10, code := some k7c18 }
def k7c19 : Code := { maxStack := 3, maxLocals := 2, code := prog_7_method_84_code, exceptionTable := #[], attributes := #[] }
def k7m19 : Method := { name := "addToLeftCount", desc := "(Lcom/example/rosewood/rosewood/RosewoodMap$Node;I)V", sig := { parameters := [(.object "com/example/rosewood/rosewood/RosewoodMap$Node"), .int], returnType := none }, accessFlags := 10, code := some k7c19 }
def k7c20 : Code := { maxStack := 2, maxLocals := 4, code := prog_7_method_85_code, exceptionTable := #[], attributes := #[] }
def k7m20 : Method := { name := "countAbove", desc := "(Lcom/example/rosewood/rosewood/RosewoodMap$Node;I)V", sig := { parameters := [(.object "com/example/rosewood/rosewood/RosewoodMap$Node"), .int], returnType := none }, accessFlags := 10, code := some k7c20 }
def k7c21 : Code := { maxStack := 2, maxLocals := 3, code := prog_7_method_86_code, exceptionTable := #[], attributes := #[] }
def k7m21 : Method := { name := "countPlace", desc := "(Lcom/example/rosewood/rosewood/RosewoodMap$Node;II)V", sig := { parameters := [(.object "com/example/rosewood/rosewood/RosewoodMap$Node"), .int, .int], returnType := none }, accessFlags := 10, code := some k7c21 }
def k7c22 : Code := { maxStack := 2, maxLocals := 4, code := prog_7_method_87_code, exceptionTable := #[], attributes := #[] }
def k7m22 : Method := { name := "replaceInParent", desc := "(Lcom/example/rosewood/rosewood/RosewoodMap$Node;Lcom/example/rosewood/rosewood/RosewoodMap$Node;)V", sig := { parameters := [(.object "com/example/rosewood/rosewood/RosewoodMap$Node"), (.object "com/example/rosewood/rosewood/RosewoodMap$Node")], returnType := none }, accessFlags := 2, code := some k7c22 }
def k7c23 : Code := { maxStack := 3, maxLocals := 3, code := prog_7_method_88_code, exceptionTable := #[], attributes := #[] }
def k7m23 : Method := { name := "rotateLeft", desc := "(Lcom/example/rosewood/rosewood/RosewoodMap$Node;)V", sig := { parameters := [(.object "com/example/rosewood/rosewood/RosewoodMap$Node")], returnType := none }, accessFlags := 2, code := some k7c23 }
def k7c24 : Code := { maxStack := 3, maxLocals := 3, code := prog_7_method_89_code, exceptionTable := #[], attributes := #[] }
def k7m24 : Method := { name := "rotateRight", desc := "(Lcom/example/rosewood/rosewood/RosewoodMap$Node;)V", sig := { parameters := [(.object "com/example/rosewood/rosewood/RosewoodMap$Node")], returnType := none }, accessFlags := 2, code := some k7c24 }
def k7c25 : Code := { maxStack := 2, maxLocals := 6, code := prog_7_method_90_code, exceptionTable := #[], attributes := #[] }
def k7m25 : Method := { name := "balanceAfterInsert", desc := "(Lcom/example/rosewood/rosewood/RosewoodMap$Node;)V", sig := { parameters := [(.object "com/example/rosewood/rosewood/RosewoodMap$Node")], returnType := none }, accessFlags := 2, code := some k7c25 }
/-- com/example/rosewood/rosewood/RosewoodMap -/
def k7 : Class := { plain "com/example/rosewood/rosewood/RosewoodMap" (some 3) with
  accessFlags := 33
  interfaces := #[6]
  cf := some (fileOf pool7 4 #[.nestMembers #[255, 250, 31]] #[{ accessFlags := 1, nameIndex := 7, descriptorIndex := 13, attributes := #[] }, { accessFlags := 1, nameIndex := 7, descriptorIndex := 8, attributes := #[] }, { accessFlags := 1, nameIndex := 20, descriptorIndex := 131, attributes := #[] }, { accessFlags := 1, nameIndex := 333, descriptorIndex := 334, attributes := #[] }, { accessFlags := 1, nameIndex := 338, descriptorIndex := 63, attributes := #[] }, { accessFlags := 1, nameIndex := 340, descriptorIndex := 84, attributes := #[] }, { accessFlags := 1, nameIndex := 343, descriptorIndex := 13, attributes := #[] }, { accessFlags := 0, nameIndex := 235, descriptorIndex := 236, attributes := #[] }, { accessFlags := 0, nameIndex := 42, descriptorIndex := 43, attributes := #[] }, { accessFlags := 0, nameIndex := 299, descriptorIndex := 50, attributes := #[] }, { accessFlags := 0, nameIndex := 243, descriptorIndex := 50, attributes := #[] }, { accessFlags := 0, nameIndex := 28, descriptorIndex := 29, attributes := #[] }, { accessFlags := 2, nameIndex := 210, descriptorIndex := 63, attributes := #[] }, { accessFlags := 2, nameIndex := 38, descriptorIndex := 39, attributes := #[] }, { accessFlags := 0, nameIndex := 219, descriptorIndex := 220, attributes := #[] }, { accessFlags := 8, nameIndex := 123, descriptorIndex := 124, attributes := #[] }, { accessFlags := 10, nameIndex := 302, descriptorIndex := 303, attributes := #[] }, { accessFlags := 10, nameIndex := 239, descriptorIndex := 240, attributes := #[] }, { accessFlags := 10, nameIndex := 231, descriptorIndex := 232, attributes := #[] }, { accessFlags := 10, nameIndex := 223, descriptorIndex := 224, attributes := #[] }, { accessFlags := 10, nameIndex := 292, descriptorIndex := 224, attributes := #[] }, { accessFlags := 10, nameIndex := 227, descriptorIndex := 228, attributes := #[] }, { accessFlags := 2, nameIndex := 295, descriptorIndex := 296, attributes := #[] }, { accessFlags := 2, nameIndex := 306, descriptorIndex := 50, attributes := #[] }, { accessFlags := 2, nameIndex := 309, descriptorIndex := 50, attributes := #[] }, { accessFlags := 2, nameIndex := 246, descriptorIndex := 50, attributes := #[] }] 33 10 #[164] #[{ accessFlags := 26, nameIndex := 321, descriptorIndex := 35, attributes := #[] }, { accessFlags := 26, nameIndex := 322, descriptorIndex := 21, attributes := #[] }, { accessFlags := 18, nameIndex := 16, descriptorIndex := 17, attributes := #[] }, { accessFlags := 2, nameIndex := 24, descriptorIndex := 25, attributes := #[] }, { accessFlags := 2, nameIndex := 20, descriptorIndex := 21, attributes := #[] }, { accessFlags := 2, nameIndex := 53, descriptorIndex := 21, attributes := #[] }, { accessFlags := 2, nameIndex := 142, descriptorIndex := 188, attributes := #[] }])
  fields := #[{ name := "NO_FENCE", type := (.object "java/lang/Object"), accessFlags := 26, slot := 0, constantValue := 0 }, { name := "RED", type := .int, accessFlags := 26, slot := 1, constantValue := 0 }, { name := "comparator", type := (.object "java/util/Comparator"), accessFlags := 18, slot := 2, constantValue := 0 }, { name := "root", type := (.object "com/example/rosewood/rosewood/RosewoodMap$Node"), accessFlags := 2, slot := 3, constantValue := 0 }, { name := "size", type := .int, accessFlags := 2, slot := 4, constantValue := 0 }, { name := "modCount", type := .int, accessFlags := 2, slot := 5, constantValue := 0 }, { name := "ascending", type := (.object "com/example/rosewood/rosewood/RangeView"), accessFlags := 2, slot := 6, constantValue := 0 }]
  methods := #[k7m0, k7m1, k7m2, k7m3, k7m4, k7m5, k7m6, k7m7, k7m8, k7m9, k7m10, k7m11, k7m12, k7m13, k7m14, k7m15, k7m16, k7m17, k7m18, k7m19, k7m20, k7m21, k7m22, k7m23, k7m24, k7m25]
  instanceTypes := #[(.object "java/util/Set"), (.object "java/util/Collection"), (.object "java/util/Comparator"), (.object "com/example/rosewood/rosewood/RosewoodMap$Node"), .int, .int, (.object "com/example/rosewood/rosewood/RangeView")]
  staticTypes := #[(.object "java/lang/Object"), .int]
  resolved := Array.replicate 453 none
  statics := none }

def pool8 : Array CpInfo := pool [(1, .class_ 2), (0, u "java/io/Serializable"), (0, .class_ 4), (0, u "java/lang/Object")] 2

/-- java/io/Serializable -/
def k8 : Class := { plain "java/io/Serializable" (some 0) with
  accessFlags := 1537
  interfaces := #[]
  cf := some (fileOf pool8 1 #[] #[] 1537 3 #[] #[])
  fields := #[]
  methods := #[]
  instanceTypes := #[]
  staticTypes := #[]
  resolved := Array.replicate 7 none
  statics := none }

def pool9 : Array CpInfo := pool [(1, .methodref 2 3), (0, .class_ 4), (0, .nameAndType 5 6), (0, u "java/lang/Object"), (0, u "<init>"), (0, u "()V"), (1, .class_ 10), (1, u "java/lang/Number"), (2, .class_ 14), (0, u "java/io/Serializable"), (0, u "serialVersionUID"), (0, u "J")] 20

def k9c0 : Code := { maxStack := 1, maxLocals := 1, code := jdk_18_method_1_code, exceptionTable := #[], attributes := #[] }
def k9m0 : Method := { name := "<init>", desc := "()V", sig := { parameters := [], returnType := none }, accessFlags := 1, code := some k9c0 }
/-- java/lang/Number -/
def k9 : Class := { plain "java/lang/Number" (some 0) with
  accessFlags := 1057
  interfaces := #[8]
  cf := some (fileOf pool9 8 #[] #[{ accessFlags := 1, nameIndex := 5, descriptorIndex := 6, attributes := #[] }] 1057 2 #[13] #[{ accessFlags := 26, nameIndex := 15, descriptorIndex := 16, attributes := #[] }])
  fields := #[{ name := "serialVersionUID", type := .long, accessFlags := 26, slot := 0, constantValue := 0 }]
  methods := #[k9m0]
  instanceTypes := #[]
  staticTypes := #[.long]
  resolved := Array.replicate 37 none
  statics := none }

def pool10 : Array CpInfo := pool [(1, .class_ 2), (0, u "java/lang/Comparable"), (0, .class_ 4), (0, u "java/lang/Object"), (0, u "compareTo"), (0, u "(Ljava/lang/Object;)I")] 5

def k10m0 : Method := { name := "compareTo", desc := "(Ljava/lang/Object;)I", sig := { parameters := [(.object "java/lang/Object")], returnType := some .int }, accessFlags := 1025, code := none }
/-- java/lang/Comparable -/
def k10 : Class := { plain "java/lang/Comparable" (some 0) with
  accessFlags := 1537
  interfaces := #[]
  cf := some (fileOf pool10 1 #[] #[{ accessFlags := 1025, nameIndex := 5, descriptorIndex := 6, attributes := #[] }] 1537 3 #[] #[])
  fields := #[]
  methods := #[k10m0]
  instanceTypes := #[]
  staticTypes := #[]
  resolved := Array.replicate 12 none
  statics := none }

def pool11 : Array CpInfo := pool [(1, .class_ 2), (0, u "java/lang/constant/Constable"), (0, .class_ 4), (0, u "java/lang/Object")] 6

/-- java/lang/constant/Constable -/
def k11 : Class := { plain "java/lang/constant/Constable" (some 0) with
  accessFlags := 1537
  interfaces := #[]
  cf := some (fileOf pool11 1 #[] #[] 1537 3 #[] #[])
  fields := #[]
  methods := #[]
  instanceTypes := #[]
  staticTypes := #[]
  resolved := Array.replicate 11 none
  statics := none }

def pool12 : Array CpInfo := pool [(1, .class_ 2), (0, u "java/lang/constant/ConstantDesc"), (0, .class_ 4), (0, u "java/lang/Object")] 32

/-- java/lang/constant/ConstantDesc -/
def k12 : Class := { plain "java/lang/constant/ConstantDesc" (some 0) with
  accessFlags := 1537
  interfaces := #[]
  cf := some (fileOf pool12 1 #[] #[] 1537 3 #[] #[])
  fields := #[]
  methods := #[]
  instanceTypes := #[]
  staticTypes := #[]
  resolved := Array.replicate 37 none
  statics := none }

def pool13 : Array CpInfo := pool [(1, .class_ 2), (0, u "java/lang/Integer"), (16, u "digits"), (0, u "[C"), (39, u "(II)I"), (6, u "<init>"), (17, u "DigitOnes"), (0, u "[B"), (2, u "DigitTens"), (10, .nameAndType 67 101), (0, u "()V"), (19, u "()I"), (65, u "valueOf"), (0, u "(I)Ljava/lang/Integer;"), (0, .class_ 190), (0, u "java/lang/Integer$IntegerCache"), (0, .fieldref 189 192), (0, .nameAndType 193 194), (0, u "high"), (0, u "I"), (0, .fieldref 189 196), (0, .nameAndType 197 198), (0, u "cache"), (0, u "[Ljava/lang/Integer;"), (0, .methodref 1 200), (0, .nameAndType 67 201), (0, u "(I)V"), (0, .methodref 203 100), (0, .class_ 204), (0, u "java/lang/Number"), (0, .fieldref 1 206), (0, .nameAndType 207 194), (0, u "value"), (5, u "intValue"), (45, .methodref 1 260), (0, .nameAndType 261 60), (0, u "compare"), (22, .methodref 1 285), (0, .nameAndType 286 287), (0, u "compareTo"), (0, u "(Ljava/lang/Integer;)I"), (14, u "TYPE"), (0, u "Ljava/lang/Class;"), (0, .class_ 305), (0, u "java/lang/Comparable"), (0, .class_ 307), (0, u "java/lang/constant/Constable"), (0, .class_ 309), (0, u "java/lang/constant/ConstantDesc"), (0, u "MIN_VALUE"), (1, u "MAX_VALUE"), (3, u "SIZE"), (1, u "BYTES"), (1, u "serialVersionUID"), (0, u "J"), (113, u "(Ljava/lang/Object;)I")] 17

def k13c0 : Code := { maxStack := 3, maxLocals := 1, code := jdk_33_method_22_code, exceptionTable := #[], attributes := #[] }
def k13m0 : Method := { name := "valueOf", desc := "(I)Ljava/lang/Integer;", sig := { parameters := [.int], returnType := some (.object "java/lang/Integer") }, accessFlags := 9, code := some k13c0 }
def k13c1 : Code := { maxStack := 2, maxLocals := 2, code := jdk_33_method_23_code, exceptionTable := #[], attributes := #[] }
def k13m1 : Method := { name := "<init>", desc := "(I)V", sig := { parameters := [.int], returnType := none }, accessFlags := 1, code := some k13c1 }
def k13c2 : Code := { maxStack := 1, maxLocals := 1, code := jdk_33_method_27_code, exceptionTable := #[], attributes := #[] }
def k13m2 : Method := { name := "intValue", desc := "()I", sig := { parameters := [], returnType := some .int }, accessFlags := 1, code := some k13c2 }
def k13c3 : Code := { maxStack := 2, maxLocals := 2, code := jdk_33_method_39_code, exceptionTable := #[], attributes := #[] }
def k13m3 : Method := { name := "compareTo", desc := "(Ljava/lang/Integer;)I", sig := { parameters := [(.object "java/lang/Integer")], returnType := some .int }, accessFlags := 1, code := some k13c3 }
def k13c4 : Code := { maxStack := 2, maxLocals := 2, code := jdk_33_method_40_code, exceptionTable := #[], attributes := #[] }
def k13m4 : Method := { name := "compare", desc := "(II)I", sig := { parameters := [.int, .int], returnType := some .int }, accessFlags := 9, code := some k13c4 }
def k13c5 : Code := { maxStack := 2, maxLocals := 2, code := jdk_33_method_63_code, exceptionTable := #[], attributes := #[] }
def k13m5 : Method := { name := "compareTo", desc := "(Ljava/lang/Object;)I", sig := { parameters := [(.object "java/lang/Object")], returnType := some .int }, accessFlags := 4161, code := some k13c5 }
/-- java/lang/Integer -/
def k13 : Class := { plain "java/lang/Integer" (some 9) with
  accessFlags := 49
  interfaces := #[10, 11, 12]
  cf := some (fileOf pool13 1 #[.nestMembers #[189]] #[{ accessFlags := 9, nameIndex := 187, descriptorIndex := 188, attributes := #[] }, { accessFlags := 1, nameIndex := 67, descriptorIndex := 201, attributes := #[] }, { accessFlags := 1, nameIndex := 213, descriptorIndex := 121, attributes := #[] }, { accessFlags := 1, nameIndex := 286, descriptorIndex := 287, attributes := #[] }, { accessFlags := 9, nameIndex := 261, descriptorIndex := 60, attributes := #[] }, { accessFlags := 4161, nameIndex := 286, descriptorIndex := 435, attributes := #[] }] 49 203 #[304, 306, 308] #[{ accessFlags := 25, nameIndex := 310, descriptorIndex := 194, attributes := #[] }, { accessFlags := 25, nameIndex := 312, descriptorIndex := 194, attributes := #[] }, { accessFlags := 25, nameIndex := 302, descriptorIndex := 303, attributes := #[] }, { accessFlags := 24, nameIndex := 19, descriptorIndex := 20, attributes := #[] }, { accessFlags := 24, nameIndex := 89, descriptorIndex := 86, attributes := #[] }, { accessFlags := 24, nameIndex := 85, descriptorIndex := 86, attributes := #[] }, { accessFlags := 18, nameIndex := 207, descriptorIndex := 194, attributes := #[] }, { accessFlags := 25, nameIndex := 316, descriptorIndex := 194, attributes := #[] }, { accessFlags := 25, nameIndex := 318, descriptorIndex := 194, attributes := #[] }, { accessFlags := 26, nameIndex := 320, descriptorIndex := 321, attributes := #[] }])
  fields := #[{ name := "MIN_VALUE", type := .int, accessFlags := 25, slot := 0, constantValue := 0 }, { name := "MAX_VALUE", type := .int, accessFlags := 25, slot := 1, constantValue := 0 }, { name := "TYPE", type := (.object "java/lang/Class"), accessFlags := 25, slot := 2, constantValue := 0 }, { name := "digits", type := (.array .char), accessFlags := 24, slot := 3, constantValue := 0 }, { name := "DigitTens", type := (.array .byte), accessFlags := 24, slot := 4, constantValue := 0 }, { name := "DigitOnes", type := (.array .byte), accessFlags := 24, slot := 5, constantValue := 0 }, { name := "value", type := .int, accessFlags := 18, slot := 0, constantValue := 0 }, { name := "SIZE", type := .int, accessFlags := 25, slot := 6, constantValue := 0 }, { name := "BYTES", type := .int, accessFlags := 25, slot := 7, constantValue := 0 }, { name := "serialVersionUID", type := .long, accessFlags := 26, slot := 8, constantValue := 0 }]
  methods := #[k13m0, k13m1, k13m2, k13m3, k13m4, k13m5]
  instanceTypes := #[.int]
  staticTypes := #[.int, .int, (.object "java/lang/Class"), (.array .char), (.array .byte), (.array .byte), .int, .int, .long]
  resolved := Array.replicate 453 none
  statics := none }

def pool14 : Array CpInfo := pool [(2, .class_ 4), (1, u "java/lang/Object"), (0, u "<init>"), (0, u "()V"), (0, .class_ 8), (0, u "java/lang/Integer"), (7, .class_ 18), (1, u "java/lang/Integer$IntegerCache"), (0, u "$assertionsDisabled"), (0, u "Z"), (26, u "high"), (0, u "I"), (8, u "archivedCache"), (0, u "[Ljava/lang/Integer;"), (12, u "cache"), (0, u "low")] 27

def k14m0 : Method := { name := "<init>", desc := "()V", sig := { parameters := [], returnType := none }, accessFlags := 2, code := none }
/-- java/lang/Integer$IntegerCache -/
def k14 : Class := { plain "java/lang/Integer$IntegerCache" (some 0) with
  accessFlags := 48
  interfaces := #[]
  cf := some (fileOf pool14 16 #[.nestHost 7] #[{ accessFlags := 2, nameIndex := 5, descriptorIndex := 6, attributes := #[] }] 48 2 #[] #[{ accessFlags := 24, nameIndex := 72, descriptorIndex := 48, attributes := #[] }, { accessFlags := 24, nameIndex := 47, descriptorIndex := 48, attributes := #[] }, { accessFlags := 24, nameIndex := 71, descriptorIndex := 58, attributes := #[] }, { accessFlags := 8, nameIndex := 57, descriptorIndex := 58, attributes := #[] }, { accessFlags := 4120, nameIndex := 19, descriptorIndex := 20, attributes := #[] }])
  fields := #[{ name := "low", type := .int, accessFlags := 24, slot := 0, constantValue := 0 }, { name := "high", type := .int, accessFlags := 24, slot := 1, constantValue := 0 }, { name := "cache", type := (.array (.object "java/lang/Integer")), accessFlags := 24, slot := 2, constantValue := 0 }, { name := "archivedCache", type := (.array (.object "java/lang/Integer")), accessFlags := 8, slot := 3, constantValue := 0 }, { name := "$assertionsDisabled", type := .boolean, accessFlags := 4120, slot := 4, constantValue := 0 }]
  methods := #[k14m0]
  instanceTypes := #[]
  staticTypes := #[.int, .int, (.array (.object "java/lang/Integer")), (.array (.object "java/lang/Integer")), .boolean]
  resolved := Array.replicate 100 none
  statics := some 0 }

def pool15 : Array CpInfo := pool [(23, .class_ 25), (1, u "java/util/Map$Entry"), (6, .class_ 34), (1, u "java/util/Map"), (34, .class_ 70), (0, u "java/lang/Object")] 107

/-- java/util/Map$Entry -/
def k15 : Class := { plain "java/util/Map$Entry" (some 0) with
  accessFlags := 1537
  interfaces := #[]
  cf := some (fileOf pool15 23 #[.nestHost 32] #[] 1537 69 #[] #[])
  fields := #[]
  methods := #[]
  instanceTypes := #[]
  staticTypes := #[]
  resolved := Array.replicate 178 none
  statics := none }

def pool16 : Array CpInfo := pool [(1, .class_ 2), (0, u "com/example/rosewood/rosewood/RosewoodMap"), (0, .methodref 4 5), (0, .class_ 6), (0, .nameAndType 7 8), (0, u "java/lang/Object"), (0, u "<init>"), (0, u "()V"), (0, .integer 2147483648), (0, .fieldref 11 12), (0, .class_ 13), (0, .nameAndType 14 15), (0, u "com/example/rosewood/rosewood/RosewoodMap$Node"), (0, u "redAndLeftCount"), (0, u "I"), (0, .fieldref 11 17), (0, .nameAndType 18 19), (0, u "key"), (0, u "Ljava/lang/Object;"), (0, .fieldref 11 21), (0, .nameAndType 22 19), (0, u "value"), (0, .fieldref 11 24), (0, .nameAndType 25 26), (0, u "parent"), (0, u "Lcom/example/rosewood/rosewood/RosewoodMap$Node;"), (0, .class_ 28), (0, u "java/util/Map$Entry"), (30, u "left"), (1, u "right"), (0, u "(Ljava/lang/Object;Ljava/lang/Object;Lcom/example/rosewood/rosewood/RosewoodMap$Node;)V"), (5, u "setValue"), (0, u "(Ljava/lang/Object;)Ljava/lang/Object;")] 29

def k16c0 : Code := { maxStack := 2, maxLocals := 4, code := prog_8_method_1_code, exceptionTable := #[], attributes := #[] }
def k16m0 : Method := { name := "<init>", desc := "(Ljava/lang/Object;Ljava/lang/Object;Lcom/example/rosewood/rosewood/RosewoodMap$Node;)V", sig := { parameters := [(.object "java/lang/Object"), (.object "java/lang/Object"), (.object "com/example/rosewood/rosewood/RosewoodMap$Node")], returnType := none }, accessFlags := 0, code := some k16c0 }
def k16c1 : Code := { maxStack := 2, maxLocals := 3, code := prog_8_method_4_code, exceptionTable := #[], attributes := #[] }
def k16m1 : Method := { name := "setValue", desc := "(Ljava/lang/Object;)Ljava/lang/Object;", sig := { parameters := [(.object "java/lang/Object")], returnType := some (.object "java/lang/Object") }, accessFlags := 1, code := some k16c1 }
/-- com/example/rosewood/rosewood/RosewoodMap$Node -/
def k16 : Class := { plain "com/example/rosewood/rosewood/RosewoodMap$Node" (some 0) with
  accessFlags := 32
  interfaces := #[15]
  cf := some (fileOf pool16 11 #[.nestHost 1] #[{ accessFlags := 0, nameIndex := 7, descriptorIndex := 62, attributes := #[] }, { accessFlags := 1, nameIndex := 68, descriptorIndex := 69, attributes := #[] }] 32 4 #[27] #[{ accessFlags := 0, nameIndex := 18, descriptorIndex := 19, attributes := #[] }, { accessFlags := 0, nameIndex := 22, descriptorIndex := 19, attributes := #[] }, { accessFlags := 0, nameIndex := 59, descriptorIndex := 26, attributes := #[] }, { accessFlags := 0, nameIndex := 61, descriptorIndex := 26, attributes := #[] }, { accessFlags := 0, nameIndex := 25, descriptorIndex := 26, attributes := #[] }, { accessFlags := 0, nameIndex := 14, descriptorIndex := 15, attributes := #[] }])
  fields := #[{ name := "key", type := (.object "java/lang/Object"), accessFlags := 0, slot := 0, constantValue := 0 }, { name := "value", type := (.object "java/lang/Object"), accessFlags := 0, slot := 1, constantValue := 0 }, { name := "left", type := (.object "com/example/rosewood/rosewood/RosewoodMap$Node"), accessFlags := 0, slot := 2, constantValue := 0 }, { name := "right", type := (.object "com/example/rosewood/rosewood/RosewoodMap$Node"), accessFlags := 0, slot := 3, constantValue := 0 }, { name := "parent", type := (.object "com/example/rosewood/rosewood/RosewoodMap$Node"), accessFlags := 0, slot := 4, constantValue := 0 }, { name := "redAndLeftCount", type := .int, accessFlags := 0, slot := 5, constantValue := 0 }]
  methods := #[k16m0, k16m1]
  instanceTypes := #[(.object "java/lang/Object"), (.object "java/lang/Object"), (.object "com/example/rosewood/rosewood/RosewoodMap$Node"), (.object "com/example/rosewood/rosewood/RosewoodMap$Node"), (.object "com/example/rosewood/rosewood/RosewoodMap$Node"), .int]
  staticTypes := #[]
  resolved := Array.replicate 99 none
  statics := none }

def pool17 : Array CpInfo := pool [(2, .class_ 4), (1, u "java/lang/Object"), (0, u "<init>"), (0, u "()V"), (35, .class_ 44), (1, u "java/util/Objects"), (0, u "requireNonNull"), (0, u "(Ljava/lang/Object;)Ljava/lang/Object;")] 137

def k17m0 : Method := { name := "<init>", desc := "()V", sig := { parameters := [], returnType := none }, accessFlags := 2, code := none }
def k17c1 : Code := { maxStack := 2, maxLocals := 1, code := jdk_31_method_10_code, exceptionTable := #[], attributes := #[] }
def k17m1 : Method := { name := "requireNonNull", desc := "(Ljava/lang/Object;)Ljava/lang/Object;", sig := { parameters := [(.object "java/lang/Object")], returnType := some (.object "java/lang/Object") }, accessFlags := 9, code := some k17c1 }
/-- java/util/Objects -/
def k17 : Class := { plain "java/util/Objects" (some 0) with
  accessFlags := 49
  interfaces := #[]
  cf := some (fileOf pool17 42 #[] #[{ accessFlags := 2, nameIndex := 5, descriptorIndex := 6, attributes := #[] }, { accessFlags := 9, nameIndex := 45, descriptorIndex := 46, attributes := #[] }] 49 2 #[] #[])
  fields := #[]
  methods := #[k17m0, k17m1]
  instanceTypes := #[]
  staticTypes := #[]
  resolved := Array.replicate 184 none
  statics := none }

def pool18 : Array CpInfo := pool [(1, u "java/lang/Cloneable"), (0, .class_ 1), (0, u "java/lang/Object"), (0, .class_ 3)] 3

/-- java/lang/Cloneable -/
def k18 : Class := { plain "java/lang/Cloneable" (some 0) with
  accessFlags := 1537
  interfaces := #[]
  cf := some (fileOf pool18 2 #[] #[] 1537 4 #[] #[])
  fields := #[]
  methods := #[]
  instanceTypes := #[]
  staticTypes := #[]
  resolved := Array.replicate 8 none
  statics := none }

/-- the primitive byte -/
def k19 : Class := { plain "byte" none with kind := .primitive 'B', accessFlags := 0x411 }
/-- [B -/
def k20 : Class := { plain "[B" (some 0) with kind := .array 19 .byte, interfaces := #[18, 8], accessFlags := 1041 }

/-- the primitive int -/
def k21 : Class := { plain "int" none with kind := .primitive 'I', accessFlags := 0x411 }
/-- [I -/
def k22 : Class := { plain "[I" (some 0) with kind := .array 21 .int, interfaces := #[18, 8], accessFlags := 1041 }

/-- [Ljava/lang/Integer; -/
def k23 : Class := { plain "[Ljava/lang/Integer;" (some 0) with kind := .array 13 (.object "java/lang/Integer"), interfaces := #[18, 8], accessFlags := 1041 }

def heap : Heap := #[{ cls := 14, slots := #[.int 0, .int 127, .ref 1, .null, .int 0], vm := .statics 14 },
  { cls := 23, slots := #[.ref 2, .ref 3, .ref 4, .ref 5, .ref 6, .ref 7, .ref 8, .ref 9, .ref 10, .ref 11, .ref 12, .ref 13, .ref 14, .ref 15, .ref 16, .ref 17, .ref 18, .ref 19, .ref 20, .ref 21, .ref 22, .ref 23, .ref 24, .ref 25, .ref 26, .ref 27, .ref 28, .ref 29, .ref 30, .ref 31, .ref 32, .ref 33, .ref 34, .ref 35, .ref 36, .ref 37, .ref 38, .ref 39, .ref 40, .ref 41, .ref 42, .ref 43, .ref 44, .ref 45, .ref 46, .ref 47, .ref 48, .ref 49, .ref 50, .ref 51, .ref 52, .ref 53, .ref 54, .ref 55, .ref 56, .ref 57, .ref 58, .ref 59, .ref 60, .ref 61, .ref 62, .ref 63, .ref 64, .ref 65, .ref 66, .ref 67, .ref 68, .ref 69, .ref 70, .ref 71, .ref 72, .ref 73, .ref 74, .ref 75, .ref 76, .ref 77, .ref 78, .ref 79, .ref 80, .ref 81, .ref 82, .ref 83, .ref 84, .ref 85, .ref 86, .ref 87, .ref 88, .ref 89, .ref 90, .ref 91, .ref 92, .ref 93, .ref 94, .ref 95, .ref 96, .ref 97, .ref 98, .ref 99, .ref 100, .ref 101, .ref 102, .ref 103, .ref 104, .ref 105, .ref 106, .ref 107, .ref 108, .ref 109, .ref 110, .ref 111, .ref 112, .ref 113, .ref 114, .ref 115, .ref 116, .ref 117, .ref 118, .ref 119, .ref 120, .ref 121, .ref 122, .ref 123, .ref 124, .ref 125, .ref 126, .ref 127, .ref 128, .ref 129, .ref 130, .ref 131, .ref 132, .ref 133, .ref 134, .ref 135, .ref 136, .ref 137, .ref 138, .ref 139, .ref 140, .ref 141, .ref 142, .ref 143, .ref 144, .ref 145, .ref 146, .ref 147, .ref 148, .ref 149, .ref 150, .ref 151, .ref 152, .ref 153, .ref 154, .ref 155, .ref 156, .ref 157, .ref 158, .ref 159, .ref 160, .ref 161, .ref 162, .ref 163, .ref 164, .ref 165, .ref 166, .ref 167, .ref 168, .ref 169, .ref 170, .ref 171, .ref 172, .ref 173, .ref 174, .ref 175, .ref 176, .ref 177, .ref 178, .ref 179, .ref 180, .ref 181, .ref 182, .ref 183, .ref 184, .ref 185, .ref 186, .ref 187, .ref 188, .ref 189, .ref 190, .ref 191, .ref 192, .ref 193, .ref 194, .ref 195, .ref 196, .ref 197, .ref 198, .ref 199, .ref 200, .ref 201, .ref 202, .ref 203, .ref 204, .ref 205, .ref 206, .ref 207, .ref 208, .ref 209, .ref 210, .ref 211, .ref 212, .ref 213, .ref 214, .ref 215, .ref 216, .ref 217, .ref 218, .ref 219, .ref 220, .ref 221, .ref 222, .ref 223, .ref 224, .ref 225, .ref 226, .ref 227, .ref 228, .ref 229, .ref 230, .ref 231, .ref 232, .ref 233, .ref 234, .ref 235, .ref 236, .ref 237, .ref 238, .ref 239, .ref 240, .ref 241, .ref 242, .ref 243, .ref 244, .ref 245, .ref 246, .ref 247, .ref 248, .ref 249, .ref 250, .ref 251, .ref 252, .ref 253, .ref 254, .ref 255, .ref 256, .ref 257], vm := .none },
  { cls := 13, slots := #[.int (-128)], vm := .none },
  { cls := 13, slots := #[.int (-127)], vm := .none },
  { cls := 13, slots := #[.int (-126)], vm := .none },
  { cls := 13, slots := #[.int (-125)], vm := .none },
  { cls := 13, slots := #[.int (-124)], vm := .none },
  { cls := 13, slots := #[.int (-123)], vm := .none },
  { cls := 13, slots := #[.int (-122)], vm := .none },
  { cls := 13, slots := #[.int (-121)], vm := .none },
  { cls := 13, slots := #[.int (-120)], vm := .none },
  { cls := 13, slots := #[.int (-119)], vm := .none },
  { cls := 13, slots := #[.int (-118)], vm := .none },
  { cls := 13, slots := #[.int (-117)], vm := .none },
  { cls := 13, slots := #[.int (-116)], vm := .none },
  { cls := 13, slots := #[.int (-115)], vm := .none },
  { cls := 13, slots := #[.int (-114)], vm := .none },
  { cls := 13, slots := #[.int (-113)], vm := .none },
  { cls := 13, slots := #[.int (-112)], vm := .none },
  { cls := 13, slots := #[.int (-111)], vm := .none },
  { cls := 13, slots := #[.int (-110)], vm := .none },
  { cls := 13, slots := #[.int (-109)], vm := .none },
  { cls := 13, slots := #[.int (-108)], vm := .none },
  { cls := 13, slots := #[.int (-107)], vm := .none },
  { cls := 13, slots := #[.int (-106)], vm := .none },
  { cls := 13, slots := #[.int (-105)], vm := .none },
  { cls := 13, slots := #[.int (-104)], vm := .none },
  { cls := 13, slots := #[.int (-103)], vm := .none },
  { cls := 13, slots := #[.int (-102)], vm := .none },
  { cls := 13, slots := #[.int (-101)], vm := .none },
  { cls := 13, slots := #[.int (-100)], vm := .none },
  { cls := 13, slots := #[.int (-99)], vm := .none },
  { cls := 13, slots := #[.int (-98)], vm := .none },
  { cls := 13, slots := #[.int (-97)], vm := .none },
  { cls := 13, slots := #[.int (-96)], vm := .none },
  { cls := 13, slots := #[.int (-95)], vm := .none },
  { cls := 13, slots := #[.int (-94)], vm := .none },
  { cls := 13, slots := #[.int (-93)], vm := .none },
  { cls := 13, slots := #[.int (-92)], vm := .none },
  { cls := 13, slots := #[.int (-91)], vm := .none },
  { cls := 13, slots := #[.int (-90)], vm := .none },
  { cls := 13, slots := #[.int (-89)], vm := .none },
  { cls := 13, slots := #[.int (-88)], vm := .none },
  { cls := 13, slots := #[.int (-87)], vm := .none },
  { cls := 13, slots := #[.int (-86)], vm := .none },
  { cls := 13, slots := #[.int (-85)], vm := .none },
  { cls := 13, slots := #[.int (-84)], vm := .none },
  { cls := 13, slots := #[.int (-83)], vm := .none },
  { cls := 13, slots := #[.int (-82)], vm := .none },
  { cls := 13, slots := #[.int (-81)], vm := .none },
  { cls := 13, slots := #[.int (-80)], vm := .none },
  { cls := 13, slots := #[.int (-79)], vm := .none },
  { cls := 13, slots := #[.int (-78)], vm := .none },
  { cls := 13, slots := #[.int (-77)], vm := .none },
  { cls := 13, slots := #[.int (-76)], vm := .none },
  { cls := 13, slots := #[.int (-75)], vm := .none },
  { cls := 13, slots := #[.int (-74)], vm := .none },
  { cls := 13, slots := #[.int (-73)], vm := .none },
  { cls := 13, slots := #[.int (-72)], vm := .none },
  { cls := 13, slots := #[.int (-71)], vm := .none },
  { cls := 13, slots := #[.int (-70)], vm := .none },
  { cls := 13, slots := #[.int (-69)], vm := .none },
  { cls := 13, slots := #[.int (-68)], vm := .none },
  { cls := 13, slots := #[.int (-67)], vm := .none },
  { cls := 13, slots := #[.int (-66)], vm := .none },
  { cls := 13, slots := #[.int (-65)], vm := .none },
  { cls := 13, slots := #[.int (-64)], vm := .none },
  { cls := 13, slots := #[.int (-63)], vm := .none },
  { cls := 13, slots := #[.int (-62)], vm := .none },
  { cls := 13, slots := #[.int (-61)], vm := .none },
  { cls := 13, slots := #[.int (-60)], vm := .none },
  { cls := 13, slots := #[.int (-59)], vm := .none },
  { cls := 13, slots := #[.int (-58)], vm := .none },
  { cls := 13, slots := #[.int (-57)], vm := .none },
  { cls := 13, slots := #[.int (-56)], vm := .none },
  { cls := 13, slots := #[.int (-55)], vm := .none },
  { cls := 13, slots := #[.int (-54)], vm := .none },
  { cls := 13, slots := #[.int (-53)], vm := .none },
  { cls := 13, slots := #[.int (-52)], vm := .none },
  { cls := 13, slots := #[.int (-51)], vm := .none },
  { cls := 13, slots := #[.int (-50)], vm := .none },
  { cls := 13, slots := #[.int (-49)], vm := .none },
  { cls := 13, slots := #[.int (-48)], vm := .none },
  { cls := 13, slots := #[.int (-47)], vm := .none },
  { cls := 13, slots := #[.int (-46)], vm := .none },
  { cls := 13, slots := #[.int (-45)], vm := .none },
  { cls := 13, slots := #[.int (-44)], vm := .none },
  { cls := 13, slots := #[.int (-43)], vm := .none },
  { cls := 13, slots := #[.int (-42)], vm := .none },
  { cls := 13, slots := #[.int (-41)], vm := .none },
  { cls := 13, slots := #[.int (-40)], vm := .none },
  { cls := 13, slots := #[.int (-39)], vm := .none },
  { cls := 13, slots := #[.int (-38)], vm := .none },
  { cls := 13, slots := #[.int (-37)], vm := .none },
  { cls := 13, slots := #[.int (-36)], vm := .none },
  { cls := 13, slots := #[.int (-35)], vm := .none },
  { cls := 13, slots := #[.int (-34)], vm := .none },
  { cls := 13, slots := #[.int (-33)], vm := .none },
  { cls := 13, slots := #[.int (-32)], vm := .none },
  { cls := 13, slots := #[.int (-31)], vm := .none },
  { cls := 13, slots := #[.int (-30)], vm := .none },
  { cls := 13, slots := #[.int (-29)], vm := .none },
  { cls := 13, slots := #[.int (-28)], vm := .none },
  { cls := 13, slots := #[.int (-27)], vm := .none },
  { cls := 13, slots := #[.int (-26)], vm := .none },
  { cls := 13, slots := #[.int (-25)], vm := .none },
  { cls := 13, slots := #[.int (-24)], vm := .none },
  { cls := 13, slots := #[.int (-23)], vm := .none },
  { cls := 13, slots := #[.int (-22)], vm := .none },
  { cls := 13, slots := #[.int (-21)], vm := .none },
  { cls := 13, slots := #[.int (-20)], vm := .none },
  { cls := 13, slots := #[.int (-19)], vm := .none },
  { cls := 13, slots := #[.int (-18)], vm := .none },
  { cls := 13, slots := #[.int (-17)], vm := .none },
  { cls := 13, slots := #[.int (-16)], vm := .none },
  { cls := 13, slots := #[.int (-15)], vm := .none },
  { cls := 13, slots := #[.int (-14)], vm := .none },
  { cls := 13, slots := #[.int (-13)], vm := .none },
  { cls := 13, slots := #[.int (-12)], vm := .none },
  { cls := 13, slots := #[.int (-11)], vm := .none },
  { cls := 13, slots := #[.int (-10)], vm := .none },
  { cls := 13, slots := #[.int (-9)], vm := .none },
  { cls := 13, slots := #[.int (-8)], vm := .none },
  { cls := 13, slots := #[.int (-7)], vm := .none },
  { cls := 13, slots := #[.int (-6)], vm := .none },
  { cls := 13, slots := #[.int (-5)], vm := .none },
  { cls := 13, slots := #[.int (-4)], vm := .none },
  { cls := 13, slots := #[.int (-3)], vm := .none },
  { cls := 13, slots := #[.int (-2)], vm := .none },
  { cls := 13, slots := #[.int (-1)], vm := .none },
  { cls := 13, slots := #[.int 0], vm := .none },
  { cls := 13, slots := #[.int 1], vm := .none },
  { cls := 13, slots := #[.int 2], vm := .none },
  { cls := 13, slots := #[.int 3], vm := .none },
  { cls := 13, slots := #[.int 4], vm := .none },
  { cls := 13, slots := #[.int 5], vm := .none },
  { cls := 13, slots := #[.int 6], vm := .none },
  { cls := 13, slots := #[.int 7], vm := .none },
  { cls := 13, slots := #[.int 8], vm := .none },
  { cls := 13, slots := #[.int 9], vm := .none },
  { cls := 13, slots := #[.int 10], vm := .none },
  { cls := 13, slots := #[.int 11], vm := .none },
  { cls := 13, slots := #[.int 12], vm := .none },
  { cls := 13, slots := #[.int 13], vm := .none },
  { cls := 13, slots := #[.int 14], vm := .none },
  { cls := 13, slots := #[.int 15], vm := .none },
  { cls := 13, slots := #[.int 16], vm := .none },
  { cls := 13, slots := #[.int 17], vm := .none },
  { cls := 13, slots := #[.int 18], vm := .none },
  { cls := 13, slots := #[.int 19], vm := .none },
  { cls := 13, slots := #[.int 20], vm := .none },
  { cls := 13, slots := #[.int 21], vm := .none },
  { cls := 13, slots := #[.int 22], vm := .none },
  { cls := 13, slots := #[.int 23], vm := .none },
  { cls := 13, slots := #[.int 24], vm := .none },
  { cls := 13, slots := #[.int 25], vm := .none },
  { cls := 13, slots := #[.int 26], vm := .none },
  { cls := 13, slots := #[.int 27], vm := .none },
  { cls := 13, slots := #[.int 28], vm := .none },
  { cls := 13, slots := #[.int 29], vm := .none },
  { cls := 13, slots := #[.int 30], vm := .none },
  { cls := 13, slots := #[.int 31], vm := .none },
  { cls := 13, slots := #[.int 32], vm := .none },
  { cls := 13, slots := #[.int 33], vm := .none },
  { cls := 13, slots := #[.int 34], vm := .none },
  { cls := 13, slots := #[.int 35], vm := .none },
  { cls := 13, slots := #[.int 36], vm := .none },
  { cls := 13, slots := #[.int 37], vm := .none },
  { cls := 13, slots := #[.int 38], vm := .none },
  { cls := 13, slots := #[.int 39], vm := .none },
  { cls := 13, slots := #[.int 40], vm := .none },
  { cls := 13, slots := #[.int 41], vm := .none },
  { cls := 13, slots := #[.int 42], vm := .none },
  { cls := 13, slots := #[.int 43], vm := .none },
  { cls := 13, slots := #[.int 44], vm := .none },
  { cls := 13, slots := #[.int 45], vm := .none },
  { cls := 13, slots := #[.int 46], vm := .none },
  { cls := 13, slots := #[.int 47], vm := .none },
  { cls := 13, slots := #[.int 48], vm := .none },
  { cls := 13, slots := #[.int 49], vm := .none },
  { cls := 13, slots := #[.int 50], vm := .none },
  { cls := 13, slots := #[.int 51], vm := .none },
  { cls := 13, slots := #[.int 52], vm := .none },
  { cls := 13, slots := #[.int 53], vm := .none },
  { cls := 13, slots := #[.int 54], vm := .none },
  { cls := 13, slots := #[.int 55], vm := .none },
  { cls := 13, slots := #[.int 56], vm := .none },
  { cls := 13, slots := #[.int 57], vm := .none },
  { cls := 13, slots := #[.int 58], vm := .none },
  { cls := 13, slots := #[.int 59], vm := .none },
  { cls := 13, slots := #[.int 60], vm := .none },
  { cls := 13, slots := #[.int 61], vm := .none },
  { cls := 13, slots := #[.int 62], vm := .none },
  { cls := 13, slots := #[.int 63], vm := .none },
  { cls := 13, slots := #[.int 64], vm := .none },
  { cls := 13, slots := #[.int 65], vm := .none },
  { cls := 13, slots := #[.int 66], vm := .none },
  { cls := 13, slots := #[.int 67], vm := .none },
  { cls := 13, slots := #[.int 68], vm := .none },
  { cls := 13, slots := #[.int 69], vm := .none },
  { cls := 13, slots := #[.int 70], vm := .none },
  { cls := 13, slots := #[.int 71], vm := .none },
  { cls := 13, slots := #[.int 72], vm := .none },
  { cls := 13, slots := #[.int 73], vm := .none },
  { cls := 13, slots := #[.int 74], vm := .none },
  { cls := 13, slots := #[.int 75], vm := .none },
  { cls := 13, slots := #[.int 76], vm := .none },
  { cls := 13, slots := #[.int 77], vm := .none },
  { cls := 13, slots := #[.int 78], vm := .none },
  { cls := 13, slots := #[.int 79], vm := .none },
  { cls := 13, slots := #[.int 80], vm := .none },
  { cls := 13, slots := #[.int 81], vm := .none },
  { cls := 13, slots := #[.int 82], vm := .none },
  { cls := 13, slots := #[.int 83], vm := .none },
  { cls := 13, slots := #[.int 84], vm := .none },
  { cls := 13, slots := #[.int 85], vm := .none },
  { cls := 13, slots := #[.int 86], vm := .none },
  { cls := 13, slots := #[.int 87], vm := .none },
  { cls := 13, slots := #[.int 88], vm := .none },
  { cls := 13, slots := #[.int 89], vm := .none },
  { cls := 13, slots := #[.int 90], vm := .none },
  { cls := 13, slots := #[.int 91], vm := .none },
  { cls := 13, slots := #[.int 92], vm := .none },
  { cls := 13, slots := #[.int 93], vm := .none },
  { cls := 13, slots := #[.int 94], vm := .none },
  { cls := 13, slots := #[.int 95], vm := .none },
  { cls := 13, slots := #[.int 96], vm := .none },
  { cls := 13, slots := #[.int 97], vm := .none },
  { cls := 13, slots := #[.int 98], vm := .none },
  { cls := 13, slots := #[.int 99], vm := .none },
  { cls := 13, slots := #[.int 100], vm := .none },
  { cls := 13, slots := #[.int 101], vm := .none },
  { cls := 13, slots := #[.int 102], vm := .none },
  { cls := 13, slots := #[.int 103], vm := .none },
  { cls := 13, slots := #[.int 104], vm := .none },
  { cls := 13, slots := #[.int 105], vm := .none },
  { cls := 13, slots := #[.int 106], vm := .none },
  { cls := 13, slots := #[.int 107], vm := .none },
  { cls := 13, slots := #[.int 108], vm := .none },
  { cls := 13, slots := #[.int 109], vm := .none },
  { cls := 13, slots := #[.int 110], vm := .none },
  { cls := 13, slots := #[.int 111], vm := .none },
  { cls := 13, slots := #[.int 112], vm := .none },
  { cls := 13, slots := #[.int 113], vm := .none },
  { cls := 13, slots := #[.int 114], vm := .none },
  { cls := 13, slots := #[.int 115], vm := .none },
  { cls := 13, slots := #[.int 116], vm := .none },
  { cls := 13, slots := #[.int 117], vm := .none },
  { cls := 13, slots := #[.int 118], vm := .none },
  { cls := 13, slots := #[.int 119], vm := .none },
  { cls := 13, slots := #[.int 120], vm := .none },
  { cls := 13, slots := #[.int 121], vm := .none },
  { cls := 13, slots := #[.int 122], vm := .none },
  { cls := 13, slots := #[.int 123], vm := .none },
  { cls := 13, slots := #[.int 124], vm := .none },
  { cls := 13, slots := #[.int 125], vm := .none },
  { cls := 13, slots := #[.int 126], vm := .none },
  { cls := 13, slots := #[.int 127], vm := .none }]
def classes : Array Class := #[k0, k1, k2, k3, k4, k5, k6, k7, k8, k9, k10, k11, k12, k13, k14, k15, k16, k17, k18, k19, k20, k21, k22, k23]
def interned : List (Array UInt16 × Addr) := []
def slotsUsed : Nat := 517
def theMethod : MethodId := ⟨1, 1⟩
def args0 : Array Value := #[.int 5, .int 5, .int 5, .int 5, .int 5, .int 5]
def aboutOver (below : List Frame) : State where
  vm := { classes := classes, interned := interned.toArray }
  heap := heap
  slotsUsed := slotsUsed
  threads := #[{ frames := .invoking theMethod args0 :: below }]
def below0 : List Frame := [.native { method := ⟨0, 0⟩, args := #[] }]
def about1 : State := aboutOver below0
def p0 : Program := .bare "" "" ""
def e0 : Env := launch0.env 0 0 0
theorem w_frames : about1.frames = Frame.invoking theMethod args0 :: below0 := rfl
set_option maxRecDepth 65536 in
theorem w_args : argsFit about1.vm theMethod args0 = true := by decide +kernel
set_option maxRecDepth 65536 in
theorem w_heap : heapFits about1 = true := by decide +kernel
set_option maxRecDepth 65536 in
theorem w_runnable : about1.curStatus? = some .runnable := by decide +kernel
set_option maxRecDepth 65536 in
theorem w_alone : about1.alone = true := by decide +kernel
set_option maxRecDepth 65536 in
theorem w_named : about1.methodNamed? x = some theMethod := by decide +kernel
set_option maxRecDepth 65536 in
theorem w_hears : about1.hears theMethod below0 = true := by decide +kernel
set_option maxRecDepth 65536 in
theorem w_ripe : about1.ripe theMethod args0 below0 = true := by decide +kernel
theorem w_running : about1.status = .running := rfl
set_option maxRecDepth 65536 in
theorem w_room : about1.hasRoom e0.platform room_1 = true :=
  launch0.hasRoom_least _ room_1 (by decide +kernel) (by decide +kernel) (by decide +kernel) (by decide +kernel) (by decide +kernel) (by decide +kernel)
theorem allAtoms_all (ts : List Jvm.Cond) (a : Array Jvm.Value) (st : Jvm.State) : (allAtoms ts).before a st = ts.all (fun c => c.before a st) := by
  induction ts with
  | nil => rfl
  | cons c t ih =>
    show (Jvm.Cond.and c (allAtoms t)).before a st = _
    rw [Jvm.Cond.before_and, ih, List.all_cons]
def words1 : List Jvm.Cond := Jvm.Cond.code x code maxLocals ret :: tables_1
/-- a 'code' word, met by the world's own term for the bytes: nothing is compared byte by byte -/
theorem code_word {y : MethodName} {bytes : ByteArray} {mx : Nat} {rt : Option FieldType} {a : Array Value} {s : State} {m : MethodId} {meth : Method} {c : Code} (h1 : s.methodNamed? y = some m) (h2 : s.vm.method? m = some meth) (h3 : meth.code = some c) (h4 : c.code = bytes)
    (h5 : (c.maxLocals == mx && c.exceptionTable.isEmpty && decide (c.maxStack ≤ mostOperands) && decide (meth.sig.returnType = rt) && !meth.locks && decide (parseMethodDescriptor y.desc = some meth.sig)) = true) : (Jvm.Cond.code y bytes mx rt).before a s = true := by
  simp only [Bool.and_eq_true, beq_iff_eq, Bool.not_eq_true', decide_eq_true_eq] at h5
  obtain ⟨⟨⟨⟨⟨g1, g2⟩, g3⟩, g4⟩, g5⟩, g6⟩ := h5
  simp [Cond.before, Cond.holds, Cond.value, h1, h2, h3, h4, g1, g2, g3, g4, g5, g6]
def isCode : Jvm.Cond → Bool
  | .code _ _ _ _ => true
  | _ => false
theorem all_split {L : List Jvm.Cond} {P : Jvm.Cond → Bool} (h1 : L.all (fun c => isCode c || P c) = true) (h2 : ∀ c ∈ L.filter isCode, P c = true) : L.all P = true := by
  refine List.all_eq_true.mpr fun c hc => ?_
  have h := List.all_eq_true.mp h1 c hc
  rcases Bool.eq_false_or_eq_true (isCode c) with hi | hi
  · exact h2 c (List.mem_filter.mpr ⟨hc, hi⟩)
  · simpa [hi] using h
set_option maxRecDepth 65536 in
theorem w_c0 : (Jvm.Cond.code x code maxLocals ret).before args0 about1 = true := code_word (m := ⟨1, 1⟩) (meth := k1m1) (c := k1c1) (by decide +kernel) rfl rfl rfl (by decide +kernel)
set_option maxRecDepth 65536 in
theorem w_c1 : (Jvm.Cond.code ({ cls := "com/example/rosewood/rosewood/RosewoodMap", name := "<init>", desc := "()V" } : Jvm.MethodName) prog_7_method_1_code (1 : Nat) (Option.none : Option Jvm.ClassFile.FieldType)).before args0 about1 = true := code_word (m := ⟨7, 0⟩) (meth := k7m0) (c := k7c0) (by decide +kernel) rfl rfl rfl (by decide +kernel)
set_option maxRecDepth 65536 in
theorem w_c2 : (Jvm.Cond.code ({ cls := "com/example/rosewood/rosewood/RosewoodMap", name := "<init>", desc := "(Ljava/util/Comparator;)V" } : Jvm.MethodName) prog_7_method_2_code (2 : Nat) (Option.none : Option Jvm.ClassFile.FieldType)).before args0 about1 = true := code_word (m := ⟨7, 1⟩) (meth := k7m1) (c := k7c1) (by decide +kernel) rfl rfl rfl (by decide +kernel)
set_option maxRecDepth 65536 in
theorem w_c3 : (Jvm.Cond.code ({ cls := "java/util/AbstractMap", name := "<init>", desc := "()V" } : Jvm.MethodName) jdk_71_method_1_code (1 : Nat) (Option.none : Option Jvm.ClassFile.FieldType)).before args0 about1 = true := code_word (m := ⟨3, 0⟩) (meth := k3m0) (c := k3c0) (by decide +kernel) rfl rfl rfl (by decide +kernel)
set_option maxRecDepth 65536 in
theorem w_c4 : (Jvm.Cond.code ({ cls := "java/lang/Object", name := "<init>", desc := "()V" } : Jvm.MethodName) object_method_1_code (1 : Nat) (Option.none : Option Jvm.ClassFile.FieldType)).before args0 about1 = true := code_word (m := ⟨0, 0⟩) (meth := k0m0) (c := k0c0) (by decide +kernel) rfl rfl rfl (by decide +kernel)
set_option maxRecDepth 65536 in
theorem w_c5 : (Jvm.Cond.code ({ cls := "java/lang/Integer", name := "valueOf", desc := "(I)Ljava/lang/Integer;" } : Jvm.MethodName) jdk_33_method_22_code (1 : Nat) (Option.some (Jvm.ClassFile.FieldType.object "java/lang/Integer"))).before args0 about1 = true := code_word (m := ⟨13, 0⟩) (meth := k13m0) (c := k13c0) (by decide +kernel) rfl rfl rfl (by decide +kernel)
set_option maxRecDepth 65536 in
theorem w_c6 : (Jvm.Cond.code ({ cls := "com/example/rosewood/rosewood/RosewoodMap", name := "put", desc := "(Ljava/lang/Object;Ljava/lang/Object;)Ljava/lang/Object;" } : Jvm.MethodName) prog_7_method_8_code (4 : Nat) (Option.some (Jvm.ClassFile.FieldType.object "java/lang/Object"))).before args0 about1 = true := code_word (m := ⟨7, 5⟩) (meth := k7m5) (c := k7c5) (by decide +kernel) rfl rfl rfl (by decide +kernel)
set_option maxRecDepth 65536 in
theorem w_c7 : (Jvm.Cond.code ({ cls := "com/example/rosewood/rosewood/RosewoodMap", name := "compare", desc := "(Ljava/lang/Object;Ljava/lang/Object;)I" } : Jvm.MethodName) prog_7_method_72_code (3 : Nat) (Option.some Jvm.ClassFile.FieldType.int)).before args0 about1 = true := code_word (m := ⟨7, 14⟩) (meth := k7m14) (c := k7c14) (by decide +kernel) rfl rfl rfl (by decide +kernel)
set_option maxRecDepth 65536 in
theorem w_c8 : (Jvm.Cond.code ({ cls := "java/lang/Integer", name := "compareTo", desc := "(Ljava/lang/Object;)I" } : Jvm.MethodName) jdk_33_method_63_code (2 : Nat) (Option.some Jvm.ClassFile.FieldType.int)).before args0 about1 = true := code_word (m := ⟨13, 5⟩) (meth := k13m5) (c := k13c5) (by decide +kernel) rfl rfl rfl (by decide +kernel)
set_option maxRecDepth 65536 in
theorem w_c9 : (Jvm.Cond.code ({ cls := "java/lang/Integer", name := "compareTo", desc := "(Ljava/lang/Integer;)I" } : Jvm.MethodName) jdk_33_method_39_code (2 : Nat) (Option.some Jvm.ClassFile.FieldType.int)).before args0 about1 = true := code_word (m := ⟨13, 3⟩) (meth := k13m3) (c := k13c3) (by decide +kernel) rfl rfl rfl (by decide +kernel)
set_option maxRecDepth 65536 in
theorem w_c10 : (Jvm.Cond.code ({ cls := "java/lang/Integer", name := "compare", desc := "(II)I" } : Jvm.MethodName) jdk_33_method_40_code (2 : Nat) (Option.some Jvm.ClassFile.FieldType.int)).before args0 about1 = true := code_word (m := ⟨13, 4⟩) (meth := k13m4) (c := k13c4) (by decide +kernel) rfl rfl rfl (by decide +kernel)
set_option maxRecDepth 65536 in
theorem w_c11 : (Jvm.Cond.code ({ cls := "com/example/rosewood/rosewood/RosewoodMap", name := "newNode", desc := "(Ljava/lang/Object;Ljava/lang/Object;Lcom/example/rosewood/rosewood/RosewoodMap$Node;)Lcom/example/rosewood/rosewood/RosewoodMap$Node;" } : Jvm.MethodName) prog_7_method_51_code (4 : Nat) (Option.some (Jvm.ClassFile.FieldType.object "com/example/rosewood/rosewood/RosewoodMap$Node"))).before args0 about1 = true := code_word (m := ⟨7, 7⟩) (meth := k7m7) (c := k7c7) (by decide +kernel) rfl rfl rfl (by decide +kernel)
set_option maxRecDepth 65536 in
theorem w_c12 : (Jvm.Cond.code ({ cls := "com/example/rosewood/rosewood/RosewoodMap$Node", name := "<init>", desc := "(Ljava/lang/Object;Ljava/lang/Object;Lcom/example/rosewood/rosewood/RosewoodMap$Node;)V" } : Jvm.MethodName) prog_8_method_1_code (4 : Nat) (Option.none : Option Jvm.ClassFile.FieldType)).before args0 about1 = true := code_word (m := ⟨16, 0⟩) (meth := k16m0) (c := k16c0) (by decide +kernel) rfl rfl rfl (by decide +kernel)
set_option maxRecDepth 65536 in
theorem w_c13 : (Jvm.Cond.code ({ cls := "com/example/rosewood/rosewood/RosewoodMap", name := "setRed", desc := "(Lcom/example/rosewood/rosewood/RosewoodMap$Node;Z)V" } : Jvm.MethodName) prog_7_method_82_code (2 : Nat) (Option.none : Option Jvm.ClassFile.FieldType)).before args0 about1 = true := code_word (m := ⟨7, 17⟩) (meth := k7m17) (c := k7c17) (by decide +kernel) rfl rfl rfl (by decide +kernel)
set_option maxRecDepth 65536 in
theorem w_c14 : (Jvm.Cond.code ({ cls := "com/example/rosewood/rosewood/RosewoodMap", name := "keyOf", desc := "(Lcom/example/rosewood/rosewood/RosewoodMap$Node;)Ljava/lang/Object;" } : Jvm.MethodName) prog_7_method_76_code (1 : Nat) (Option.some (Jvm.ClassFile.FieldType.object "java/lang/Object"))).before args0 about1 = true := code_word (m := ⟨7, 15⟩) (meth := k7m15) (c := k7c15) (by decide +kernel) rfl rfl rfl (by decide +kernel)
set_option maxRecDepth 65536 in
theorem w_c15 : (Jvm.Cond.code ({ cls := "com/example/rosewood/rosewood/RosewoodMap", name := "refreshToRoot", desc := "(Lcom/example/rosewood/rosewood/RosewoodMap$Node;)V" } : Jvm.MethodName) prog_7_method_55_code (2 : Nat) (Option.none : Option Jvm.ClassFile.FieldType)).before args0 about1 = true := code_word (m := ⟨7, 10⟩) (meth := k7m10) (c := k7c10) (by decide +kernel) rfl rfl rfl (by decide +kernel)
set_option maxRecDepth 65536 in
theorem w_c16 : (Jvm.Cond.code ({ cls := "com/example/rosewood/rosewood/RosewoodMap", name := "balanceAfterInsert", desc := "(Lcom/example/rosewood/rosewood/RosewoodMap$Node;)V" } : Jvm.MethodName) prog_7_method_90_code (6 : Nat) (Option.none : Option Jvm.ClassFile.FieldType)).before args0 about1 = true := code_word (m := ⟨7, 25⟩) (meth := k7m25) (c := k7c25) (by decide +kernel) rfl rfl rfl (by decide +kernel)
set_option maxRecDepth 65536 in
theorem w_c17 : (Jvm.Cond.code ({ cls := "com/example/rosewood/rosewood/RosewoodMap", name := "isRed", desc := "(Lcom/example/rosewood/rosewood/RosewoodMap$Node;)Z" } : Jvm.MethodName) prog_7_method_81_code (1 : Nat) (Option.some Jvm.ClassFile.FieldType.boolean)).before args0 about1 = true := code_word (m := ⟨7, 16⟩) (meth := k7m16) (c := k7c16) (by decide +kernel) rfl rfl rfl (by decide +kernel)
set_option maxRecDepth 65536 in
theorem w_c18 : (Jvm.Cond.code ({ cls := "com/example/rosewood/rosewood/RosewoodMap", name := "addToLeftCount", desc := "(Lcom/example/rosewood/rosewood/RosewoodMap$Node;I)V" } : Jvm.MethodName) prog_7_method_84_code (2 : Nat) (Option.none : Option Jvm.ClassFile.FieldType)).before args0 about1 = true := code_word (m := ⟨7, 19⟩) (meth := k7m19) (c := k7c19) (by decide +kernel) rfl rfl rfl (by decide +kernel)
set_option maxRecDepth 65536 in
theorem w_c19 : (Jvm.Cond.code ({ cls := "com/example/rosewood/rosewood/RosewoodMap", name := "rotateRight", desc := "(Lcom/example/rosewood/rosewood/RosewoodMap$Node;)V" } : Jvm.MethodName) prog_7_method_89_code (3 : Nat) (Option.none : Option Jvm.ClassFile.FieldType)).before args0 about1 = true := code_word (m := ⟨7, 24⟩) (meth := k7m24) (c := k7c24) (by decide +kernel) rfl rfl rfl (by decide +kernel)
set_option maxRecDepth 65536 in
theorem w_c20 : (Jvm.Cond.code ({ cls := "com/example/rosewood/rosewood/RosewoodMap", name := "replaceInParent", desc := "(Lcom/example/rosewood/rosewood/RosewoodMap$Node;Lcom/example/rosewood/rosewood/RosewoodMap$Node;)V" } : Jvm.MethodName) prog_7_method_87_code (4 : Nat) (Option.none : Option Jvm.ClassFile.FieldType)).before args0 about1 = true := code_word (m := ⟨7, 22⟩) (meth := k7m22) (c := k7c22) (by decide +kernel) rfl rfl rfl (by decide +kernel)
set_option maxRecDepth 65536 in
theorem w_c21 : (Jvm.Cond.code ({ cls := "com/example/rosewood/rosewood/RosewoodMap", name := "leftCount", desc := "(Lcom/example/rosewood/rosewood/RosewoodMap$Node;)I" } : Jvm.MethodName) prog_7_method_83_code (1 : Nat) (Option.some Jvm.ClassFile.FieldType.int)).before args0 about1 = true := code_word (m := ⟨7, 18⟩) (meth := k7m18) (c := k7c18) (by decide +kernel) rfl rfl rfl (by decide +kernel)
set_option maxRecDepth 65536 in
theorem w_c22 : (Jvm.Cond.code ({ cls := "com/example/rosewood/rosewood/RosewoodMap", name := "refresh", desc := "(Lcom/example/rosewood/rosewood/RosewoodMap$Node;)V" } : Jvm.MethodName) prog_7_method_54_code (2 : Nat) (Option.none : Option Jvm.ClassFile.FieldType)).before args0 about1 = true := code_word (m := ⟨7, 9⟩) (meth := k7m9) (c := k7c9) (by decide +kernel) rfl rfl rfl (by decide +kernel)
set_option maxRecDepth 65536 in
theorem w_c23 : (Jvm.Cond.code ({ cls := "com/example/rosewood/rosewood/RosewoodMap", name := "rotateLeft", desc := "(Lcom/example/rosewood/rosewood/RosewoodMap$Node;)V" } : Jvm.MethodName) prog_7_method_88_code (3 : Nat) (Option.none : Option Jvm.ClassFile.FieldType)).before args0 about1 = true := code_word (m := ⟨7, 23⟩) (meth := k7m23) (c := k7c23) (by decide +kernel) rfl rfl rfl (by decide +kernel)
set_option maxRecDepth 65536 in
theorem w_c24 : (Jvm.Cond.code ({ cls := "com/example/rosewood/rosewood/RosewoodMap", name := "clear", desc := "()V" } : Jvm.MethodName) prog_7_method_10_code (1 : Nat) (Option.none : Option Jvm.ClassFile.FieldType)).before args0 about1 = true := code_word (m := ⟨7, 6⟩) (meth := k7m6) (c := k7c6) (by decide +kernel) rfl rfl rfl (by decide +kernel)
set_option maxRecDepth 65536 in
theorem w_c25 : (Jvm.Cond.code ({ cls := "com/example/rosewood/rosewood/RosewoodMap", name := "size", desc := "()I" } : Jvm.MethodName) prog_7_method_4_code (1 : Nat) (Option.some Jvm.ClassFile.FieldType.int)).before args0 about1 = true := code_word (m := ⟨7, 2⟩) (meth := k7m2) (c := k7c2) (by decide +kernel) rfl rfl rfl (by decide +kernel)
set_option maxRecDepth 65536 in
theorem w_c26 : (Jvm.Cond.code ({ cls := "com/example/rosewood/rosewood/RosewoodMap", name := "isEmpty", desc := "()Z" } : Jvm.MethodName) prog_7_method_5_code (1 : Nat) (Option.some Jvm.ClassFile.FieldType.boolean)).before args0 about1 = true := code_word (m := ⟨7, 3⟩) (meth := k7m3) (c := k7c3) (by decide +kernel) rfl rfl rfl (by decide +kernel)
set_option maxRecDepth 65536 in
theorem w_c27 : (Jvm.Cond.code ({ cls := "com/example/rosewood/rosewood/RosewoodMap", name := "get", desc := "(Ljava/lang/Object;)Ljava/lang/Object;" } : Jvm.MethodName) prog_7_method_7_code (3 : Nat) (Option.some (Jvm.ClassFile.FieldType.object "java/lang/Object"))).before args0 about1 = true := code_word (m := ⟨7, 4⟩) (meth := k7m4) (c := k7c4) (by decide +kernel) rfl rfl rfl (by decide +kernel)
set_option maxRecDepth 65536 in
theorem w_c28 : (Jvm.Cond.code ({ cls := "com/example/rosewood/rosewood/RosewoodMap", name := "find", desc := "(Ljava/lang/Object;)Lcom/example/rosewood/rosewood/RosewoodMap$Node;" } : Jvm.MethodName) prog_7_method_58_code (10 : Nat) (Option.some (Jvm.ClassFile.FieldType.object "com/example/rosewood/rosewood/RosewoodMap$Node"))).before args0 about1 = true := code_word (m := ⟨7, 11⟩) (meth := k7m11) (c := k7c11) (by decide +kernel) rfl rfl rfl (by decide +kernel)
set_option maxRecDepth 65536 in
theorem w_c29 : (Jvm.Cond.code ({ cls := "com/example/rosewood/rosewood/RosewoodMap", name := "searchKey", desc := "(Ljava/lang/Object;)Ljava/lang/Object;" } : Jvm.MethodName) prog_7_method_60_code (3 : Nat) (Option.some (Jvm.ClassFile.FieldType.object "java/lang/Object"))).before args0 about1 = true := code_word (m := ⟨7, 12⟩) (meth := k7m12) (c := k7c12) (by decide +kernel) rfl rfl rfl (by decide +kernel)
set_option maxRecDepth 65536 in
theorem w_c30 : (Jvm.Cond.code ({ cls := "java/util/Objects", name := "requireNonNull", desc := "(Ljava/lang/Object;)Ljava/lang/Object;" } : Jvm.MethodName) jdk_31_method_10_code (1 : Nat) (Option.some (Jvm.ClassFile.FieldType.object "java/lang/Object"))).before args0 about1 = true := code_word (m := ⟨17, 1⟩) (meth := k17m1) (c := k17c1) (by decide +kernel) rfl rfl rfl (by decide +kernel)
set_option maxRecDepth 65536 in
theorem w_c31 : (Jvm.Cond.code ({ cls := "java/lang/Integer", name := "intValue", desc := "()I" } : Jvm.MethodName) jdk_33_method_27_code (1 : Nat) (Option.some Jvm.ClassFile.FieldType.int)).before args0 about1 = true := code_word (m := ⟨13, 2⟩) (meth := k13m2) (c := k13c2) (by decide +kernel) rfl rfl rfl (by decide +kernel)
set_option maxRecDepth 65536 in
theorem w_c32 : (Jvm.Cond.code ({ cls := "java/lang/Integer", name := "<init>", desc := "(I)V" } : Jvm.MethodName) jdk_33_method_23_code (2 : Nat) (Option.none : Option Jvm.ClassFile.FieldType)).before args0 about1 = true := code_word (m := ⟨13, 1⟩) (meth := k13m1) (c := k13c1) (by decide +kernel) rfl rfl rfl (by decide +kernel)
set_option maxRecDepth 65536 in
theorem w_c33 : (Jvm.Cond.code ({ cls := "java/lang/Number", name := "<init>", desc := "()V" } : Jvm.MethodName) jdk_18_method_1_code (1 : Nat) (Option.none : Option Jvm.ClassFile.FieldType)).before args0 about1 = true := code_word (m := ⟨9, 0⟩) (meth := k9m0) (c := k9c0) (by decide +kernel) rfl rfl rfl (by decide +kernel)
set_option maxRecDepth 65536 in
theorem w_c34 : (Jvm.Cond.code ({ cls := "com/example/rosewood/rosewood/RosewoodMap", name := "countPlace", desc := "(Lcom/example/rosewood/rosewood/RosewoodMap$Node;II)V" } : Jvm.MethodName) prog_7_method_86_code (3 : Nat) (Option.none : Option Jvm.ClassFile.FieldType)).before args0 about1 = true := code_word (m := ⟨7, 21⟩) (meth := k7m21) (c := k7c21) (by decide +kernel) rfl rfl rfl (by decide +kernel)
set_option maxRecDepth 65536 in
theorem w_c35 : (Jvm.Cond.code ({ cls := "com/example/rosewood/rosewood/RosewoodMap", name := "replaceValue", desc := "(Lcom/example/rosewood/rosewood/RosewoodMap$Node;Ljava/lang/Object;)Ljava/lang/Object;" } : Jvm.MethodName) prog_7_method_52_code (3 : Nat) (Option.some (Jvm.ClassFile.FieldType.object "java/lang/Object"))).before args0 about1 = true := code_word (m := ⟨7, 8⟩) (meth := k7m8) (c := k7c8) (by decide +kernel) rfl rfl rfl (by decide +kernel)
set_option maxRecDepth 65536 in
theorem w_c36 : (Jvm.Cond.code ({ cls := "com/example/rosewood/rosewood/RosewoodMap$Node", name := "setValue", desc := "(Ljava/lang/Object;)Ljava/lang/Object;" } : Jvm.MethodName) prog_8_method_4_code (3 : Nat) (Option.some (Jvm.ClassFile.FieldType.object "java/lang/Object"))).before args0 about1 = true := code_word (m := ⟨16, 1⟩) (meth := k16m1) (c := k16c1) (by decide +kernel) rfl rfl rfl (by decide +kernel)
set_option maxRecDepth 65536 in
theorem w_c37 : (Jvm.Cond.code ({ cls := "com/example/rosewood/rosewood/RosewoodMap", name := "countAbove", desc := "(Lcom/example/rosewood/rosewood/RosewoodMap$Node;I)V" } : Jvm.MethodName) prog_7_method_85_code (4 : Nat) (Option.none : Option Jvm.ClassFile.FieldType)).before args0 about1 = true := code_word (m := ⟨7, 20⟩) (meth := k7m20) (c := k7c20) (by decide +kernel) rfl rfl rfl (by decide +kernel)
def codes1 : List Jvm.Cond := [Jvm.Cond.code x code maxLocals ret, Jvm.Cond.code ({ cls := "com/example/rosewood/rosewood/RosewoodMap", name := "<init>", desc := "()V" } : Jvm.MethodName) prog_7_method_1_code (1 : Nat) (Option.none : Option Jvm.ClassFile.FieldType), Jvm.Cond.code ({ cls := "com/example/rosewood/rosewood/RosewoodMap", name := "<init>", desc := "(Ljava/util/Comparator;)V" } : Jvm.MethodName) prog_7_method_2_code (2 : Nat) (Option.none : Option Jvm.ClassFile.FieldType), Jvm.Cond.code ({ cls := "java/util/AbstractMap", name := "<init>", desc := "()V" } : Jvm.MethodName) jdk_71_method_1_code (1 : Nat) (Option.none : Option Jvm.ClassFile.FieldType), Jvm.Cond.code ({ cls := "java/lang/Object", name := "<init>", desc := "()V" } : Jvm.MethodName) object_method_1_code (1 : Nat) (Option.none : Option Jvm.ClassFile.FieldType), Jvm.Cond.code ({ cls := "java/lang/Integer", name := "valueOf", desc := "(I)Ljava/lang/Integer;" } : Jvm.MethodName) jdk_33_method_22_code (1 : Nat) (Option.some (Jvm.ClassFile.FieldType.object "java/lang/Integer")), Jvm.Cond.code ({ cls := "com/example/rosewood/rosewood/RosewoodMap", name := "put", desc := "(Ljava/lang/Object;Ljava/lang/Object;)Ljava/lang/Object;" } : Jvm.MethodName) prog_7_method_8_code (4 : Nat) (Option.some (Jvm.ClassFile.FieldType.object "java/lang/Object")), Jvm.Cond.code ({ cls := "com/example/rosewood/rosewood/RosewoodMap", name := "compare", desc := "(Ljava/lang/Object;Ljava/lang/Object;)I" } : Jvm.MethodName) prog_7_method_72_code (3 : Nat) (Option.some Jvm.ClassFile.FieldType.int), Jvm.Cond.code ({ cls := "java/lang/Integer", name := "compareTo", desc := "(Ljava/lang/Object;)I" } : Jvm.MethodName) jdk_33_method_63_code (2 : Nat) (Option.some Jvm.ClassFile.FieldType.int), Jvm.Cond.code ({ cls := "java/lang/Integer", name := "compareTo", desc := "(Ljava/lang/Integer;)I" } : Jvm.MethodName) jdk_33_method_39_code (2 : Nat) (Option.some Jvm.ClassFile.FieldType.int), Jvm.Cond.code ({ cls := "java/lang/Integer", name := "compare", desc := "(II)I" } : Jvm.MethodName) jdk_33_method_40_code (2 : Nat) (Option.some Jvm.ClassFile.FieldType.int), Jvm.Cond.code ({ cls := "com/example/rosewood/rosewood/RosewoodMap", name := "newNode", desc := "(Ljava/lang/Object;Ljava/lang/Object;Lcom/example/rosewood/rosewood/RosewoodMap$Node;)Lcom/example/rosewood/rosewood/RosewoodMap$Node;" } : Jvm.MethodName) prog_7_method_51_code (4 : Nat) (Option.some (Jvm.ClassFile.FieldType.object "com/example/rosewood/rosewood/RosewoodMap$Node")), Jvm.Cond.code ({ cls := "com/example/rosewood/rosewood/RosewoodMap$Node", name := "<init>", desc := "(Ljava/lang/Object;Ljava/lang/Object;Lcom/example/rosewood/rosewood/RosewoodMap$Node;)V" } : Jvm.MethodName) prog_8_method_1_code (4 : Nat) (Option.none : Option Jvm.ClassFile.FieldType), Jvm.Cond.code ({ cls := "com/example/rosewood/rosewood/RosewoodMap", name := "setRed", desc := "(Lcom/example/rosewood/rosewood/RosewoodMap$Node;Z)V" } : Jvm.MethodName) prog_7_method_82_code (2 : Nat) (Option.none : Option Jvm.ClassFile.FieldType), Jvm.Cond.code ({ cls := "com/example/rosewood/rosewood/RosewoodMap", name := "keyOf", desc := "(Lcom/example/rosewood/rosewood/RosewoodMap$Node;)Ljava/lang/Object;" } : Jvm.MethodName) prog_7_method_76_code (1 : Nat) (Option.some (Jvm.ClassFile.FieldType.object "java/lang/Object")), Jvm.Cond.code ({ cls := "com/example/rosewood/rosewood/RosewoodMap", name := "refreshToRoot", desc := "(Lcom/example/rosewood/rosewood/RosewoodMap$Node;)V" } : Jvm.MethodName) prog_7_method_55_code (2 : Nat) (Option.none : Option Jvm.ClassFile.FieldType), Jvm.Cond.code ({ cls := "com/example/rosewood/rosewood/RosewoodMap", name := "balanceAfterInsert", desc := "(Lcom/example/rosewood/rosewood/RosewoodMap$Node;)V" } : Jvm.MethodName) prog_7_method_90_code (6 : Nat) (Option.none : Option Jvm.ClassFile.FieldType), Jvm.Cond.code ({ cls := "com/example/rosewood/rosewood/RosewoodMap", name := "isRed", desc := "(Lcom/example/rosewood/rosewood/RosewoodMap$Node;)Z" } : Jvm.MethodName) prog_7_method_81_code (1 : Nat) (Option.some Jvm.ClassFile.FieldType.boolean), Jvm.Cond.code ({ cls := "com/example/rosewood/rosewood/RosewoodMap", name := "addToLeftCount", desc := "(Lcom/example/rosewood/rosewood/RosewoodMap$Node;I)V" } : Jvm.MethodName) prog_7_method_84_code (2 : Nat) (Option.none : Option Jvm.ClassFile.FieldType), Jvm.Cond.code ({ cls := "com/example/rosewood/rosewood/RosewoodMap", name := "rotateRight", desc := "(Lcom/example/rosewood/rosewood/RosewoodMap$Node;)V" } : Jvm.MethodName) prog_7_method_89_code (3 : Nat) (Option.none : Option Jvm.ClassFile.FieldType), Jvm.Cond.code ({ cls := "com/example/rosewood/rosewood/RosewoodMap", name := "replaceInParent", desc := "(Lcom/example/rosewood/rosewood/RosewoodMap$Node;Lcom/example/rosewood/rosewood/RosewoodMap$Node;)V" } : Jvm.MethodName) prog_7_method_87_code (4 : Nat) (Option.none : Option Jvm.ClassFile.FieldType), Jvm.Cond.code ({ cls := "com/example/rosewood/rosewood/RosewoodMap", name := "leftCount", desc := "(Lcom/example/rosewood/rosewood/RosewoodMap$Node;)I" } : Jvm.MethodName) prog_7_method_83_code (1 : Nat) (Option.some Jvm.ClassFile.FieldType.int), Jvm.Cond.code ({ cls := "com/example/rosewood/rosewood/RosewoodMap", name := "refresh", desc := "(Lcom/example/rosewood/rosewood/RosewoodMap$Node;)V" } : Jvm.MethodName) prog_7_method_54_code (2 : Nat) (Option.none : Option Jvm.ClassFile.FieldType), Jvm.Cond.code ({ cls := "com/example/rosewood/rosewood/RosewoodMap", name := "rotateLeft", desc := "(Lcom/example/rosewood/rosewood/RosewoodMap$Node;)V" } : Jvm.MethodName) prog_7_method_88_code (3 : Nat) (Option.none : Option Jvm.ClassFile.FieldType), Jvm.Cond.code ({ cls := "com/example/rosewood/rosewood/RosewoodMap", name := "clear", desc := "()V" } : Jvm.MethodName) prog_7_method_10_code (1 : Nat) (Option.none : Option Jvm.ClassFile.FieldType), Jvm.Cond.code ({ cls := "com/example/rosewood/rosewood/RosewoodMap", name := "size", desc := "()I" } : Jvm.MethodName) prog_7_method_4_code (1 : Nat) (Option.some Jvm.ClassFile.FieldType.int), Jvm.Cond.code ({ cls := "com/example/rosewood/rosewood/RosewoodMap", name := "isEmpty", desc := "()Z" } : Jvm.MethodName) prog_7_method_5_code (1 : Nat) (Option.some Jvm.ClassFile.FieldType.boolean), Jvm.Cond.code ({ cls := "com/example/rosewood/rosewood/RosewoodMap", name := "get", desc := "(Ljava/lang/Object;)Ljava/lang/Object;" } : Jvm.MethodName) prog_7_method_7_code (3 : Nat) (Option.some (Jvm.ClassFile.FieldType.object "java/lang/Object")), Jvm.Cond.code ({ cls := "com/example/rosewood/rosewood/RosewoodMap", name := "find", desc := "(Ljava/lang/Object;)Lcom/example/rosewood/rosewood/RosewoodMap$Node;" } : Jvm.MethodName) prog_7_method_58_code (10 : Nat) (Option.some (Jvm.ClassFile.FieldType.object "com/example/rosewood/rosewood/RosewoodMap$Node")), Jvm.Cond.code ({ cls := "com/example/rosewood/rosewood/RosewoodMap", name := "searchKey", desc := "(Ljava/lang/Object;)Ljava/lang/Object;" } : Jvm.MethodName) prog_7_method_60_code (3 : Nat) (Option.some (Jvm.ClassFile.FieldType.object "java/lang/Object")), Jvm.Cond.code ({ cls := "java/util/Objects", name := "requireNonNull", desc := "(Ljava/lang/Object;)Ljava/lang/Object;" } : Jvm.MethodName) jdk_31_method_10_code (1 : Nat) (Option.some (Jvm.ClassFile.FieldType.object "java/lang/Object")), Jvm.Cond.code ({ cls := "java/lang/Integer", name := "intValue", desc := "()I" } : Jvm.MethodName) jdk_33_method_27_code (1 : Nat) (Option.some Jvm.ClassFile.FieldType.int), Jvm.Cond.code ({ cls := "java/lang/Integer", name := "<init>", desc := "(I)V" } : Jvm.MethodName) jdk_33_method_23_code (2 : Nat) (Option.none : Option Jvm.ClassFile.FieldType), Jvm.Cond.code ({ cls := "java/lang/Number", name := "<init>", desc := "()V" } : Jvm.MethodName) jdk_18_method_1_code (1 : Nat) (Option.none : Option Jvm.ClassFile.FieldType), Jvm.Cond.code ({ cls := "com/example/rosewood/rosewood/RosewoodMap", name := "countPlace", desc := "(Lcom/example/rosewood/rosewood/RosewoodMap$Node;II)V" } : Jvm.MethodName) prog_7_method_86_code (3 : Nat) (Option.none : Option Jvm.ClassFile.FieldType), Jvm.Cond.code ({ cls := "com/example/rosewood/rosewood/RosewoodMap", name := "replaceValue", desc := "(Lcom/example/rosewood/rosewood/RosewoodMap$Node;Ljava/lang/Object;)Ljava/lang/Object;" } : Jvm.MethodName) prog_7_method_52_code (3 : Nat) (Option.some (Jvm.ClassFile.FieldType.object "java/lang/Object")), Jvm.Cond.code ({ cls := "com/example/rosewood/rosewood/RosewoodMap$Node", name := "setValue", desc := "(Ljava/lang/Object;)Ljava/lang/Object;" } : Jvm.MethodName) prog_8_method_4_code (3 : Nat) (Option.some (Jvm.ClassFile.FieldType.object "java/lang/Object")), Jvm.Cond.code ({ cls := "com/example/rosewood/rosewood/RosewoodMap", name := "countAbove", desc := "(Lcom/example/rosewood/rosewood/RosewoodMap$Node;I)V" } : Jvm.MethodName) prog_7_method_85_code (4 : Nat) (Option.none : Option Jvm.ClassFile.FieldType)]
set_option maxRecDepth 65536 in
theorem codes_eq : words1.filter isCode = codes1 := rfl
theorem w_codes : ∀ c ∈ words1.filter isCode, c.before args0 about1 = true := by
  rw [codes_eq]
  intro c hc
  simp only [codes1, List.mem_cons, List.not_mem_nil, or_false] at hc
  rcases hc with rfl | rfl | rfl | rfl | rfl | rfl | rfl | rfl | rfl | rfl | rfl | rfl | rfl | rfl | rfl | rfl | rfl | rfl | rfl | rfl | rfl | rfl | rfl | rfl | rfl | rfl | rfl | rfl | rfl | rfl | rfl | rfl | rfl | rfl | rfl | rfl | rfl | rfl
  · exact w_c0
  · exact w_c1
  · exact w_c2
  · exact w_c3
  · exact w_c4
  · exact w_c5
  · exact w_c6
  · exact w_c7
  · exact w_c8
  · exact w_c9
  · exact w_c10
  · exact w_c11
  · exact w_c12
  · exact w_c13
  · exact w_c14
  · exact w_c15
  · exact w_c16
  · exact w_c17
  · exact w_c18
  · exact w_c19
  · exact w_c20
  · exact w_c21
  · exact w_c22
  · exact w_c23
  · exact w_c24
  · exact w_c25
  · exact w_c26
  · exact w_c27
  · exact w_c28
  · exact w_c29
  · exact w_c30
  · exact w_c31
  · exact w_c32
  · exact w_c33
  · exact w_c34
  · exact w_c35
  · exact w_c36
  · exact w_c37
set_option maxRecDepth 65536 in
theorem w_t1 : (words1.take 24).all (fun c => isCode c || c.before args0 about1) = true := by decide +kernel
set_option maxRecDepth 65536 in
theorem w_t2 : ((words1.drop 24).take 24).all (fun c => isCode c || c.before args0 about1) = true := by decide +kernel
set_option maxRecDepth 65536 in
theorem w_t3 : (((words1.drop 24).drop 24).take 24).all (fun c => isCode c || c.before args0 about1) = true := by decide +kernel
set_option maxRecDepth 65536 in
theorem w_t4 : ((((words1.drop 24).drop 24).drop 24).take 24).all (fun c => isCode c || c.before args0 about1) = true := by decide +kernel
set_option maxRecDepth 65536 in
theorem w_t5 : (((((words1.drop 24).drop 24).drop 24).drop 24).take 24).all (fun c => isCode c || c.before args0 about1) = true := by decide +kernel
set_option maxRecDepth 65536 in
theorem w_t6 : ((((((words1.drop 24).drop 24).drop 24).drop 24).drop 24).take 24).all (fun c => isCode c || c.before args0 about1) = true := by decide +kernel
set_option maxRecDepth 65536 in
theorem w_t7 : (((((((words1.drop 24).drop 24).drop 24).drop 24).drop 24).drop 24).take 24).all (fun c => isCode c || c.before args0 about1) = true := by decide +kernel
set_option maxRecDepth 65536 in
theorem w_t8 : ((((((((words1.drop 24).drop 24).drop 24).drop 24).drop 24).drop 24).drop 24).take 24).all (fun c => isCode c || c.before args0 about1) = true := by decide +kernel
set_option maxRecDepth 65536 in
theorem w_t9 : ((((((((words1.drop 24).drop 24).drop 24).drop 24).drop 24).drop 24).drop 24).drop 24).all (fun c => isCode c || c.before args0 about1) = true := by decide +kernel
theorem w_tables : (allAtoms (Jvm.Cond.code x code maxLocals ret :: tables_1)).before args0 about1 = true := by
  rw [allAtoms_all]
  show words1.all (fun c => c.before args0 about1) = true
  refine all_split ?_ w_codes
  rw [← List.take_append_drop 24 words1, List.all_append, w_t1, ← List.take_append_drop 24 (words1.drop 24), List.all_append, w_t2, ← List.take_append_drop 24 ((words1.drop 24).drop 24), List.all_append, w_t3, ← List.take_append_drop 24 (((words1.drop 24).drop 24).drop 24), List.all_append, w_t4, ← List.take_append_drop 24 ((((words1.drop 24).drop 24).drop 24).drop 24), List.all_append, w_t5, ← List.take_append_drop 24 (((((words1.drop 24).drop 24).drop 24).drop 24).drop 24), List.all_append, w_t6, ← List.take_append_drop 24 ((((((words1.drop 24).drop 24).drop 24).drop 24).drop 24).drop 24), List.all_append, w_t7, ← List.take_append_drop 24 (((((((words1.drop 24).drop 24).drop 24).drop 24).drop 24).drop 24).drop 24), List.all_append, w_t8, w_t9]
  rfl
set_option maxRecDepth 65536 in
theorem w_rest : rest_1_c.before args0 about1 = true := by decide +kernel
set_option maxRecDepth 65536 in
theorem w_case : (Jvm.Cond.and given_1 narrow_1).before args0 about1 = true := by decide +kernel
theorem w_applies : (headSpec (Jvm.Cond.code x code maxLocals ret :: tables_1) room_1).applies x e0.platform about1 = true :=
  (Spec.applies_iff w_frames).mpr ⟨w_running, w_runnable, w_alone, w_named, w_hears, w_ripe, w_room, w_tables⟩
theorem atStart : AtStart classFile x code maxLocals ret World_1 tables_1 room_1 Calls_1 rest_1 Pre_1 launch0 p0 e0 about1 theMethod args0 below0 :=
  ⟨lists_1, trivial, launch0.admits_env _ _ _, launch0.least_env, fairChoices_fair.cas, fairChoices_fair.clock, w_frames, w_args, w_heap, w_applies, trivial, w_rest, w_case⟩
end start1
theorem witness_1 : WitnessClaimed_1 := ⟨start1.p0, start1.e0, start1.about1, start1.theMethod, start1.args0, start1.below0, start1.atStart⟩
end Jvm.Pilot.@@N@@
